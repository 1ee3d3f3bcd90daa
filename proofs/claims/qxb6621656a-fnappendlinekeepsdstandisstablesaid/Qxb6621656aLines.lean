/-
  THE PLAIN MATHEMATICS of appendLine: lists alone, no Go in sight.
-/
import Derived.Lib.AppendStr
namespace Go.Proofs.Qxb6621656a.Lines

/-- A CR or LF is written as a blank. -/
def lnBlank (c : Int) : Int := if c = 13 ∨ c = 10 then 32 else c
/-- A string's bytes as numbers. -/
def lnBytes (s : ByteArray) : List Int := s.data.toList.map fun b => (b.toNat : Int)
/-- What appendLine writes behind dst. -/
def lnLine (s : ByteArray) : List Int := (lnBytes s).map lnBlank ++ [13, 10]
/-- A row that is being written from the left: the first k cells are the target's. -/
def lnMix (T R : List Int) (k : Nat) : List Int := T.take k ++ R.drop k
def u8s (l : List Int) : List Value := l.map (Value.int .u8)

theorem lnBytes_length (s : ByteArray) : (lnBytes s).length = s.size := by
  rw [lnBytes, List.length_map, Array.length_toList]; rfl
theorem strCells_eq (s : ByteArray) : Lib.strCells s = u8s (lnBytes s) := by
  simp [Lib.strCells, u8s, lnBytes]
theorem lnLine_length (s : ByteArray) : (lnLine s).length = s.size + 2 := by simp [lnLine, lnBytes_length]
theorem u8s_length (l : List Int) : (u8s l).length = l.length := by simp [u8s]
theorem u8s_append (l m : List Int) : u8s (l ++ m) = u8s l ++ u8s m := by simp [u8s]
theorem u8s_get (l : List Int) (k : Nat) (h : k < l.length) : (u8s l)[k]? = some (.int .u8 (l.getD k 0)) := by
  simp [u8s, h]
theorem u8s_set (l : List Int) (k : Nat) (x : Int) : (u8s l).set k (.int .u8 x) = u8s (l.set k x) := by simp [u8s, List.map_set]

theorem lnMix_length (T R : List Int) (k : Nat) (h : T.length = R.length) (hk : k ≤ T.length) : (lnMix T R k).length = T.length := by
  simp [lnMix]; omega
theorem lnMix_get (T R : List Int) (k : Nat) (h : T.length = R.length) (hk : k < T.length) : (lnMix T R k).getD k 0 = R.getD k 0 := by
  have e : (List.take k T).length = k := by simp; omega
  simp [lnMix, List.getD, List.getElem?_append_right, e]
theorem lnMix_set (T R : List Int) (k : Nat) (h : T.length = R.length) (hk : k < T.length) : (lnMix T R k).set k (T.getD k 0) = lnMix T R (k + 1) := by
  have hk2 : k < R.length := by omega
  have e : (List.take k T).length = k := by simp; omega
  unfold lnMix
  rw [List.set_append_right _ _ (by omega), e, Nat.sub_self, List.drop_eq_getElem_cons hk2, List.set_cons_zero, List.take_succ_eq_append_getElem hk]
  simp only [List.getD, List.getElem?_eq_getElem hk, Option.getD_some, List.append_assoc, List.singleton_append]
theorem lnMix_same (T R : List Int) (k : Nat) (h : T.length = R.length) (hk : k < T.length) (he : T.getD k 0 = R.getD k 0) : lnMix T R k = lnMix T R (k + 1) := by
  have hk2 : k < R.length := by omega
  have he2 : T[k] = R[k] := by simpa [List.getD, hk, hk2] using he
  unfold lnMix
  rw [List.drop_eq_getElem_cons hk2, List.take_succ_eq_append_getElem hk, he2]
  simp
theorem lnMix_end (T R : List Int) (k : Nat) (h : T.length = R.length) (hk : k = T.length) : lnMix T R k = T := by
  subst hk; unfold lnMix; rw [List.take_length, List.drop_of_length_le (by omega), List.append_nil]
theorem lnMix_zero (T R : List Int) : lnMix T R 0 = R := by simp [lnMix]
theorem lnMix_start (xs a b : List Int) : lnMix (xs ++ a) (xs ++ b) xs.length = xs ++ b := by
  simp [lnMix]

theorem lnBlank_get (xs a : List Int) (k : Nat) (h1 : xs.length ≤ k) (h2 : k < (xs ++ a).length) : (xs ++ a.map lnBlank).getD k 0 = lnBlank ((xs ++ a).getD k 0) := by
  simp at h2
  simp only [List.getD]
  rw [List.getElem?_append_right h1, List.getElem?_append_right h1, List.getElem?_map]
  have : k - xs.length < a.length := by omega
  simp [this]

/-- What the whole line is, place by place. -/
theorem whole_dst (ds L : List Int) (j : Nat) (h : j < ds.length) : (ds ++ L).getD j 0 = ds.getD j 0 := by
  simp only [List.getD]; rw [List.getElem?_append_left h]
theorem whole_line (ds A : List Int) (n j : Nat) (hn : ds.length = n) (h : j < A.length) : (ds ++ (A.map lnBlank ++ [13, 10])).getD (n + j) 0 = lnBlank (A.getD j 0) := by
  subst hn
  simp only [List.getD]
  rw [List.getElem?_append_right (by omega), Nat.add_sub_cancel_left, List.getElem?_append_left (by simpa using h), List.getElem?_map]
  simp [h]
theorem whole_cr (ds A : List Int) (n m : Nat) (hn : ds.length = n) (hm : A.length = m) : (ds ++ (A.map lnBlank ++ [13, 10])).getD (n + m) 0 = 13 := by
  subst hn; subst hm
  simp only [List.getD]
  rw [List.getElem?_append_right (by omega), Nat.add_sub_cancel_left, List.getElem?_append_right (by simp)]
  simp
theorem whole_lf (ds A : List Int) (n m : Nat) (hn : ds.length = n) (hm : A.length = m) : (ds ++ (A.map lnBlank ++ [13, 10])).getD (n + m + 1) 0 = 10 := by
  subst hn; subst hm
  simp only [List.getD]
  rw [List.getElem?_append_right (by omega), Nat.add_assoc, Nat.add_sub_cancel_left, List.getElem?_append_right (by simp)]
  simp
theorem lnBytes_get (s : ByteArray) (j : Nat) (h : j < s.size) : (lnBytes s).getD j 0 = ((s[j]'h).toNat : Int) := by
  have h2 : j < s.data.toList.length := by rw [Array.length_toList]; exact h
  simp only [List.getD, lnBytes, List.getElem?_map, List.getElem?_eq_getElem h2, Option.map_some, Option.getD_some]
  rfl
end Go.Proofs.Qxb6621656a.Lines
