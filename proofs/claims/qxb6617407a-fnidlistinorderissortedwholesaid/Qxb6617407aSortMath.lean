/-
  THE PLAIN MATHEMATICS of sorting strings (as lists of bytes). No Go in sight.
-/
import Derived.Sort.Walk0
namespace Go.Proofs.Qxb6617407a.SortMath

abbrev leS : List UInt8 → List UInt8 → Bool := fun x y => decide (x ≤ y)
/-- The sorted list. -/
def Srt (l : List (List UInt8)) : List (List UInt8) := l.mergeSort leS

theorem leS_trans (a b c : List UInt8) (h1 : leS a b = true) (h2 : leS b c = true) : leS a c = true := by
  simp only [leS, decide_eq_true_eq] at *; exact List.le_trans h1 h2
theorem leS_total (a b : List UInt8) : (leS a b || leS b a) = true := by
  simp only [leS, Bool.or_eq_true, decide_eq_true_eq]; exact List.le_total a b
theorem leS_anti (a b : List UInt8) (h1 : leS a b = true) (h2 : leS b a = true) : a = b := by
  simp only [leS, decide_eq_true_eq] at *; exact List.le_antisymm h1 h2
def Ord (l : List (List UInt8)) : Prop := l.Pairwise fun a b => leS a b = true
theorem srt_ord (l : List (List UInt8)) : Ord (Srt l) := List.pairwise_mergeSort leS_trans leS_total l
theorem srt_perm (l : List (List UInt8)) : (Srt l).Perm l := List.mergeSort_perm l leS
theorem srt_length (l : List (List UInt8)) : (Srt l).length = l.length := (srt_perm l).length_eq
/-- There is one sorted list of these elements. -/
theorem srt_unique {l t : List (List UInt8)} (ht : Ord t) (hp : t.Perm l) : t = Srt l :=
  List.Perm.eq_of_pairwise (le := fun a b => leS a b = true) (fun a b _ _ h1 h2 => leS_anti a b h1 h2) ht (srt_ord l) (hp.trans (srt_perm l).symm)
theorem srt_of_ord {l : List (List UInt8)} (h : Ord l) : Srt l = l := (srt_unique h (List.Perm.refl _)).symm
theorem srt_congr {l m : List (List UInt8)} (h : l.Perm m) : Srt l = Srt m := srt_unique (srt_ord l) ((srt_perm l).trans h)
theorem srt_snoc {X : List (List UInt8)} {a : List UInt8} (h : ∀ x ∈ X, leS x a = true) : Srt (X ++ [a]) = Srt X ++ [a] := by
  symm
  refine srt_unique ?_ ((srt_perm X).append_right [a])
  unfold Ord
  rw [List.pairwise_append]
  refine ⟨srt_ord X, List.pairwise_singleton _ _, fun x hx y hy => ?_⟩
  simp at hy
  subst hy
  exact h x ((srt_perm X).mem_iff.1 hx)
/-- Two sorted lists, merged. -/
theorem merge_srt (l m : List (List UInt8)) : List.merge (Srt l) (Srt m) leS = Srt (l ++ m) := by
  refine srt_unique (List.pairwise_merge leS_trans leS_total (Srt l) (Srt m) (srt_ord l) (srt_ord m)) ?_
  exact (List.merge_perm_append leS).trans ((srt_perm l).append (srt_perm m))
theorem merge_length (l m : List (List UInt8)) : (List.merge l m leS).length = l.length + m.length := by
  rw [(List.merge_perm_append leS (xs := l) (ys := m)).length_eq, List.length_append]

/-! ### one step of the merge from the front -/
theorem merge_left (L R : List (List UInt8)) (i j : Nat) (hi : i < L.length) (h : R.length ≤ j ∨ (∃ hj : j < R.length, leS L[i] R[j] = true)) :
    List.merge (L.drop i) (R.drop j) leS = L[i] :: List.merge (L.drop (i + 1)) (R.drop j) leS := by
  rw [List.drop_eq_getElem_cons hi]
  rcases h with h | ⟨hj, h⟩
  · rw [List.drop_of_length_le h]; simp
  · rw [List.drop_eq_getElem_cons hj, List.cons_merge_cons, if_pos h]
theorem merge_right (L R : List (List UInt8)) (i j : Nat) (hj : j < R.length) (h : L.length ≤ i ∨ (∃ hi : i < L.length, leS L[i] R[j] = false)) :
    List.merge (L.drop i) (R.drop j) leS = R[j] :: List.merge (L.drop i) (R.drop (j + 1)) leS := by
  rw [List.drop_eq_getElem_cons hj]
  rcases h with h | ⟨hi, h⟩
  · rw [List.drop_of_length_le h]; simp
  · rw [List.drop_eq_getElem_cons hi, List.cons_merge_cons, if_neg (by rw [h]; decide)]

/-! ### the merge from the back -/
def M (A D : List (List UInt8)) (p q : Nat) : List (List UInt8) := Srt (A.take p ++ D.take q)
theorem ord_le {l : List (List UInt8)} (h : Ord l) (i j : Nat) (hij : i ≤ j) (hj : j < l.length) : leS (l[i]'(by omega)) l[j] = true := by
  by_cases e : i = j
  · subst e; simp [leS]
  · exact List.pairwise_iff_getElem.1 h i j (by omega) hj (by omega)
theorem take_le {l : List (List UInt8)} (h : Ord l) (p : Nat) (hp : p < l.length) : ∀ x ∈ l.take p, leS x l[p] = true := by
  intro x hx
  obtain ⟨i, hi, rfl⟩ := List.getElem_of_mem hx
  rw [List.length_take] at hi
  rw [List.getElem_take]
  exact ord_le h i p (by omega) hp
/-- The greatest of the first p + 1 is the last of A's. -/
theorem M_old {A D : List (List UInt8)} (hA : Ord A) (hD : Ord D) (p q : Nat) (hp : p < A.length) (hq : q ≤ D.length) (h : q = 0 ∨ ∃ hq' : q - 1 < D.length, leS D[q - 1] A[p] = true) : M A D (p + 1) q = M A D p q ++ [A[p]] := by
  unfold M
  rw [List.take_succ_eq_append_getElem hp]
  have e : Srt (A.take p ++ [A[p]] ++ D.take q) = Srt (A.take p ++ D.take q ++ [A[p]]) := by
    refine srt_congr ?_
    rw [List.append_assoc, List.append_assoc]
    exact List.Perm.append_left _ List.perm_append_comm
  rw [e]
  refine srt_snoc fun x hx => ?_
  rcases List.mem_append.1 hx with hx | hx
  · exact take_le hA p hp x hx
  · rcases h with h | ⟨hq', h⟩
    · subst h; simp at hx
    · obtain ⟨i, hi, rfl⟩ := List.getElem_of_mem hx
      rw [List.length_take] at hi
      rw [List.getElem_take]
      exact leS_trans _ _ _ (ord_le hD i (q - 1) (by omega) hq') h
/-- .. or the last of D's. -/
theorem M_new {A D : List (List UInt8)} (hA : Ord A) (hD : Ord D) (p q : Nat) (hq : q < D.length) (hp : p ≤ A.length) (h : p = 0 ∨ ∃ hp' : p - 1 < A.length, leS A[p - 1] D[q] = true) : M A D p (q + 1) = M A D p q ++ [D[q]] := by
  unfold M
  rw [List.take_succ_eq_append_getElem hq, ← List.append_assoc]
  refine srt_snoc fun x hx => ?_
  rcases List.mem_append.1 hx with hx | hx
  · rcases h with h | ⟨hp', h⟩
    · subst h; simp at hx
    · obtain ⟨i, hi, rfl⟩ := List.getElem_of_mem hx
      rw [List.length_take] at hi
      rw [List.getElem_take]
      exact leS_trans _ _ _ (ord_le hA i (p - 1) (by omega) hp') h
  · exact take_le hD q hq x hx

/-- What the loop of inOrder keeps: the row is R. -/
structure Back (A D T R : List (List UInt8)) (p q : Nat) : Prop where
  len : R.length = T.length
  fit : p + q ≤ T.length
  low : R.take p = A.take p
  high : M A D p q ++ R.drop (p + q) = T
theorem drop_set_self (R : List (List UInt8)) (k : Nat) (a : List UInt8) (h : k < R.length) : (R.set k a).drop k = a :: R.drop (k + 1) := by
  rw [List.drop_eq_getElem_cons (by simpa using h), List.getElem_set_self, List.drop_set_of_lt (by omega)]
theorem back_old {A D T R : List (List UInt8)} {p q : Nat} (hA : Ord A) (hD : Ord D) (h : Back A D T R (p + 1) (q + 1)) (hp : p < A.length) (hq : q < D.length) (hlt : leS D[q] A[p] = true) :
    Back A D T (R.set (p + 1 + q) A[p]) p (q + 1) := by
  have hf := h.fit
  refine ⟨by simpa using h.len, by omega, ?_, ?_⟩
  · rw [List.take_set_of_le (by omega)]
    have := congrArg (List.take p) h.low
    rw [List.take_take, List.take_take] at this
    simpa using this
  · have hk : p + 1 + q < R.length := by rw [h.len]; omega
    have e := h.high
    rw [M_old hA hD p (q + 1) hp (by omega) (.inr ⟨by simpa using hq, by simpa using hlt⟩), List.append_assoc] at e
    rw [← e, show p + (q + 1) = p + 1 + q by omega, drop_set_self _ _ _ hk]
    rfl
theorem back_new {A D T R : List (List UInt8)} {p q : Nat} (hA : Ord A) (hD : Ord D) (h : Back A D T R p (q + 1)) (hp : p ≤ A.length) (hq : q < D.length) (hle : p = 0 ∨ ∃ hp' : p - 1 < A.length, leS A[p - 1] D[q] = true) :
    Back A D T (R.set (p + q) D[q]) p q := by
  have hf := h.fit
  refine ⟨by simpa using h.len, by omega, ?_, ?_⟩
  · rw [List.take_set_of_le (by omega)]
    exact h.low
  · have hk : p + q < R.length := by rw [h.len]; omega
    have e := h.high
    rw [M_new hA hD p q hq hp hle, List.append_assoc] at e
    rw [← e, drop_set_self _ _ _ hk]
    rfl
theorem back_end {A D T R : List (List UInt8)} {p : Nat} (hA : Ord A) (h : Back A D T R p 0) : R = T := by
  have e := h.high
  have e1 : M A D p 0 = A.take p := by
    unfold M
    simp
    exact srt_of_ord (List.Pairwise.take hA)
  rw [e1, ← h.low, Nat.add_zero, List.take_append_drop] at e
  exact e
theorem back_start {l : List (List UInt8)} (k : Nat) (hk : k ≤ l.length) : Back (l.take k) (Srt (l.drop k)) (Srt l) l k (l.length - k) := by
  refine ⟨(srt_length l).symm, by rw [srt_length]; omega, by rw [List.take_take]; simp, ?_⟩
  have e : M (l.take k) (Srt (l.drop k)) k (l.length - k) = Srt l := by
    unfold M
    have h1 : (l.take k).take k = l.take k := by rw [List.take_take]; simp
    have h2 : (Srt (l.drop k)).take (l.length - k) = Srt (l.drop k) := List.take_of_length_le (by rw [srt_length]; simp)
    rw [h1, h2]
    refine srt_congr ?_
    have := (srt_perm (l.drop k)).append_left (l.take k)
    rwa [List.take_append_drop] at this
  rw [e, List.drop_of_length_le (by omega), List.append_nil]

/-! ### sorted step by step -/
theorem leS_of_not_lt {a b : List UInt8} (h : decide (b < a) = false) : leS a b = true := by
  simp only [leS, decide_eq_true_eq]
  simpa using h
theorem lt_of_leS_false {a b : List UInt8} (h : leS a b = false) : decide (b < a) = true := by
  simp only [leS, decide_eq_false_iff_not] at h
  simpa using h
theorem leS_of_lt {a b : List UInt8} (h : decide (a < b) = true) : leS a b = true := by
  simp only [leS, decide_eq_true_eq] at *
  exact List.le_of_lt h
theorem ord_of_steps {l : List (List UInt8)} {k : Nat} (hk : k ≤ l.length) (h : ∀ i, 1 ≤ i → i < k → decide (l.getD i [] < l.getD (i - 1) []) = false) : Ord (l.take k) := by
  unfold Ord
  rw [List.pairwise_iff_getElem]
  have step : ∀ j, j < k → ∀ i, i ≤ j → leS (l.getD i []) (l.getD j []) = true := by
    intro j
    induction j with
    | zero => intro _ i hi; have : i = 0 := by omega
              subst this; simp [leS]
    | succ j ih =>
      intro hj i hi
      by_cases e : i = j + 1
      · subst e; simp [leS]
      · have h1 := ih (by omega) i (by omega)
        have h2 := leS_of_not_lt (h (j + 1) (by omega) hj)
        rw [Nat.add_sub_cancel] at h2
        exact leS_trans _ _ _ h1 h2
  intro i j hi hj hij
  rw [List.length_take] at hi hj
  have := step j (by omega) i (by omega)
  rw [List.getElem_take, List.getElem_take]
  simpa [List.getD, show i < l.length by omega, show j < l.length by omega] using this
end Go.Proofs.Qxb6617407a.SortMath
