/-
  WALKS: cloneStrings (12), mergeSort (13).
-/
import Derived.Test.Qxb6617407aStrWalks
namespace Go.Proofs.Qxb6617407a.MergeWalks
open Go.RowKit SortMath StrWalks

theorem info9 : (Try.prog.info? 9).map (fun i => (i.zero, i.size, i.bytes)) = some (some (.string ByteArray.empty), 1, 16) := by kernel_rfl
/-- Strings as cells. -/
def sv (l : List (List UInt8)) : List Value := l.map fun x => Value.string (strV x)
theorem sv_length (l : List (List UInt8)) : (sv l).length = l.length := by simp [sv]
theorem sv_get (l : List (List UInt8)) (k : Nat) (h : k < l.length) : (sv l)[k]? = some (.string (strV (l.getD k []))) := by simp [sv, h]

/-- A row that is being written from the left. -/
def mixV (T R : List Value) (k : Nat) : List Value := T.take k ++ R.drop k
theorem mixV_set (T R : List Value) (k : Nat) (v : Value) (h : T.length = R.length) (hk : k < T.length) (hv : T[k]? = some v) : (mixV T R k).set k v = mixV T R (k + 1) := by
  have hk2 : k < R.length := by omega
  have e : (List.take k T).length = k := by simp; omega
  have hv2 : T[k] = v := by rw [List.getElem?_eq_getElem hk] at hv; exact Option.some.inj hv
  unfold mixV
  rw [List.set_append_right _ _ (by omega), e, Nat.sub_self, List.drop_eq_getElem_cons hk2, List.set_cons_zero, List.take_succ_eq_append_getElem hk, hv2]
  simp
theorem mixV_length (T R : List Value) (k : Nat) (h : T.length = R.length) (hk : k ≤ T.length) : (mixV T R k).length = T.length := by simp [mixV]; omega
theorem mixV_end (T R : List Value) (k : Nat) (h : T.length = R.length) (hk : k = T.length) : mixV T R k = T := by
  subst hk; unfold mixV; rw [List.take_length, List.drop_of_length_le (by omega), List.append_nil]
theorem mixV_zero (T R : List Value) : mixV T R 0 = R := by simp [mixV]

theorem own_src {w : World} {base g n cap : Nat} {l : List (List UInt8)} (h : w.ownsRow base 9 1 (.slice (some ⟨g, 0, none⟩) n cap) n (sv l)) : Src w (some ⟨g, 0, none⟩) n l := by
  have hl : l.length = n := by have := h.1; rw [sv_length] at this; omega
  refine ⟨hl, fun _ => ⟨g, 0, rfl, (h.lt g rfl).2, fun j hj => ?_⟩⟩
  rw [Nat.zero_add, h.cellAt j (by omega)]
  exact sv_get l j (by omega)

theorem own_some {w : World} {base g n cap : Nat} {xs : List Value} (h : w.ownsRow base 9 1 (.slice (some ⟨g, 0, none⟩) n cap) n xs) (k : Nat) (hk : k < n) :
    (∃ v, w.cell? ⟨g, k, none⟩ = some v) ∧ w.frozen? ⟨g, k, none⟩ = false := by
  refine ⟨?_, h.frozenAt k⟩
  rw [h.cellAt k (by omega)]
  have hl := h.1
  exact ⟨xs[k]'(by omega), by simp⟩

/-! ### cloneStrings -/
theorem clone_nil (w : World) :
    Calls Try.prog 12 #[.slice none 0 0] w fun e w' => e = .returned (.slice none 0 0) ∧ w = w' := by
  have hq := fun (w : World) => Lib.run_eql_slice_nil (P := Try.prog) w 28 9 none 0 0 0 0 Try.underlying28
  go_enter Try.func12, Try.ntmps12
  go_wp2_with fail
  go_ret
  exact ⟨rfl, rfl⟩

set_option maxHeartbeats 400000 in
theorem clone_some (x : Addr) (n cap : Nat) (l : List (List UInt8)) (w : World) (hm : n ≤ 65536) (hs : Src w (some x) n l) :
    Calls Try.prog 12 #[.slice (some x) n cap] w fun e w' => e = .returned (.slice (some ⟨w.heap.size, 0, none⟩) n n) ∧ w'.ownsRow w.heap.size 9 1 (.slice (some ⟨w.heap.size, 0, none⟩) n n) n (sv l) ∧ Below w.heap.size w w' := by
  obtain ⟨i0, hi, hz0, hz1, hz2⟩ := info_parts info9
  have hq := fun (w : World) => Lib.run_eql_slice_nil (P := Try.prog) w 28 9 (some x) n cap 0 0 Try.underlying28
  go_enter Try.func12, Try.ntmps12
  go_wp2_with (at_make; refine wpList_make_full _ rfl _ _ 28 rfl w.heap.size 9 i0 (.string ByteArray.empty) 1 Try.underlying28 hi hz0 hz1 _ _ _ _ n rfl rfl rfl rfl ?b2 ?b3 (Nat.le_refl _) ?_)
  case b2 => rw [hz2]; omega
  case b3 => unfold maxLen; omega
  intro w1 hown0 hgrow0
  obtain ⟨R, hR⟩ : ∃ R, R = (madeCells #[Value.string ByteArray.empty] n).toList := ⟨_, rfl⟩
  have hown1 : w1.ownsRow w.heap.size 9 1 (.slice (some ⟨w.heap.size, 0, none⟩) n n) n (mixV (sv l) R 0) := by rw [mixV_zero, hR]; exact hown0
  have hbel0 : Below w.heap.size w w1 := (Below.refl _ _).grown hgrow0 (Nat.le_refl _) (fun k h => by cases h)
  have hlR : (sv l).length = R.length := by
    rw [hR, toList_madeCells_one, List.length_replicate, sv_length, hs.len]
  have hlS : (sv l).length = n := by rw [sv_length, hs.len]
  have HLR : Hid ((sv l).length = R.length) := hlR
  have HLS : Hid ((sv l).length = n) := hlS
  clear hown0 hgrow0 hz0 hz1 hz2 hi hR hlR hlS
  go_wp2_with fail
  go_loopw [4] (fun i wr => ∃ k : Nat, k ≤ n ∧ i = .int .i64 k ∧ wr.ownsRow w.heap.size 9 1 (.slice (some ⟨w.heap.size, 0, none⟩) n n) n (mixV (sv l) R k) ∧ Below w.heap.size w wr)
    (fun i _ => n - (intOf i).toNat)
  case atStart => exact ⟨0, Nat.zero_le _, rfl, hown1, hbel0⟩
  case round =>
    obtain ⟨k, hk, rfl, hown, hbel⟩ := hrel
    by_cases hlt : k < n
    · obtain ⟨b, off, hx, hb, hc⟩ := hs.cells (by omega)
      cases hx
      have hcx := (hbel.cell (by exact hb)).trans (hc k hlt)
      obtain ⟨⟨c2, hd⟩, hf⟩ := own_some hown k hlt
      obtain ⟨hs1, hs2⟩ := hown.stored k (.string (strV (l.getD k [])))
      rw [mixV_set _ _ _ _ HLR.out (by rw [HLS.out]; exact hlt) (sv_get l k (by rw [hs.len]; exact hlt))] at hs1
      have hbel2 : Below w.heap.size w (wr.setCell ⟨w.heap.size, k, none⟩ (.string (strV (l.getD k [])))) := hbel.setCell (Nat.le_refl _) _
      generalize strV (l.getD k []) = c at hcx hs1 hs2 hbel2
      have H1 : Hid _ := hs1
      clear hs1 hs2 hown hc hs
      go_wp2_with fail
      go_roundw
      case rel => exact ⟨k + 1, by omega, by go_num, H1.out, hbel2⟩
      case measure => simp [intOf]; omega
    · go_wp2_with fail
      go_ret
      refine ⟨rfl, ?_, hbel⟩
      rw [mixV_end _ _ _ HLR.out (by rw [HLS.out]; omega)] at hown
      exact hown
end Go.Proofs.Qxb6617407a.MergeWalks
