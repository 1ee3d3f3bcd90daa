/-
  WALKS: zzInstants (12), ZZBefore (7), ZZUpTo (8).
-/
import Derived.Test.Qxb6621715aSearch
namespace Go.Proofs.Qxb6621715a.Inst
open Go.RowKit Order Walks Search

theorem info32 : (Try.prog.info? 32).map (fun i => (i.zero, i.size, i.bytes)) = some (some (.agg #[.int .i64 0, .int .i32 0]), 2, 16) := by kernel_rfl

/-- A slice of integers that is read: its numbers, its cells. -/
structure Src (k : IntKind) (w : World) (ao : Option Addr) (n : Nat) (l : List Int) : Prop where
  len : l.length = n
  cells : 0 < n → ∃ b off, ao = some ⟨b, off, none⟩ ∧ b < w.heap.size ∧ ∀ j, j < n → w.cell? ⟨b, off + j, none⟩ = some (.int k (l.getD j 0))
theorem Src.below {k : IntKind} {w w' : World} {ao : Option Addr} {n : Nat} {l : List Int} (h : Src k w ao n l) (hb : Below w.heap.size w w') : Src k w' ao n l := by
  refine ⟨h.len, fun hp => ?_⟩
  obtain ⟨b, off, e1, e2, e3⟩ := h.cells hp
  exact ⟨b, off, e1, Nat.lt_of_lt_of_le e2 hb.size, fun j hj => (hb.cell e2).trans (e3 j hj)⟩

/-- The first k instants lie in the new row. -/
structure Laid (w : World) (H n k : Nat) (A B : Nat → Int) : Prop where
  block : ∃ cur, w.heap[H]? = some (.cells cur 32 (0, 0)) ∧ cur.size = n * 2 ∧ ∀ j, j < k → cur[j * 2]? = some (.int .i64 (A j)) ∧ cur[j * 2 + 1]? = some (.int .i32 (B j))

theorem Laid.step {w : World} {H n k : Nat} {A B : Nat → Int} {cur : Array Value} (hcur : w.heap[H]? = some (.cells cur 32 (0, 0))) (hsz : cur.size = n * 2)
    (hdone : ∀ j, j < k → cur[j * 2]? = some (.int .i64 (A j)) ∧ cur[j * 2 + 1]? = some (.int .i32 (B j))) (hk : k < n) :
    Laid ((w.setCell ⟨H, k * 2, none⟩ (.int .i64 (A k))).setCell ⟨H, k * 2 + 1, none⟩ (.int .i32 (B k))).drew H n (k + 1) A B := by
  have h1 := heap_setCell_same w H (k * 2) cur 32 (.int .i64 (A k)) hcur
  have h2 := heap_setCell_same _ H (k * 2 + 1) _ 32 (.int .i32 (B k)) h1
  refine ⟨⟨_, h2, by simpa using hsz, fun j hj => ?_⟩⟩
  by_cases e : j = k
  · subst e
    constructor
    · rw [Array.getElem?_setIfInBounds_ne (by omega), Array.getElem?_setIfInBounds_self_of_lt (by omega)]
    · rw [Array.getElem?_setIfInBounds_self_of_lt (by simp; omega)]
  · have := hdone j (by omega)
    constructor
    · rw [Array.getElem?_setIfInBounds_ne (by omega), Array.getElem?_setIfInBounds_ne (by omega)]; exact this.1
    · rw [Array.getElem?_setIfInBounds_ne (by omega), Array.getElem?_setIfInBounds_ne (by omega)]; exact this.2
theorem Laid.row {w : World} {H n : Nat} {A B : Nat → Int} (h : Laid w H n n A B) : Row2 w H n A B := by
  obtain ⟨cur, h1, h2, h3⟩ := h.block
  refine ⟨lt_of_block h1, fun k hk => ?_⟩
  rw [cell_of_row w _ _ cur 32 (0, 0) h1, cell_of_row w _ _ cur 32 (0, 0) h1]
  exact h3 k hk

set_option maxRecDepth 100000 in
set_option maxHeartbeats 400000 in
theorem inst_row (b off b2 off2 n cap cap2 : Nat) (A B : Nat → Int) (w : World) (hn : n ≤ 65536) (hp : 0 < n) (hb : b < w.heap.size) (hb2 : b2 < w.heap.size)
    (hA : ∀ j, j < n → w.cell? ⟨b, off + j, none⟩ = some (.int .i64 (A j))) (hB : ∀ j, j < n → w.cell? ⟨b2, off2 + j, none⟩ = some (.int .i32 (B j))) :
    Calls Try.prog 12 #[.slice (some ⟨b, off, none⟩) n cap, .slice (some ⟨b2, off2, none⟩) n cap2] w fun e w' => e = .returned (.slice (some ⟨w.heap.size, 0, none⟩) n n) ∧
      Laid w' w.heap.size n n A B ∧ Below w.heap.size w w' := by
  obtain ⟨i0, hi, hz0, hz1, hz2⟩ := info_parts info32
  have HA : Hid (∀ j, j < n → w.cell? ⟨b, off + j, none⟩ = some (.int .i64 (A j))) := hA
  have HB : Hid (∀ j, j < n → w.cell? ⟨b2, off2 + j, none⟩ = some (.int .i32 (B j))) := hB
  clear hA hB
  go_enter Try.func12, Try.ntmps12
  go_wp2_with (at_make; refine wpList_make_full _ rfl _ _ 29 rfl w.heap.size 32 i0 (.agg #[.int .i64 0, .int .i32 0]) 2 Try.underlying29 hi hz0 hz1 _ _ _ _ n rfl rfl rfl rfl ?b2 ?b3 (Nat.le_refl _) ?_)
  case b2 => rw [hz2]; omega
  case b3 => unfold maxLen; omega
  intro w1 hown0 hgrow0
  have hst : Laid w1 w.heap.size n 0 A B := by
    rcases hown0.2 with ⟨hv, _⟩ | ⟨g', cap', cur, hv, _, hg, hnc, hcm, hcs, _⟩
    · simp at hv
    · simp only [Value.slice.injEq, Option.some.injEq, Addr.mk.injEq, and_true, true_and] at hv
      obtain ⟨rfl, rfl⟩ := hv
      exact ⟨⟨cur, hg, hcs, fun j hj => by omega⟩⟩
  have hbel0 : Below w.heap.size w w1 := (Below.refl _ _).grown hgrow0 (Nat.le_refl _) (fun k h => by cases h)
  clear hown0 hgrow0 hz0 hz1 hz2 hi
  go_wp2_with fail
  go_loopw [6] (fun i wr => ∃ k : Nat, k ≤ n ∧ i = .int .i64 k ∧ Laid wr w.heap.size n k A B ∧ Below w.heap.size w wr)
    (fun i _ => n - (intOf i).toNat)
  case atStart => exact ⟨0, Nat.zero_le _, rfl, hst, hbel0⟩
  case round =>
    obtain ⟨k, hk, rfl, hl, hbel⟩ := hrel
    by_cases hlt : k < n
    · have q1 := (hbel.cell (by exact hb)).trans (HA.out k hlt)
      have q2 := (hbel.cell (by exact hb2)).trans (HB.out k hlt)
      obtain ⟨cur, hcur, hsz, hdone⟩ := hl.block
      obtain ⟨v1, hv1⟩ : ∃ v1, wr.cell? ⟨w.heap.size, k * 2, none⟩ = some v1 := by
        rw [cell_of_row wr _ _ cur 32 (0, 0) hcur]; exact ⟨cur[k * 2]'(by omega), by simp⟩
      obtain ⟨v2, hv2⟩ : ∃ v2, wr.cell? ⟨w.heap.size, k * 2 + 1, none⟩ = some v2 := by
        rw [cell_of_row wr _ _ cur 32 (0, 0) hcur]; exact ⟨cur[k * 2 + 1]'(by omega), by simp⟩
      have hf : ∀ o, wr.frozen? ⟨w.heap.size, o, none⟩ = false := fun o => by simp [World.frozen?, hcur]
      have hki : (k : Int) < (n : Int) := by omega
      have HS : Hid (Laid ((wr.setCell ⟨w.heap.size, k * 2, none⟩ (.int .i64 (A k))).setCell ⟨w.heap.size, k * 2 + 1, none⟩ (.int .i32 (B k))).drew w.heap.size n (k + 1) A B) :=
        Laid.step hcur hsz hdone hlt
      generalize A k = c at q1 HS
      generalize B k = d at q2 HS
      clear hcur hdone hl hsz
      go_wp2_with fail
      go_region
      all_goals
        go_wp2_with fail
        go_roundw
        case rel => exact ⟨k + 1, by omega, by go_num, HS.out, ((hbel.setCell (Nat.le_refl _) _).setCell (Nat.le_refl _) _).drew⟩
        case measure => simp [intOf]; omega
    · have hkn : k = n := by omega
      have HK : Hid (k = n) := hkn
      clear hkn
      go_wp2_with fail
      go_ret
      refine ⟨rfl, ?_, hbel⟩
      rw [HK.out] at hl
      exact hl

theorem inst_none (ao ao2 : Option Addr) (cap cap2 : Nat) (w : World) :
    Calls Try.prog 12 #[.slice ao 0 cap, .slice ao2 0 cap2] w fun e w' => e = .returned (.slice (some ⟨w.heap.size, 0, none⟩) 0 0) ∧ w.heap.size < w'.heap.size ∧ Below w.heap.size w w' := by
  obtain ⟨i0, hi, hz0, hz1, hz2⟩ := info_parts info32
  go_enter Try.func12, Try.ntmps12
  go_wp2_with (at_make; refine wpList_make_full _ rfl _ _ 29 rfl w.heap.size 32 i0 (.agg #[.int .i64 0, .int .i32 0]) 2 Try.underlying29 hi hz0 hz1 _ _ _ _ 0 rfl rfl rfl rfl ?b2 ?b3 (Nat.le_refl _) ?_)
  case b2 => omega
  case b3 => unfold maxLen; omega
  intro w1 hown0 hgrow0
  have hlt := (hown0.lt w.heap.size rfl).2
  have hbel0 : Below w.heap.size w w1 := (Below.refl _ _).grown hgrow0 (Nat.le_refl _) (fun k h => by cases h)
  clear hown0 hgrow0 hz0 hz1 hz2 hi
  go_wp2_with fail
  refine wp_loop_rounds 1 ?_
  rw [rounds_succ]
  go_wp2_with fail
  go_ret
  exact ⟨rfl, hlt, hbel0⟩

/-- zzInstants, whatever slices of one length come in. -/
theorem inst_all (ao ao2 : Option Addr) (n cap cap2 : Nat) (la lb : List Int) (w : World) (hn : n ≤ 65536) (hA : Src .i64 w ao n la) (hB : Src .i32 w ao2 n lb) :
    Calls Try.prog 12 #[.slice ao n cap, .slice ao2 n cap2] w fun e w' => e = .returned (.slice (some ⟨w.heap.size, 0, none⟩) n n) ∧
      Row2 w' w.heap.size n (fun j => la.getD j 0) (fun j => lb.getD j 0) ∧ Below w.heap.size w w' := by
  by_cases h0 : n = 0
  · subst h0
    refine (inst_none ao ao2 cap cap2 w).mono ?_
    rintro e w' ⟨rfl, h1, h2⟩
    exact ⟨rfl, ⟨h1, fun k hk => by omega⟩, h2⟩
  · obtain ⟨b, off, rfl, h1, h2⟩ := hA.cells (by omega)
    obtain ⟨b2, off2, rfl, h3, h4⟩ := hB.cells (by omega)
    refine (inst_row b off b2 off2 n cap cap2 (fun j => la.getD j 0) (fun j => lb.getD j 0) w hn (by omega) h1 h3 h2 h4).mono ?_
    rintro e w' ⟨rfl, h5, h6⟩
    exact ⟨rfl, h5.row, h6⟩

theorem zzBefore_all (ao ao2 : Option Addr) (n cap cap2 : Nat) (la lb : List Int) (x y : Int) (w : World) (hn : n ≤ 65536) (hA : Src .i64 w ao n la) (hB : Src .i32 w ao2 n lb)
    (hfall : Falls (pre (fun j => la.getD j 0) (fun j => lb.getD j 0) x y) n) :
    Calls Try.prog 7 #[.slice ao n cap, .slice ao2 n cap2, .int .i64 x, .int .i32 y] w fun e w' => ∃ r : Nat, e = .returned (.int .i64 r) ∧ Bound (pre (fun j => la.getD j 0) (fun j => lb.getD j 0) x y) n r ∧ Below w.heap.size w w' := by
  have HF : Hid _ := hfall
  clear hfall
  go_enter Try.func7, Try.ntmps7
  go_wp2_with fail
  refine (inst_all ao ao2 n cap cap2 la lb _ hn hA hB).mono ?_
  rintro e w1 ⟨rfl, h1, h2⟩
  go_wp2_with fail
  refine (before_any w.heap.size n n _ _ x y _ hn h1 HF.out).mono ?_
  rintro e w2 ⟨r, rfl, h3, h4⟩
  go_wp2_with fail
  go_ret
  exact ⟨r, rfl, h3, h2.trans (h4.mono h2.size)⟩
theorem zzUpTo_all (ao ao2 : Option Addr) (n cap cap2 : Nat) (la lb : List Int) (x y : Int) (w : World) (hn : n ≤ 65536) (hA : Src .i64 w ao n la) (hB : Src .i32 w ao2 n lb)
    (hfall : Falls (upto (fun j => la.getD j 0) (fun j => lb.getD j 0) x y) n) :
    Calls Try.prog 8 #[.slice ao n cap, .slice ao2 n cap2, .int .i64 x, .int .i32 y] w fun e w' => ∃ r : Nat, e = .returned (.int .i64 r) ∧ Bound (upto (fun j => la.getD j 0) (fun j => lb.getD j 0) x y) n r ∧ Below w.heap.size w w' := by
  have HF : Hid _ := hfall
  clear hfall
  go_enter Try.func8, Try.ntmps8
  go_wp2_with fail
  refine (inst_all ao ao2 n cap cap2 la lb _ hn hA hB).mono ?_
  rintro e w1 ⟨rfl, h1, h2⟩
  go_wp2_with fail
  refine (upTo_any w.heap.size n n _ _ x y _ hn h1 HF.out).mono ?_
  rintro e w2 ⟨r, rfl, h3, h4⟩
  go_wp2_with fail
  go_ret
  exact ⟨r, rfl, h3, h2.trans (h4.mono h2.size)⟩
end Go.Proofs.Qxb6621715a.Inst
