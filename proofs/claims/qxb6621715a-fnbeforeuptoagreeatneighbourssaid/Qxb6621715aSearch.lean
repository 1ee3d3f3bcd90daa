/-
  WALKS: before (11), upTo (13).
-/
import Derived.Test.Qxb6621715aWalks
namespace Go.Proofs.Qxb6621715a.Search
open Go.RowKit Order Walks

/-- A row of instants: two cells each. -/
def Row2 (w : World) (g n : Nat) (A B : Nat → Int) : Prop :=
  g < w.heap.size ∧ ∀ k, k < n → w.cell? ⟨g, k * 2, none⟩ = some (.int .i64 (A k)) ∧ w.cell? ⟨g, k * 2 + 1, none⟩ = some (.int .i32 (B k))

theorem step_below {H : Nat} {W0 wr w2 : World} (h0 : H ≤ W0.heap.size) (hb : Below H W0 wr) (hb2 : Below wr.drew.heap.size wr.drew w2) : Below H W0 w2 :=
  hb.drew.trans (hb2.mono (Nat.le_trans h0 hb.size))
theorem end_below {w wr : World} {o : Obj} (hb : Below (w.heap.size + 1) (w.alloc o) wr) : Below w.heap.size w wr :=
  ((Below.refl _ _).alloc (Nat.le_refl _) o).trans (hb.mono (Nat.le_succ _))
theorem bound_end {p : Nat → Bool} {n l h : Nat} (h1 : l ≤ h) (h2 : h ≤ n) (h3 : ¬ l < h) (hy : ∀ i, i < l → p i = true) (hn : ∀ i, h ≤ i → i < n → p i = false) : Bound p n l :=
  ⟨by omega, hy, fun i a b => hn i (by omega) b⟩

set_option maxRecDepth 100000 in
set_option maxHeartbeats 400000 in
theorem before_any (g n cap : Nat) (A B : Nat → Int) (x y : Int) (w : World) (hn : n ≤ 65536) (hrow : Row2 w g n A B) (hfall : Falls (pre A B x y) n) :
    Calls Try.prog 11 #[.slice (some ⟨g, 0, none⟩) n cap, .agg #[.int .i64 x, .int .i32 y]] w fun e w' => ∃ r : Nat, e = .returned (.int .i64 r) ∧ Bound (pre A B x y) n r ∧ Below w.heap.size w w' := by
  have HF : Hid (Falls (pre A B x y) n) := hfall
  have HR : Hid (Row2 w g n A B) := hrow
  clear hfall hrow
  go_enter Try.func11, Try.ntmps11
  go_wp2_with fail
  go_loopw [5, 6] (fun lo hi wr => ∃ l h : Nat, l ≤ h ∧ h ≤ n ∧ lo = .int .i64 l ∧ hi = .int .i64 h ∧ (∀ i, i < l → pre A B x y i = true) ∧ (∀ i, h ≤ i → i < n → pre A B x y i = false) ∧ Below (w.heap.size + 1) (w.alloc (.cells #[.int .i64 x, .int .i32 y] 32)) wr)
    (fun lo hi _ => (intOf hi).toNat - (intOf lo).toNat)
  case atStart => exact ⟨0, n, Nat.zero_le _, Nat.le_refl _, rfl, rfl, fun i hi => by omega, fun i h1 h2 => by omega, Below.refl _ _⟩
  case round =>
    obtain ⟨l, h, hlh, hhn, rfl, rfl, hyes, hno, hbel⟩ := hrel
    have HY : Hid (∀ i, i < l → pre A B x y i = true) := hyes
    have HN : Hid (∀ i, h ≤ i → i < n → pre A B x y i = false) := hno
    clear hyes hno
    by_cases hlt : l < h
    · obtain ⟨m, hm⟩ : ∃ m : Nat, m = (l + h) / 2 := ⟨_, rfl⟩
      have hm1 : l ≤ m := by omega
      have hm2 : m < h := by omega
      have hm3 : (m : Int) < (n : Int) := by omega
      have hg : g < w.heap.size + 1 := Nat.lt_succ_of_lt HR.out.1
      have c1 : wr.cell? ⟨g, m * 2, none⟩ = some (.int .i64 (A m)) := by
        rw [hbel.cell hg, World.cell?_alloc_past]
        · exact (HR.out.2 m (by omega)).1
        · exact HR.out.1
      have c2 : wr.cell? ⟨g, m * 2 + 1, none⟩ = some (.int .i32 (B m)) := by
        rw [hbel.cell hg, World.cell?_alloc_past]
        · exact (HR.out.2 m (by omega)).2
        · exact HR.out.1
      have c3 : wr.cell? ⟨w.heap.size, 0, none⟩ = some (.int .i64 x) := by
        rw [hbel.cell (by simp)]; simp
      have c4 : wr.cell? ⟨w.heap.size, 1, none⟩ = some (.int .i32 y) := by
        rw [hbel.cell (by simp)]; simp
      have EM : Hid (((l : Int) + (h : Int)) / 2 = (m : Int)) := (by omega : ((l : Int) + (h : Int)) / 2 = (m : Int))
      clear hm
      go_wp2_with fail
      rw [EM.out]
      cases hp : pre A B x y m
      · have hp' : lessB (A m) (B m) x y = false := hp
        go_region_with (go_at_call 14; refine (inst_is _ _ _ _ false _ hp').mono ?_; rintro e w2 ⟨rfl, hb2⟩)
        all_goals
          go_wp2_with fail
          go_roundw
          case rel => exact ⟨l, m, hm1, by omega, rfl, rfl, HY.out, fun i a b => (by
            by_cases hq : pre A B x y i = true
            · have := HF.out m i a b hq; rw [hp] at this; cases this
            · simpa using hq), step_below (by simp) hbel hb2⟩
          case measure => simp [intOf]; omega
      · have hp' : lessB (A m) (B m) x y = true := hp
        go_region_with (go_at_call 14; refine (inst_is _ _ _ _ true _ hp').mono ?_; rintro e w2 ⟨rfl, hb2⟩)
        all_goals
          go_wp2_with fail
          go_roundw
          case rel => exact ⟨m + 1, h, by omega, hhn, by go_num, rfl, fun i a => HF.out i m (by omega) (by omega) hp, HN.out, step_below (by simp) hbel hb2⟩
          case measure => simp [intOf]; omega
    · go_wp2_with fail
      go_ret
      exact ⟨l, rfl, bound_end hlh hhn hlt HY.out HN.out, end_below hbel⟩

set_option maxRecDepth 100000 in
set_option maxHeartbeats 400000 in
theorem upTo_any (g n cap : Nat) (A B : Nat → Int) (x y : Int) (w : World) (hn : n ≤ 65536) (hrow : Row2 w g n A B) (hfall : Falls (upto A B x y) n) :
    Calls Try.prog 13 #[.slice (some ⟨g, 0, none⟩) n cap, .agg #[.int .i64 x, .int .i32 y]] w fun e w' => ∃ r : Nat, e = .returned (.int .i64 r) ∧ Bound (upto A B x y) n r ∧ Below w.heap.size w w' := by
  have HF : Hid (Falls (upto A B x y) n) := hfall
  have HR : Hid (Row2 w g n A B) := hrow
  clear hfall hrow
  go_enter Try.func13, Try.ntmps13
  go_wp2_with fail
  go_loopw [5, 6] (fun lo hi wr => ∃ l h : Nat, l ≤ h ∧ h ≤ n ∧ lo = .int .i64 l ∧ hi = .int .i64 h ∧ (∀ i, i < l → upto A B x y i = true) ∧ (∀ i, h ≤ i → i < n → upto A B x y i = false) ∧ Below (w.heap.size + 1) (w.alloc (.cells #[.int .i64 x, .int .i32 y] 32)) wr)
    (fun lo hi _ => (intOf hi).toNat - (intOf lo).toNat)
  case atStart => exact ⟨0, n, Nat.zero_le _, Nat.le_refl _, rfl, rfl, fun i hi => by omega, fun i h1 h2 => by omega, Below.refl _ _⟩
  case round =>
    obtain ⟨l, h, hlh, hhn, rfl, rfl, hyes, hno, hbel⟩ := hrel
    have HY : Hid (∀ i, i < l → upto A B x y i = true) := hyes
    have HN : Hid (∀ i, h ≤ i → i < n → upto A B x y i = false) := hno
    clear hyes hno
    by_cases hlt : l < h
    · obtain ⟨m, hm⟩ : ∃ m : Nat, m = (l + h) / 2 := ⟨_, rfl⟩
      have hm1 : l ≤ m := by omega
      have hm2 : m < h := by omega
      have hm3 : (m : Int) < (n : Int) := by omega
      have hg : g < w.heap.size + 1 := Nat.lt_succ_of_lt HR.out.1
      have c1 : wr.cell? ⟨g, m * 2, none⟩ = some (.int .i64 (A m)) := by
        rw [hbel.cell hg, World.cell?_alloc_past]
        · exact (HR.out.2 m (by omega)).1
        · exact HR.out.1
      have c2 : wr.cell? ⟨g, m * 2 + 1, none⟩ = some (.int .i32 (B m)) := by
        rw [hbel.cell hg, World.cell?_alloc_past]
        · exact (HR.out.2 m (by omega)).2
        · exact HR.out.1
      have c3 : wr.cell? ⟨w.heap.size, 0, none⟩ = some (.int .i64 x) := by
        rw [hbel.cell (by simp)]; simp
      have c4 : wr.cell? ⟨w.heap.size, 1, none⟩ = some (.int .i32 y) := by
        rw [hbel.cell (by simp)]; simp
      have EM : Hid (((l : Int) + (h : Int)) / 2 = (m : Int)) := (by omega : ((l : Int) + (h : Int)) / 2 = (m : Int))
      clear hm
      go_wp2_with fail
      rw [EM.out]
      cases hp : upto A B x y m
      · have hp' : lessB x y (A m) (B m) = true := by simpa [upto] using hp
        go_region_with (go_at_call 14; refine (inst_is _ _ _ _ true _ hp').mono ?_; rintro e w2 ⟨rfl, hb2⟩)
        all_goals
          go_wp2_with fail
          go_roundw
          case rel => exact ⟨l, m, hm1, by omega, rfl, rfl, HY.out, fun i a b => (by
            by_cases hq : upto A B x y i = true
            · have := HF.out m i a b hq; rw [hp] at this; cases this
            · simpa using hq), step_below (by simp) hbel hb2⟩
          case measure => simp [intOf]; omega
      · have hp' : lessB x y (A m) (B m) = false := by simpa [upto] using hp
        go_region_with (go_at_call 14; refine (inst_is _ _ _ _ false _ hp').mono ?_; rintro e w2 ⟨rfl, hb2⟩)
        all_goals
          go_wp2_with fail
          go_roundw
          case rel => exact ⟨m + 1, h, by omega, hhn, by go_num, rfl, fun i a => HF.out i m (by omega) (by omega) hp, HN.out, step_below (by simp) hbel hb2⟩
          case measure => simp [intOf]; omega
    · go_wp2_with fail
      go_ret
      exact ⟨l, rfl, bound_end hlh hhn hlt HY.out HN.out, end_below hbel⟩

end Go.Proofs.Qxb6621715a.Search
