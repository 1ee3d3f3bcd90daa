/-
  WALKS: zzBytes (9), stringsBytes (10), prefixSorted (11), equalStrings (15).
-/
import Derived.Test.Qxb6617407aProg
import Derived.Test.Qxb6617407aSortMath
import Derived.WalkKit
import Derived.WalkSpells
import Derived.WalkLawsBesides
import Derived.Deep.QuietTactic
import Derived.BigQuiet
namespace Go.Proofs.Qxb6617407a.StrWalks
open Go.RowKit SortMath

abbrev strV (l : List UInt8) : ByteArray := ⟨l.toArray⟩
theorem strV_list (l : List UInt8) : (strV l).toList = l := by rw [Lib.toList_data]

/-- A slice of strings that is read. -/
structure Src (w : World) (ao : Option Addr) (n : Nat) (l : List (List UInt8)) : Prop where
  len : l.length = n
  cells : 0 < n → ∃ b off, ao = some ⟨b, off, none⟩ ∧ b < w.heap.size ∧ ∀ j, j < n → w.cell? ⟨b, off + j, none⟩ = some (.string (strV (l.getD j [])))
theorem Src.below {w w' : World} {ao : Option Addr} {n : Nat} {l : List (List UInt8)} (h : Src w ao n l) (hb : Below w.heap.size w w') : Src w' ao n l := by
  refine ⟨h.len, fun hp => ?_⟩
  obtain ⟨b, off, e1, e2, e3⟩ := h.cells hp
  exact ⟨b, off, e1, Nat.lt_of_lt_of_le e2 hb.size, fun j hj => (hb.cell e2).trans (e3 j hj)⟩

/-- The same world but for what was drawn. -/
structure Same (w wr : World) : Prop where
  heap : wr.heap = w.heap
  os : wr.os = w.os
  tape : wr.tape = w.tape
  output : wr.output = w.output
theorem Same.refl (w : World) : Same w w := ⟨rfl, rfl, rfl, rfl⟩
theorem Same.drewN {w wr : World} (h : Same w wr) (n : Nat) : Same w (wr.drewN n) := ⟨h.heap, h.os, h.tape, h.output⟩
theorem Same.drew {w wr : World} (h : Same w wr) : Same w wr.drew := ⟨h.heap, h.os, h.tape, h.output⟩
theorem Same.cell {w wr : World} (h : Same w wr) (a : Addr) : wr.cell? a = w.cell? a := World.cell?_of_block (by rw [h.heap])
theorem Same.below {B : Nat} {a w wr : World} (h : Same w wr) (hb : Below B a w) : Below B a wr := hb.trans ⟨h.os, h.tape, h.output, by rw [h.heap]; exact Nat.le_refl _, fun k _ => by rw [h.heap]⟩

/-- It returns; the world is as it was. -/
def SomeBool (w : World) (e : Ending) (w' : World) : Prop := ∃ v, e = .returned (.bool v) ∧ Same w w'
def SomeInt (w : World) (e : Ending) (w' : World) : Prop := ∃ v, e = .returned (.int .i64 v) ∧ Same w w'
theorem SomeBool.mk {w : World} (v : Bool) : SomeBool w (.returned (.bool v)) w := ⟨v, rfl, Same.refl _⟩
theorem SomeInt.mk {w : World} (v : Int) : SomeInt w (.returned (.int .i64 v)) w := ⟨v, rfl, Same.refl _⟩

theorem zz_any (ao : Option Addr) (n cap : Nat) (l : List (List UInt8)) (i : Int) (w : World) (hn : n ≤ maxLen) (hs : Src w ao n l) :
    Calls Try.prog 9 #[.slice ao n cap, .int .i64 i] w fun e w' => SomeBool w e w' := by
  unfold maxLen at hn
  by_cases hbig : n ≤ 1048576
  · go_enter Try.func9, Try.ntmps9
    go_wp2_with fail
    go_loop [5, 6] (fun z i => ∃ (t : Int) (k : Nat), 0 ≤ t ∧ t ≤ 1048576 ∧ k ≤ n ∧ z = .int .i64 t ∧ i = .int .i64 k) (fun _ i => n - (intOf i).toNat)
    case atStart => exact ⟨n, 0, by omega, by omega, Nat.zero_le _, by simp, rfl⟩
    case round =>
      obtain ⟨t, k, ht0, ht1, hk, rfl, rfl⟩ := hrel
      by_cases hlt : k < n
      · obtain ⟨b, off, rfl, _, hc⟩ := hs.cells (by omega)
        have q := hc k hlt
        generalize strV (l.getD k []) = s at q
        clear hc hs
        by_cases h1 : s.size ≤ 1048576
        · by_cases h2 : t + (s.size : Int) ≤ 1048576
          · go_wp2_with fail
            go_round
            case rel => exact ⟨_, k + 1, by omega, by omega, by omega, rfl, by go_num⟩
            case measure => simp [intOf]; omega
          · go_wp2_with fail
            go_ret
            exact SomeBool.mk _
        · go_wp2_with fail
          go_ret
          exact SomeBool.mk _
      · go_wp2_with fail
        go_ret
        exact SomeBool.mk _
  · go_enter Try.func9, Try.ntmps9
    go_wp2_with fail
    go_ret
    exact SomeBool.mk _

theorem bytes_any (ao : Option Addr) (n cap : Nat) (l : List (List UInt8)) (w : World) (hn : n ≤ 65536) (hs : Src w ao n l) :
    Calls Try.prog 10 #[.int .i64 0, .slice ao n cap] w fun e w' => SomeInt w e w' := by
  have hbig : n * 16 ≤ 1048576 := by omega
  · go_enter Try.func10, Try.ntmps10
    go_wp2_with fail
    go_loop [0, 5] (fun z i => ∃ (t : Int) (k : Nat), 0 ≤ t ∧ t ≤ 1048576 ∧ k ≤ n ∧ z = .int .i64 t ∧ i = .int .i64 k) (fun _ i => n - (intOf i).toNat)
    case atStart => exact ⟨_, 0, by omega, by omega, Nat.zero_le _, rfl, rfl⟩
    case round =>
      obtain ⟨t, k, ht0, ht1, hk, rfl, rfl⟩ := hrel
      by_cases hlt : k < n
      · obtain ⟨b, off, rfl, _, hc⟩ := hs.cells (by omega)
        have q := hc k hlt
        generalize strV (l.getD k []) = s at q
        clear hc hs
        by_cases h1 : s.size ≤ 1048576
        · by_cases h2 : t + (s.size : Int) ≤ 1048576
          · go_wp2_with fail
            go_round
            case rel => exact ⟨_, k + 1, by omega, by omega, by omega, rfl, by go_num⟩
            case measure => simp [intOf]; omega
          · go_wp2_with fail
            go_ret
            exact SomeInt.mk _
        · go_wp2_with fail
          go_ret
          exact SomeInt.mk _
      · go_wp2_with fail
        go_ret
        exact SomeInt.mk _

/-! ### prefixSorted -/
theorem less_v (a b : List UInt8) (v : Bool) (h : decide (a < b) = v) : Op.bytesLess (strV a).toList (strV b).toList = v := by
  rw [strV_list, strV_list, bytesLess_eq]; exact h

theorem prefix_short (ao : Option Addr) (n cap k : Nat) (w : World) (hk : k ≤ 1) :
    Calls Try.prog 11 #[.slice ao n cap, .int .i64 k] w fun e w' => e = .returned (.bool true) ∧ Same w w' := by
  go_enter Try.func11, Try.ntmps11
  go_wp2_with fail
  refine wp_loop_rounds 1 ?_
  rw [rounds_succ]
  go_wp2_with fail
  go_ret
  exact ⟨rfl, Same.refl _⟩

set_option maxRecDepth 100000 in
theorem prefix_row (b off n cap k : Nat) (l : List (List UInt8)) (w : World) (hn : n ≤ 65536) (hk : 1 < k) (hkn : k ≤ n)
    (hc : ∀ j, j < n → w.cell? ⟨b, off + j, none⟩ = some (.string (strV (l.getD j [])))) :
    Calls Try.prog 11 #[.slice (some ⟨b, off, none⟩) n cap, .int .i64 k] w fun e w' => ∃ v, e = .returned (.bool v) ∧ (v = true → ∀ i, 1 ≤ i → i < k → decide (l.getD i [] < l.getD (i - 1) []) = false) ∧ Same w w' := by
  have HC : Hid (∀ j, j < n → w.cell? ⟨b, off + j, none⟩ = some (.string (strV (l.getD j [])))) := hc
  clear hc
  go_enter Try.func11, Try.ntmps11
  go_wp2_with fail
  go_loopw [5] (fun i wr => ∃ p : Nat, p + 1 ≤ k ∧ i = .int .i64 ((p : Int) + 1) ∧ (∀ i, 1 ≤ i → i < p + 1 → decide (l.getD i [] < l.getD (i - 1) []) = false) ∧ Same w wr) (fun i _ => k - (intOf i).toNat)
  case atStart => exact ⟨0, by omega, rfl, fun i h1 h2 => by omega, Same.refl _⟩
  case round =>
    obtain ⟨p, hp, rfl, hall, hsm⟩ := hrel
    have HL : Hid (∀ i, 1 ≤ i → i < p + 1 → decide (l.getD i [] < l.getD (i - 1) []) = false) := hall
    clear hall
    by_cases hlt : p + 1 < k
    · have q1 := (hsm.cell _).trans (HC.out (p + 1) (by omega))
      have q2 := (hsm.cell _).trans (HC.out p (by omega))
      cases hv : decide (l.getD (p + 1) [] < l.getD p [])
      · have hb := less_v _ _ _ hv
        have HV : Hid (decide (l.getD (p + 1) [] < l.getD (p + 1 - 1) []) = false) := hv
        generalize strV (l.getD (p + 1) []) = s1 at q1 hb
        generalize strV (l.getD p []) = s0 at q2 hb
        clear hv
        have hki : (p : Int) + 1 < (n : Int) := by omega
        have hkj : (p : Int) < (n : Int) := by omega
        go_wp2_with fail
        have hwr : IntKind.i64.wrap (p : Int) = (p : Int) := IntWalk.i64_in _ (by omega)
        go_quiet (fail)
        go_wp2_with fail
        go_roundw
        case rel => exact ⟨p + 1, by omega, by go_num, fun i h1 h2 => (by
          by_cases e : i = p + 1
          · subst e; exact HV.out
          · exact HL.out i h1 (by omega)), hsm.drewN _⟩
        case measure => simp [intOf]; omega
      · have hb := less_v _ _ _ hv
        generalize strV (l.getD (p + 1) []) = s1 at q1 hb
        generalize strV (l.getD p []) = s0 at q2 hb
        clear hv
        have hki : (p : Int) + 1 < (n : Int) := by omega
        have hkj : (p : Int) < (n : Int) := by omega
        go_wp2_with fail
        have hwr : IntKind.i64.wrap (p : Int) = (p : Int) := IntWalk.i64_in _ (by omega)
        go_quiet (fail)
        go_wp2_with fail
        go_ret
        exact ⟨false, rfl, fun h => (by cases h), hsm.drewN _⟩
    · go_wp2_with fail
      go_ret
      exact ⟨true, rfl, fun _ i h1 h2 => HL.out i h1 (by omega), hsm⟩

theorem prefix_all (ao : Option Addr) (n cap k : Nat) (l : List (List UInt8)) (w : World) (hn : n ≤ 65536) (hkn : k ≤ n) (hs : Src w ao n l) :
    Calls Try.prog 11 #[.slice ao n cap, .int .i64 k] w fun e w' => ∃ v, e = .returned (.bool v) ∧ (v = true → Ord (l.take k)) ∧ Same w w' := by
  by_cases h1 : k ≤ 1
  · refine (prefix_short ao n cap k w h1).mono ?_
    rintro e w' ⟨rfl, h⟩
    exact ⟨true, rfl, fun _ => ord_of_steps (by rw [hs.len]; exact hkn) (fun i a b => by omega), h⟩
  · obtain ⟨b, off, rfl, _, hc⟩ := hs.cells (by omega)
    refine (prefix_row b off n cap k l w hn (by omega) hkn hc).mono ?_
    rintro e w' ⟨v, rfl, h, h2⟩
    exact ⟨v, rfl, fun hv => ord_of_steps (by rw [hs.len]; exact hkn) (h hv), h2⟩

/-! ### equalStrings -/
set_option maxRecDepth 100000 in
theorem equal_all (ao bo : Option Addr) (n cap cap2 : Nat) (l : List (List UInt8)) (w : World) (hn : n ≤ 65536) (hA : Src w ao n l) (hB : Src w bo n l) :
    Calls Try.prog 15 #[.slice ao n cap, .slice bo n cap2] w fun e w' => e = .returned (.bool true) ∧ Same w w' := by
  go_enter Try.func15, Try.ntmps15
  go_wp2_with fail
  go_loopw [5] (fun i wr => ∃ k : Nat, k ≤ n ∧ i = .int .i64 k ∧ Same w wr) (fun i _ => n - (intOf i).toNat)
  case atStart => exact ⟨0, Nat.zero_le _, rfl, Same.refl _⟩
  case round =>
    obtain ⟨k, hk, rfl, hsm⟩ := hrel
    by_cases hlt : k < n
    · obtain ⟨b, off, rfl, _, hc⟩ := hA.cells (by omega)
      obtain ⟨b2, off2, rfl, _, hc2⟩ := hB.cells (by omega)
      have q1 := (hsm.cell _).trans (hc k hlt)
      have q2 := (hsm.cell _).trans (hc2 k hlt)
      generalize strV (l.getD k []) = s at q1 q2
      clear hc hc2 hA hB
      have hki : (k : Int) < (n : Int) := by omega
      go_wp2_with fail
      go_quiet (fail)
      go_wp2_with fail
      go_roundw
      case rel => exact ⟨k + 1, by omega, by go_num, hsm.drewN _⟩
      case measure => simp [intOf]; omega
    · go_wp2_with fail
      go_ret
      exact ⟨rfl, hsm⟩
end Go.Proofs.Qxb6617407a.StrWalks
