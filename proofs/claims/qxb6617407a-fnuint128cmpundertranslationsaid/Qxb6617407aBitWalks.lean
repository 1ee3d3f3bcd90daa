/-
  WALKS: bitAt (16), bitScanCmp (6), uint128.cmp (17), ZZUint128Cmp (7).
-/
import Derived.Test.Qxb6617407aProg
import Derived.Test.Qxb6617407aBits
import Derived.WalkKit
import Derived.RowKit3
import Derived.WalkSpells
import Derived.WalkLawsBesides
namespace Go.Proofs.Qxb6617407a.BitWalks
open Go.RowKit Bits

theorem and_one (x j : Nat) (h : x ≤ 18446744073709551615) : bits BinOp.and IntKind.u64 ((x : Int) / 2 ^ j) 1 = ((x / 2 ^ j % 2 : Nat) : Int) := by
  have e : (x : Int) / 2 ^ j = ((x / 2 ^ j : Nat) : Int) := by simp
  have hle : x / 2 ^ j ≤ x := Nat.div_le_self _ _
  rw [e]
  generalize x / 2 ^ j = q at hle
  rw [and_one_u64 _ (by omega) (by omega)]
  omega

theorem bit_hi (h l i : Nat) (w : World) (h1 : h ≤ 18446744073709551615) (h2 : 64 ≤ i) (h3 : i ≤ 127) :
    Calls Try.prog 16 #[.int .u64 h, .int .u64 l, .int .i64 i] w fun e w' => e = .returned (.int .u64 (bitN h l i : Nat)) ∧ w = w' := by
  have e : (bitN h l i : Nat) = h / 2 ^ (i - 64) % 2 := if_pos h2
  rw [e]
  clear e
  go_enter Try.func16, Try.ntmps16
  go_wp2_with fail
  go_ret
  refine ⟨?_, rfl⟩
  rw [← and_one h (i - 64) h1]
  rfl
theorem bit_lo (h l i : Nat) (w : World) (h1 : l ≤ 18446744073709551615) (h2 : i ≤ 63) :
    Calls Try.prog 16 #[.int .u64 h, .int .u64 l, .int .i64 i] w fun e w' => e = .returned (.int .u64 (bitN h l i : Nat)) ∧ w = w' := by
  have e : (bitN h l i : Nat) = l / 2 ^ i % 2 := if_neg (by omega)
  rw [e]
  clear e
  go_enter Try.func16, Try.ntmps16
  go_wp2_with fail
  go_ret
  refine ⟨?_, rfl⟩
  rw [← and_one l i h1]
  rfl
theorem bit_is (h l i X : Nat) (w : World) (h0 : h ≤ 18446744073709551615) (h1 : l ≤ 18446744073709551615) (h2 : i ≤ 127) (hX : bitN h l i = X) :
    Calls Try.prog 16 #[.int .u64 h, .int .u64 l, .int .i64 i] w fun e w' => e = .returned (.int .u64 (X : Nat)) ∧ w = w' := by
  subst hX
  by_cases e : 64 ≤ i
  · exact bit_hi h l i w h0 e h2
  · exact bit_lo h l i w h1 (by omega)

theorem scan_any (ah al bh bl : Nat) (w : World) (h1 : ah ≤ 18446744073709551615) (h2 : al ≤ 18446744073709551615) (h3 : bh ≤ 18446744073709551615) (h4 : bl ≤ 18446744073709551615) :
    Calls Try.prog 6 #[.int .u64 ah, .int .u64 al, .int .u64 bh, .int .u64 bl] w fun e w' => e = .returned (.int .i64 (cmpN ah al bh bl)) ∧ w = w' := by
  go_enter Try.func6, Try.ntmps6
  go_wp2_with fail
  go_loop [9] (fun i => ∃ k : Nat, k ≤ 128 ∧ i = .int .i64 ((k : Int) - 1) ∧ Agree ah al bh bl k) (fun i => (intOf i + 1).toNat)
  case atStart => exact ⟨128, Nat.le_refl _, rfl, agree_top (by omega) (by omega)⟩
  case round =>
    obtain ⟨k, hk, rfl, hag⟩ := hrel
    cases k with
    | zero =>
      have hz := agree_end hag
      have HZ : Hid (cmpN ah al bh bl = 0) := hz
      clear hz hag
      go_wp2_with fail
      go_ret
      refine ⟨?_, rfl⟩
      rw [HZ.out]
      rfl
    | succ j =>
      have ej : ((j + 1 : Nat) : Int) - 1 = (j : Int) := by omega
      have HA : Hid (Agree ah al bh bl (j + 1)) := hag
      clear hag
      rw [ej]
      clear ej
      obtain ⟨X, hX⟩ : ∃ X, bitN ah al j = X := ⟨_, rfl⟩
      obtain ⟨Y, hY⟩ : ∃ Y, bitN bh bl j = Y := ⟨_, rfl⟩
      have HX : Hid (bitN ah al j = X) := hX
      have HY : Hid (bitN bh bl j = Y) := hY
      clear hX hY
      rcases Nat.lt_trichotomy X Y with hxy | hxy | hxy
      · have hz := agree_less (by omega) (by omega) HA.out (by rw [HX.out, HY.out]; exact hxy)
        have HZ : Hid (cmpN ah al bh bl = -1) := hz
        clear hz
        go_wp2_with fail
        refine (bit_is ah al j X _ h1 h2 (by omega) HX.out).mono ?_; rintro e w' ⟨rfl, rfl⟩
        go_wp2_with fail
        refine (bit_is bh bl j Y _ h3 h4 (by omega) HY.out).mono ?_; rintro e w' ⟨rfl, rfl⟩
        go_wp2_with fail
        go_ret
        refine ⟨?_, rfl⟩
        rw [HZ.out]
        rfl
      · subst hxy
        have hag := agree_step (by omega) (by omega) HA.out (by rw [HX.out, HY.out])
        have HG : Hid (Agree ah al bh bl j) := hag
        clear hag
        go_wp2_with fail
        refine (bit_is ah al j X _ h1 h2 (by omega) HX.out).mono ?_; rintro e w' ⟨rfl, rfl⟩
        go_wp2_with fail
        refine (bit_is bh bl j X _ h3 h4 (by omega) HY.out).mono ?_; rintro e w' ⟨rfl, rfl⟩
        go_wp2_with fail
        go_round
        case rel => exact ⟨j, by omega, by go_num, HG.out⟩
        case measure => simp [intOf]
      · have hz := agree_more (by omega) (by omega) HA.out (by rw [HX.out, HY.out]; exact hxy)
        have HZ : Hid (cmpN ah al bh bl = 1) := hz
        clear hz
        go_wp2_with fail
        refine (bit_is ah al j X _ h1 h2 (by omega) HX.out).mono ?_; rintro e w' ⟨rfl, rfl⟩
        go_wp2_with fail
        refine (bit_is bh bl j Y _ h3 h4 (by omega) HY.out).mono ?_; rintro e w' ⟨rfl, rfl⟩
        go_wp2_with fail
        go_ret
        refine ⟨?_, rfl⟩
        rw [HZ.out]
        rfl

theorem grown_two {w : World} (c1 c2 : Array Value) (t1 t2 : TypeId) : Grown w ((w.alloc (.cells c1 t1)).alloc (.cells c2 t2)) := ((Grown.refl _).alloc _ _).alloc _ _

theorem cmp_any (ah al bh bl : Nat) (w : World) :
    Calls Try.prog 17 #[.agg #[.int .u64 ah, .int .u64 al], .agg #[.int .u64 bh, .int .u64 bl]] w fun e w' => e = .returned (.int .i64 (cmpN ah al bh bl)) ∧ Grown w w' := by
  by_cases h1 : ah < bh
  · have e : cmpN ah al bh bl = -1 := by unfold cmpN; rw [if_pos (.inl h1)]
    rw [e]
    clear e
    go_enter Try.func17, Try.ntmps17
    go_wp2
    go_ret
    exact ⟨rfl, grown_two _ _ _ _⟩
  · by_cases h2 : ah = bh
    · subst h2
      clear h1
      by_cases h3 : al < bl
      · have e : cmpN ah al ah bl = -1 := by unfold cmpN; rw [if_pos (.inr ⟨rfl, h3⟩)]
        rw [e]
        clear e
        go_enter Try.func17, Try.ntmps17
        go_wp2
        go_ret
        exact ⟨rfl, grown_two _ _ _ _⟩
      · by_cases h4 : al = bl
        · subst h4
          have e : cmpN ah al ah al = 0 := by unfold cmpN; rw [if_neg (by omega), if_pos ⟨rfl, rfl⟩]
          rw [e]
          clear e h3
          go_enter Try.func17, Try.ntmps17
          go_wp2
          go_ret
          exact ⟨rfl, grown_two _ _ _ _⟩
        · have e : cmpN ah al ah bl = 1 := by unfold cmpN; rw [if_neg (by omega), if_neg (by omega)]
          rw [e]
          clear e
          have h5 : ((al : Int) == (bl : Int)) = false := by simp; omega
          clear h4
          go_enter Try.func17, Try.ntmps17
          go_wp2
          go_ret
          exact ⟨rfl, grown_two _ _ _ _⟩
    · have e : cmpN ah al bh bl = 1 := by unfold cmpN; rw [if_neg (by omega), if_neg (by omega)]
      rw [e]
      clear e
      have h5 : ((ah : Int) == (bh : Int)) = false := by simp; omega
      clear h2
      go_enter Try.func17, Try.ntmps17
      go_wp2
      go_ret
      exact ⟨rfl, grown_two _ _ _ _⟩

theorem zzcmp_is (ah al bh bl : Nat) (v : Int) (w : World) (h : cmpN ah al bh bl = v) :
    Calls Try.prog 7 #[.int .u64 ah, .int .u64 al, .int .u64 bh, .int .u64 bl] w fun e w' => e = .returned (.int .i64 v) ∧ Grown w w' := by
  have H : Hid (cmpN ah al bh bl = v) := h
  clear h
  go_enter Try.func7, Try.ntmps7
  go_wp2_with fail
  refine (cmp_any ah al bh bl _).mono ?_
  rintro e w' ⟨rfl, hb⟩
  rw [H.out]
  go_wp2_with fail
  go_ret
  exact ⟨rfl, hb⟩
theorem scan_is (ah al bh bl : Nat) (v : Int) (w : World) (h1 : ah ≤ 18446744073709551615) (h2 : al ≤ 18446744073709551615) (h3 : bh ≤ 18446744073709551615) (h4 : bl ≤ 18446744073709551615) (h : cmpN ah al bh bl = v) :
    Calls Try.prog 6 #[.int .u64 ah, .int .u64 al, .int .u64 bh, .int .u64 bl] w fun e w' => e = .returned (.int .i64 v) ∧ w = w' := by
  subst h
  exact scan_any ah al bh bl w h1 h2 h3 h4
end Go.Proofs.Qxb6617407a.BitWalks
