/-
  WALK: add128 (8).
-/
import Derived.Test.Qxb6617407aProg
import Derived.WalkKit
import Derived.WalkSpells
namespace Go.Proofs.Qxb6617407a.AddWalks
open Go.RowKit

theorem wrap_nat (x : Nat) : IntKind.u64.wrap (x : Int) = ((x % 18446744073709551616 : Nat) : Int) := by
  simp only [IntKind.wrap, IntKind.bits, IntKind.signed]
  simp

theorem wrap_succ (t : Nat) : IntKind.u64.wrap ((t : Int) + 1) = (((t + 1) % 18446744073709551616 : Nat) : Int) := by
  have h := wrap_nat (t + 1)
  rw [Int.natCast_add] at h
  exact h

theorem add_carry (h l kh kl r t u : Nat) (w : World) (hc : r < l) (hw1 : IntKind.u64.wrap ((l : Int) + (kl : Int)) = (r : Int)) (hw2 : IntKind.u64.wrap ((h : Int) + (kh : Int)) = (t : Int))
    (hw3 : IntKind.u64.wrap ((t : Int) + 1) = (u : Int)) :
    Calls Try.prog 8 #[.int .u64 h, .int .u64 l, .int .u64 kh, .int .u64 kl] w fun e w' => e = .returned (.tuple #[.int .u64 u, .int .u64 r, .bool (decide (t < h) || decide (u < t))]) ∧ w = w' := by
  by_cases h5 : t < h
  · have e : (decide (t < h) || decide (u < t)) = true := by simp [h5]
    rw [e]
    clear e
    go_enter Try.func8, Try.ntmps8
    go_wp2_with fail
    go_ret3
    exact ⟨rfl, rfl⟩
  · by_cases h6 : u < t
    · have e : (decide (t < h) || decide (u < t)) = true := by simp [h6]
      rw [e]
      clear e
      go_enter Try.func8, Try.ntmps8
      go_wp2_with fail
      go_ret3
      exact ⟨rfl, rfl⟩
    · have e : (decide (t < h) || decide (u < t)) = false := by simp; omega
      rw [e]
      clear e
      go_enter Try.func8, Try.ntmps8
      go_wp2_with fail
      go_ret3
      exact ⟨rfl, rfl⟩
theorem add_plain (h l kh kl r t : Nat) (w : World) (ht : t ≤ 18446744073709551615) (hc : ¬ r < l) (hw1 : IntKind.u64.wrap ((l : Int) + (kl : Int)) = (r : Int)) (hw2 : IntKind.u64.wrap ((h : Int) + (kh : Int)) = (t : Int)) :
    Calls Try.prog 8 #[.int .u64 h, .int .u64 l, .int .u64 kh, .int .u64 kl] w fun e w' => e = .returned (.tuple #[.int .u64 t, .int .u64 r, .bool (decide (t < h))]) ∧ w = w' := by
  by_cases h5 : t < h
  · have e : (decide (t < h)) = true := by simp [h5]
    rw [e]
    clear e
    go_enter Try.func8, Try.ntmps8
    go_wp2_with fail
    go_ret3
    exact ⟨rfl, rfl⟩
  · have e : (decide (t < h)) = false := by simp; omega
    rw [e]
    clear e
    go_enter Try.func8, Try.ntmps8
    go_wp2_with fail
    go_ret3
    exact ⟨rfl, rfl⟩

/-- add128: the sum modulo 2^128, and whether it wrapped. -/
theorem add_any (h l kh kl : Nat) (w : World) (h1 : h ≤ 18446744073709551615) (h2 : l ≤ 18446744073709551615) (h3 : kh ≤ 18446744073709551615) (h4 : kl ≤ 18446744073709551615) :
    Calls Try.prog 8 #[.int .u64 h, .int .u64 l, .int .u64 kh, .int .u64 kl] w fun e w' => ∃ (rh rl : Nat) (v : Bool), e = .returned (.tuple #[.int .u64 rh, .int .u64 rl, .bool v]) ∧
      rh ≤ 18446744073709551615 ∧ rl ≤ 18446744073709551615 ∧ (h + kh) * 18446744073709551616 + (l + kl) = rh * 18446744073709551616 + rl + (if v then 340282366920938463463374607431768211456 else 0) ∧ w = w' := by
  have e1 : IntKind.u64.wrap ((l : Int) + (kl : Int)) = (((l + kl) % 18446744073709551616 : Nat) : Int) := by rw [← wrap_nat]; simp
  have e2 : IntKind.u64.wrap ((h : Int) + (kh : Int)) = (((h + kh) % 18446744073709551616 : Nat) : Int) := by rw [← wrap_nat]; simp
  have q1 : (l + kl) % 18446744073709551616 < l ↔ 18446744073709551616 ≤ l + kl := by omega
  have q2 : (h + kh) % 18446744073709551616 < h ↔ 18446744073709551616 ≤ h + kh := by omega
  by_cases hc : (l + kl) % 18446744073709551616 < l
  · have e3 : IntKind.u64.wrap ((((h + kh) % 18446744073709551616 : Nat) : Int) + 1) = ((((h + kh) % 18446744073709551616 + 1) % 18446744073709551616 : Nat) : Int) := wrap_succ _
    refine (add_carry h l kh kl _ _ _ w hc e1 e2 e3).mono ?_
    rintro e w' ⟨rfl, rfl⟩
    refine ⟨_, _, _, rfl, by omega, by omega, ?_, rfl⟩
    have hcc := q1.1 hc
    by_cases g1 : (h + kh) % 18446744073709551616 < h
    · have := q2.1 g1
      simp only [g1, decide_true, Bool.true_or, if_true]
      omega
    · by_cases g2 : ((h + kh) % 18446744073709551616 + 1) % 18446744073709551616 < (h + kh) % 18446744073709551616
      · simp only [g2, decide_true, Bool.or_true, if_true]
        omega
      · simp only [g1, g2, decide_false, Bool.or_self, Bool.false_eq_true, if_false]
        omega
  · refine (add_plain h l kh kl _ _ w (by omega) hc e1 e2).mono ?_
    rintro e w' ⟨rfl, rfl⟩
    refine ⟨_, _, _, rfl, by omega, by omega, ?_, rfl⟩
    by_cases g1 : (h + kh) % 18446744073709551616 < h
    · have := q2.1 g1
      simp only [g1, decide_true, if_true]
      omega
    · simp only [g1, decide_false, Bool.false_eq_true, if_false]
      omega
end Go.Proofs.Qxb6617407a.AddWalks
