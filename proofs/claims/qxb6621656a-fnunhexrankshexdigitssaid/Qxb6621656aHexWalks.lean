/-
  WALKS of the small functions on the road of FnUnhexRanksHexDigits: isHexDigit (11), ZZunhex (12), unhex (15), foldHex (13).
-/
import Derived.Test.Qxb6621656aProg
import Derived.WalkKit
namespace Go.Proofs.Qxb6621656a.Hex
open Go.RowKit

/-- The plain functions. -/
def hexB (c : Int) : Bool := decide ((48 ≤ c ∧ c ≤ 57) ∨ (97 ≤ c ∧ c ≤ 102) ∨ (65 ≤ c ∧ c ≤ 70))
def unh (c : Int) : Int := if c ≤ 57 then c - 48 else if c ≤ 70 then c - 65 + 10 else c - 97 + 10
def fold (c : Int) : Int := if 65 ≤ c ∧ c ≤ 70 then c + 32 else c

theorem isHex_yes (c : Int) (w : World) (h : hexB c = true) :
    Calls Try.prog 11 #[.int .u8 c] w fun e w' => e = .returned (.bool true) ∧ w = w' := by
  have h' : (48 ≤ c ∧ c ≤ 57) ∨ (97 ≤ c ∧ c ≤ 102) ∨ (65 ≤ c ∧ c ≤ 70) := of_decide_eq_true h
  clear h
  rcases h' with ⟨h1, h2⟩ | ⟨h1, h2⟩ | ⟨h1, h2⟩
  all_goals
    go_enter Try.func11, Try.ntmps11
    go_wp2
    go_ret
    exact ⟨rfl, rfl⟩

theorem isHex_no (c : Int) (w : World) (h : hexB c = false) :
    Calls Try.prog 11 #[.int .u8 c] w fun e w' => e = .returned (.bool false) ∧ w = w' := by
  have h' : ¬ ((48 ≤ c ∧ c ≤ 57) ∨ (97 ≤ c ∧ c ≤ 102) ∨ (65 ≤ c ∧ c ≤ 70)) := of_decide_eq_false h
  clear h
  have h'' : c < 48 ∨ (57 < c ∧ c < 65) ∨ (70 < c ∧ c < 97) ∨ 102 < c := by omega
  clear h'
  rcases h'' with h1 | ⟨h1, h2⟩ | ⟨h1, h2⟩ | h1
  all_goals
    go_enter Try.func11, Try.ntmps11
    go_wp2
    go_ret
    refine ⟨?_, rfl⟩
    first | rfl | (simp; omega)

theorem unhex_any (c : Int) (w : World) (h : hexB c = true) :
    Calls Try.prog 12 #[.int .u8 c] w fun e w' => e = .returned (.int .u8 (unh c)) ∧ w = w' := by
  have h' : (48 ≤ c ∧ c ≤ 57) ∨ (65 ≤ c ∧ c ≤ 70) ∨ (97 ≤ c ∧ c ≤ 102) := by have := of_decide_eq_true h; omega
  clear h
  rcases h' with ⟨h1, h2⟩ | ⟨h1, h2⟩ | ⟨h1, h2⟩
  · have e : unh c = c - 48 := by unfold unh; rw [if_pos h2]
    rw [e]
    clear e
    go_enter Try.func12, Try.ntmps12
    go_wp2
    go_ret
    exact ⟨rfl, rfl⟩
  · have e : unh c = c - 65 + 10 := by unfold unh; rw [if_neg (by omega), if_pos h2]
    rw [e]
    clear e
    go_enter Try.func12, Try.ntmps12
    go_wp2
    go_ret
    exact ⟨rfl, rfl⟩
  · have e : unh c = c - 97 + 10 := by unfold unh; rw [if_neg (by omega), if_neg (by omega)]
    rw [e]
    clear e
    go_enter Try.func12, Try.ntmps12
    go_wp2
    go_ret
    exact ⟨rfl, rfl⟩

theorem fold_any (c : Int) (w : World) (h : hexB c = true) :
    Calls Try.prog 13 #[.int .u8 c] w fun e w' => e = .returned (.int .u8 (fold c)) ∧ w = w' := by
  have h' : (48 ≤ c ∧ c ≤ 57) ∨ (65 ≤ c ∧ c ≤ 70) ∨ (97 ≤ c ∧ c ≤ 102) := by have := of_decide_eq_true h; omega
  clear h
  rcases h' with ⟨h1, h2⟩ | ⟨h1, h2⟩ | ⟨h1, h2⟩
  · have e : fold c = c := by unfold fold; rw [if_neg (by omega)]
    rw [e]
    clear e
    go_enter Try.func13, Try.ntmps13
    go_wp2
    go_ret
    exact ⟨rfl, rfl⟩
  · have e : fold c = c + 32 := by unfold fold; rw [if_pos ⟨h1, h2⟩]
    rw [e]
    clear e
    go_enter Try.func13, Try.ntmps13
    go_wp2
    go_ret
    exact ⟨rfl, rfl⟩
  · have e : fold c = c := by unfold fold; rw [if_neg (by omega)]
    rw [e]
    clear e
    go_enter Try.func13, Try.ntmps13
    go_wp2
    go_ret
    exact ⟨rfl, rfl⟩

/-! THE PLAIN LAWS -/
theorem unh_lo (c : Int) (h : hexB c = true) : 0 ≤ unh c ∧ unh c < 16 := by
  have := of_decide_eq_true h
  unfold unh
  split
  · omega
  · split <;> omega

theorem same_iff (c d : Int) (hc : hexB c = true) (hd : hexB d = true) : (unh c = unh d ↔ fold c = fold d) ∧ (unh c < unh d ↔ fold c < fold d) := by
  have h1 := of_decide_eq_true hc
  have h2 := of_decide_eq_true hd
  unfold unh fold
  constructor <;> (split <;> split <;> (try split) <;> (try split) <;> (try split) <;> (try split) <;> omega)
end Go.Proofs.Qxb6621656a.Hex
