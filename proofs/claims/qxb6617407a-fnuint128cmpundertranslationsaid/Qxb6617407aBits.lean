/-
  THE PLAIN MATHEMATICS: 128-bit numbers as two words, their order, their bits from the top. No Go in sight.
-/
import Derived.WalkKit
namespace Go.Proofs.Qxb6617407a.Bits

def bitN (h l i : Nat) : Nat := if 64 ≤ i then h / 2 ^ (i - 64) % 2 else l / 2 ^ i % 2
/-- The bits from k on agree. -/
def Agree (ah al bh bl k : Nat) : Prop := if 64 ≤ k then ah / 2 ^ (k - 64) = bh / 2 ^ (k - 64) else ah = bh ∧ al / 2 ^ k = bl / 2 ^ k
def cmpN (ah al bh bl : Nat) : Int := if ah < bh ∨ (ah = bh ∧ al < bl) then -1 else if ah = bh ∧ al = bl then 0 else 1

theorem bitN_le (h l i : Nat) : bitN h l i ≤ 1 := by unfold bitN; split <;> omega
theorem half (x j : Nat) : x / 2 ^ (j + 1) = x / 2 ^ j / 2 := by rw [Nat.pow_succ, Nat.div_div_eq_div_mul]
theorem down (x y j : Nat) (h : x / 2 ^ (j + 1) = y / 2 ^ (j + 1)) (hb : x / 2 ^ j % 2 = y / 2 ^ j % 2) : x / 2 ^ j = y / 2 ^ j := by
  rw [half, half] at h; omega
theorem lower (x y j : Nat) (h : x / 2 ^ (j + 1) = y / 2 ^ (j + 1)) (hb : x / 2 ^ j % 2 < y / 2 ^ j % 2) : x < y := by
  rw [half, half] at h
  rcases Nat.lt_or_ge x y with g | g
  · exact g
  · have := Nat.div_le_div_right (c := 2 ^ j) g
    omega

theorem top {x : Nat} (h : x < 18446744073709551616) : x / 2 ^ 64 = 0 := Nat.div_eq_of_lt (by simpa using h)
theorem agree_top {ah al bh bl : Nat} (h1 : ah < 18446744073709551616) (h2 : bh < 18446744073709551616) : Agree ah al bh bl 128 := by
  unfold Agree
  rw [if_pos (by omega), top h1, top h2]
theorem agree_low {ah al bh bl k : Nat} (h3 : al < 18446744073709551616) (h4 : bl < 18446744073709551616) (hk : k < 64) (h : Agree ah al bh bl (k + 1)) : ah = bh ∧ al / 2 ^ (k + 1) = bl / 2 ^ (k + 1) := by
  unfold Agree at h
  by_cases e : k = 63
  · subst e
    rw [if_pos (by omega)] at h
    simp at h
    exact ⟨h, by rw [top h3, top h4]⟩
  · rw [if_neg (by omega)] at h
    exact h
theorem agree_high {ah al bh bl k : Nat} (hk : 64 ≤ k) (h : Agree ah al bh bl (k + 1)) : ah / 2 ^ (k - 64 + 1) = bh / 2 ^ (k - 64 + 1) := by
  unfold Agree at h
  rw [if_pos (by omega), show k + 1 - 64 = k - 64 + 1 by omega] at h
  exact h
theorem agree_step {ah al bh bl k : Nat} (h3 : al < 18446744073709551616) (h4 : bl < 18446744073709551616) (h : Agree ah al bh bl (k + 1)) (hb : bitN ah al k = bitN bh bl k) : Agree ah al bh bl k := by
  unfold bitN at hb
  by_cases hk : 64 ≤ k
  · rw [if_pos hk, if_pos hk] at hb
    unfold Agree
    rw [if_pos hk]
    exact down _ _ _ (agree_high hk h) hb
  · rw [if_neg hk, if_neg hk] at hb
    obtain ⟨e1, e2⟩ := agree_low h3 h4 (by omega) h
    unfold Agree
    rw [if_neg hk]
    exact ⟨e1, down _ _ _ e2 hb⟩
theorem agree_less {ah al bh bl k : Nat} (h3 : al < 18446744073709551616) (h4 : bl < 18446744073709551616) (h : Agree ah al bh bl (k + 1)) (hb : bitN ah al k < bitN bh bl k) : cmpN ah al bh bl = -1 := by
  unfold bitN at hb
  unfold cmpN
  by_cases hk : 64 ≤ k
  · rw [if_pos hk, if_pos hk] at hb
    rw [if_pos (.inl (lower _ _ _ (agree_high hk h) hb))]
  · rw [if_neg hk, if_neg hk] at hb
    obtain ⟨e1, e2⟩ := agree_low h3 h4 (by omega) h
    rw [if_pos (.inr ⟨e1, lower _ _ _ e2 hb⟩)]
theorem agree_more {ah al bh bl k : Nat} (h3 : al < 18446744073709551616) (h4 : bl < 18446744073709551616) (h : Agree ah al bh bl (k + 1)) (hb : bitN bh bl k < bitN ah al k) : cmpN ah al bh bl = 1 := by
  unfold bitN at hb
  unfold cmpN
  by_cases hk : 64 ≤ k
  · rw [if_pos hk, if_pos hk] at hb
    have := lower _ _ _ (agree_high hk h).symm hb
    rw [if_neg (by omega), if_neg (by omega)]
  · rw [if_neg hk, if_neg hk] at hb
    obtain ⟨e1, e2⟩ := agree_low h3 h4 (by omega) h
    have := lower _ _ _ e2.symm hb
    rw [if_neg (by omega), if_neg (by omega)]
theorem agree_end {ah al bh bl : Nat} (h : Agree ah al bh bl 0) : cmpN ah al bh bl = 0 := by
  unfold Agree at h
  simp at h
  unfold cmpN
  rw [if_neg (by omega), if_pos h]

theorem cmp_three (ah al bh bl : Nat) : (cmpN ah al bh bl = -1 ∧ cmpN bh bl ah al = 1) ∨ (cmpN ah al bh bl = 0 ∧ cmpN bh bl ah al = 0) ∨ (cmpN ah al bh bl = 1 ∧ cmpN bh bl ah al = -1) := by
  unfold cmpN
  by_cases h1 : ah < bh ∨ (ah = bh ∧ al < bl)
  · left
    rw [if_pos h1, if_neg (by omega), if_neg (by omega)]
    exact ⟨rfl, rfl⟩
  · by_cases h2 : ah = bh ∧ al = bl
    · right; left
      rw [if_neg h1, if_pos h2, if_neg (by omega), if_pos (by omega)]
      exact ⟨rfl, rfl⟩
    · right; right
      rw [if_neg h1, if_neg h2, if_pos (by omega)]
      exact ⟨rfl, rfl⟩
end Go.Proofs.Qxb6617407a.Bits
