/-
  THE WALK of FnUint128CmpUnderTranslation (4).
-/
import Derived.Test.Qxb6617407aScanWalk
import Derived.Test.Qxb6617407aAddWalks
namespace Go.Proofs.Qxb6617407a.ShiftWalk
open Go.RowKit Bits BitWalks ScanWalk AddWalks

/-! ### THE PLAIN LAW -/
theorem cmp_lt {ah al bh bl : Nat} (h : ah * 18446744073709551616 + al < bh * 18446744073709551616 + bl) (h1 : al ≤ 18446744073709551615) (h2 : bl ≤ 18446744073709551615) : cmpN ah al bh bl = -1 := by
  unfold cmpN; rw [if_pos (by omega)]
theorem cmp_eq {ah al bh bl : Nat} (h : ah * 18446744073709551616 + al = bh * 18446744073709551616 + bl) (h1 : al ≤ 18446744073709551615) (h2 : bl ≤ 18446744073709551615) : cmpN ah al bh bl = 0 := by
  unfold cmpN; rw [if_neg (by omega), if_pos (by omega)]
theorem cmp_gt {ah al bh bl : Nat} (h : bh * 18446744073709551616 + bl < ah * 18446744073709551616 + al) (h1 : al ≤ 18446744073709551615) (h2 : bl ≤ 18446744073709551615) : cmpN ah al bh bl = 1 := by
  unfold cmpN; rw [if_neg (by omega), if_neg (by omega)]
theorem shift_abs (A B K S T N : Nat) (v u : Bool) (hA : A < N) (hB : B < N) (hS : S < N) (hT : T < N) (hs : A + K = S + (if v then N else 0)) (ht : B + K = T + (if u then N else 0)) :
    (A < B → if v = u then S < T else T < S) ∧ (A = B → v = u ∧ S = T) ∧ (B < A → if v = u then T < S else S < T) := by
  cases v <;> cases u <;> simp at hs ht ⊢ <;> omega
theorem split2 (h l kh kl M : Nat) : (h + kh) * M + (l + kl) = (h * M + l) + (kh * M + kl) := by rw [Nat.add_mul]; omega
theorem word2 {h l : Nat} (h1 : h ≤ 18446744073709551615) (h2 : l ≤ 18446744073709551615) : h * 18446744073709551616 + l < 340282366920938463463374607431768211456 := by omega
theorem shift (ah al bh bl kh kl sh sl th tl : Nat) (v u : Bool) (a1 : ah ≤ 18446744073709551615) (a2 : al ≤ 18446744073709551615) (b1 : bh ≤ 18446744073709551615) (b2 : bl ≤ 18446744073709551615)
    (s1 : sh ≤ 18446744073709551615) (s2 : sl ≤ 18446744073709551615) (t1 : th ≤ 18446744073709551615) (t2 : tl ≤ 18446744073709551615)
    (hs : (ah + kh) * 18446744073709551616 + (al + kl) = sh * 18446744073709551616 + sl + (if v then 340282366920938463463374607431768211456 else 0))
    (ht : (bh + kh) * 18446744073709551616 + (bl + kl) = th * 18446744073709551616 + tl + (if u then 340282366920938463463374607431768211456 else 0)) :
    cmpN sh sl th tl = if v = u then cmpN ah al bh bl else - cmpN ah al bh bl := by
  rw [split2] at hs ht
  obtain ⟨c1, c2, c3⟩ := shift_abs _ _ _ _ _ _ v u (word2 a1 a2) (word2 b1 b2) (word2 s1 s2) (word2 t1 t2) hs ht
  rcases Nat.lt_trichotomy (ah * 18446744073709551616 + al) (bh * 18446744073709551616 + bl) with h | h | h
  · have q := c1 h
    rw [cmp_lt h a2 b2]
    by_cases e : v = u
    · rw [if_pos e] at q ⊢; exact cmp_lt q s2 t2
    · rw [if_neg e] at q ⊢; exact cmp_gt q s2 t2
  · obtain ⟨e, q⟩ := c2 h
    rw [cmp_eq h a2 b2, if_pos e]
    exact cmp_eq q s2 t2
  · have q := c3 h
    rw [cmp_gt h a2 b2]
    by_cases e : v = u
    · rw [if_pos e] at q ⊢; exact cmp_gt q s2 t2
    · rw [if_neg e] at q ⊢; exact cmp_lt q s2 t2

set_option maxRecDepth 100000 in
theorem walk (ah al bh bl kh kl : Nat) (w : World) (h1 : ah ≤ 18446744073709551615) (h2 : al ≤ 18446744073709551615) (h3 : bh ≤ 18446744073709551615) (h4 : bl ≤ 18446744073709551615) (h5 : kh ≤ 18446744073709551615) (h6 : kl ≤ 18446744073709551615) :
    Calls Try.prog 4 #[.int .u64 ah, .int .u64 al, .int .u64 bh, .int .u64 bl, .int .u64 kh, .int .u64 kl] w fun e w' => e = .returned (.bool true) ∧ Grown w w' := by
  rcases cmp_three ah al bh bl with ⟨e1, _⟩ | ⟨e1, _⟩ | ⟨e1, _⟩
  all_goals
    have E1 : Hid _ := e1
    clear e1
    go_enter Try.func4, Try.ntmps4
    go_wp2_with fail
    refine (scan_is ah al bh bl _ _ h1 h2 h3 h4 E1.out).mono ?_; rintro e w' ⟨rfl, rfl⟩
    go_wp2_with fail
    refine (zzcmp_is ah al bh bl _ _ E1.out).mono ?_; rintro e w1 ⟨rfl, g1⟩
    go_wp2_with fail
    refine (add_any ah al kh kl _ h1 h2 h5 h6).mono ?_; rintro e w' ⟨sh, sl, v, rfl, s1, s2, hs, rfl⟩
    have HS : Hid _ := hs
    clear hs
    go_wp2_with fail
    refine (add_any bh bl kh kl _ h3 h4 h5 h6).mono ?_; rintro e w' ⟨th, tl, u, rfl, t1, t2, ht, rfl⟩
    have HT := shift ah al bh bl kh kl sh sl th tl v u h1 h2 h3 h4 s1 s2 t1 t2 HS.out ht
    rw [E1.out] at HT
    have HC : Hid _ := HT
    clear ht HS HT
    cases v <;> cases u
    all_goals
      go_wp2_with fail
      refine (zzcmp_is sh sl th tl _ _ HC.out).mono ?_; rintro e w2 ⟨rfl, g2⟩
      go_wp2_with fail
      go_ret
      exact ⟨rfl, grown_trans g1 g2⟩
end Go.Proofs.Qxb6617407a.ShiftWalk
