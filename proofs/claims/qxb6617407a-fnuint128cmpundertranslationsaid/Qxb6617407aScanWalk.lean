/-
  THE WALK of FnUint128CmpMatchesBitScanBothWays (3).
-/
import Derived.Test.Qxb6617407aBitWalks
namespace Go.Proofs.Qxb6617407a.ScanWalk
open Go.RowKit Bits BitWalks

theorem grown_trans {a b c : World} (h : Grown a b) (k : Grown b c) : Grown a c := by
  refine ⟨World.keptBut_trans h.1 (World.keptBut_mono (fun _ f => f.elim) k.1), fun x => (k.2.1 x).trans (h.2.1 x), Nat.le_trans h.2.2 k.2.2⟩

theorem walk (ah al bh bl : Nat) (w : World) (h1 : ah ≤ 18446744073709551615) (h2 : al ≤ 18446744073709551615) (h3 : bh ≤ 18446744073709551615) (h4 : bl ≤ 18446744073709551615) :
    Calls Try.prog 3 #[.int .u64 ah, .int .u64 al, .int .u64 bh, .int .u64 bl] w fun e w' => e = .returned (.bool true) ∧ Grown w w' := by
  rcases cmp_three ah al bh bl with ⟨e1, e2⟩ | ⟨e1, e2⟩ | ⟨e1, e2⟩
  all_goals
    have E1 : Hid _ := e1
    have E2 : Hid _ := e2
    clear e1 e2
    go_enter Try.func3, Try.ntmps3
    go_wp2_with fail
    refine (scan_is ah al bh bl _ _ h1 h2 h3 h4 E1.out).mono ?_; rintro e w' ⟨rfl, rfl⟩
    go_wp2_with fail
    refine (zzcmp_is ah al bh bl _ _ E1.out).mono ?_; rintro e w1 ⟨rfl, g1⟩
    go_wp2_with fail
    refine (zzcmp_is bh bl ah al _ _ E2.out).mono ?_; rintro e w2 ⟨rfl, g2⟩
    go_wp2_with fail
    go_ret
    exact ⟨rfl, grown_trans g1 g2⟩
end Go.Proofs.Qxb6617407a.ScanWalk
