/-
  THE WALK of FnBeforeUpToPartition (3).
-/
import Derived.Test.Qxb6621715aSorted
import Derived.Deep.DeepCutAuto
namespace Go.Proofs.Qxb6621715a.PartWalk
open Go.RowKit Order Walks Inst Sorted

theorem info2 : (Try.prog.info? 2).map (fun i => (i.zero, i.size, i.bytes)) = some (some (.int .i64 0), 1, 8) := by kernel_rfl
theorem info21 : (Try.prog.info? 21).map (fun i => (i.zero, i.size, i.bytes)) = some (some (.int .i32 0), 1, 4) := by kernel_rfl
theorem size2 : (Try.prog.info? 2).map (·.size) = some 1 := by kernel_rfl
theorem size21 : (Try.prog.info? 21).map (·.size) = some 1 := by kernel_rfl

set_option maxRecDepth 100000 in
set_option maxHeartbeats 1000000 in
theorem walk (a0 a1 : Option Addr) (n cap m cap1 : Nat) (la lb : List Int) (x y : Int) (w : World) (hnm : n ≤ maxLen) (hmm : m ≤ maxLen) (hA : Src .i64 w a0 n la) (hB : Src .i32 w a1 m lb) :
    Calls Try.prog 3 #[.slice a0 n cap, .slice a1 m cap1, .int .i64 x, .int .i32 y] w fun e w' => e = .returned (.bool true) ∧ Below w.heap.size w w' := by
  by_cases hb : n + m ≤ 1048576
  · by_cases hn : n ≤ 65536
    · by_cases hm : m ≤ 65536
      · clear hnm hmm
        have hq0 := fun (w : World) => run_neq_slice_nil_any (P := Try.prog) w 22 2 a0 n cap 0 0 Try.underlying22
        have hq1 := fun (w : World) => run_neq_slice_nil_any (P := Try.prog) w 23 21 a1 n cap1 0 0 Try.underlying23
        go_enter Try.func3, Try.ntmps3
        go_wp2_with fail
        refine (bytesP_yes _ _ _ _ _ _ _ _ _ hb).mono ?_; rintro e w' ⟨rfl, rfl⟩
        go_wp2_with fail
        refine (sorted_all a0 a1 n m cap cap1 la lb _ hn hA hB).mono ?_
        rintro e w1 ⟨v, rfl, hs, hsm⟩
        cases v with
        | false =>
          go_wp2_with fail
          go_ret
          exact ⟨rfl, hsm.below (Below.refl _ _)⟩
        | true =>
          obtain ⟨rfl, hso⟩ := hs rfl
          clear hs
          have bel1 : Below w.heap.size w w1 := hsm.below (Below.refl _ _)
          have sA := hA.below bel1
          have sB := hB.below bel1
          clear hA hB hsm
          go_upto_if 34 with fail
          go_cut [0] (fun s0 wx => ∃ ao cp, s0 = .slice ao m cp ∧ Src .i64 wx ao m la ∧ Src .i32 wx a1 m lb ∧ Below w.heap.size w wx)
          case first =>
            cases a0 with
            | none =>
              go_wp2_with fail
              go_meet
              case rel => exact ⟨none, cap, rfl, sA, sB, bel1⟩
            | some xa =>
              obtain ⟨i0, hi, hz0, hz1, hz2⟩ := info_parts info2
              go_wp2_with (at_make; refine wpList_make_full _ rfl _ _ 22 rfl w1.heap.size 2 i0 (.int .i64 0) 1 Try.underlying22 hi hz0 hz1 _ _ _ _ m rfl rfl rfl rfl ?b2 ?b3 (Nat.le_refl _) ?_)
              case b2 => rw [hz2]; omega
              case b3 => unfold maxLen; omega
              intro w2 hown2 hgr2
              have bel2 : Below w1.heap.size w1 w2 := (Below.refl _ _).grown hgr2 (Nat.le_refl _) (fun k h => by cases h)
              have bel2' : Below w.heap.size w w2 := bel1.trans (bel2.mono bel1.size)
              clear hgr2 hz0 hz1 hz2 hi
              go_wp2_with (refine wpList_copy_new rfl (.tmp 38) (.tmp 39) 22 22 rfl 2 Try.underlying22 size2 .i64 w1.heap.size m cap (some xa) la rfl rfl w1.heap.size _ hown2 (sA.below bel2) w1.heap.size w1 bel2 (Nat.le_refl _) ?_)
              intro w3 src3 bel3 hsz3
              go_wp2_with fail
              go_meet
              case rel => exact ⟨_, _, rfl, src3, sB.below bel3, bel1.trans (bel3.mono bel1.size)⟩
          case rest =>
            obtain ⟨ao, cp, rfl, sA2, sB2, bel2⟩ := hcut
            clear sA sB bel1
            go_upto_if 43 with fail
            go_cut [1] (fun s1 wx => ∃ bo cq, s1 = .slice bo m cq ∧ Src .i64 wx ao m la ∧ Src .i32 wx bo m lb ∧ Below w.heap.size w wx)
            case first =>
              cases a1 with
              | none =>
                go_wp2_with fail
                go_meet
                case rel => exact ⟨none, cap1, rfl, sA2, sB2, bel2⟩
              | some xa =>
                obtain ⟨i0, hi, hz0, hz1, hz2⟩ := info_parts info21
                go_wp2_with (at_make; refine wpList_make_full _ rfl _ _ 23 rfl wc.heap.size 21 i0 (.int .i32 0) 1 Try.underlying23 hi hz0 hz1 _ _ _ _ m rfl rfl rfl rfl ?b2 ?b3 (Nat.le_refl _) ?_)
                case b2 => rw [hz2]; omega
                case b3 => unfold maxLen; omega
                intro w2 hown2 hgr2
                have bel3 : Below wc.heap.size wc w2 := (Below.refl _ _).grown hgr2 (Nat.le_refl _) (fun k h => by cases h)
                clear hgr2 hz0 hz1 hz2 hi
                go_wp2_with (refine wpList_copy_new rfl (.tmp 47) (.tmp 48) 23 23 rfl 21 Try.underlying23 size21 .i32 wc.heap.size m cap1 (some xa) lb rfl rfl wc.heap.size _ hown2 (sB2.below bel3) wc.heap.size wc bel3 (Nat.le_refl _) ?_)
                intro w3 src3 bel4 hsz3
                go_wp2_with fail
                go_meet
                case rel => exact ⟨_, _, rfl, sA2.below bel4, src3, bel2.trans (bel4.mono bel2.size)⟩
            case rest =>
              obtain ⟨bo, cq, rfl, sA3, sB3, bel3⟩ := hcut
              clear sA2 sB2 bel2 hq0 hq1
              go_wp2_with fail
              refine (zzBefore_all ao bo m cp cq la lb x y _ hn sA3 sB3 (pre_falls hso x y)).mono ?_
              rintro e w4 ⟨rb, rfl, hbB, bel4⟩
              have sA4 := sA3.below bel4
              have sB4 := sB3.below bel4
              go_wp2_with fail
              refine (zzUpTo_all ao bo m cp cq la lb x y _ hn sA4 sB4 (upto_falls hso x y)).mono ?_
              rintro e w5 ⟨ru, rfl, hbU, bel5⟩
              have sA5 := sA4.below bel5
              have sB5 := sB4.below bel5
              have belw : Below w.heap.size w w5 := (bel3.trans (bel4.mono bel3.size)).trans (bel5.mono (Nat.le_trans bel3.size bel4.size))
              clear sA4 sB4 sA3 sB3 bel3 bel4 bel5 hso
              have hbu : rb ≤ ru := hbB.mono hbU (fun i _ h => pre_upto _ _ _ _ _ h)
              have hun : ru ≤ m := hbU.le
              have HB : Hid (Bound (pre (fun j => la.getD j 0) (fun j => lb.getD j 0) x y) m rb) := hbB
              have HU : Hid (Bound (upto (fun j => la.getD j 0) (fun j => lb.getD j 0) x y) m ru) := hbU
              clear hbB hbU
              go_wp2_with fail
              go_loopw [14] (fun i wr => ∃ k : Nat, k ≤ m ∧ i = .int .i64 k ∧ Same w5 wr) (fun i _ => m - (intOf i).toNat)
              case atStart => exact ⟨0, Nat.zero_le _, rfl, Same.refl _⟩
              case round =>
                obtain ⟨k, hk, rfl, hsm⟩ := hrel
                by_cases hlt : k < m
                · obtain ⟨b, off, rfl, _, hca⟩ := sA5.cells (by omega)
                  obtain ⟨b2, off2, rfl, _, hcb⟩ := sB5.cells (by omega)
                  have q1 := (hsm.cell _).trans (hca k hlt)
                  have q2 := (hsm.cell _).trans (hcb k hlt)
                  have hki : (k : Int) < (m : Int) := by omega
                  have cases3 : (k < rb ∧ lessB (la.getD k 0) (lb.getD k 0) x y = true ∧ lessB x y (la.getD k 0) (lb.getD k 0) = false) ∨
                      (¬ k < rb ∧ k < ru ∧ lessB (la.getD k 0) (lb.getD k 0) x y = false ∧ lessB x y (la.getD k 0) (lb.getD k 0) = false) ∨
                      (¬ k < rb ∧ ¬ k < ru ∧ lessB (la.getD k 0) (lb.getD k 0) x y = false ∧ lessB x y (la.getD k 0) (lb.getD k 0) = true) := by
                    by_cases h1 : k < rb
                    · have := HB.out.yes k h1
                      exact .inl ⟨h1, this, lessB_asymm this⟩
                    · by_cases h2 : k < ru
                      · have e1 := HB.out.no k (by omega) hlt
                        have e2 := HU.out.yes k h2
                        exact .inr (.inl ⟨h1, h2, e1, by simpa [upto] using e2⟩)
                      · have e1 := HB.out.no k (by omega) hlt
                        have e2 := HU.out.no k (by omega) hlt
                        exact .inr (.inr ⟨h1, h2, e1, by simpa [upto] using e2⟩)
                  generalize la.getD k 0 = c at q1 cases3
                  generalize lb.getD k 0 = d at q2 cases3
                  clear hca hcb sA5 sB5
                  rcases cases3 with ⟨g1, e1, e2⟩ | ⟨g1, g2, e1, e2⟩ | ⟨g1, g2, e1, e2⟩
                  · go_wp2_with fail
                    go_quiet ((go_at_call 9; exact Calls.quiet_of_same (less_is _ _ _ _ true _ e1)))
                    go_wp2_with fail
                    have hsm2 := hsm.drewN nq
                    have q3 := (hsm2.cell _).trans ((hsm.cell _).symm.trans q1)
                    have q4 := (hsm2.cell _).trans ((hsm.cell _).symm.trans q2)
                    generalize wr.drewN nq = wr2 at hsm2 q3 q4 ⊢
                    clear q1 q2
                    go_quiet ((go_at_call 9; exact Calls.quiet_of_same (less_is _ _ _ _ false _ e2)))
                    go_wp2_with fail
                    go_roundw
                    case rel => exact ⟨k + 1, by omega, by go_num, hsm2.drewN _⟩
                    case measure => simp [intOf]; omega
                  · go_wp2_with fail
                    go_quiet ((go_at_call 9; exact Calls.quiet_of_same (less_is _ _ _ _ false _ e1)))
                    go_wp2_with fail
                    have hsm2 := hsm.drewN nq
                    have q3 := (hsm2.cell _).trans ((hsm.cell _).symm.trans q1)
                    have q4 := (hsm2.cell _).trans ((hsm.cell _).symm.trans q2)
                    generalize wr.drewN nq = wr2 at hsm2 q3 q4 ⊢
                    clear q1 q2
                    go_quiet ((go_at_call 9; exact Calls.quiet_of_same (less_is _ _ _ _ false _ e2)))
                    go_wp2_with fail
                    go_roundw
                    case rel => exact ⟨k + 1, by omega, by go_num, hsm2.drewN _⟩
                    case measure => simp [intOf]; omega
                  · go_wp2_with fail
                    go_quiet ((go_at_call 9; exact Calls.quiet_of_same (less_is _ _ _ _ false _ e1)))
                    go_wp2_with fail
                    have hsm2 := hsm.drewN nq
                    have q3 := (hsm2.cell _).trans ((hsm.cell _).symm.trans q1)
                    have q4 := (hsm2.cell _).trans ((hsm.cell _).symm.trans q2)
                    generalize wr.drewN nq = wr2 at hsm2 q3 q4 ⊢
                    clear q1 q2
                    go_quiet ((go_at_call 9; exact Calls.quiet_of_same (less_is _ _ _ _ true _ e2)))
                    go_wp2_with fail
                    go_roundw
                    case rel => exact ⟨k + 1, by omega, by go_num, hsm2.drewN _⟩
                    case measure => simp [intOf]; omega
                · go_wp2_with fail
                  go_ret
                  exact ⟨rfl, hsm.below belw⟩
      · unfold maxLen at hnm hmm
        go_enter Try.func3, Try.ntmps3
        go_wp2_with fail
        refine (bytesP_yes _ _ _ _ _ _ _ _ _ hb).mono ?_; rintro e w' ⟨rfl, rfl⟩
        go_wp2_with fail
        go_ret
        exact ⟨rfl, Below.refl _ _⟩
    · unfold maxLen at hnm hmm
      go_enter Try.func3, Try.ntmps3
      go_wp2_with fail
      refine (bytesP_yes _ _ _ _ _ _ _ _ _ hb).mono ?_; rintro e w' ⟨rfl, rfl⟩
      go_wp2_with fail
      go_ret
      exact ⟨rfl, Below.refl _ _⟩
  · go_enter Try.func3, Try.ntmps3
    go_wp2_with fail
    refine (bytesP_no _ _ _ _ _ _ _ _ _ hnm hmm hb).mono ?_; rintro e w' ⟨rfl, rfl⟩
    go_wp2_with fail
    go_ret
    exact ⟨rfl, Below.refl _ _⟩
end Go.Proofs.Qxb6621715a.PartWalk
