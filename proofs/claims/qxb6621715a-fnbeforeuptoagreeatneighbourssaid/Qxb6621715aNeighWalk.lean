/-
  THE WALK of FnBeforeUpToAgreeAtNeighbours (4).
-/
import Derived.Test.Qxb6621715aSorted
import Derived.Deep.DeepCutAuto
namespace Go.Proofs.Qxb6621715a.NeighWalk
open Go.RowKit Order Walks Inst Sorted

theorem info2 : (Try.prog.info? 2).map (fun i => (i.zero, i.size, i.bytes)) = some (some (.int .i64 0), 1, 8) := by kernel_rfl
theorem info21 : (Try.prog.info? 21).map (fun i => (i.zero, i.size, i.bytes)) = some (some (.int .i32 0), 1, 4) := by kernel_rfl
theorem size2 : (Try.prog.info? 2).map (·.size) = some 1 := by kernel_rfl
theorem size21 : (Try.prog.info? 21).map (·.size) = some 1 := by kernel_rfl


/-- What one round does to the two counts. -/
theorem cnt_step (p : Nat → Bool) (k : Nat) : cnt p (k + 1) = cnt p k + (if p k then 1 else 0) := rfl

set_option maxRecDepth 100000 in
set_option maxHeartbeats 1000000 in
theorem walk (a0 a1 : Option Addr) (n cap m cap1 : Nat) (la lb : List Int) (x y : Int) (w : World) (hnm : n ≤ maxLen) (hmm : m ≤ maxLen) (hA : Src .i64 w a0 n la) (hB : Src .i32 w a1 m lb)
    (hx : -9223372036854775808 ≤ x ∧ x ≤ 9223372036854775807) (hy : -2147483648 ≤ y ∧ y ≤ 2147483647) (hra : ∀ j, j < n → -9223372036854775808 ≤ la.getD j 0 ∧ la.getD j 0 ≤ 9223372036854775807) (hrb : ∀ j, j < m → -2147483648 ≤ lb.getD j 0 ∧ lb.getD j 0 ≤ 2147483647) :
    Calls Try.prog 4 #[.slice a0 n cap, .slice a1 m cap1, .int .i64 x, .int .i32 y] w fun e w' => e = .returned (.bool true) ∧ Below w.heap.size w w' := by
  by_cases hb : n + m ≤ 1048576
  · by_cases hn : n ≤ 65536
    · by_cases hm : m ≤ 65536
      · clear hnm hmm
        have HRA : Hid (∀ j, j < n → -9223372036854775808 ≤ la.getD j 0 ∧ la.getD j 0 ≤ 9223372036854775807) := hra
        have HRB : Hid (∀ j, j < m → -2147483648 ≤ lb.getD j 0 ∧ lb.getD j 0 ≤ 2147483647) := hrb
        have HX : Hid (-9223372036854775808 ≤ x ∧ x ≤ 9223372036854775807) := hx
        have HY : Hid (-2147483648 ≤ y ∧ y ≤ 2147483647) := hy
        clear hra hrb hx hy
        have hq0 := fun (w : World) => run_neq_slice_nil_any (P := Try.prog) w 22 2 a0 n cap 0 0 Try.underlying22
        have hq1 := fun (w : World) => run_neq_slice_nil_any (P := Try.prog) w 23 21 a1 n cap1 0 0 Try.underlying23
        go_enter Try.func4, Try.ntmps4
        go_wp2_with fail
        refine (bytesN_yes _ _ _ _ _ _ _ _ _ hb).mono ?_; rintro e w' ⟨rfl, rfl⟩
        go_wp2_with fail
        refine (sorted_all a0 a1 n m cap cap1 la lb _ hn hA hB).mono ?_
        rintro e w1 ⟨v, rfl, hs, hsm⟩
        cases v with
        | false =>
          go_wp2_with fail
          go_ret
          exact ⟨rfl, hsm.below (Below.refl _ _)⟩
        | true =>
          obtain ⟨rfl, hso⟩ := hs rfl
          clear hs
          have bel1 : Below w.heap.size w w1 := hsm.below (Below.refl _ _)
          have sA := hA.below bel1
          have sB := hB.below bel1
          clear hA hB hsm
          go_upto_if 34 with fail
          go_cut [0] (fun s0 wx => ∃ ao cp, s0 = .slice ao m cp ∧ Src .i64 wx ao m la ∧ Src .i32 wx a1 m lb ∧ Below w.heap.size w wx)
          case first =>
            cases a0 with
            | none =>
              go_wp2_with fail
              go_meet
              case rel => exact ⟨none, cap, rfl, sA, sB, bel1⟩
            | some xa =>
              obtain ⟨i0, hi, hz0, hz1, hz2⟩ := info_parts info2
              go_wp2_with (at_make; refine wpList_make_full _ rfl _ _ 22 rfl w1.heap.size 2 i0 (.int .i64 0) 1 Try.underlying22 hi hz0 hz1 _ _ _ _ m rfl rfl rfl rfl ?b2 ?b3 (Nat.le_refl _) ?_)
              case b2 => rw [hz2]; omega
              case b3 => unfold maxLen; omega
              intro w2 hown2 hgr2
              have bel2 : Below w1.heap.size w1 w2 := (Below.refl _ _).grown hgr2 (Nat.le_refl _) (fun k h => by cases h)
              have bel2' : Below w.heap.size w w2 := bel1.trans (bel2.mono bel1.size)
              clear hgr2 hz0 hz1 hz2 hi
              go_wp2_with (refine wpList_copy_new rfl (.tmp 38) (.tmp 39) 22 22 rfl 2 Try.underlying22 size2 .i64 w1.heap.size m cap (some xa) la rfl rfl w1.heap.size _ hown2 (sA.below bel2) w1.heap.size w1 bel2 (Nat.le_refl _) ?_)
              intro w3 src3 bel3 hsz3
              go_wp2_with fail
              go_meet
              case rel => exact ⟨_, _, rfl, src3, sB.below bel3, bel1.trans (bel3.mono bel1.size)⟩
          case rest =>
            obtain ⟨ao, cp, rfl, sA2, sB2, bel2⟩ := hcut
            clear sA sB bel1
            go_upto_if 43 with fail
            go_cut [1] (fun s1 wx => ∃ bo cq, s1 = .slice bo m cq ∧ Src .i64 wx ao m la ∧ Src .i32 wx bo m lb ∧ Below w.heap.size w wx)
            case first =>
              cases a1 with
              | none =>
                go_wp2_with fail
                go_meet
                case rel => exact ⟨none, cap1, rfl, sA2, sB2, bel2⟩
              | some xa =>
                obtain ⟨i0, hi, hz0, hz1, hz2⟩ := info_parts info21
                go_wp2_with (at_make; refine wpList_make_full _ rfl _ _ 23 rfl wc.heap.size 21 i0 (.int .i32 0) 1 Try.underlying23 hi hz0 hz1 _ _ _ _ m rfl rfl rfl rfl ?b2 ?b3 (Nat.le_refl _) ?_)
                case b2 => rw [hz2]; omega
                case b3 => unfold maxLen; omega
                intro w2 hown2 hgr2
                have bel3 : Below wc.heap.size wc w2 := (Below.refl _ _).grown hgr2 (Nat.le_refl _) (fun k h => by cases h)
                clear hgr2 hz0 hz1 hz2 hi
                go_wp2_with (refine wpList_copy_new rfl (.tmp 47) (.tmp 48) 23 23 rfl 21 Try.underlying23 size21 .i32 wc.heap.size m cap1 (some xa) lb rfl rfl wc.heap.size _ hown2 (sB2.below bel3) wc.heap.size wc bel3 (Nat.le_refl _) ?_)
                intro w3 src3 bel4 hsz3
                go_wp2_with fail
                go_meet
                case rel => exact ⟨_, _, rfl, sA2.below bel4, src3, bel2.trans (bel4.mono bel2.size)⟩
            case rest =>
              obtain ⟨bo, cq, rfl, sA3, sB3, bel3⟩ := hcut
              clear sA2 sB2 bel2 hq0 hq1
              go_wp2_with fail
              go_loopw [12, 13, 14] (fun sl se i wr => ∃ k c1 c2 : Nat, k ≤ m ∧ i = .int .i64 k ∧ sl = .int .i64 c1 ∧ se = .int .i64 c2 ∧ c1 = cnt (pre (fun j => la.getD j 0) (fun j => lb.getD j 0) x y) k ∧
                  c2 = cnt (fun t => !pre (fun j => la.getD j 0) (fun j => lb.getD j 0) x y t && upto (fun j => la.getD j 0) (fun j => lb.getD j 0) x y t) k ∧ Same wc wr) (fun _ _ i _ => m - (intOf i).toNat)
              case atStart => exact ⟨0, 0, 0, Nat.zero_le _, rfl, rfl, rfl, rfl, rfl, Same.refl _⟩
              case round =>
                obtain ⟨k, c1, c2, hk, rfl, rfl, rfl, hc1, hc2, hsm⟩ := hrel
                have l1 : c1 ≤ k := by rw [hc1]; exact cnt_le _ _
                have l2 : c2 ≤ k := by rw [hc2]; exact cnt_le _ _
                have C1 : Hid (c1 = _) := hc1
                have C2 : Hid (c2 = _) := hc2
                clear hc1 hc2
                by_cases hlt : k < m
                · obtain ⟨b, off, rfl, _, hca⟩ := sA3.cells (by omega)
                  obtain ⟨b2, off2, rfl, _, hcb⟩ := sB3.cells (by omega)
                  have q1 := (hsm.cell _).trans (hca k hlt)
                  have q2 := (hsm.cell _).trans (hcb k hlt)
                  have hki : (k : Int) < (m : Int) := by omega
                  have s1 := cnt_step (pre (fun j => la.getD j 0) (fun j => lb.getD j 0) x y) k
                  have s2 := cnt_step (fun t => !pre (fun j => la.getD j 0) (fun j => lb.getD j 0) x y t && upto (fun j => la.getD j 0) (fun j => lb.getD j 0) x y t) k
                  rw [← C1.out] at s1
                  rw [← C2.out] at s2
                  have ep : pre (fun j => la.getD j 0) (fun j => lb.getD j 0) x y k = lessB (la.getD k 0) (lb.getD k 0) x y := rfl
                  have eu : upto (fun j => la.getD j 0) (fun j => lb.getD j 0) x y k = !lessB x y (la.getD k 0) (lb.getD k 0) := rfl
                  rw [ep] at s1
                  rw [ep, eu] at s2
                  clear ep eu C1 C2 hca hcb sA3 sB3
                  have asym : lessB (la.getD k 0) (lb.getD k 0) x y = true → lessB x y (la.getD k 0) (lb.getD k 0) = false := lessB_asymm
                  generalize la.getD k 0 = c at q1 s1 s2 asym
                  generalize lb.getD k 0 = d at q2 s1 s2 asym
                  cases e1 : lessB c d x y
                  · cases e2 : lessB x y c d
                    · rw [e1] at s1
                      rw [e1, e2] at s2
                      simp only [Bool.not_false, Bool.and_self, if_true, Bool.false_eq_true, if_false, Nat.add_zero] at s1 s2
                      have S1 : Hid (_ = c1) := s1
                      have S2 : Hid (_ = c2 + 1) := s2
                      clear s1 s2 asym
                      go_wp2_with fail
                      go_quiet ((go_at_call 9; exact Calls.quiet_of_same (less_is _ _ _ _ false _ e1)))
                      go_wp2_with fail
                      have hsm2 := hsm.drewN nq
                      have q3 := (hsm2.cell _).trans ((hsm.cell _).symm.trans q1)
                      have q4 := (hsm2.cell _).trans ((hsm.cell _).symm.trans q2)
                      generalize wr.drewN nq = wr2 at hsm2 q3 q4 ⊢
                      clear q1 q2
                      go_quiet ((go_at_call 9; exact Calls.quiet_of_same (less_is _ _ _ _ false _ e2)))
                      go_wp2_with fail
                      go_roundw
                      case rel => exact ⟨k + 1, c1, c2 + 1, by omega, by go_num, rfl, by go_num, S1.out.symm, S2.out.symm, hsm2.drewN _⟩
                      case measure => simp [intOf]; omega
                    · rw [e1] at s1
                      rw [e1, e2] at s2
                      simp only [Bool.not_true, Bool.and_false, Bool.false_eq_true, if_false, Nat.add_zero] at s1 s2
                      have S1 : Hid (_ = c1) := s1
                      have S2 : Hid (_ = c2) := s2
                      clear s1 s2 asym
                      go_wp2_with fail
                      go_quiet ((go_at_call 9; exact Calls.quiet_of_same (less_is _ _ _ _ false _ e1)))
                      go_wp2_with fail
                      have hsm2 := hsm.drewN nq
                      have q3 := (hsm2.cell _).trans ((hsm.cell _).symm.trans q1)
                      have q4 := (hsm2.cell _).trans ((hsm.cell _).symm.trans q2)
                      generalize wr.drewN nq = wr2 at hsm2 q3 q4 ⊢
                      clear q1 q2
                      go_quiet ((go_at_call 9; exact Calls.quiet_of_same (less_is _ _ _ _ true _ e2)))
                      go_wp2_with fail
                      go_roundw
                      case rel => exact ⟨k + 1, c1, c2, by omega, by go_num, rfl, rfl, S1.out.symm, S2.out.symm, hsm2.drewN _⟩
                      case measure => simp [intOf]; omega
                  · have e2 := asym e1
                    rw [e1] at s1
                    rw [e1, e2] at s2
                    simp only [Bool.not_true, Bool.false_and, Bool.false_eq_true, if_false, if_true, Nat.add_zero] at s1 s2
                    have S1 : Hid (_ = c1 + 1) := s1
                    have S2 : Hid (_ = c2) := s2
                    clear s1 s2 asym e2
                    go_wp2_with fail
                    go_quiet ((go_at_call 9; exact Calls.quiet_of_same (less_is _ _ _ _ true _ e1)))
                    go_wp2_with fail
                    go_roundw
                    case rel => exact ⟨k + 1, c1 + 1, c2, by omega, by go_num, by go_num, rfl, S1.out.symm, S2.out.symm, hsm.drewN _⟩
                    case measure => simp [intOf]; omega
                · have hkm : k = m := by omega
                  rw [hkm] at C1 C2
                  have belr : Below w.heap.size w wr := hsm.below bel3
                  have belr2 : Below wc.heap.size wc wr := hsm.below (Below.refl _ _)
                  have sA4 := sA3.below belr2
                  have sB4 := sB3.below belr2
                  clear hkm sA3 sB3 bel3 belr2 hsm
                  go_wp2_with fail
                  refine (zzBefore_all ao bo m cp cq la lb x y _ hn sA4 sB4 (pre_falls hso x y)).mono ?_
                  rintro e w4 ⟨rb, rfl, hbB, bel4⟩
                  have e1 : rb = c1 := by rw [C1.out]; exact (cnt_all hbB).symm
                  have sA5 := sA4.below bel4
                  have sB5 := sB4.below bel4
                  clear sA4 sB4
                  go_wp2_with fail
                  refine (zzUpTo_all ao bo m cp cq la lb x y _ hn sA5 sB5 (upto_falls hso x y)).mono ?_
                  rintro e w5 ⟨ru, rfl, hbU, bel5⟩
                  have e2 : ru = c1 + c2 := by
                    have h := cnt_diff (p := pre (fun j => la.getD j 0) (fun j => lb.getD j 0) x y) (q := upto (fun j => la.getD j 0) (fun j => lb.getD j 0) x y) (n := m) (fun i _ h => pre_upto _ _ _ _ _ h) m (Nat.le_refl _)
                    rw [cnt_all hbU] at h
                    have h1 := C1.out
                    have h2 := C2.out
                    omega
                  have r1 : rb ≤ c1 := by omega
                  have r2 : c1 ≤ rb := by omega
                  have r3 : ru ≤ c1 + c2 := by omega
                  have r4 : c1 + c2 ≤ ru := by omega
                  have hrm : ru ≤ m := hbU.le
                  have sA6 := sA5.below bel5
                  have sB6 := sB5.below bel5
                  have HB : Hid (Bound (pre (fun j => la.getD j 0) (fun j => lb.getD j 0) x y) m rb) := hbB
                  have HU : Hid (Bound (upto (fun j => la.getD j 0) (fun j => lb.getD j 0) x y) m ru) := hbU
                  have belw : Below w.heap.size w w5 := (belr.trans (bel4.mono belr.size)).trans (bel5.mono (Nat.le_trans belr.size bel4.size))
                  clear e1 e2 sA5 sB5 bel4 bel5 hbB hbU C1 C2 belr hlt
                  go_upto_if 106 with fail
                  go_cut [] (fun wx => Below w5.heap.size w5 wx)
                  case first =>
                    by_cases hy1 : y = 2147483647
                    · have t1 : (y == 2147483647) = true := by simpa using hy1
                      have t2 : (y != 2147483647) = false := by simpa using hy1
                      have HY1 : Hid (y = 2147483647) := hy1
                      clear hy1
                      by_cases hx1 : x = 9223372036854775807
                      · have t3 : (x == 9223372036854775807) = true := by simpa using hx1
                        have t4 : (x != 9223372036854775807) = false := by simpa using hx1
                        have hall : Bound (upto (fun j => la.getD j 0) (fun j => lb.getD j 0) x y) m m := ⟨Nat.le_refl _, fun i hi => last_all _ _ _ _ _ (by rw [hx1]; exact (HRA.out i hi).2) (by rw [HY1.out]; exact (HRB.out i hi).2), fun i a b => by omega⟩
                        have e := HU.out.unique hall
                        have r5 : m ≤ ru := by omega
                        clear hx1 e
                        go_wp2_with fail
                        go_meet
                        case rel => exact Below.refl _ _
                      · have t3 : (x == 9223372036854775807) = false := by simpa using hx1
                        have t4 : (x != 9223372036854775807) = true := by simpa using hx1
                        have b1 := HX.out.1
                        have b2 : x ≤ 9223372036854775806 := by have := HX.out.2; omega
                        clear hx1
                        go_wp2_with fail
                        refine (zzBefore_all ao bo m cp cq la lb (x + 1) (-2147483648) _ hn sA6 sB6 (pre_falls hso (x + 1) (-2147483648))).mono ?_
                        rintro e w6 ⟨r', rfl, hb', bel6⟩
                        have e := (hb'.congr (q := upto (fun j => la.getD j 0) (fun j => lb.getD j 0) x y) (fun i hi => by rw [HY1.out]; exact next_over _ _ x _ _ i (HRB.out i hi).1 (HRB.out i hi).2)).unique HU.out
                        have r5 : r' ≤ ru := by omega
                        have r6 : ru ≤ r' := by omega
                        clear e hb'
                        go_wp2_with fail
                        go_meet
                        case rel => exact bel6
                    · have t1 : (y == 2147483647) = false := by simpa using hy1
                      have t2 : (y != 2147483647) = true := by simpa using hy1
                      have b1 := HY.out.1
                      have b2 : y ≤ 2147483646 := by have := HY.out.2; omega
                      clear hy1
                      go_wp2_with fail
                      refine (zzBefore_all ao bo m cp cq la lb x (y + 1) _ hn sA6 sB6 (pre_falls hso x (y + 1))).mono ?_
                      rintro e w6 ⟨r', rfl, hb', bel6⟩
                      have e := (hb'.congr (fun i _ => next_in _ _ x y i)).unique HU.out
                      have r5 : r' ≤ ru := by omega
                      have r6 : ru ≤ r' := by omega
                      clear e hb'
                      go_wp2_with fail
                      go_meet
                      case rel => exact bel6
                  case rest =>
                    have sA7 := sA6.below hcut
                    have sB7 := sB6.below hcut
                    have belc : Below w.heap.size w wc := belw.trans (hcut.mono belw.size)
                    clear sA6 sB6 hcut
                    by_cases hy1 : y = -2147483648
                    · have t1 : (y == -2147483648) = true := by simpa using hy1
                      have t2 : (y != -2147483648) = false := by simpa using hy1
                      have HY1 : Hid (y = -2147483648) := hy1
                      clear hy1
                      by_cases hx1 : x = -9223372036854775808
                      · have t3 : (x == -9223372036854775808) = true := by simpa using hx1
                        have t4 : (x != -9223372036854775808) = false := by simpa using hx1
                        have hall : Bound (pre (fun j => la.getD j 0) (fun j => lb.getD j 0) x y) m 0 := ⟨Nat.zero_le _, fun i hi => absurd hi (by omega), fun i a b => first_none _ _ _ _ _ (by rw [hx1]; exact (HRA.out i b).1) (by rw [HY1.out]; exact (HRB.out i b).1)⟩
                        have e := HB.out.unique hall
                        have r5 : rb ≤ 0 := by omega
                        clear hx1 e
                        go_wp2_with fail
                        go_ret
                        exact ⟨rfl, belc⟩
                      · have t3 : (x == -9223372036854775808) = false := by simpa using hx1
                        have t4 : (x != -9223372036854775808) = true := by simpa using hx1
                        have b1 := HX.out.2
                        have b2 : -9223372036854775807 ≤ x := by have := HX.out.1; omega
                        clear hx1
                        go_wp2_with fail
                        refine (zzUpTo_all ao bo m cp cq la lb (x - 1) 2147483647 _ hn sA7 sB7 (upto_falls hso (x - 1) 2147483647)).mono ?_
                        rintro e w6 ⟨r', rfl, hb', bel6⟩
                        have e := (hb'.congr (q := pre (fun j => la.getD j 0) (fun j => lb.getD j 0) x y) (fun i hi => by rw [HY1.out]; exact prev_under _ _ x _ _ i (HRB.out i hi).1 (HRB.out i hi).2)).unique HB.out
                        have r5 : r' ≤ rb := by omega
                        have r6 : rb ≤ r' := by omega
                        clear e hb'
                        go_wp2_with fail
                        go_ret
                        exact ⟨rfl, belc.trans (bel6.mono belc.size)⟩
                    · have t1 : (y == -2147483648) = false := by simpa using hy1
                      have t2 : (y != -2147483648) = true := by simpa using hy1
                      have b1 := HY.out.2
                      have b2 : -2147483647 ≤ y := by have := HY.out.1; omega
                      clear hy1
                      go_wp2_with fail
                      refine (zzUpTo_all ao bo m cp cq la lb x (y - 1) _ hn sA7 sB7 (upto_falls hso x (y - 1))).mono ?_
                      rintro e w6 ⟨r', rfl, hb', bel6⟩
                      have e := (hb'.congr (fun i _ => prev_in _ _ x y i)).unique HB.out
                      have r5 : r' ≤ rb := by omega
                      have r6 : rb ≤ r' := by omega
                      clear e hb'
                      go_wp2_with fail
                      go_ret
                      exact ⟨rfl, belc.trans (bel6.mono belc.size)⟩
      · unfold maxLen at hnm hmm
        go_enter Try.func4, Try.ntmps4
        go_wp2_with fail
        refine (bytesN_yes _ _ _ _ _ _ _ _ _ hb).mono ?_; rintro e w' ⟨rfl, rfl⟩
        go_wp2_with fail
        go_ret
        exact ⟨rfl, Below.refl _ _⟩
    · unfold maxLen at hnm hmm
      go_enter Try.func4, Try.ntmps4
      go_wp2_with fail
      refine (bytesN_yes _ _ _ _ _ _ _ _ _ hb).mono ?_; rintro e w' ⟨rfl, rfl⟩
      go_wp2_with fail
      go_ret
      exact ⟨rfl, Below.refl _ _⟩
  · go_enter Try.func4, Try.ntmps4
    go_wp2_with fail
    refine (bytesN_no _ _ _ _ _ _ _ _ _ hnm hmm hb).mono ?_; rintro e w' ⟨rfl, rfl⟩
    go_wp2_with fail
    go_ret
    exact ⟨rfl, Below.refl _ _⟩
end Go.Proofs.Qxb6621715a.NeighWalk
