/-
  THE WALK of FnAppendLineAnyCutAndBlanksBreaks (3).
-/
import Derived.Test.Qxb6621656aLineWalks
import Derived.Deep.RegionWith
import Derived.Deep.QuietTactic
import Derived.BigQuiet
namespace Go.Proofs.Qxb6621656a.CutWalk
open Go.RowKit RowLaws Lines LineWalks

theorem take_bytes (s : ByteArray) (k : Nat) : lnBytes (s.extract 0 k) = (lnBytes s).take k := by
  simp [lnBytes, ByteArray.data_extract, List.map_take]
theorem drop_bytes (s : ByteArray) (k : Nat) : lnBytes (s.extract k s.size) = (lnBytes s).drop k := by
  have e : (s.data.toList.drop k).length ≤ s.size - k := by rw [List.length_drop, Array.length_toList]; exact Nat.le_refl _
  unfold lnBytes
  rw [ByteArray.data_extract, Array.toList_extract, List.extract_eq_take_drop, List.take_of_length_le e, List.map_drop]

theorem cell_of_own {w : World} {g N cap : Nat} {T : List Int} (h : w.ownsRow 0 5 1 (.slice (some ⟨g, 0, none⟩) N cap) N (u8s T)) (hT : T.length = N) (j : Nat) (hj : j < N) : w.cell? ⟨g, j, none⟩ = some (.int .u8 (T.getD j 0)) := by
  rw [h.cellAt j (by omega)]
  exact u8s_get _ _ (by omega)
theorem room_of_own {w : World} {g N cap : Nat} {xs : List Value} (h : w.ownsRow 0 5 1 (.slice (some ⟨g, 0, none⟩) N cap) N xs) : N ≤ cap := by
  rcases h.2 with ⟨hv, _⟩ | ⟨g', cap', cur, hv, _, _, hnc, _⟩
  · simp at hv
  · simp only [Value.slice.injEq, Option.some.injEq, Addr.mk.injEq, and_true, true_and] at hv
    obtain ⟨rfl, rfl⟩ := hv
    exact hnc
theorem wrap_small (x : Int) (h0 : 0 ≤ x) (h1 : x ≤ 9223372036854775807) : IntKind.i64.wrap x = x := by
  simp only [IntKind.wrap, IntKind.bits, IntKind.signed]
  simp
  omega
theorem end_cr (A : List Int) (n : Nat) (h : A.length = n) : (A ++ [13, 10]).getD n 0 = 13 := by subst h; simp [List.getD]
theorem end_lf (A : List Int) (n : Nat) (h : A.length = n) : (A ++ [13, 10]).getD (n + 1) 0 = 10 := by subst h; simp [List.getD]

set_option maxRecDepth 100000 in
set_option maxHeartbeats 1000000 in
theorem walk (a0 : Option Addr) (n cap : Nat) (ds : List Int) (s : ByteArray) (i : Int) (w : World) (hl : ds.length = n) (hlm : n ≤ maxLen) (hsm : s.size ≤ maxLen) (hnone : a0 = none → n = 0 ∧ cap = 0)
    (ha : 0 < n → ∃ b off, a0 = some ⟨b, off, none⟩ ∧ b < w.heap.size ∧ ∀ j, j < n → w.cell? ⟨b, off + j, none⟩ = some (.int .u8 (ds.getD j 0))) :
    Calls Try.prog 3 #[.slice a0 n cap, .string s, .int .i64 i] w fun e w' => e = .returned (.bool true) ∧ Below w.heap.size w w' := by
  by_cases hb : n + s.size ≤ 1048576
  · by_cases hi0 : i < 0
    · go_enter Try.func3, Try.ntmps3
      go_wp2_with fail
      refine (bytes3_yes _ _ _ _ _ _ hb).mono ?_; rintro e w' ⟨rfl, rfl⟩
      go_wp2_with fail
      go_ret
      exact ⟨rfl, Below.refl _ _⟩
    · obtain ⟨k, rfl⟩ := Int.eq_ofNat_of_zero_le (by omega : 0 ≤ i)
      by_cases hi1 : s.size < k
      · have hi2 : (s.size : Int) < (k : Int) := by omega
        go_enter Try.func3, Try.ntmps3
        go_wp2_with fail
        refine (bytes3_yes _ _ _ _ _ _ hb).mono ?_; rintro e w' ⟨rfl, rfl⟩
        go_wp2_with fail
        go_ret
        exact ⟨rfl, Below.refl _ _⟩
      · have hks : k ≤ s.size := by omega
        have hki : (k : Int) ≤ (s.size : Int) := by omega
        clear hi0 hi1 hlm hsm
        go_enter Try.func3, Try.ntmps3
        go_wp2_with fail
        refine (bytes3_yes _ _ _ _ _ _ hb).mono ?_; rintro e w' ⟨rfl, rfl⟩
        go_wp2_with fail
        refine (clone_any a0 n cap ds _ hl (by omega) hnone ha).mono ?_
        rintro e w1 ⟨ao1, cap1, rfl, own1, bel1⟩
        go_wp2_with fail
        refine (clone_any a0 n cap ds _ hl (by omega) hnone ?_).mono ?_
        · intro hp
          obtain ⟨b, off, e1, e2, e3⟩ := ha hp
          exact ⟨b, off, e1, Nat.lt_of_lt_of_le e2 bel1.size, fun j hj => (bel1.cell e2).trans (e3 j hj)⟩
        rintro e w2 ⟨ao2, cap2, rfl, own2, bel2⟩
        have own1b : w2.ownsRow w.heap.size 5 1 (.slice ao1 n cap1) n (u8s ds) := own_below own1 bel2
        go_wp2_with fail
        refine (line_at ao1 n cap1 ds s s.size (n + s.size + 2) ((lnBytes s).map lnBlank) _ hl rfl rfl rfl hb (own_lower own1b (Nat.zero_le _))).mono ?_
        rintro e w3 ⟨g3, cap3, rfl, own3, gr3, fr3⟩
        have lt1 := own1.lt
        have lt2 := own2.lt
        have own2b : w3.ownsRow 0 5 1 (.slice ao2 n cap2) n (u8s ds) := own_lower (own_kept own2 gr3 (fun k h2 h1 => by have := (lt1 k h1).2; have := (lt2 k h2).1; omega)) (Nat.zero_le _)
        have hz1 : (s.extract 0 k).size = k := by simp; omega
        have hz2 : (s.extract k s.size).size = s.size - k := by simp
        go_wp2_with fail
        refine (line_at ao2 n cap2 ds (s.extract 0 k) k (n + k + 2) (((lnBytes s).take k).map lnBlank) _ hl hz1 (by rw [take_bytes]) rfl (by omega) own2b).mono ?_
        rintro e w4 ⟨g4, cap4, rfl, own4, gr4, fr4⟩
        have hlk : (ds ++ ((lnBytes s).take k).map lnBlank).length = n + k := by simp [lnBytes_length, hl]; omega
        rw [← List.append_assoc] at own4
        have own3b : w4.ownsRow 0 5 1 (.slice (some ⟨g3, 0, none⟩) (n + s.size + 2) cap3) (n + s.size + 2) (u8s (ds ++ ((lnBytes s).map lnBlank ++ [13, 10]))) := by
          refine own_kept own3 gr4 (fun k h3 h2 => ?_)
          have := (lt2 k h2).1
          rcases fr3 k h3 with h | h
          · have := (lt1 k h).2; omega
          · have := (lt2 k h2).2; omega
        have hg43 : g4 ≠ g3 := by
          intro e
          subst e
          rcases fr3 g4 rfl with h | h
          · have := (lt1 g4 h).2
            rcases fr4 g4 rfl with h' | h'
            · have := (lt2 g4 h').1; omega
            · have := gr3.size; have := bel2.size; omega
          · rcases fr4 g4 rfl with h' | h'
            · have := (lt2 g4 h').2; omega
            · have := (own3.lt g4 rfl).2; omega
        have c13 : w4.cell? ⟨g4, n + k, none⟩ = some (.int .u8 13) := by rw [cell_of_own own4 (by rw [List.length_append, hlk]; rfl) (n + k) (by omega), end_cr _ _ hlk]
        have c10 : w4.cell? ⟨g4, n + k + 1, none⟩ = some (.int .u8 10) := by rw [cell_of_own own4 (by rw [List.length_append, hlk]; rfl) (n + k + 1) (by omega), end_lf _ _ hlk]
        have hcap4 := room_of_own own4
        have own4b : w4.ownsRow 0 5 1 (.slice (some ⟨g4, 0, none⟩) (n + k) cap4) (n + k) (u8s (ds ++ ((lnBytes s).take k).map lnBlank)) := by
          have := own_prefix own4 (n := n + k) (by omega)
          rw [u8s_append, List.take_append_of_le_length (by rw [u8s_length]; omega), List.take_of_length_le (by rw [u8s_length]; omega)] at this
          exact this
        have hcz : ¬ cap4 = 0 := by omega
        have hi4 : (n : Int) + (k : Int) ≤ (cap4 : Int) := by omega
        have hi5 : (0 : Int) ≤ (n : Int) + (k : Int) := by omega
        go_wp2_with fail
        have hwr : IntKind.i64.wrap ((n : Int) + (k : Int)) = (n : Int) + (k : Int) := wrap_small _ (by omega) (by omega)
        have htn : ((n : Int) + (k : Int)).toNat = n + k := by omega
        go_region_with (go_at_call 8; refine (line_at (some ⟨g4, 0, none⟩) (n + k) cap4 (ds ++ ((lnBytes s).take k).map lnBlank) (s.extract k s.size) (s.size - k) (n + s.size + 2) (((lnBytes s).drop k).map lnBlank) _ hlk hz2 (by rw [drop_bytes]) (by omega) (by omega) ?_).mono ?_; exact own4b; rintro e w5 ⟨g5, cap5, rfl, own5, gr5, fr5⟩)
        have own3c : w5.ownsRow 0 5 1 (.slice (some ⟨g3, 0, none⟩) (n + s.size + 2) cap3) (n + s.size + 2) (u8s (ds ++ ((lnBytes s).map lnBlank ++ [13, 10]))) :=
          own_kept (a := w4.drew) own3b gr5 (fun j h3 h4 => hg43 (by cases h3; cases h4; rfl))
        have own5b : w5.ownsRow 0 5 1 (.slice (some ⟨g5, 0, none⟩) (n + s.size + 2) cap5) (n + s.size + 2) (u8s (ds ++ ((lnBytes s).map lnBlank ++ [13, 10]))) := by
          have e : ds ++ ((lnBytes s).take k).map lnBlank ++ (((lnBytes s).drop k).map lnBlank ++ [13, 10]) = ds ++ ((lnBytes s).map lnBlank ++ [13, 10]) := by
            rw [List.append_assoc, ← List.append_assoc (List.map lnBlank _), ← List.map_append, List.take_append_drop]
          rw [e] at own5
          exact own5
        have hlT : (ds ++ ((lnBytes s).map lnBlank ++ [13, 10])).length = n + s.size + 2 := by simp [lnBytes_length, hl]; omega
        have hge4 : w.heap.size ≤ g4 := by
          rcases fr4 g4 rfl with h | h
          · have := (lt2 g4 h).1; have := bel1.size; omega
          · have := gr3.size; have := bel2.size; have := bel1.size; omega
        have bel5 : Below w.heap.size w w5 :=
          ((((bel1.trans (bel2.mono bel1.size)).grown gr3 (Nat.le_trans bel1.size bel2.size) (fun k h => (lt1 k h).1)).grown gr4 (Nat.le_trans (Nat.le_trans bel1.size bel2.size) gr3.size)
            (fun k h => by have := (lt2 k h).1; have := bel1.size; omega)).drew).grown gr5 (Nat.le_trans (Nat.le_trans (Nat.le_trans bel1.size bel2.size) gr3.size) gr4.size) (fun k h => by cases h; exact hge4)
        have cW : Hid (∀ j, j < n + s.size + 2 → w5.cell? ⟨g3, j, none⟩ = some (.int .u8 ((ds ++ ((lnBytes s).map lnBlank ++ [13, 10])).getD j 0))) := fun j hj => cell_of_own own3c hlT j hj
        have cS : Hid (∀ j, j < n + s.size + 2 → w5.cell? ⟨g5, j, none⟩ = some (.int .u8 ((ds ++ ((lnBytes s).map lnBlank ++ [13, 10])).getD j 0))) := fun j hj => cell_of_own own5b hlT j hj
        have cD : Hid (0 < n → ∃ b off, a0 = some ⟨b, off, none⟩ ∧ ∀ j, j < n → w5.cell? ⟨b, off + j, none⟩ = some (.int .u8 (ds.getD j 0))) := by
          intro hp
          obtain ⟨b, off, e1, e2, e3⟩ := ha hp
          exact ⟨b, off, e1, fun j hj => (bel5.cell e2).trans (e3 j hj)⟩
        clear own3c own5b hge4 own5 gr5 fr5 own3b own4b hcap4 c13 c10 hg43 own4 gr4 fr4 own2b own3 gr3 fr3 own1b own2 bel2 own1 bel1 hz1 hz2 hlk lt1 lt2 hcz hi4 hi5 hwr htn ha hnone hlT
        go_wp2_with fail
        go_loopw [13] (fun i wr => ∃ j : Nat, j ≤ n + s.size + 2 ∧ i = .int .i64 j ∧ Same w5 wr) (fun i _ => n + s.size + 2 - (intOf i).toNat)
        case atStart => exact ⟨0, Nat.zero_le _, rfl, Same.refl _⟩
        case round =>
          obtain ⟨j, hj, rfl, hsm⟩ := hrel
          by_cases hlt : j < n + s.size + 2
          · have q1 : wr.cell? ⟨g3, j, none⟩ = _ := (hsm.cell _).trans (cW.out j hlt)
            have q2 : wr.cell? ⟨g5, j, none⟩ = _ := (hsm.cell _).trans (cS.out j hlt)
            generalize (ds ++ ((lnBytes s).map lnBlank ++ [13, 10])).getD j 0 = c at q1 q2
            have hli : (j : Int) < (n : Int) + (s.size : Int) + 2 := by omega
            go_wp2_with fail
            go_quiet (fail)
            go_wp2_with fail
            go_roundw
            case rel => exact ⟨j + 1, by omega, by go_num, hsm.drewN _⟩
            case measure => simp [intOf]; omega
          · go_wp2_with fail
            clear cS hlt hj
            go_loopw [14] (fun i wr => ∃ j : Nat, j ≤ n ∧ i = .int .i64 j ∧ Same w5 wr) (fun i _ => n - (intOf i).toNat)
            case atStart => exact ⟨0, Nat.zero_le _, rfl, hsm⟩
            case round =>
              obtain ⟨j2, hj2, rfl, hsm2⟩ := hrel
              by_cases hlt : j2 < n
              · obtain ⟨b, off, rfl, hcd⟩ := cD.out (by omega)
                have q1 := (hsm2.cell _).trans (cW.out j2 (by omega))
                have q2 := (hsm2.cell _).trans (hcd j2 hlt)
                rw [whole_dst _ _ _ (by omega)] at q1
                generalize ds.getD j2 0 = c at q1 q2
                clear hcd
                have hli : (j2 : Int) < (n : Int) := by omega
                have hli2 : (j2 : Int) < (n : Int) + (s.size : Int) + 2 := by omega
                go_wp2_with fail
                go_quiet (fail)
                go_wp2_with fail
                go_roundw
                case rel => exact ⟨j2 + 1, by omega, by go_num, hsm2.drewN _⟩
                case measure => simp [intOf]; omega
              · go_wp2_with fail
                clear cD hlt hj2
                go_loopw [15] (fun i wr => ∃ j : Nat, j ≤ s.size ∧ i = .int .i64 j ∧ Same w5 wr) (fun i _ => s.size - (intOf i).toNat)
                case atStart => exact ⟨0, Nat.zero_le _, rfl, hsm2⟩
                case round =>
                  obtain ⟨j3, hj3, rfl, hsm3⟩ := hrel
                  by_cases hlt : j3 < s.size
                  · have q1 := (hsm3.cell _).trans (cW.out (n + j3) (by omega))
                    rw [whole_line _ _ _ _ hl (by rw [lnBytes_length]; exact hlt), lnBytes_get s j3 hlt] at q1
                    cases hbk : breakB ((s[j3]'hlt).toNat : Int)
                    · have eb : lnBlank ((s[j3]'hlt).toNat : Int) = ((s[j3]'hlt).toNat : Int) := if_neg (of_decide_eq_false hbk)
                      rw [eb] at q1
                      clear eb
                      go_wp2_with fail
                      refine (break_no _ _ hbk).mono ?_; rintro e w' ⟨rfl, rfl⟩
                      go_wp2_with fail
                      go_roundw
                      case rel => exact ⟨j3 + 1, by omega, by go_num, hsm3⟩
                      case measure => simp [intOf]; omega
                    · have eb : lnBlank ((s[j3]'hlt).toNat : Int) = 32 := if_pos (of_decide_eq_true hbk)
                      rw [eb] at q1
                      clear eb
                      go_wp2_with fail
                      refine (break_yes _ _ hbk).mono ?_; rintro e w' ⟨rfl, rfl⟩
                      go_wp2_with fail
                      go_roundw
                      case rel => exact ⟨j3 + 1, by omega, by go_num, hsm3⟩
                      case measure => simp [intOf]; omega
                  · have q1 := (hsm3.cell _).trans (cW.out (n + s.size) (by omega))
                    have q2 := (hsm3.cell _).trans (cW.out (n + s.size + 1) (by omega))
                    rw [whole_cr _ _ _ _ hl (lnBytes_length s)] at q1
                    rw [whole_lf _ _ _ _ hl (lnBytes_length s)] at q2
                    go_wp2_with fail
                    go_ret
                    exact ⟨rfl, hsm3.below bel5⟩
  · go_enter Try.func3, Try.ntmps3
    go_wp2_with fail
    refine (bytes3_no _ _ _ _ _ _ hlm hsm hb).mono ?_; rintro e w' ⟨rfl, rfl⟩
    go_wp2_with fail
    go_ret
    exact ⟨rfl, Below.refl _ _⟩
end Go.Proofs.Qxb6621656a.CutWalk
