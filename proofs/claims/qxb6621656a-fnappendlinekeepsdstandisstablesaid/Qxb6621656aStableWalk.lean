/-
  THE WALK of FnAppendLineKeepsDstAndIsStable (4).
-/
import Derived.Test.Qxb6621656aLineWalks
import Derived.Deep.RegionWith
import Derived.Deep.QuietTactic
import Derived.BigQuiet
namespace Go.Proofs.Qxb6621656a.StableWalk
open Go.RowKit RowLaws Lines LineWalks

/-! ### THE PLAIN LAWS -/
def blankB (b : UInt8) : UInt8 := if b = 13 ∨ b = 10 then 32 else b
/-- The text of the line, as a string again. -/
def again (s : ByteArray) : ByteArray := ⟨(s.data.toList.map blankB).toArray⟩

theorem blankB_toNat (b : UInt8) : ((blankB b).toNat : Int) = lnBlank (b.toNat : Int) := by
  have h1 : b = 13 ↔ (b.toNat : Int) = 13 := by
    constructor
    · rintro rfl; rfl
    · intro h; exact UInt8.toNat_inj.1 (by simpa using Int.ofNat.inj h)
  have h2 : b = 10 ↔ (b.toNat : Int) = 10 := by
    constructor
    · rintro rfl; rfl
    · intro h; exact UInt8.toNat_inj.1 (by simpa using Int.ofNat.inj h)
  unfold blankB lnBlank
  by_cases h : b = 13 ∨ b = 10
  · rw [if_pos h, if_pos (by rw [← h1, ← h2]; exact h)]; rfl
  · rw [if_neg h, if_neg (by rw [← h1, ← h2]; exact h)]
theorem again_bytes (s : ByteArray) : lnBytes (again s) = (lnBytes s).map lnBlank := by
  simp [lnBytes, again, blankB_toNat]
theorem again_size (s : ByteArray) : (again s).size = s.size := by
  show (s.data.toList.map blankB).toArray.size = s.size
  simp
theorem blank_blank (c : Int) : lnBlank (lnBlank c) = lnBlank c := by
  unfold lnBlank; split <;> rfl
theorem again_line (s : ByteArray) : (lnBytes (again s)).map lnBlank = (lnBytes s).map lnBlank := by
  rw [again_bytes, List.map_map]
  exact List.map_congr_left fun c _ => blank_blank c
theorem blank_no (c : Int) : breakB (lnBlank c) = false := by
  refine decide_eq_false ?_
  unfold lnBlank; split <;> omega
theorem whole_tail (ds L : List Int) (n j : Nat) (hn : ds.length = n) : (ds ++ L).getD (n + j) 0 = L.getD j 0 := by
  subst hn
  simp only [List.getD]
  rw [List.getElem?_append_right (by omega), Nat.add_sub_cancel_left]
theorem alone_line (A : List Int) (j : Nat) (h : j < A.length) : (A.map lnBlank ++ [13, 10]).getD j 0 = lnBlank (A.getD j 0) := by
  simp only [List.getD]
  rw [List.getElem?_append_left (by simpa using h), List.getElem?_map]
  simp [h]
theorem alone_cr (A : List Int) (m : Nat) (hm : A.length = m) : (A.map lnBlank ++ [13, 10]).getD m 0 = 13 := by
  subst hm; simp [List.getD]
theorem alone_lf (A : List Int) (m : Nat) (hm : A.length = m) : (A.map lnBlank ++ [13, 10]).getD (m + 1) 0 = 10 := by
  subst hm
  simp only [List.getD]
  rw [List.getElem?_append_right (by simp)]
  simp

theorem conv_again (w : World) (g cap : Nat) (s : ByteArray) (hc : ∀ j, j < s.size → w.cell? ⟨g, j, none⟩ = some (.int .u8 (lnBlank ((lnBytes s).getD j 0)))) :
    (convert 22 9 (.slice (some ⟨g, 0, none⟩) s.size cap)).run Try.prog w = .ok (.string (again s)) w := by
  have hlen : (s.data.toList.map blankB).length = s.size := by rw [List.length_map, Array.length_toList]; rfl
  have := run_convert_bytes_back (P := Try.prog) w 22 9 5 ⟨g, 0, none⟩ cap (s.data.toList.map blankB) Try.underlying22 Try.underlying5 Try.underlying9 (fun j hj => by
    rw [hlen] at hj
    rw [Addr.add_lit, Nat.zero_add, hc j hj, lnBytes_get s j hj]
    simp only [List.getElem_map, blankB_toNat]
    rfl)
  rw [hlen] at this
  exact this

theorem cell_of_own {w : World} {g N cap : Nat} {T : List Int} (h : w.ownsRow 0 5 1 (.slice (some ⟨g, 0, none⟩) N cap) N (u8s T)) (hT : T.length = N) (j : Nat) (hj : j < N) : w.cell? ⟨g, j, none⟩ = some (.int .u8 (T.getD j 0)) := by
  rw [h.cellAt j (by omega)]
  exact u8s_get _ _ (by omega)
theorem room_of_own {w : World} {g N cap : Nat} {xs : List Value} (h : w.ownsRow 0 5 1 (.slice (some ⟨g, 0, none⟩) N cap) N xs) : N ≤ cap := by
  rcases h.2 with ⟨hv, _⟩ | ⟨g', cap', cur, hv, _, _, hnc, _⟩
  · simp at hv
  · simp only [Value.slice.injEq, Option.some.injEq, Addr.mk.injEq, and_true, true_and] at hv
    obtain ⟨rfl, rfl⟩ := hv
    exact hnc
theorem own_same {w wr : World} (h : Same w wr) {base : Nat} {e : TypeId} {size : Nat} {v : Value} {n : Nat} {xs : List Value} (ho : w.ownsRow base e size v n xs) : wr.ownsRow base e size v n xs := by
  refine ⟨ho.1, ?_⟩
  rw [h.heap]
  exact ho.2

set_option maxRecDepth 100000 in
set_option maxHeartbeats 1000000 in
theorem walk (a0 : Option Addr) (n cap : Nat) (ds : List Int) (s : ByteArray) (w : World) (hl : ds.length = n) (hlm : n ≤ maxLen) (hsm : s.size ≤ maxLen) (hnone : a0 = none → n = 0 ∧ cap = 0)
    (ha : 0 < n → ∃ b off, a0 = some ⟨b, off, none⟩ ∧ b < w.heap.size ∧ ∀ j, j < n → w.cell? ⟨b, off + j, none⟩ = some (.int .u8 (ds.getD j 0))) :
    Calls Try.prog 4 #[.slice a0 n cap, .string s] w fun e w' => e = .returned (.bool true) ∧ Below w.heap.size w w' := by
  by_cases hb : n + s.size ≤ 1048576
  · clear hlm hsm
    go_enter Try.func4, Try.ntmps4
    go_wp2_with fail
    refine (bytes2_yes _ _ _ _ _ hb).mono ?_; rintro e w' ⟨rfl, rfl⟩
    go_wp2_with fail
    refine (clone_any a0 n cap ds _ hl (by omega) hnone ha).mono ?_
    rintro e w1 ⟨ao1, cap1, rfl, own1, bel1⟩
    go_wp2_with fail
    refine (line_at ao1 n cap1 ds s s.size (n + (s.size + 2)) ((lnBytes s).map lnBlank) _ hl rfl rfl (by omega) hb (own_lower own1 (Nat.zero_le _))).mono ?_
    rintro e w2 ⟨g2, cap2, rfl, own2, gr2, fr2⟩
    go_wp2_with fail
    refine (line_at none 0 0 [] s s.size (s.size + 2) ((lnBytes s).map lnBlank) _ rfl rfl rfl (by omega) (by omega) (World.ownsRow_nil _ _ _ _)).mono ?_
    rintro e w3 ⟨g3, cap3, rfl, own3, gr3, fr3⟩
    rw [List.nil_append] at own3
    have own2b := own_kept own2 gr3 (fun k _ h => by cases h)
    have lt1 := own1.lt
    have bel3 : Below w.heap.size w w3 := (bel1.grown gr2 bel1.size (fun k h => (lt1 k h).1)).grown gr3 (Nat.le_trans bel1.size gr2.size) (fun k h => by cases h)
    have hlA : ((lnBytes s).map lnBlank ++ [13, 10]).length = s.size + 2 := by simp [lnBytes_length]
    have hlT : (ds ++ ((lnBytes s).map lnBlank ++ [13, 10])).length = n + (s.size + 2) := by rw [List.length_append, hl, hlA]
    have cW : Hid (∀ j, j < n + (s.size + 2) → w3.cell? ⟨g2, j, none⟩ = some (.int .u8 ((ds ++ ((lnBytes s).map lnBlank ++ [13, 10])).getD j 0))) := fun j hj => cell_of_own own2b hlT j hj
    have cA : Hid (∀ j, j < s.size + 2 → w3.cell? ⟨g3, j, none⟩ = some (.int .u8 (((lnBytes s).map lnBlank ++ [13, 10]).getD j 0))) := fun j hj => cell_of_own own3 hlA j hj
    have cD : Hid (0 < n → ∃ b off, a0 = some ⟨b, off, none⟩ ∧ ∀ j, j < n → w3.cell? ⟨b, off + j, none⟩ = some (.int .u8 (ds.getD j 0))) := by
      intro hp
      obtain ⟨b, off, e1, e2, e3⟩ := ha hp
      exact ⟨b, off, e1, fun j hj => (bel3.cell e2).trans (e3 j hj)⟩
    have hcap3 := room_of_own own3
    clear own2b own2 gr2 fr2 gr3 fr3 own1 bel1 lt1 ha hnone hlT
    go_wp2_with fail
    go_loopw [8] (fun i wr => ∃ j : Nat, j ≤ n ∧ i = .int .i64 j ∧ Same w3 wr) (fun i _ => n - (intOf i).toNat)
    case atStart => exact ⟨0, Nat.zero_le _, rfl, Same.refl _⟩
    case round =>
      obtain ⟨j, hj, rfl, hsm⟩ := hrel
      by_cases hlt : j < n
      · obtain ⟨b, off, rfl, hcd⟩ := cD.out (by omega)
        have q1 := (hsm.cell _).trans (cW.out j (by omega))
        have q2 := (hsm.cell _).trans (hcd j hlt)
        rw [whole_dst _ _ _ (by omega)] at q1
        generalize ds.getD j 0 = c at q1 q2
        clear hcd
        have hli : (j : Int) < (n : Int) := by omega
        have hli2 : (j : Int) < (n : Int) + ((s.size : Int) + 2) := by omega
        go_wp2_with fail
        go_quiet (fail)
        go_wp2_with fail
        go_roundw
        case rel => exact ⟨j + 1, by omega, by go_num, hsm.drewN _⟩
        case measure => simp [intOf]; omega
      · go_wp2_with fail
        clear cD hlt hj
        go_loopw [9] (fun i wr => ∃ j : Nat, j ≤ s.size + 2 ∧ i = .int .i64 j ∧ Same w3 wr) (fun i _ => s.size + 2 - (intOf i).toNat)
        case atStart => exact ⟨0, Nat.zero_le _, rfl, hsm⟩
        case round =>
          obtain ⟨j2, hj2, rfl, hsm2⟩ := hrel
          by_cases hlt : j2 < s.size + 2
          · have q1 := (hsm2.cell _).trans (cW.out (n + j2) (by omega))
            have q2 := (hsm2.cell _).trans (cA.out j2 hlt)
            rw [whole_tail _ _ _ _ hl] at q1
            generalize ((lnBytes s).map lnBlank ++ [13, 10]).getD j2 0 = c at q1 q2
            have hli : (j2 : Int) < (s.size : Int) + 2 := by omega
            have hli2 : (n : Int) + (j2 : Int) < (n : Int) + ((s.size : Int) + 2) := by omega
            have hli3 : (0 : Int) ≤ (n : Int) + (j2 : Int) := by omega
            go_wp2_with fail
            have hwr : IntKind.i64.wrap ((n : Int) + (j2 : Int)) = (n : Int) + (j2 : Int) := IntWalk.i64_in _ (by omega)
            have htn : ((n : Int) + (j2 : Int)).toNat = n + j2 := by omega
            go_quiet (fail)
            go_wp2_with fail
            go_roundw
            case rel => exact ⟨j2 + 1, by omega, by go_num, hsm2.drewN _⟩
            case measure => simp [intOf]; omega
          · go_wp2_with fail
            clear cW hlt hj2
            go_loopw [10] (fun i wr => ∃ j : Nat, j ≤ s.size ∧ i = .int .i64 j ∧ Same w3 wr) (fun i _ => s.size - (intOf i).toNat)
            case atStart => exact ⟨0, Nat.zero_le _, rfl, hsm2⟩
            case round =>
              obtain ⟨j3, hj3, rfl, hsm3⟩ := hrel
              by_cases hlt : j3 < s.size
              · have q1 := (hsm3.cell _).trans (cA.out j3 (by omega))
                rw [alone_line _ _ (by rw [lnBytes_length]; exact hlt)] at q1
                have hbk := blank_no ((lnBytes s).getD j3 0)
                generalize lnBlank ((lnBytes s).getD j3 0) = c at q1 hbk
                go_wp2_with fail
                refine (break_no _ _ hbk).mono ?_; rintro e w' ⟨rfl, rfl⟩
                go_wp2_with fail
                go_roundw
                case rel => exact ⟨j3 + 1, by omega, by go_num, hsm3⟩
                case measure => simp [intOf]; omega
              · have q1 := (hsm3.cell _).trans (cA.out s.size (by omega))
                have q2 := (hsm3.cell _).trans (cA.out (s.size + 1) (by omega))
                rw [alone_cr _ _ (lnBytes_length s)] at q1
                rw [alone_lf _ _ (lnBytes_length s)] at q2
                have hcz : ¬ cap3 = 0 := by omega
                have hcv := conv_again wr g3 cap3 s (fun j hj => by
                  rw [(hsm3.cell _).trans (cA.out j (by omega)), alone_line _ _ (by rw [lnBytes_length]; exact hj)])
                have own3b := own_same hsm3 own3
                go_wp2_with fail
                refine (line_at none 0 0 [] (again s) s.size (s.size + 2) ((lnBytes s).map lnBlank) _ rfl (again_size s) (again_line s) (by omega) (by omega) (World.ownsRow_nil _ _ _ _)).mono ?_
                rintro e w4 ⟨g4, cap4, rfl, own4, gr4, fr4⟩
                rw [List.nil_append] at own4
                have own3c := own_kept own3b gr4 (fun k _ h => by cases h)
                have bel4 : Below w.heap.size w w4 := (hsm3.below bel3).grown gr4 (hsm3.below bel3).size (fun k h => by cases h)
                have cA4 : Hid (∀ j, j < s.size + 2 → w4.cell? ⟨g3, j, none⟩ = some (.int .u8 (((lnBytes s).map lnBlank ++ [13, 10]).getD j 0))) := fun j hj => cell_of_own own3c hlA j hj
                have cB4 : Hid (∀ j, j < s.size + 2 → w4.cell? ⟨g4, j, none⟩ = some (.int .u8 (((lnBytes s).map lnBlank ++ [13, 10]).getD j 0))) := fun j hj => cell_of_own own4 hlA j hj
                clear own3c own4 gr4 fr4 own3b own3 hcv q1 q2 cA hsm3 hlt hj3 hsm2 hsm bel3 hlA hcap3 hcz
                go_wp2_with fail
                go_loopw [12] (fun i wr => ∃ j : Nat, j ≤ s.size + 2 ∧ i = .int .i64 j ∧ Same w4 wr) (fun i _ => s.size + 2 - (intOf i).toNat)
                case atStart => exact ⟨0, Nat.zero_le _, rfl, Same.refl _⟩
                case round =>
                  obtain ⟨j4, hj4, rfl, hsm4⟩ := hrel
                  by_cases hlt : j4 < s.size + 2
                  · have q1 := (hsm4.cell _).trans (cA4.out j4 hlt)
                    have q2 := (hsm4.cell _).trans (cB4.out j4 hlt)
                    generalize ((lnBytes s).map lnBlank ++ [13, 10]).getD j4 0 = c at q1 q2
                    have hli : (j4 : Int) < (s.size : Int) + 2 := by omega
                    go_wp2_with fail
                    go_quiet (fail)
                    go_wp2_with fail
                    go_roundw
                    case rel => exact ⟨j4 + 1, by omega, by go_num, hsm4.drewN _⟩
                    case measure => simp [intOf]; omega
                  · go_wp2_with fail
                    go_ret
                    exact ⟨rfl, hsm4.below bel4⟩
  · go_enter Try.func4, Try.ntmps4
    go_wp2_with fail
    refine (bytes2_no _ _ _ _ _ hlm hsm hb).mono ?_; rintro e w' ⟨rfl, rfl⟩
    go_wp2_with fail
    go_ret
    exact ⟨rfl, Below.refl _ _⟩
end Go.Proofs.Qxb6621656a.StableWalk
