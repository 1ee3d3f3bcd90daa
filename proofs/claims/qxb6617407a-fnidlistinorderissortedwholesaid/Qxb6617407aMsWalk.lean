/-
  WALK: mergeSort (13): it calls itself.
-/
import Derived.Test.Qxb6617407aMergeWalks
namespace Go.Proofs.Qxb6617407a.MsWalk
open Go.RowKit SortMath StrWalks MergeWalks

/-- Nothing has turned but block H. -/
structure Only (H : Nat) (w wr : World) : Prop where
  os : wr.os = w.os
  tape : wr.tape = w.tape
  output : wr.output = w.output
  size : wr.heap.size = w.heap.size
  block : ∀ k, k ≠ H → wr.heap[k]? = w.heap[k]?
theorem Only.refl (H : Nat) (w : World) : Only H w w := ⟨rfl, rfl, rfl, rfl, fun _ _ => rfl⟩
theorem Only.setCell {H : Nat} {w wr : World} (h : Only H w wr) (k : Nat) (v : Value) : Only H w (wr.setCell ⟨H, k, none⟩ v) :=
  ⟨h.os, h.tape, h.output, by simpa using h.size, fun j hj => (Below.heap_setCell wr ⟨H, k, none⟩ v j hj).trans (h.block j hj)⟩
theorem Only.drewN {H : Nat} {w wr : World} (h : Only H w wr) (n : Nat) : Only H w (wr.drewN n) := ⟨h.os, h.tape, h.output, h.size, h.block⟩
theorem Only.cell {H : Nat} {w wr : World} (h : Only H w wr) {a : Addr} (ha : a.block ≠ H) : wr.cell? a = w.cell? a := World.cell?_of_block (h.block a.block ha)
theorem Only.below {H : Nat} {a w wr : World} (h : Only H w wr) (hb : Below H a w) : Below H a wr :=
  hb.trans ⟨h.os, h.tape, h.output, Nat.le_of_eq h.size.symm, fun k hk => h.block k (by omega)⟩

theorem srt_short {l : List (List UInt8)} (h : l.length ≤ 1) : Srt l = l := by
  refine srt_of_ord ?_
  match l, h with
  | [], _ => exact List.Pairwise.nil
  | [a], _ => exact List.pairwise_singleton _ _
  | _ :: _ :: _, h => simp at h

set_option maxHeartbeats 400000 in
theorem ms_short (ao : Option Addr) (n cap : Nat) (l : List (List UInt8)) (w : World) (hm : n ≤ 1) (hs : Src w ao n l) :
    Calls Try.prog 13 #[.slice ao n cap] w fun e w' => e = .returned (.slice (some ⟨w.heap.size, 0, none⟩) n n) ∧ w'.ownsRow w.heap.size 9 1 (.slice (some ⟨w.heap.size, 0, none⟩) n n) n (sv (Srt l)) ∧ Below w.heap.size w w' := by
  rw [srt_short (by rw [hs.len]; exact hm)]
  obtain ⟨i0, hi, hz0, hz1, hz2⟩ := info_parts info9
  go_enter Try.func13, Try.ntmps13
  go_wp2_with (at_make; refine wpList_make_full _ rfl _ _ 28 rfl w.heap.size 9 i0 (.string ByteArray.empty) 1 Try.underlying28 hi hz0 hz1 _ _ _ _ n rfl rfl rfl rfl ?b2 ?b3 (Nat.le_refl _) ?_)
  case b2 => rw [hz2]; omega
  case b3 => unfold maxLen; omega
  intro w1 hown0 hgrow0
  obtain ⟨R, hR⟩ : ∃ R, R = (madeCells #[Value.string ByteArray.empty] n).toList := ⟨_, rfl⟩
  have hown1 : w1.ownsRow w.heap.size 9 1 (.slice (some ⟨w.heap.size, 0, none⟩) n n) n (mixV (sv l) R 0) := by rw [mixV_zero, hR]; exact hown0
  have hbel0 : Below w.heap.size w w1 := (Below.refl _ _).grown hgrow0 (Nat.le_refl _) (fun k h => by cases h)
  have hlR : (sv l).length = R.length := by
    rw [hR, toList_madeCells_one, List.length_replicate, sv_length, hs.len]
  have hlS : (sv l).length = n := by rw [sv_length, hs.len]
  have HLR : Hid ((sv l).length = R.length) := hlR
  have HLS : Hid ((sv l).length = n) := hlS
  clear hown0 hgrow0 hz0 hz1 hz2 hi hR hlR hlS
  go_wp2_with fail
  go_loopw [5] (fun i wr => ∃ k : Nat, k ≤ n ∧ i = .int .i64 k ∧ wr.ownsRow w.heap.size 9 1 (.slice (some ⟨w.heap.size, 0, none⟩) n n) n (mixV (sv l) R k) ∧ Below w.heap.size w wr)
    (fun i _ => n - (intOf i).toNat)
  case atStart => exact ⟨0, Nat.zero_le _, rfl, hown1, hbel0⟩
  case round =>
    obtain ⟨k, hk, rfl, hown, hbel⟩ := hrel
    by_cases hlt : k < n
    · obtain ⟨b, off, rfl, hb, hc⟩ := hs.cells (by omega)
      have hcx := (hbel.cell (by exact hb)).trans (hc k hlt)
      obtain ⟨⟨c2, hd⟩, hf⟩ := own_some hown k hlt
      obtain ⟨hs1, hs2⟩ := hown.stored k (.string (strV (l.getD k [])))
      rw [mixV_set _ _ _ _ HLR.out (by rw [HLS.out]; exact hlt) (sv_get l k (by rw [hs.len]; exact hlt))] at hs1
      have hbel2 : Below w.heap.size w (wr.setCell ⟨w.heap.size, k, none⟩ (.string (strV (l.getD k [])))) := hbel.setCell (Nat.le_refl _) _
      generalize strV (l.getD k []) = c at hcx hs1 hs2 hbel2
      have H1 : Hid _ := hs1
      clear hs1 hs2 hown hc hs
      go_wp2_with fail
      go_roundw
      case rel => exact ⟨k + 1, by omega, by go_num, H1.out, hbel2⟩
      case measure => simp [intOf]; omega
    · go_wp2_with fail
      go_ret
      refine ⟨rfl, ?_, hbel⟩
      rw [mixV_end _ _ _ HLR.out (by rw [HLS.out]; omega)] at hown
      exact hown

theorem src_take {w : World} {b off n m : Nat} {l : List (List UInt8)} (h : Src w (some ⟨b, off, none⟩) n l) (hm : m ≤ n) : Src w (some ⟨b, off, none⟩) m (l.take m) := by
  refine ⟨by rw [List.length_take, h.len]; omega, fun hp => ?_⟩
  obtain ⟨b', off', e1, e2, e3⟩ := h.cells (by omega)
  cases e1
  refine ⟨b, off, rfl, e2, fun j hj => ?_⟩
  rw [e3 j (by omega)]
  simp only [List.getD]
  rw [List.getElem?_take_of_lt hj]
theorem src_drop {w : World} {b off n m : Nat} {l : List (List UInt8)} (h : Src w (some ⟨b, off, none⟩) n l) (hm : m ≤ n) : Src w (some ⟨b, off + m, none⟩) (n - m) (l.drop m) := by
  refine ⟨by rw [List.length_drop, h.len], fun hp => ?_⟩
  obtain ⟨b', off', e1, e2, e3⟩ := h.cells (by omega)
  cases e1
  refine ⟨b, off + m, rfl, e2, fun j hj => ?_⟩
  rw [Nat.add_assoc, e3 (m + j) (by omega)]
  simp only [List.getD]
  rw [List.getElem?_drop]

theorem own_below {a b : World} {base : Nat} {e : TypeId} {size : Nat} {v : Value} {n : Nat} {xs : List Value} (h : a.ownsRow base e size v n xs) (hb : Below a.heap.size a b) : b.ownsRow base e size v n xs :=
  h.kept (row := none) ⟨hb.os, hb.tape, hb.output, hb.size, fun k hk _ => hb.block k hk⟩ (by cases hv : v.ownBlock <;> simp)
theorem own_cells {w : World} {base g n cap : Nat} {l : List (List UInt8)} (h : w.ownsRow base 9 1 (.slice (some ⟨g, 0, none⟩) n cap) n (sv l)) (j : Nat) (hj : j < n) : w.cell? ⟨g, j, none⟩ = some (.string (strV (l.getD j []))) := by
  have hl : l.length = n := by have := h.1; rw [sv_length] at this; omega
  rw [h.cellAt j (by omega)]
  exact sv_get l j (by omega)
theorem drop_head {T : List (List UInt8)} {k : Nat} {x : List UInt8} {rest : List (List UInt8)} (h : x :: rest = T.drop k) : T.drop (k + 1) = rest ∧ T[k]? = some x := by
  have e : T.drop (k + 1) = (T.drop k).drop 1 := by rw [List.drop_drop]
  have e2 : (T.drop k)[0]? = T[k]? := by rw [List.getElem?_drop, Nat.add_zero]
  rw [← h] at e e2
  exact ⟨by simpa using e, by simpa using e2.symm⟩
theorem get_getD {l : List (List UInt8)} {i : Nat} (h : i < l.length) : l[i] = l.getD i [] := by simp [List.getD, h]
/-- What one round of the merge does. -/
theorem round_left {L R T : List (List UInt8)} {i j : Nat} (hi : i < L.length) (h : R.length ≤ j ∨ (j < R.length ∧ decide (R.getD j [] < L.getD i []) = false)) (hm : List.merge (L.drop i) (R.drop j) leS = T.drop (i + j)) :
    List.merge (L.drop (i + 1)) (R.drop j) leS = T.drop (i + 1 + j) ∧ T[i + j]? = some (L.getD i []) := by
  have e := merge_left L R i j hi (h.elim .inl fun ⟨a, b⟩ => .inr ⟨a, by rw [get_getD hi, get_getD a]; exact leS_of_not_lt b⟩)
  rw [hm] at e
  have := drop_head e.symm
  rw [get_getD hi] at this
  exact ⟨by rw [show i + 1 + j = i + j + 1 by omega]; exact this.1.symm, this.2⟩
theorem round_right {L R T : List (List UInt8)} {i j : Nat} (hj : j < R.length) (h : L.length ≤ i ∨ (i < L.length ∧ decide (R.getD j [] < L.getD i []) = true)) (hm : List.merge (L.drop i) (R.drop j) leS = T.drop (i + j)) :
    List.merge (L.drop i) (R.drop (j + 1)) leS = T.drop (i + (j + 1)) ∧ T[i + j]? = some (R.getD j []) := by
  have e := merge_right L R i j hj (h.elim .inl fun ⟨a, b⟩ => .inr ⟨a, by
    rw [get_getD a, get_getD hj]
    simp only [leS, decide_eq_true_eq, decide_eq_false_iff_not] at b ⊢
    exact fun h => absurd b (by simpa using h)⟩)
  rw [hm] at e
  have := drop_head e.symm
  rw [get_getD hj] at this
  exact ⟨this.1.symm, this.2⟩
theorem sv_of_get {T : List (List UInt8)} {k : Nat} {x : List UInt8} (h : T[k]? = some x) : (sv T)[k]? = some (.string (strV x)) := by
  simp [sv, h]

/-- What mergeSort says of a slice of n strings. -/
def MsSaid (n : Nat) : Prop := ∀ (ao : Option Addr) (cap : Nat) (l : List (List UInt8)) (w : World), n ≤ cap → Src w ao n l →
    Calls Try.prog 13 #[.slice ao n cap] w fun e w' => e = .returned (.slice (some ⟨w.heap.size, 0, none⟩) n n) ∧ w'.ownsRow w.heap.size 9 1 (.slice (some ⟨w.heap.size, 0, none⟩) n n) n (sv (Srt l)) ∧ Below w.heap.size w w'

set_option maxRecDepth 100000 in
set_option maxHeartbeats 1000000 in
theorem ms_long (b off n cap m r : Nat) (l : List (List UInt8)) (w : World) (hn : n ≤ 65536) (hcap : n ≤ cap) (h1 : 1 ≤ m) (h2 : m < n) (hmid : (n : Int) / 2 = (m : Int)) (hr : n - m = r) (ihm : MsSaid m) (ihr : MsSaid r) (hs : Src w (some ⟨b, off, none⟩) n l) :
    Calls Try.prog 13 #[.slice (some ⟨b, off, none⟩) n cap] w fun e w' => e = .returned (.slice (some ⟨w.heap.size, 0, none⟩) n n) ∧ w'.ownsRow w.heap.size 9 1 (.slice (some ⟨w.heap.size, 0, none⟩) n n) n (sv (Srt l)) ∧ Below w.heap.size w w' := by
  obtain ⟨i0, hi, hz0, hz1, hz2⟩ := info_parts info9
  have HM : Hid ((n : Int) / 2 = (m : Int)) := hmid
  have HR : Hid (n - m = r) := hr
  have r1 : m + r ≤ n := by omega
  have r2 : n ≤ m + r := by omega
  clear hmid hr
  go_enter Try.func13, Try.ntmps13
  go_wp2_with (at_make; refine wpList_make_full _ rfl _ _ 28 rfl w.heap.size 9 i0 (.string ByteArray.empty) 1 Try.underlying28 hi hz0 hz1 _ _ _ _ n rfl rfl rfl rfl ?b2 ?b3 (Nat.le_refl _) ?_)
  case b2 => rw [hz2]; omega
  case b3 => unfold maxLen; omega
  intro w1 hown0 hgrow0
  obtain ⟨R0, hR⟩ : ∃ R, R = (madeCells #[Value.string ByteArray.empty] n).toList := ⟨_, rfl⟩
  rw [← hR] at hown0
  have bel1 : Below w.heap.size w w1 := (Below.refl _ _).grown hgrow0 (Nat.le_refl _) (fun k h => by cases h)
  have hsz1 : w.heap.size < w1.heap.size := (hown0.lt w.heap.size rfl).2
  have hlT : (sv (Srt l)).length = n := by rw [sv_length, srt_length, hs.len]
  have hlR : (sv (Srt l)).length = R0.length := by rw [hlT, hR, toList_madeCells_one, List.length_replicate]
  have HLT : Hid ((sv (Srt l)).length = n) := hlT
  have HLR : Hid ((sv (Srt l)).length = R0.length) := hlR
  have hs1 := hs.below bel1
  clear hgrow0 hz0 hz1 hz2 hi hR hlT hlR
  have hcz : ¬ cap = 0 := by omega
  have hcm : ¬ cap = m := by omega
  have HM2 : Hid (n / 2 = m) := by have := HM.out; show n / 2 = m; omega
  go_wp2_with fail
  rw [HM.out, HM2.out]
  refine (ihm (some ⟨b, off, none⟩) cap (l.take m) _ (by omega) (src_take hs1 (by omega))).mono ?_
  rintro e w2 ⟨rfl, own2, bel2⟩
  have hs2 := src_drop (hs1.below bel2) (m := m) (by omega)
  rw [HR.out] at hs2
  have hmi : (m : Int) ≤ (n : Int) := by omega
  go_wp2_with fail
  rw [HR.out]
  refine (ihr (some ⟨b, off + m, none⟩) (cap - m) (l.drop m) _ (by omega) hs2).mono ?_
  rintro e w3 ⟨rfl, own3, bel3⟩
  have own0 : w3.ownsRow w.heap.size 9 1 (.slice (some ⟨w.heap.size, 0, none⟩) n n) n (mixV (sv (Srt l)) R0 0) := by
    rw [mixV_zero]; exact own_below (own_below hown0 bel2) bel3
  have ownL := own_below own2 bel3
  have belw : Below w.heap.size w w3 := (bel1.trans (bel2.mono bel1.size)).trans (bel3.mono (Nat.le_trans bel1.size bel2.size))
  have hsz2 := bel2.size
  have HMG : Hid (List.merge ((Srt (l.take m)).drop 0) ((Srt (l.drop m)).drop 0) leS = (Srt l).drop (0 + 0)) := by
    show List.merge ((Srt (l.take m)).drop 0) ((Srt (l.drop m)).drop 0) leS = (Srt l).drop (0 + 0)
    rw [List.drop_zero, List.drop_zero, List.drop_zero, merge_srt, List.take_append_drop]
  have hlL : (Srt (l.take m)).length = m := by rw [srt_length, List.length_take, hs.len]; omega
  have hlR2 : (Srt (l.drop m)).length = r := by rw [srt_length, List.length_drop, hs.len]; exact HR.out
  have HLL : Hid ((Srt (l.take m)).length = m) := hlL
  have HLR2 : Hid ((Srt (l.drop m)).length = r) := hlR2
  have CL : Hid (∀ j, j < m → w3.cell? ⟨w1.heap.size, j, none⟩ = some (.string (strV ((Srt (l.take m)).getD j [])))) := fun j hj => own_cells ownL j hj
  have CR : Hid (∀ j, j < r → w3.cell? ⟨w2.heap.size, j, none⟩ = some (.string (strV ((Srt (l.drop m)).getD j [])))) := fun j hj => own_cells own3 j hj
  clear hown0 own2 own3 ownL bel1 bel2 bel3 hs1 hs2 hs ihm ihr hlL hlR2 hcz hcm
  generalize Srt (l.take m) = L at *
  generalize Srt (l.drop m) = R at *
  generalize hT : Srt l = T at *
  have HT : Hid (Srt l = T) := hT
  clear hT
  go_wp2_with fail
  go_loopw [9, 10, 11] (fun si sj sk wr => ∃ i j : Nat, i ≤ m ∧ j ≤ r ∧ si = .int .i64 i ∧ sj = .int .i64 j ∧ sk = .int .i64 ((i : Int) + (j : Int)) ∧ List.merge (L.drop i) (R.drop j) leS = T.drop (i + j) ∧
      wr.ownsRow w.heap.size 9 1 (.slice (some ⟨w.heap.size, 0, none⟩) n n) n (mixV (sv T) R0 (i + j)) ∧ Only w.heap.size w3 wr)
    (fun _ _ sk _ => n - (intOf sk).toNat)
  case atStart => exact ⟨0, 0, Nat.zero_le _, Nat.zero_le _, rfl, rfl, rfl, HMG.out, own0, Only.refl _ _⟩
  case round =>
    obtain ⟨i, j, hi, hj, rfl, rfl, rfl, hmg, hown, honly⟩ := hrel
    have HMR : Hid (List.merge (L.drop i) (R.drop j) leS = T.drop (i + j)) := hmg
    clear hmg
    by_cases hlt : i + j < n
    · have hki : (i : Int) + (j : Int) < (n : Int) := by omega
      obtain ⟨⟨c2, hd⟩, hf⟩ := own_some hown (i + j) hlt
      by_cases hjr : j < r
      · have hjd : decide (r ≤ j) = false := by simp; omega
        have hji : (j : Int) < (r : Int) := by omega
        have qR := (honly.cell (a := ⟨w2.heap.size, j, none⟩) (by show w2.heap.size ≠ w.heap.size; omega)).trans (CR.out j hjr)
        by_cases him : i < m
        · have hid : decide (i < m) = true := by simp; omega
          have hii : (i : Int) < (m : Int) := by omega
          have qL := (honly.cell (a := ⟨w1.heap.size, i, none⟩) (by show w1.heap.size ≠ w.heap.size; omega)).trans (CL.out i him)
          cases hv : decide (R.getD j [] < L.getD i [])
          · -- take the left
            have hb := less_v _ _ _ hv
            obtain ⟨g1, g2⟩ := round_left (by rw [HLL.out]; exact him) (.inr ⟨by rw [HLR2.out]; exact hjr, hv⟩) HMR.out
            obtain ⟨hs1, _⟩ := hown.stored (i + j) (.string (strV (L.getD i [])))
            rw [mixV_set _ _ _ _ HLR.out (by rw [HLT.out]; exact hlt) (sv_of_get g2), show i + j + 1 = i + 1 + j by omega] at hs1
            have G1 : Hid _ := g1
            have S1 : Hid _ := hs1
            clear g1 g2 hs1 hown hv
            generalize strV (L.getD i []) = sL at qL hb S1
            generalize strV (R.getD j []) = sR at qR hb
            go_wp2_with fail
            go_quiet (fail)
            go_wp2_with fail
            go_roundw
            case rel => exact ⟨i + 1, j, by omega, hj, by go_num, rfl, by go_num, G1.out, S1.out, (honly.drewN nq).setCell _ _⟩
            case measure => simp [intOf]; omega
          · -- take the right
            have hb := less_v _ _ _ hv
            obtain ⟨g1, g2⟩ := round_right (by rw [HLR2.out]; exact hjr) (.inr ⟨by rw [HLL.out]; exact him, hv⟩) HMR.out
            obtain ⟨hs1, _⟩ := hown.stored (i + j) (.string (strV (R.getD j [])))
            rw [mixV_set _ _ _ _ HLR.out (by rw [HLT.out]; exact hlt) (sv_of_get g2), show i + j + 1 = i + (j + 1) by omega] at hs1
            have G1 : Hid _ := g1
            have S1 : Hid _ := hs1
            clear g1 g2 hs1 hown hv
            generalize strV (L.getD i []) = sL at qL hb
            generalize strV (R.getD j []) = sR at qR hb S1
            go_wp2_with fail
            go_quiet (fail)
            go_wp2_with fail
            go_roundw
            case rel => exact ⟨i, j + 1, hi, by omega, rfl, by go_num, by go_num, G1.out, S1.out, (honly.drewN nq).setCell _ _⟩
            case measure => simp [intOf]; omega
        · have hid : decide (i < m) = false := by simp; omega
          obtain ⟨g1, g2⟩ := round_right (by rw [HLR2.out]; exact hjr) (.inl (by rw [HLL.out]; omega)) HMR.out
          obtain ⟨hs1, _⟩ := hown.stored (i + j) (.string (strV (R.getD j [])))
          rw [mixV_set _ _ _ _ HLR.out (by rw [HLT.out]; exact hlt) (sv_of_get g2), show i + j + 1 = i + (j + 1) by omega] at hs1
          have G1 : Hid _ := g1
          have S1 : Hid _ := hs1
          clear g1 g2 hs1 hown
          generalize strV (R.getD j []) = sR at qR S1
          go_wp2_with fail
          go_quiet (fail)
          go_wp2_with fail
          go_roundw
          case rel => exact ⟨i, j + 1, hi, by omega, rfl, by go_num, by go_num, G1.out, S1.out, (honly.drewN nq).setCell _ _⟩
          case measure => simp [intOf]; omega
      · have him : i < m := by omega
        have hjd : decide (r ≤ j) = true := by simp; omega
        have hii : (i : Int) < (m : Int) := by omega
        have qL := (honly.cell (a := ⟨w1.heap.size, i, none⟩) (by show w1.heap.size ≠ w.heap.size; omega)).trans (CL.out i him)
        obtain ⟨g1, g2⟩ := round_left (by rw [HLL.out]; exact him) (.inl (by rw [HLR2.out]; omega)) HMR.out
        obtain ⟨hs1, _⟩ := hown.stored (i + j) (.string (strV (L.getD i [])))
        rw [mixV_set _ _ _ _ HLR.out (by rw [HLT.out]; exact hlt) (sv_of_get g2), show i + j + 1 = i + 1 + j by omega] at hs1
        have G1 : Hid _ := g1
        have S1 : Hid _ := hs1
        clear g1 g2 hs1 hown
        generalize strV (L.getD i []) = sL at qL S1
        go_wp2_with fail
        go_quiet (fail)
        go_wp2_with fail
        go_roundw
        case rel => exact ⟨i + 1, j, by omega, hj, by go_num, rfl, by go_num, G1.out, S1.out, (honly.drewN nq).setCell _ _⟩
        case measure => simp [intOf]; omega
    · go_wp2_with fail
      go_ret
      refine ⟨rfl, ?_, honly.below belw⟩
      rw [mixV_end _ _ _ HLR.out (by rw [HLT.out]; omega)] at hown
      rw [HT.out]
      exact hown

/-- mergeSort: its answer is the sorted list, in a row of its own. -/
theorem ms_all : ∀ n, n ≤ 65536 → MsSaid n := by
  intro n
  induction n using Nat.strongRecOn with
  | ind n ih =>
    intro hn ao cap l w hcap hs
    by_cases h1 : n ≤ 1
    · exact ms_short ao n cap l w h1 hs
    · obtain ⟨b, off, rfl, _, _⟩ := hs.cells (by omega)
      exact ms_long b off n cap (n / 2) (n - n / 2) l w hn hcap (by omega) (by omega) (by omega) rfl (ih (n / 2) (by omega) (by omega)) (ih (n - n / 2) (by omega) (by omega)) hs
end Go.Proofs.Qxb6617407a.MsWalk
