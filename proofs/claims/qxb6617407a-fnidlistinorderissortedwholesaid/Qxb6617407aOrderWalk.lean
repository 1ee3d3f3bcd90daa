/-
  WALK: idList.inOrder (18).
-/
import Derived.Test.Qxb6617407aSortWalks
import Derived.Deep.RegionWith
import Derived.Deep.DeepCutAuto
namespace Go.Proofs.Qxb6617407a.OrderWalk
open Go.RowKit SortMath StrWalks MergeWalks MsWalk SortWalks

/-- Nothing old has turned but the blocks p and g. -/
structure Two (p g : Nat) (w wr : World) : Prop where
  os : wr.os = w.os
  tape : wr.tape = w.tape
  output : wr.output = w.output
  size : w.heap.size ≤ wr.heap.size
  block : ∀ k, k < w.heap.size → k ≠ p → k ≠ g → wr.heap[k]? = w.heap[k]?
theorem Two.refl (p g : Nat) (w : World) : Two p g w w := ⟨rfl, rfl, rfl, Nat.le_refl _, fun _ _ _ _ => rfl⟩
theorem Two.drewN {p g : Nat} {w wr : World} (h : Two p g w wr) (n : Nat) : Two p g w (wr.drewN n) := ⟨h.os, h.tape, h.output, h.size, h.block⟩
theorem Two.drew {p g : Nat} {w wr : World} (h : Two p g w wr) : Two p g w wr.drew := ⟨h.os, h.tape, h.output, h.size, h.block⟩
theorem Two.only {p g : Nat} {w w2 wr : World} (h : Two p g w w2) (k : Only g w2 wr) : Two p g w wr :=
  ⟨k.os.trans h.os, k.tape.trans h.tape, k.output.trans h.output, by rw [k.size]; exact h.size, fun j h1 h2 h3 => (k.block j h3).trans (h.block j h1 h2 h3)⟩
theorem Two.setP {p g : Nat} {w wr : World} (h : Two p g w wr) (k : Nat) (v : Value) : Two p g w (wr.setCell ⟨p, k, none⟩ v) :=
  ⟨h.os, h.tape, h.output, by simpa using h.size, fun j h1 h2 h3 => (Below.heap_setCell wr ⟨p, k, none⟩ v j h2).trans (h.block j h1 h2 h3)⟩

theorem only_drew {H : Nat} {w wr : World} (h : Only H w wr) : Only H w wr.drew := ⟨h.os, h.tape, h.output, h.size, h.block⟩

/-- The list's own block. -/
def Lst (w : World) (p : Nat) (v : Value) (k : Int) : Prop := w.heap[p]? = some (.cells #[v, .int .i64 k] 41 (0, 0))
theorem Lst.c0 {w : World} {p : Nat} {v : Value} {k : Int} (h : Lst w p v k) : w.cell? ⟨p, 0, none⟩ = some v := by
  rw [cell_of_row w p 0 _ 41 (0, 0) h]; rfl
theorem Lst.c1 {w : World} {p : Nat} {v : Value} {k : Int} (h : Lst w p v k) : w.cell? ⟨p, 1, none⟩ = some (.int .i64 k) := by
  rw [cell_of_row w p 1 _ 41 (0, 0) h]; rfl
theorem Lst.free {w : World} {p : Nat} {v : Value} {k : Int} (h : Lst w p v k) (o : Nat) : w.frozen? ⟨p, o, none⟩ = false := by
  simp [World.frozen?, show w.heap[p]? = _ from h]
theorem Lst.store {w : World} {p : Nat} {v : Value} {k : Int} (h : Lst w p v k) (n : Int) : Lst (w.setCell ⟨p, 1, none⟩ (.int .i64 n)) p v n := by
  have := heap_setCell_same w p 1 _ 41 (.int .i64 n) h
  exact this
theorem Lst.only {w wr : World} {p g : Nat} {v : Value} {k : Int} (h : Lst w p v k) (ho : Only g w wr) (hne : p ≠ g) : Lst wr p v k := (ho.block p hne).trans h
theorem Lst.lt {w : World} {p : Nat} {v : Value} {k : Int} (h : Lst w p v k) : p < w.heap.size := lt_of_block h

theorem Lst.same {w wr : World} {p : Nat} {v : Value} {k : Int} (h : Lst w p v k) (hs : Same w wr) : Lst wr p v k := by
  show wr.heap[p]? = _
  rw [hs.heap]; exact h
theorem Lst.grown {w wr : World} {p : Nat} {v : Value} {k : Int} {row : Option Nat} (h : Lst w p v k) (hg : w.grownBy wr row) (hne : some p ≠ row) : Lst wr p v k := (hg.block p h.lt hne).trans h
theorem own_same {w wr : World} (h : Same w wr) {base : Nat} {e : TypeId} {size : Nat} {v : Value} {n : Nat} {xs : List Value} (ho : w.ownsRow base e size v n xs) : wr.ownsRow base e size v n xs := by
  refine ⟨ho.1, ?_⟩
  rw [h.heap]
  exact ho.2
theorem own_lower {w : World} {base base' : Nat} {e : TypeId} {size : Nat} {v : Value} {n : Nat} {xs : List Value} (h : w.ownsRow base e size v n xs) (hb : base' ≤ base) : w.ownsRow base' e size v n xs := by
  refine ⟨h.1, ?_⟩
  rcases h.2 with hn | ⟨g, cap, cur, hv, h1, h2⟩
  · exact .inl hn
  · exact .inr ⟨g, cap, cur, hv, Nat.le_trans hb h1, h2⟩

theorem back_get {A D T R : List (List UInt8)} {a q : Nat} (h : Back A D T R (a + 1) q) : R.getD a [] = A.getD a [] := by
  have e : (R.take (a + 1))[a]? = (A.take (a + 1))[a]? := by rw [h.low]
  rw [List.getElem?_take_of_lt (by omega), List.getElem?_take_of_lt (by omega)] at e
  simp only [List.getD, e]
theorem sv_set (R : List (List UInt8)) (k : Nat) (x : List UInt8) : (sv R).set k (.string (strV x)) = sv (R.set k x) := by
  simp [sv, List.map_set]
/-- '>' on strings, in the walk's own words. -/
theorem cmp_three (a b : List UInt8) : (decide (b < a) = true ∧ Op.bytesLess (strV a).toList (strV b).toList = false ∧ ((strV a).toList == (strV b).toList) = false) ∨
    (decide (b < a) = false ∧ Op.bytesLess (strV a).toList (strV b).toList = true) ∨
    (decide (b < a) = false ∧ Op.bytesLess (strV a).toList (strV b).toList = false ∧ ((strV a).toList == (strV b).toList) = true) := by
  rw [strV_list, strV_list, bytesLess_eq]
  by_cases h1 : b < a
  · refine .inl ⟨by simpa using h1, ?_, ?_⟩
    · simp only [decide_eq_false_iff_not]; exact fun h => List.lt_irrefl a (List.lt_trans h h1)
    · simp only [beq_eq_false_iff_ne]; rintro rfl; exact List.lt_irrefl _ h1
  · by_cases h2 : a < b
    · exact .inr (.inl ⟨by simpa using h1, by simpa using h2⟩)
    · refine .inr (.inr ⟨by simpa using h1, by simpa using h2, ?_⟩)
      simp only [beq_iff_eq]
      exact List.le_antisymm (by simpa using h1) (by simpa using h2)

/-- All were in order already. -/
theorem whole_any (p n : Nat) (ao : Option Addr) (cap : Nat) (w : World) (hp : Lst w p (.slice ao n cap) n) :
    Calls Try.prog 18 #[.pointer (some ⟨p, 0, none⟩)] w fun e w' => e = .returned (.slice ao n cap) ∧ Same w w' := by
  have c0 := hp.c0
  have c1 := hp.c1
  clear hp
  go_enter Try.func18, Try.ntmps18
  go_wp2_with fail
  go_quiet (fail)
  go_wp2_with fail
  go_ret
  exact ⟨rfl, (Same.refl _).drewN _⟩

set_option maxRecDepth 100000 in
set_option maxHeartbeats 1000000 in
theorem part_any (p g n k : Nat) (l : List (List UInt8)) (w : World) (hn : n ≤ 65536) (hk : k < n) (hl : l.length = n) (hne : p ≠ g) (hp : Lst w p (.slice (some ⟨g, 0, none⟩) n n) k) (hown : w.ownsRow 0 9 1 (.slice (some ⟨g, 0, none⟩) n n) n (sv l)) (hord : Ord (l.take k)) :
    Calls Try.prog 18 #[.pointer (some ⟨p, 0, none⟩)] w fun e w' => e = .returned (.slice (some ⟨g, 0, none⟩) n n) ∧ w'.ownsRow 0 9 1 (.slice (some ⟨g, 0, none⟩) n n) n (sv (Srt l)) ∧
      Lst w' p (.slice (some ⟨g, 0, none⟩) n n) n ∧ Two p g w w' := by
  have c0 := hp.c0
  have c1 := hp.c1
  have hgl := (hown.lt g rfl).2
  have hpl := hp.lt
  have hkn : ((k : Int) == (n : Int)) = false := by simp; omega
  have hki : (k : Int) ≤ (n : Int) := by omega
  have hk0 : (0 : Int) ≤ (k : Int) := by omega
  have hnk : ¬ n = k := by omega
  go_enter Try.func18, Try.ntmps18
  go_wp2_with fail
  go_quiet (fail)
  go_wp2_with fail
  have hsm : Same w (w.drewN nq) := (Same.refl _).drewN nq
  generalize w.drewN nq = wd at hsm ⊢
  have hszd : wd.heap.size = w.heap.size := by rw [hsm.heap]
  have hpd := hp.same hsm
  have hod := own_same hsm hown
  have two0 : Two p g w wd := ⟨hsm.os, hsm.tape, hsm.output, by rw [hsm.heap]; exact Nat.le_refl _, fun j _ _ _ => by rw [hsm.heap]⟩
  have HS : Hid (wd.heap.size = w.heap.size) := hszd
  clear c0 c1 hp hown hszd hsm
  have c0 := hpd.c0
  have c1 := hpd.c1
  obtain ⟨r, hr⟩ : ∃ r, n - k = r := ⟨_, rfl⟩
  have r1 : k + r ≤ n := by omega
  have r2 : n ≤ k + r := by omega
  have hsrc := src_drop (own_src hod) (m := k) (by omega)
  rw [hr, Nat.zero_add] at hsrc
  go_cut [3] (fun s3 wx => ∃ g2 cap2, s3 = .slice (some ⟨g2, 0, none⟩) r cap2 ∧ wx.ownsRow wd.heap.size 9 1 (.slice (some ⟨g2, 0, none⟩) r cap2) r (sv (l.drop k)) ∧ Below wd.heap.size wd wx)
  case first =>
    go_region_with (go_at_call 19; refine (clone_row g k r r (l.drop k) _ (by omega) (by omega) ?_).mono ?_; exact hsrc.below (Below.refl _ _).drew; rintro e w1 ⟨g2, cap2, rfl, own2, bel2⟩)
    all_goals (try go_wp2_with fail)
    all_goals go_meet
    all_goals exact ⟨g2, cap2, rfl, own2, (Below.refl _ _).drew.trans bel2⟩
  case rest =>
    obtain ⟨g2, cap2, rfl, own2, bel2⟩ := hcut
    have hg2 := (own2.lt g2 rfl)
    have hlD : (l.drop k).length = r := by rw [List.length_drop, hl]; exact hr
    go_wp2_with fail
    refine (sort_own g2 r cap2 wd.heap.size (l.drop k) _ hlD (by omega) own2).mono ?_
    rintro e w2 ⟨rfl, own3, gr3⟩
    have hpg : p ≠ g2 := by have := HS.out; omega
    have hgg : g ≠ g2 := by have := HS.out; omega
    have hp2 : Lst w2 p (.slice (some ⟨g, 0, none⟩) n n) k := ((bel2.block p (by rw [HS.out]; exact hpl)).trans hpd |> fun (h : Lst wc p (.slice (some ⟨g, 0, none⟩) n n) k) => h.grown gr3 (fun e => hpg (Option.some.inj e)))
    have hrow2 : w2.ownsRow 0 9 1 (.slice (some ⟨g, 0, none⟩) n n) n (sv l) :=
      (own_below hod bel2).kept gr3 (.inr (fun e => hgg (Option.some.inj e)))
    have two2 : Two p g w w2 := ⟨gr3.os.trans (bel2.os.trans two0.os), gr3.tape.trans (bel2.tape.trans two0.tape), gr3.output.trans (bel2.output.trans two0.output),
      Nat.le_trans two0.size (Nat.le_trans bel2.size gr3.size), fun j h1 h2 h3 => by
        have hjd : j < wd.heap.size := by rw [HS.out]; exact h1
        exact ((gr3.block j (Nat.lt_of_lt_of_le hjd bel2.size) (fun e => by have := Option.some.inj e; have := hg2.1; omega)).trans (bel2.block j hjd)).trans (two0.block j h1 h2 h3)⟩
    have hback := back_start (l := l) k (by omega)
    rw [show l.length - k = r from by rw [hl]; exact hr] at hback
    have hordD := srt_ord (l.drop k)
    have hlA : (l.take k).length = k := by rw [List.length_take, hl]; omega
    have hlS : (Srt (l.drop k)).length = r := by rw [srt_length]; exact hlD
    have CD : Hid (∀ j, j < r → w2.cell? ⟨g2, j, none⟩ = some (.string (strV ((Srt (l.drop k)).getD j [])))) := fun j hj => own_cells own3 j hj
    have HLA : Hid ((l.take k).length = k) := hlA
    have HLS : Hid ((Srt (l.drop k)).length = r) := hlS
    have HL : Hid (l.length = n) := hl
    have HBK : Hid (Back (l.take k) (Srt (l.drop k)) (Srt l) l k r) := hback
    have HLT : Hid ((Srt l).length = n) := by show (Srt l).length = n; rw [srt_length]; exact hl
    have HOA : Hid (Ord (l.take k)) := hord
    have HOD : Hid (Ord (Srt (l.drop k))) := hordD
    clear own2 own3 gr3 bel2 hod hpd two0 hback hordD hlA hlS hlD hl hord hsrc c0 c1 hr
    generalize l.take k = A at *
    generalize Srt (l.drop k) = D at *
    generalize hT : Srt l = T at *
    have HT : Hid (Srt l = T) := hT
    clear hT
    have c0 := hp2.c0
    have c1 := hp2.c1
    go_wp2_with fail
    go_loopw [4, 5, 6] (fun si sj sk wr => ∃ (a q : Nat) (R : List (List UInt8)), a ≤ k ∧ q ≤ r ∧ si = .int .i64 ((a : Int) - 1) ∧ sj = .int .i64 ((q : Int) - 1) ∧ sk = .int .i64 ((a : Int) + (q : Int) - 1) ∧ Back A D T R a q ∧
        wr.ownsRow 0 9 1 (.slice (some ⟨g, 0, none⟩) n n) n (sv R) ∧ Only g w2 wr) (fun _ _ sk _ => (intOf sk + 1).toNat)
    case atStart => exact ⟨k, r, l, Nat.le_refl _, Nat.le_refl _, rfl, rfl, by go_num, HBK.out, hrow2, Only.refl _ _⟩
    case round =>
      obtain ⟨a, q, R, ha, hq, rfl, rfl, rfl, hbk, hrow, honly⟩ := hrel
      have HB : Hid (Back A D T R a q) := hbk
      clear hbk c0 c1 hrow2
      have hpr := hp2.only honly hne
      have c0 := hpr.c0
      have c1 := hpr.c1
      cases q with
      | zero =>
        have e1 : ((0 : Nat) : Int) - 1 = -1 := rfl
        rw [e1]
        clear e1
        have f1 := hpr.free 1
        have hst := hpr.store (n : Int)
        have HST : Hid _ := hst
        have two3 : Two p g w wr := two2.only honly
        have e2 : R = T := back_end HOA.out HB.out
        have hne2 : (p : Nat) ≠ g := hne
        have hrow3 : (wr.setCell ⟨p, 1, none⟩ (.int .i64 (n : Int))).ownsRow 0 9 1 (.slice (some ⟨g, 0, none⟩) n n) n (sv R) :=
          ownsRow_setCell_other hrow (fun e => hne (Option.some.inj e).symm) _
        rw [e2] at hrow3
        have HR3 : Hid _ := hrow3
        clear hst e2 hrow hrow3 hpr
        go_wp2_with fail
        go_ret
        rw [HT.out]
        exact ⟨rfl, HR3.out, HST.out, two3.setP _ _⟩
      | succ t =>
        have e1 : ((t + 1 : Nat) : Int) - 1 = (t : Int) := by omega
        have htr : t < r := by omega
        have hti : (t : Int) < (r : Int) := by omega
        have HRW : Hid (wr.ownsRow 0 9 1 (.slice (some ⟨g, 0, none⟩) n n) n (sv R)) := hrow
        cases a with
        | zero =>
          have e3 : ((0 : Nat) : Int) - 1 = -1 := rfl
          have e2 : ((0 : Nat) : Int) + ((t + 1 : Nat) : Int) - 1 = (t : Int) := by omega
          rw [e1, e2, e3]
          clear e1 e2 e3
          have hb2 := back_new HOA.out HOD.out HB.out (Nat.zero_le _) (by rw [HLS.out]; exact htr) (.inl rfl)
          rw [Nat.zero_add, get_getD] at hb2
          have hlt : t < n := by omega
          have hlti : (t : Int) < (n : Int) := by omega
          have B2 : Hid _ := hb2
          clear hb2 hrow hpr
          go_wp2_with fail
          go_quiet (fail)
          go_wp2_with fail
          have honly2 := honly.drewN nq
          have hrow2 : (wr.drewN nq).ownsRow 0 9 1 (.slice (some ⟨g, 0, none⟩) n n) n (sv R) := HRW.out
          generalize wr.drewN nq = wr2 at honly2 hrow2 ⊢
          have hpr2 := hp2.only honly2 hne
          have d0 := hpr2.c0
          have qX := (honly2.cell (a := ⟨g2, t, none⟩) (fun e => hgg e.symm)).trans (CD.out t htr)
          obtain ⟨⟨v2, hv2⟩, hf2⟩ := own_some hrow2 t hlt
          obtain ⟨hs1, _⟩ := hrow2.stored t (.string (strV (D.getD t [])))
          rw [sv_set] at hs1
          have S1 : Hid _ := hs1
          clear hs1 hrow2 hpr2 c0 c1
          generalize strV (D.getD t []) = sX at qX S1
          go_region
          all_goals
            go_wp2_with fail
            go_roundw
            case rel => exact ⟨0, t, _, Nat.zero_le _, by omega, rfl, by go_num, by go_num, B2.out, S1.out, only_drew (honly2.setCell _ _)⟩
            case measure => simp [intOf]
        | succ s =>
          obtain ⟨kk, hkk⟩ : ∃ kk, kk = s + 1 + t := ⟨_, rfl⟩
          have e3 : ((s + 1 : Nat) : Int) - 1 = (s : Int) := by omega
          have e2 : ((s + 1 : Nat) : Int) + ((t + 1 : Nat) : Int) - 1 = (kk : Int) := by omega
          rw [e1, e2, e3]
          clear e1 e2 e3
          have k1 : kk ≤ s + 1 + t := by omega
          have k2 : s + 1 + t ≤ kk := by omega
          have hlt : kk < n := by omega
          have hlti : (kk : Int) < (n : Int) := by omega
          have hsk : s < k := by omega
          have hsn : (s : Int) < (n : Int) := by omega
          have HK : Hid (kk = s + 1 + t) := hkk
          clear hkk
          have hrg : R.getD s [] = A.getD s [] := back_get HB.out
          have HRG : Hid (R.getD s [] = A.getD s []) := hrg
          have qA := own_cells hrow s (by omega)
          rw [hrg] at qA
          have qD := (honly.cell (a := ⟨g2, t, none⟩) (fun e => hgg e.symm)).trans (CD.out t htr)
          rcases cmp_three (A.getD s []) (D.getD t []) with ⟨h1, h2, h3⟩ | h0
          · -- the old one is the greater
            have hb2 := back_old HOA.out HOD.out HB.out (by rw [HLA.out]; exact hsk) (by rw [HLS.out]; exact htr) (by rw [get_getD, get_getD]; exact leS_of_lt h1)
            rw [get_getD, ← HK.out] at hb2
            have B2 : Hid _ := hb2
            clear hb2 hrow hpr hrg h1
            generalize strV (A.getD s []) = sA at qA h2 h3
            generalize strV (D.getD t []) = sD at qD h2 h3
            go_wp2_with fail
            go_quiet (fail)
            go_wp2_with fail
            clear qA qD h2 h3
            have honly2 := honly.drewN nq
            have hrow2 : (wr.drewN nq).ownsRow 0 9 1 (.slice (some ⟨g, 0, none⟩) n n) n (sv R) := HRW.out
            generalize wr.drewN nq = wr2 at honly2 hrow2 ⊢
            have hpr2 := hp2.only honly2 hne
            have d0 := hpr2.c0
            have qX := own_cells hrow2 s (by omega)
            rw [HRG.out] at qX
            obtain ⟨⟨v2, hv2⟩, hf2⟩ := own_some hrow2 kk hlt
            obtain ⟨hs1, _⟩ := hrow2.stored kk (.string (strV (A.getD s [])))
            rw [sv_set] at hs1
            have S1 : Hid _ := hs1
            clear hs1 hrow2 hpr2 c0 c1
            generalize strV (A.getD s []) = sX at qX S1
            go_region
            all_goals
              go_wp2_with fail
              go_roundw
              case rel => exact ⟨s, t + 1, _, by omega, hq, by go_num, by go_num, by go_num, B2.out, S1.out, only_drew (honly2.setCell _ _)⟩
              case measure => simp [intOf]
          · -- the added one is placed
            have hle : decide (D.getD t [] < A.getD s []) = false := by rcases h0 with ⟨h, _⟩ | ⟨h, _⟩ <;> exact h
            have hb2 := back_new HOA.out HOD.out HB.out (by rw [HLA.out]; omega) (by rw [HLS.out]; exact htr) (.inr ⟨by rw [HLA.out]; omega, by rw [get_getD, get_getD]; exact leS_of_not_lt hle⟩)
            rw [get_getD, ← HK.out] at hb2
            have B2 : Hid _ := hb2
            have h4 : (Op.bytesLess (strV (A.getD s [])).toList (strV (D.getD t [])).toList = true) ∨ (Op.bytesLess (strV (A.getD s [])).toList (strV (D.getD t [])).toList = false ∧ ((strV (A.getD s [])).toList == (strV (D.getD t [])).toList) = true) := by
              rcases h0 with ⟨_, h⟩ | ⟨_, h⟩
              · exact .inl h
              · exact .inr h
            clear hb2 hrow hpr hrg hle h0
            generalize strV (A.getD s []) = sA at qA h4
            generalize strV (D.getD t []) = sD at qD h4
            rcases h4 with h2 | ⟨h2, h3⟩
            all_goals
              go_wp2_with fail
              go_quiet (fail)
              go_wp2_with fail
              clear qA qD h2
              have honly2 := honly.drewN nq
              have hrow2 : (wr.drewN nq).ownsRow 0 9 1 (.slice (some ⟨g, 0, none⟩) n n) n (sv R) := HRW.out
              generalize wr.drewN nq = wr2 at honly2 hrow2 ⊢
              have hpr2 := hp2.only honly2 hne
              have d0 := hpr2.c0
              have qX := (honly2.cell (a := ⟨g2, t, none⟩) (fun e => hgg e.symm)).trans (CD.out t htr)
              obtain ⟨⟨v2, hv2⟩, hf2⟩ := own_some hrow2 kk hlt
              obtain ⟨hs1, _⟩ := hrow2.stored kk (.string (strV (D.getD t [])))
              rw [sv_set] at hs1
              have S1 : Hid _ := hs1
              clear hs1 hrow2 hpr2 c0 c1
              generalize strV (D.getD t []) = sX at qX S1
              go_region
              all_goals
                go_wp2_with fail
                go_roundw
                case rel => exact ⟨s + 1, t, _, ha, by omega, by go_num, by go_num, by go_num, B2.out, S1.out, only_drew (honly2.setCell _ _)⟩
                case measure => simp [intOf]
end Go.Proofs.Qxb6617407a.OrderWalk
