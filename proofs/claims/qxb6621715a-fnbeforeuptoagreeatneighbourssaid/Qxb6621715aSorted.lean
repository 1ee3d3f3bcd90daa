/-
  WALK: zzSortedInstants (6).
-/
import Derived.Test.Qxb6621715aInstWalks
import Derived.Laws.CopyOwn
namespace Go.Proofs.Qxb6621715a.Sorted
open Go.RowKit Order Walks Inst

/-- The same world but for what was drawn. -/
structure Same (w wr : World) : Prop where
  heap : wr.heap = w.heap
  os : wr.os = w.os
  tape : wr.tape = w.tape
  output : wr.output = w.output
theorem Same.refl (w : World) : Same w w := ⟨rfl, rfl, rfl, rfl⟩
theorem Same.drewN {w wr : World} (h : Same w wr) (n : Nat) : Same w (wr.drewN n) := ⟨h.heap, h.os, h.tape, h.output⟩
theorem Same.drew {w wr : World} (h : Same w wr) : Same w wr.drew := ⟨h.heap, h.os, h.tape, h.output⟩
theorem Same.cell {w wr : World} (h : Same w wr) (a : Addr) : wr.cell? a = w.cell? a := World.cell?_of_block (by rw [h.heap])
theorem Same.below {B : Nat} {a w wr : World} (h : Same w wr) (hb : Below B a w) : Below B a wr := hb.trans ⟨h.os, h.tape, h.output, by rw [h.heap]; exact Nat.le_refl _, fun k _ => by rw [h.heap]⟩

theorem less_is (a b c d : Int) (v : Bool) (w : World) (h : lessB a b c d = v) :
    Calls Try.prog 9 #[.int .i64 a, .int .i32 b, .int .i64 c, .int .i32 d] w fun e w' => e = .returned (.bool v) ∧ w' = w := by
  subst h
  exact less_any a b c d w

theorem sorted_parts (ao ao2 : Option Addr) (n m cap cap2 : Nat) (w : World) (hne : n ≠ m) :
    Calls Try.prog 6 #[.slice ao n cap, .slice ao2 m cap2] w fun e w' => e = .returned (.bool false) ∧ w = w' := by
  have h1 : ((n : Int) == (m : Int)) = false := by simp; omega
  have h2 : ((n : Int) != (m : Int)) = true := by simp; omega
  clear hne
  go_enter Try.func6, Try.ntmps6
  go_wp2
  go_ret
  exact ⟨rfl, rfl⟩

theorem sorted_short (ao ao2 : Option Addr) (n cap cap2 : Nat) (w : World) (hn : n ≤ 1) :
    Calls Try.prog 6 #[.slice ao n cap, .slice ao2 n cap2] w fun e w' => e = .returned (.bool true) ∧ w = w' := by
  go_enter Try.func6, Try.ntmps6
  go_wp2
  refine wp_loop_rounds 1 ?_
  rw [rounds_succ]
  go_wp2
  go_ret
  exact ⟨rfl, rfl⟩

set_option maxRecDepth 100000 in
set_option maxHeartbeats 400000 in
theorem sorted_row (b off b2 off2 n cap cap2 : Nat) (A B : Nat → Int) (w : World) (hn : n ≤ 65536) (hp : 1 < n) 
    (hA : ∀ j, j < n → w.cell? ⟨b, off + j, none⟩ = some (.int .i64 (A j))) (hB : ∀ j, j < n → w.cell? ⟨b2, off2 + j, none⟩ = some (.int .i32 (B j))) :
    Calls Try.prog 6 #[.slice (some ⟨b, off, none⟩) n cap, .slice (some ⟨b2, off2, none⟩) n cap2] w fun e w' => ∃ v, e = .returned (.bool v) ∧ (v = true → Order.Sorted A B n) ∧ Same w w' := by
  have HA : Hid (∀ j, j < n → w.cell? ⟨b, off + j, none⟩ = some (.int .i64 (A j))) := hA
  have HB : Hid (∀ j, j < n → w.cell? ⟨b2, off2 + j, none⟩ = some (.int .i32 (B j))) := hB
  clear hA hB
  go_enter Try.func6, Try.ntmps6
  go_wp2_with fail
  go_loopw [5] (fun i wr => ∃ p : Nat, p + 1 ≤ n ∧ i = .int .i64 ((p : Int) + 1) ∧ (∀ j, 1 ≤ j → j < p + 1 → lessB (A j) (B j) (A (j - 1)) (B (j - 1)) = false) ∧ Same w wr)
    (fun i _ => n - (intOf i).toNat)
  case atStart => exact ⟨0, by omega, rfl, fun j h1 h2 => by omega, Same.refl _⟩
  case round =>
    obtain ⟨p, hpn, rfl, hall, hsm⟩ := hrel
    have HL : Hid (∀ j, 1 ≤ j → j < p + 1 → lessB (A j) (B j) (A (j - 1)) (B (j - 1)) = false) := hall
    clear hall
    by_cases hlt : p + 1 < n
    · have q1 := (hsm.cell _).trans (HA.out (p + 1) hlt)
      have q2 := (hsm.cell _).trans (HB.out (p + 1) hlt)
      have q3 := (hsm.cell _).trans (HA.out p (by omega))
      have q4 := (hsm.cell _).trans (HB.out p (by omega))
      cases hv : lessB (A (p + 1)) (B (p + 1)) (A p) (B p)
      · have HV : Hid (lessB (A (p + 1)) (B (p + 1)) (A (p + 1 - 1)) (B (p + 1 - 1)) = false) := hv
        generalize A (p + 1) = c1 at q1 hv
        generalize B (p + 1) = d1 at q2 hv
        generalize A p = c0 at q3 hv
        generalize B p = d0 at q4 hv
        have hki : (p : Int) + 1 < (n : Int) := by omega
        have hkj : (p : Int) < (n : Int) := by omega
        go_wp2_with fail
        have hwr : IntKind.i64.wrap (p : Int) = (p : Int) := IntWalk.i64_in _ (by omega)
        go_quiet ((go_at_call 9; exact Calls.quiet_of_same (less_is _ _ _ _ false _ hv)))
        go_wp2_with fail
        go_roundw
        case rel => exact ⟨p + 1, by omega, by go_num, fun j h1 h2 => (by
          by_cases e : j = p + 1
          · subst e; exact HV.out
          · exact HL.out j h1 (by omega)), hsm.drewN _⟩
        case measure => simp [intOf]; omega
      · generalize A (p + 1) = c1 at q1 hv
        generalize B (p + 1) = d1 at q2 hv
        generalize A p = c0 at q3 hv
        generalize B p = d0 at q4 hv
        have hki : (p : Int) + 1 < (n : Int) := by omega
        have hkj : (p : Int) < (n : Int) := by omega
        go_wp2_with fail
        have hwr : IntKind.i64.wrap (p : Int) = (p : Int) := IntWalk.i64_in _ (by omega)
        go_quiet ((go_at_call 9; exact Calls.quiet_of_same (less_is _ _ _ _ true _ hv)))
        go_wp2_with fail
        go_ret
        exact ⟨false, rfl, fun h => (by cases h), hsm.drewN _⟩
    · go_wp2_with fail
      go_ret
      refine ⟨true, rfl, fun _ k h1 h2 => HL.out k h1 (by omega), hsm⟩

/-- zzSortedInstants, whatever slices come in. -/
theorem sorted_all (ao ao2 : Option Addr) (n m cap cap2 : Nat) (la lb : List Int) (w : World) (hn : n ≤ 65536) (hA : Src .i64 w ao n la) (hB : Src .i32 w ao2 m lb) :
    Calls Try.prog 6 #[.slice ao n cap, .slice ao2 m cap2] w fun e w' => ∃ v, e = .returned (.bool v) ∧ (v = true → m = n ∧ Order.Sorted (fun j => la.getD j 0) (fun j => lb.getD j 0) n) ∧ Same w w' := by
  by_cases hne : n = m
  · subst hne
    by_cases h1 : n ≤ 1
    · refine (sorted_short ao ao2 n cap cap2 w h1).mono ?_
      rintro e w' ⟨rfl, rfl⟩
      exact ⟨true, rfl, fun _ => ⟨rfl, fun k h1 h2 => by omega⟩, Same.refl _⟩
    · obtain ⟨b, off, rfl, _, h2⟩ := hA.cells (by omega)
      obtain ⟨b2, off2, rfl, _, h4⟩ := hB.cells (by omega)
      refine (sorted_row b off b2 off2 n cap cap2 (fun j => la.getD j 0) (fun j => lb.getD j 0) w hn (by omega) h2 h4).mono ?_
      rintro e w' ⟨v, rfl, h5, h6⟩
      exact ⟨v, rfl, fun h => ⟨rfl, h5 h⟩, h6⟩
  · refine (sorted_parts ao ao2 n m cap cap2 w hne).mono ?_
    rintro e w' ⟨rfl, rfl⟩
    exact ⟨false, rfl, fun h => (by cases h), Same.refl _⟩

/-! ### the copy that each law makes first -/
theorem own_src {k : IntKind} {w : World} {base : Nat} {e : TypeId} {g n cap : Nat} {l : List Int} (h : w.ownsRow base e 1 (.slice (some ⟨g, 0, none⟩) n cap) n (l.map (Value.int k))) : Src k w (some ⟨g, 0, none⟩) n l := by
  have hl : l.length = n := by simpa using h.1
  refine ⟨hl, fun _ => ⟨g, 0, rfl, (h.lt g rfl).2, fun j hj => ?_⟩⟩
  rw [Nat.zero_add, h.cellAt j (by omega)]
  simp [show j < l.length by omega]

/-- 'copy(zzc, secs)', zzc the row that 'make' has just laid, of secs's own length. -/
theorem wpList_copy_new {P : Program} {w : World} {ops : Array Oper} {rest : List Oper} {o : Oper} {a : Act} {Q : Exit → Act → World → Prop} (hgd : o.guard = none) (d s : Operand) (dT sT : TypeId)
    (ho : o.op = .call { callee := .builtin .copy, args := #[d, s], argTypes := #[dT, sT] }) (elem : TypeId) (hu : P.underlying dT = some (.slice elem)) (hsz : (P.info? elem).map (·.size) = some 1)
    (k : IntKind) (g n cap : Nat) (sp : Option Addr) (l : List Int) (hd : a.eval d = .slice (some ⟨g, 0, none⟩) n n) (hs : a.eval s = .slice sp n cap)
    (base : Nat) (xs : List Value) (hown : w.ownsRow base elem 1 (.slice (some ⟨g, 0, none⟩) n n) n xs) (hsrc : Src k w sp n l) (B : Nat) (w0 : World) (hb : Below B w0 w) (hBg : B ≤ g)
    (h : ∀ w', Src k w' (some ⟨g, 0, none⟩) n l → Below B w0 w' → w'.heap.size = w.heap.size → wpList P ops Q rest (a.put o.dst (goInt n)) w') :
    wpList P ops Q (o :: rest) a w := by
  rcases hown.2 with ⟨hv, _⟩ | ⟨g', cap', cur, hv, hbg, hg, hnc, hcm, hcs, htake⟩
  · simp at hv
  simp only [Value.slice.injEq, Option.some.injEq, Addr.mk.injEq, and_true, true_and] at hv
  obtain ⟨rfl, rfl⟩ := hv
  have hcs' : cur.size = n := by simpa using hcs
  by_cases h0 : n = 0
  · subst h0
    refine wpList_copy_nothing hgd d s dT sT ho elem hu hsz _ sp 0 0 0 cap hd hs rfl ?_
    refine h w ⟨hsrc.len, fun hp => absurd hp (by omega)⟩ hb rfl
  · obtain ⟨b, off, rfl, _, hc⟩ := hsrc.cells (by omega)
    have hl := hsrc.len
    refine wpList_copy_own hgd d s dT sT ho elem hu hsz g 0 n n ⟨b, off, none⟩ n cap hd hs cur elem hg (l.map (Value.int k)) (by simp [hl]) ?_ (by simp; omega) (ints_oneCell k l) ?_
    · intro j v hj
      have hjl : j < n := by
        have := (List.getElem?_eq_some_iff.1 hj).1
        simp at this; omega
      rw [Addr.add_lit, hc j hjl]
      rw [← hj]
      simp [show j < l.length by omega]
    · have e : (goInt ((l.map (Value.int k)).length)) = goInt n := by rw [List.length_map, hl]
      rw [e]
      refine h _ ?_ (below_setRow hb hBg _) (by simp [World.setRow])
      have hh := setRow_heap w g cur (cur.toList.take 0 ++ (l.map (Value.int k) ++ cur.toList.drop (0 + (l.map (Value.int k)).length))).toArray elem (0, 0) hg
      refine ⟨hl, fun _ => ⟨g, 0, rfl, lt_of_block hh, fun j hj => ?_⟩⟩
      rw [cell_of_row _ _ _ _ elem (0, 0) hh]
      simp [List.getElem?_append_left, show j < l.length by omega]
end Go.Proofs.Qxb6621715a.Sorted
