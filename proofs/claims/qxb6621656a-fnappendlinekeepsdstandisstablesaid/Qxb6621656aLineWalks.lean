/-
  WALKS of the functions on the road of the two laws on appendLine: zzBytes (6, 10), cloneBytes (7), isBreak (9), appendLine (14), ZZappendLine (8).
-/
import Derived.Test.Qxb6621656aProg
import Derived.Test.Qxb6621656aRowLaws
import Derived.Test.Qxb6621656aLines
import Derived.WalkKit
import Derived.WalkSpells
namespace Go.Proofs.Qxb6621656a.LineWalks
open Go.RowKit RowLaws Lines

theorem info5 : (Try.prog.info? 5).map (fun i => (i.zero, i.size, i.bytes)) = some (some (.int .u8 0), 1, 1) := by kernel_rfl

theorem bytes3_yes (a : Option Addr) (len cap : Nat) (s : ByteArray) (i : Int) (w : World) (h : len + s.size ≤ 1048576) :
    Calls Try.prog 6 #[.slice a len cap, .string s, .int .i64 i] w fun e w' => e = .returned (.bool true) ∧ w = w' := by
  go_enter Try.func6, Try.ntmps6
  go_wp2
  go_ret
  exact ⟨rfl, rfl⟩
theorem bytes3_no (a : Option Addr) (len cap : Nat) (s : ByteArray) (i : Int) (w : World) (hl : len ≤ maxLen) (hs : s.size ≤ maxLen) (h : ¬ len + s.size ≤ 1048576) :
    Calls Try.prog 6 #[.slice a len cap, .string s, .int .i64 i] w fun e w' => e = .returned (.bool false) ∧ w = w' := by
  unfold maxLen at hl hs
  by_cases h1 : len ≤ 1048576
  · by_cases h2 : s.size ≤ 1048576
    · go_enter Try.func6, Try.ntmps6
      go_wp2
      go_ret
      exact ⟨rfl, rfl⟩
    · go_enter Try.func6, Try.ntmps6
      go_wp2
      go_ret
      exact ⟨rfl, rfl⟩
  · go_enter Try.func6, Try.ntmps6
    go_wp2
    go_ret
    exact ⟨rfl, rfl⟩
theorem bytes2_yes (a : Option Addr) (len cap : Nat) (s : ByteArray) (w : World) (h : len + s.size ≤ 1048576) :
    Calls Try.prog 10 #[.slice a len cap, .string s] w fun e w' => e = .returned (.bool true) ∧ w = w' := by
  go_enter Try.func10, Try.ntmps10
  go_wp2
  go_ret
  exact ⟨rfl, rfl⟩
theorem bytes2_no (a : Option Addr) (len cap : Nat) (s : ByteArray) (w : World) (hl : len ≤ maxLen) (hs : s.size ≤ maxLen) (h : ¬ len + s.size ≤ 1048576) :
    Calls Try.prog 10 #[.slice a len cap, .string s] w fun e w' => e = .returned (.bool false) ∧ w = w' := by
  unfold maxLen at hl hs
  by_cases h1 : len ≤ 1048576
  · by_cases h2 : s.size ≤ 1048576
    · go_enter Try.func10, Try.ntmps10
      go_wp2
      go_ret
      exact ⟨rfl, rfl⟩
    · go_enter Try.func10, Try.ntmps10
      go_wp2
      go_ret
      exact ⟨rfl, rfl⟩
  · go_enter Try.func10, Try.ntmps10
    go_wp2
    go_ret
    exact ⟨rfl, rfl⟩

def breakB (c : Int) : Bool := decide (c = 13 ∨ c = 10)
theorem break_any (c : Int) (w : World) :
    Calls Try.prog 9 #[.int .u8 c] w fun e w' => e = .returned (.bool (breakB c)) ∧ w = w' := by
  by_cases h1 : c = 13
  · subst h1
    go_enter Try.func9, Try.ntmps9
    go_wp2
    go_ret
    exact ⟨rfl, rfl⟩
  · have e1 : (c == 13) = false := by simpa using h1
    by_cases h2 : c = 10
    · subst h2
      go_enter Try.func9, Try.ntmps9
      go_wp2
      go_ret
      exact ⟨rfl, rfl⟩
    · have e2 : (c == 10) = false := by simpa using h2
      have e3 : breakB c = false := decide_eq_false (by omega)
      rw [e3]
      clear e3
      go_enter Try.func9, Try.ntmps9
      go_wp2
      go_ret
      exact ⟨rfl, rfl⟩

theorem break_yes (c : Int) (w : World) (h : breakB c = true) : Calls Try.prog 9 #[.int .u8 c] w fun e w' => e = .returned (.bool true) ∧ w = w' := by
  have := break_any c w
  rw [h] at this
  exact this
theorem break_no (c : Int) (w : World) (h : breakB c = false) : Calls Try.prog 9 #[.int .u8 c] w fun e w' => e = .returned (.bool false) ∧ w = w' := by
  have := break_any c w
  rw [h] at this
  exact this

/-! ### cloneBytes -/
theorem clone_nil (w : World) :
    Calls Try.prog 7 #[.slice none 0 0] w fun e w' => e = .returned (.slice none 0 0) ∧ w = w' := by
  have hq := fun (w : World) => Lib.run_eql_slice_nil (P := Try.prog) w 22 5 none 0 0 0 0 Try.underlying22
  go_enter Try.func7, Try.ntmps7
  go_wp2
  go_ret
  exact ⟨rfl, rfl⟩

theorem clone_empty (x : Addr) (cap : Nat) (w : World) :
    Calls Try.prog 7 #[.slice (some x) 0 cap] w fun e w' => ∃ v, e = .returned v ∧ w'.ownsRow w.heap.size 5 1 v 0 [] ∧ Below w.heap.size w w' := by
  obtain ⟨i0, hi, hz0, hz1, hz2⟩ := info_parts info5
  have hq := fun (w : World) => Lib.run_eql_slice_nil (P := Try.prog) w 22 5 (some x) 0 cap 0 0 Try.underlying22
  go_enter Try.func7, Try.ntmps7
  go_wp2_with (at_make; refine wpList_make_full _ rfl _ _ 22 rfl w.heap.size 5 i0 (.int .u8 0) 1 Try.underlying22 hi hz0 hz1 _ _ _ _ 0 rfl rfl rfl rfl ?b2 ?b3 (Nat.le_refl _) ?_)
  case b2 => omega
  case b3 => unfold maxLen; omega
  intro w1 hown hgrow
  rw [toList_madeCells_one] at hown
  go_wp2
  refine wp_loop_rounds 1 ?_
  rw [rounds_succ]
  go_wp2
  go_ret
  exact ⟨_, rfl, hown, (Below.refl _ _).grown hgrow (Nat.le_refl _) (fun k h => by cases h)⟩

set_option maxHeartbeats 400000 in
theorem clone_some (b off len cap : Nat) (zs : List Int) (w : World) (hl : zs.length = len) (hp : 0 < len) (hm : len ≤ 1048576) (hb : b < w.heap.size)
    (hc : ∀ j, j < len → w.cell? ⟨b, off + j, none⟩ = some (.int .u8 (zs.getD j 0))) :
    Calls Try.prog 7 #[.slice (some ⟨b, off, none⟩) len cap] w fun e w' => ∃ v, e = .returned v ∧ w'.ownsRow w.heap.size 5 1 v len (u8s zs) ∧ Below w.heap.size w w' := by
  obtain ⟨i0, hi, hz0, hz1, hz2⟩ := info_parts info5
  have hq := fun (w : World) => Lib.run_eql_slice_nil (P := Try.prog) w 22 5 (some ⟨b, off, none⟩) len cap 0 0 Try.underlying22
  go_enter Try.func7, Try.ntmps7
  go_wp2_with (at_make; refine wpList_make_full _ rfl _ _ 22 rfl w.heap.size 5 i0 (.int .u8 0) 1 Try.underlying22 hi hz0 hz1 _ _ _ _ len rfl rfl rfl rfl ?b2 ?b3 (Nat.le_refl _) ?_)
  case b2 => rw [hz2]; omega
  case b3 => unfold maxLen; omega
  intro w1 hown0 hgrow0
  have hown1 : w1.ownsRow w.heap.size 5 1 (.slice (some ⟨w.heap.size, 0, none⟩) len len) len (u8s (lnMix zs (List.replicate len 0) 0)) := by
    rw [toList_madeCells_one] at hown0
    have e : List.replicate len (Value.int .u8 0) = u8s (lnMix zs (List.replicate len 0) 0) := by
      rw [lnMix_zero]
      simp [u8s]
    rw [← e]; exact hown0
  have hbel0 : Below w.heap.size w w1 := (Below.refl _ _).grown hgrow0 (Nat.le_refl _) (fun k h => by cases h)
  clear hown0 hgrow0
  go_wp2
  go_loopw [4] (fun i wr => ∃ k : Nat, k ≤ len ∧ i = .int .i64 k ∧ wr.ownsRow w.heap.size 5 1 (.slice (some ⟨w.heap.size, 0, none⟩) len len) len (u8s (lnMix zs (List.replicate len 0) k)) ∧ Below w.heap.size w wr)
    (fun i _ => len - (intOf i).toNat)
  case atStart => exact ⟨0, Nat.zero_le _, rfl, hown1, hbel0⟩
  case round =>
    obtain ⟨k, hk, rfl, hown, hbel⟩ := hrel
    by_cases hlt : k < len
    · have hcx : wr.cell? ⟨b, off + k, none⟩ = some (.int .u8 (zs.getD k 0)) := (hbel.cell (by exact hb)).trans (hc k hlt)
      have hd : wr.cell? ⟨w.heap.size, k, none⟩ = some (.int .u8 ((lnMix zs (List.replicate len 0) k).getD k 0)) := by
        rw [hown.cellAt k (by omega)]
        exact u8s_get _ _ (by rw [lnMix_length _ _ _ (by simpa using hl) (by omega)]; omega)
      have hf : wr.frozen? ⟨w.heap.size, k, none⟩ = false := hown.frozenAt k
      obtain ⟨hs1, hs2⟩ := hown.stored k (.int .u8 (zs.getD k 0))
      rw [u8s_set, lnMix_set _ _ _ (by simpa using hl) (by omega)] at hs1
      have hbel2 : Below w.heap.size w (wr.setCell ⟨w.heap.size, k, none⟩ (.int .u8 (zs.getD k 0))) := hbel.setCell (Nat.le_refl _) _
      generalize zs.getD k 0 = c at *
      generalize (lnMix zs (List.replicate len 0) k).getD k 0 = c2 at *
      have H1 : Hid ((wr.setCell ⟨w.heap.size, k, none⟩ (.int .u8 c)).ownsRow w.heap.size 5 1 (.slice (some ⟨w.heap.size, 0, none⟩) len len) len (u8s (lnMix zs (List.replicate len 0) (k + 1)))) := hs1
      clear hs1 hs2 hown
      go_wp2
      go_roundw
      case rel => exact ⟨k + 1, by omega, by go_num, H1.out, hbel2⟩
      case measure => simp [intOf]; omega
    · go_wp2
      go_ret
      refine ⟨_, rfl, ?_, hbel⟩
      rw [lnMix_end _ _ _ (by simpa using hl) (by omega)] at hown
      exact hown

/-! ### appendLine -/
theorem lnLine_eq (xs : List Int) (s : ByteArray) : u8s (xs ++ (lnBytes s).map lnBlank) ++ [.int .u8 13, .int .u8 10] = u8s (xs ++ lnLine s) := by
  simp [u8s, lnLine]

theorem own_addr {w : World} {ao : Option Addr} {n cap : Nat} {xs : List Value} (h : w.ownsRow 0 5 1 (.slice ao n cap) n xs) : (ao = none ∧ n = 0) ∨ ∃ g, ao = some ⟨g, 0, none⟩ := by
  rcases h.2 with ⟨hv, hn⟩ | ⟨g, cap', cur, hv, _⟩
  · cases hv; exact .inl ⟨rfl, hn⟩
  · cases hv; exact .inr ⟨g, rfl⟩

theorem two_new (w : World) : ∀ (j : Nat) (u : Value), [Value.int .u8 13, .int .u8 10][j]? = some u → (w.alloc (.cells #[.int .u8 13, .int .u8 10] 5)).cell? ((⟨w.heap.size, 0, none⟩ : Addr).add j) = some u := by
  intro j u hj
  match j, hj with
  | 0, hj => simp at hj; subst hj; simp [Addr.add]
  | 1, hj => simp at hj; subst hj; simp [Addr.add]

set_option maxHeartbeats 400000 in
theorem append_any (ao : Option Addr) (n cap : Nat) (xs : List Int) (s : ByteArray) (w : World) (hx : xs.length = n) (hn : n + s.size ≤ 1048576) (hown : w.ownsRow 0 5 1 (.slice ao n cap) n (u8s xs)) :
    Calls Try.prog 14 #[.slice ao n cap, .string s] w fun e w' => ∃ g cap', e = .returned (.slice (some ⟨g, 0, none⟩) (n + s.size + 2) cap') ∧
      w'.ownsRow 0 5 1 (.slice (some ⟨g, 0, none⟩) (n + s.size + 2) cap') (n + s.size + 2) (u8s (xs ++ lnLine s)) ∧ w.grownBy w' (Value.ownBlock (.slice ao n cap)) ∧
      Fresh w (.slice ao n cap) (.slice (some ⟨g, 0, none⟩) (n + s.size + 2) cap') := by
  obtain ⟨i0, hi, hz0, hz1, hz2⟩ := info_parts info5
  go_enter Try.func14, Try.ntmps14
  go_wp2_with (at_builtin; refine wpList_append_str _ rfl (.tmp 9) (.tmp 10) 22 9 rfl 5 i0 Try.underlying22 Try.underlying9 hi hz0 hz1 hz2 ao n cap _ rfl hown s rfl ?c1 ?c2 ?_)
  case c1 => unfold maxLen; omega
  case c2 => omega
  intro ao1 cap1 w1 hown1 hgr1 hfr1
  rw [strCells_eq, ← u8s_append] at hown1
  rcases own_addr hown1 with ⟨rfl, h0⟩ | ⟨g, rfl⟩
  · -- nothing was there, nothing was appended
    have hs0 : s.size = 0 := by omega
    have hle : n + s.size ≤ 0 := by omega
    have hxs : xs ++ lnBytes s = xs ++ (lnBytes s).map lnBlank := by
      have : lnBytes s = [] := List.eq_nil_of_length_eq_zero (by rw [lnBytes_length]; exact hs0)
      rw [this]; rfl
    rw [hxs] at hown1
    clear hxs hs0 h0
    go_wp2
    refine wp_loop_rounds 1 ?_
    rw [rounds_succ]
    go_wp2_with (at_builtin; refine wpList_append_row _ rfl (.tmp 34) (.tmp 35) 22 rfl 5 i0 (.int .u8 0) 1 Try.underlying22 hi hz0 hz1 hz2 rfl none (n + s.size) cap1 _ rfl (hown1.alloc _) ⟨w1.heap.size, 0, none⟩ 2 2 [.int .u8 13, .int .u8 10] rfl (by decide) rfl (two_new w1) ?d2 ?d3 ?d4 ?_)
    case d2 => intro u hu; simp at hu; rcases hu with rfl | rfl <;> rfl
    case d3 => unfold maxLen; omega
    case d4 => omega
    intro g2 cap2 w2 hown2 hgr2 hfr2
    go_wp2
    go_ret
    refine ⟨g2, cap2, rfl, ?_, ?_, ?_⟩
    · rw [← lnLine_eq]; exact hown2
    · exact grown_trans hgr1 hfr1 (v1 := .slice none (n + s.size) cap1) (grown_same (grown_alloc (World.grownBy.refl _ _) _) hgr2)
    · exact fresh_trans hfr1 (by have := hgr1.size; simp; omega) hfr2
  · go_wp2
    go_loopw [6] (fun i wr => ∃ k : Nat, n ≤ k ∧ k ≤ n + s.size ∧ i = .int .i64 k ∧ wr.ownsRow 0 5 1 (.slice (some ⟨g, 0, none⟩) (n + s.size) cap1) (n + s.size) (u8s (lnMix (xs ++ (lnBytes s).map lnBlank) (xs ++ lnBytes s) k)) ∧ w1.grownBy wr (some g))
      (fun i _ => n + s.size - (intOf i).toNat)
    case atStart => exact ⟨n, Nat.le_refl _, by omega, rfl, by rw [← hx, lnMix_start, hx]; exact hown1, World.grownBy.refl _ _⟩
    case round =>
      obtain ⟨k, hk1, hk2, rfl, hown, hgr⟩ := hrel
      have hlT : (xs ++ (lnBytes s).map lnBlank).length = n + s.size := by simp [lnBytes_length, hx]
      have hlR : (xs ++ lnBytes s).length = n + s.size := by simp [lnBytes_length, hx]
      by_cases hlt : k < n + s.size
      · have hd : wr.cell? ⟨g, k, none⟩ = some (.int .u8 ((xs ++ lnBytes s).getD k 0)) := by
          rw [hown.cellAt k (by omega), u8s_get _ _ (by rw [lnMix_length _ _ _ (by omega) (by omega)]; omega), lnMix_get _ _ _ (by omega) (by omega)]
        have hf : wr.frozen? ⟨g, k, none⟩ = false := hown.frozenAt k
        have hb := lnBlank_get xs (lnBytes s) k (by omega) (by omega)
        obtain ⟨hs1, hs2⟩ := hown.stored k (.int .u8 32)
        have hms := lnMix_set (xs ++ (lnBytes s).map lnBlank) (xs ++ lnBytes s) k (by omega) (by omega)
        have hmm := lnMix_same (xs ++ (lnBytes s).map lnBlank) (xs ++ lnBytes s) k (by omega) (by omega)
        rw [hb] at hms hmm
        generalize (xs ++ lnBytes s).getD k 0 = c at *
        by_cases hc : c = 13 ∨ c = 10
        · have hbl : lnBlank c = 32 := if_pos hc
          rw [hbl] at hms
          rw [u8s_set, hms] at hs1
          have H1 : Hid _ := hs1
          have H2 : Hid _ := hs2
          clear hs1 hs2 hms hmm hown hb hbl
          rcases hc with rfl | rfl
          all_goals
            go_wp2
            go_roundw
            case rel => exact ⟨k + 1, by omega, by omega, by go_num, H1.out, grown_same hgr H2.out⟩
            case measure => simp [intOf]; omega
        · have hbl : lnBlank c = c := if_neg hc
          have hown2 := hown
          rw [hmm hbl] at hown2
          have H1 : Hid _ := hown2
          have e1 : (c == 13) = false := by simp; omega
          have e2 : (c == 10) = false := by simp; omega
          clear hs1 hs2 hms hmm hown hb hbl hown2 hc
          go_wp2
          go_roundw
          case rel => exact ⟨k + 1, by omega, by omega, by go_num, H1.out, hgr⟩
          case measure => simp [intOf]; omega
      · rw [lnMix_end _ _ _ (by omega) (by omega)] at hown
        go_wp2_with (at_builtin; refine wpList_append_row _ rfl (.tmp 34) (.tmp 35) 22 rfl 5 i0 (.int .u8 0) 1 Try.underlying22 hi hz0 hz1 hz2 rfl (some ⟨g, 0, none⟩) (n + s.size) cap1 _ rfl (hown.alloc _) ⟨wr.heap.size, 0, none⟩ 2 2 [.int .u8 13, .int .u8 10] rfl (by decide) rfl (two_new wr) ?d2b ?d3b ?d4b ?_)
        case d2b => intro u hu; simp at hu; rcases hu with rfl | rfl <;> rfl
        case d3b => unfold maxLen; omega
        case d4b => omega
        intro g2 cap2 w2 hown2 hgr2 hfr2
        go_wp2
        go_ret
        refine ⟨g2, cap2, rfl, ?_, ?_, ?_⟩
        · rw [← lnLine_eq]; exact hown2
        · exact grown_trans hgr1 hfr1 (v1 := .slice (some ⟨g, 0, none⟩) (n + s.size) cap1) (grown_same (grown_alloc hgr _) hgr2)
        · exact fresh_trans hfr1 (by have := hgr1.size; have := hgr.size; simp; omega) hfr2

theorem line_any (ao : Option Addr) (n cap : Nat) (xs : List Int) (s : ByteArray) (w : World) (hx : xs.length = n) (hn : n + s.size ≤ 1048576) (hown : w.ownsRow 0 5 1 (.slice ao n cap) n (u8s xs)) :
    Calls Try.prog 8 #[.slice ao n cap, .string s] w fun e w' => ∃ g cap', e = .returned (.slice (some ⟨g, 0, none⟩) (n + s.size + 2) cap') ∧
      w'.ownsRow 0 5 1 (.slice (some ⟨g, 0, none⟩) (n + s.size + 2) cap') (n + s.size + 2) (u8s (xs ++ lnLine s)) ∧ w.grownBy w' (Value.ownBlock (.slice ao n cap)) ∧
      Fresh w (.slice ao n cap) (.slice (some ⟨g, 0, none⟩) (n + s.size + 2) cap') := by
  go_enter Try.func8, Try.ntmps8
  go_wp2_with fail
  refine (append_any ao n cap xs s _ hx hn hown).mono ?_
  rintro e w' ⟨g, cap', rfl, h1, h2, h3⟩
  go_wp2_with fail
  go_ret
  exact ⟨g, cap', rfl, h1, h2, h3⟩

/-- The same, the string's size and what becomes of its bytes under plain names. -/
theorem line_at (ao : Option Addr) (n cap : Nat) (xs : List Int) (t : ByteArray) (m N : Nat) (L : List Int) (w : World) (hx : xs.length = n) (hm : t.size = m) (hL : (lnBytes t).map lnBlank = L) (hN : n + m + 2 = N) (hn : n + m ≤ 1048576) (hown : w.ownsRow 0 5 1 (.slice ao n cap) n (u8s xs)) :
    Calls Try.prog 8 #[.slice ao n cap, .string t] w fun e w' => ∃ g cap', e = .returned (.slice (some ⟨g, 0, none⟩) N cap') ∧
      w'.ownsRow 0 5 1 (.slice (some ⟨g, 0, none⟩) N cap') N (u8s (xs ++ (L ++ [13, 10]))) ∧ w.grownBy w' (Value.ownBlock (.slice ao n cap)) ∧
      Fresh w (.slice ao n cap) (.slice (some ⟨g, 0, none⟩) N cap') := by
  subst hm
  subst hL
  subst hN
  exact line_any ao n cap xs t w hx hn hown

/-- cloneBytes, whatever slice comes in. -/
theorem clone_any (a0 : Option Addr) (len cap : Nat) (ds : List Int) (w : World) (hl : ds.length = len) (hm : len ≤ 1048576) (hn : a0 = none → len = 0 ∧ cap = 0)
    (ha : 0 < len → ∃ b off, a0 = some ⟨b, off, none⟩ ∧ b < w.heap.size ∧ ∀ j, j < len → w.cell? ⟨b, off + j, none⟩ = some (.int .u8 (ds.getD j 0))) :
    Calls Try.prog 7 #[.slice a0 len cap] w fun e w' => ∃ ao cap', e = .returned (.slice ao len cap') ∧ w'.ownsRow w.heap.size 5 1 (.slice ao len cap') len (u8s ds) ∧ Below w.heap.size w w' := by
  by_cases h0 : len = 0
  · subst h0
    have hd : ds = [] := List.eq_nil_of_length_eq_zero hl
    subst hd
    cases a0 with
    | none =>
      obtain ⟨_, rfl⟩ := hn rfl
      refine (clone_nil w).mono ?_
      rintro e w' ⟨rfl, rfl⟩
      exact ⟨none, 0, rfl, World.ownsRow_nil _ _ _ _, Below.refl _ _⟩
    | some x =>
      refine (clone_empty x cap w).mono ?_
      rintro e w' ⟨v, rfl, h1, h2⟩
      obtain ⟨ao, cap', rfl⟩ := own_shape h1
      exact ⟨ao, cap', rfl, h1, h2⟩
  · obtain ⟨b, off, rfl, hb, hc⟩ := ha (by omega)
    refine (clone_some b off len cap ds w hl (by omega) hm hb hc).mono ?_
    rintro e w' ⟨v, rfl, h1, h2⟩
    obtain ⟨ao, cap', rfl⟩ := own_shape h1
    exact ⟨ao, cap', rfl, h1, h2⟩
end Go.Proofs.Qxb6621656a.LineWalks
