/-
  WALKS: slices.Sort (20), by the shelf's contract; slices.Clone (19).
-/
import Derived.Test.Qxb6617407aMsWalk
import Derived.Test.Qxb6617407aShelf
import Derived.Sort.OwnSorted
namespace Go.Proofs.Qxb6617407a.SortWalks
open Go.RowKit SortMath StrWalks MergeWalks MsWalk

theorem sv_enc (l : List (List UInt8)) : sv l = l.map encStr := rfl

theorem sort_own (g n cap base : Nat) (l : List (List UInt8)) (w : World) (hl : l.length = n) (hn : n ≤ 65536) (hown : w.ownsRow base 9 1 (.slice (some ⟨g, 0, none⟩) n cap) n (sv l)) :
    Calls Try.prog 20 #[.slice (some ⟨g, 0, none⟩) n cap] w fun e w' => e = .returned (.tuple #[]) ∧ w'.ownsRow base 9 1 (.slice (some ⟨g, 0, none⟩) n cap) n (sv (Srt l)) ∧ w.grownBy w' (some g) := by
  rcases hown.2 with ⟨hv, _⟩ | ⟨g', cap', cur, hv, hbase, hb, hnc, hcm, hcs, htake⟩
  · simp at hv
  simp only [Value.slice.injEq, Option.some.injEq, Addr.mk.injEq, and_true, true_and] at hv
  obtain ⟨rfl, rfl⟩ := hv
  subst hl
  have hH := holds_of_block (ss := l) hb (by rw [← sv_enc]; simpa using htake)
  refine (Shelf.slices_Sort_string g 0 cap l w hH (lt_of_block hb) (by omega)).mono ?_
  rintro e w' ⟨rfl, nn, os, rfl⟩
  refine ⟨rfl, ?_, grownBy_sorted _⟩
  exact ownsRow_sorted (ss := l) (ts := Srt l) (srt_length l) hbase hb hnc hcm hcs

set_option maxHeartbeats 400000 in
theorem clone_row (b off m c : Nat) (l : List (List UInt8)) (w : World) (hm : 0 < m) (hm2 : m ≤ 65536) (hs : Src w (some ⟨b, off, none⟩) m l) :
    Calls Try.prog 19 #[.slice (some ⟨b, off, none⟩) m c] w fun e w' => ∃ g cap, e = .returned (.slice (some ⟨g, 0, none⟩) m cap) ∧ w'.ownsRow w.heap.size 9 1 (.slice (some ⟨g, 0, none⟩) m cap) m (sv l) ∧ Below w.heap.size w w' := by
  obtain ⟨i0, hi, hz0, hz1, hz2⟩ := info_parts info9
  have hq := fun (w : World) => Lib.run_eql_slice_nil (P := Try.prog) w 28 9 (some ⟨b, off, none⟩) m c 0 0 Try.underlying28
  have hl := hs.len
  go_enter Try.func19, Try.ntmps19
  go_wp2_with (at_builtin; refine wpList_append_own _ rfl (.tmp 5) (.tmp 6) 28 rfl w.heap.size 9 i0 (.string ByteArray.empty) 1 16 Try.underlying28 hi hz0 hz1 hz2 rfl (by decide) (.slice (some ⟨w.heap.size, 0, none⟩) 0 0) 0 [] rfl (World.ownsRow_made w #[] 0 (Nat.le_refl _) (Nat.zero_le _) rfl) ⟨b, off, none⟩ m c (sv l) rfl ?c0 ?c1 ?c2 ?c3 ?c4 ?c5 ?_)
  case c0 => rw [sv_length, hl]; omega
  case c1 =>
    intro j u hj
    have hjl : j < m := by have := (List.getElem?_eq_some_iff.1 hj).1; rw [sv_length, hl] at this; exact this
    obtain ⟨b', off', e1, e2, e3⟩ := hs.cells hm
    cases e1
    rw [Addr.add_lit, World.cell?_alloc_past _ _ _ (by exact e2), e3 j hjl, ← hj, sv_get l j (by omega)]
  case c2 => intro u hu; simp only [sv, List.mem_map] at hu; obtain ⟨x, _, rfl⟩ := hu; rfl
  case c3 => unfold maxLen; omega
  case c4 => omega
  case c5 => simp
  intro v' w1 hown hgrow hnil
  have hbel : Below w.heap.size w w1 := ((Below.refl _ _).alloc (Nat.le_refl _) _).grown hgrow (by simp) (fun k h => by cases h; exact Nat.le_refl _)
  have hex : ∃ g cap, v' = .slice (some ⟨g, 0, none⟩) m cap := by
    rcases hown.2 with ⟨_, h0⟩ | ⟨g, cap, cur, hv, _⟩
    · omega
    · exact ⟨g, cap, hv⟩
  obtain ⟨g, cap, hv⟩ := hex
  rw [hv]
  rw [hv] at hown
  clear hgrow hnil hv hs
  go_wp2_with fail
  go_ret
  exact ⟨g, cap, rfl, hown, hbel⟩
end Go.Proofs.Qxb6617407a.SortWalks
