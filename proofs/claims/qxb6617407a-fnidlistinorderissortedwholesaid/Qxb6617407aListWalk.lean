/-
  WALK: ZZIdListInOrder (14).
-/
import Derived.Test.Qxb6617407aOrderWalk
namespace Go.Proofs.Qxb6617407a.ListWalk
open Go.RowKit SortMath StrWalks MergeWalks MsWalk SortWalks OrderWalk

theorem lst_new (w : World) (v : Value) (k : Int) : Lst (w.alloc (.cells #[v, .int .i64 k] 41)) w.heap.size v k := heap_alloc_new w _

theorem list_whole (ao : Option Addr) (n cap : Nat) (w : World) :
    Calls Try.prog 14 #[.slice ao n cap, .int .i64 n] w fun e w' => e = .returned (.tuple #[.slice ao n cap, .slice ao n cap, .int .i64 n]) ∧ Below w.heap.size w w' := by
  go_enter Try.func14, Try.ntmps14
  go_wp2_with fail
  refine (whole_any w.heap.size n ao cap _ (lst_new w _ _)).mono ?_
  rintro e w1 ⟨rfl, hsm⟩
  have hp := (lst_new w (.slice ao n cap) (n : Int)).same hsm
  have c0 := hp.c0
  have c1 := hp.c1
  have hbel : Below w.heap.size w w1 := hsm.below ((Below.refl _ _).alloc (Nat.le_refl _) _)
  clear hp hsm
  go_wp2_with fail
  go_quiet (fail)
  go_wp2_with fail
  go_ret3
  exact ⟨rfl, below_drewN hbel _⟩

theorem list_part (g n k : Nat) (l : List (List UInt8)) (w : World) (hn : n ≤ 65536) (hk : k < n) (hl : l.length = n) (hown : w.ownsRow 0 9 1 (.slice (some ⟨g, 0, none⟩) n n) n (sv l)) (hord : Ord (l.take k)) :
    Calls Try.prog 14 #[.slice (some ⟨g, 0, none⟩) n n, .int .i64 k] w fun e w' => e = .returned (.tuple #[.slice (some ⟨g, 0, none⟩) n n, .slice (some ⟨g, 0, none⟩) n n, .int .i64 n]) ∧
      w'.ownsRow 0 9 1 (.slice (some ⟨g, 0, none⟩) n n) n (sv (Srt l)) ∧ w.grownBy w' (some g) := by
  have hgl := (hown.lt g rfl).2
  go_enter Try.func14, Try.ntmps14
  go_wp2_with fail
  refine (part_any w.heap.size g n k l _ hn hk hl (by omega) (lst_new w _ _) (hown.alloc _) hord).mono ?_
  rintro e w1 ⟨rfl, own1, hp, two⟩
  have c0 := hp.c0
  have c1 := hp.c1
  have hgr : w.grownBy w1 (some g) := ⟨two.os, two.tape, two.output, Nat.le_trans (by simp) two.size, fun j h1 h2 => by
    rw [two.block j (by simp; omega) (by omega) (fun e => h2 (by rw [e]))]
    exact Below.heap_alloc w _ j h1⟩
  clear hp two hown hord
  go_wp2_with fail
  go_quiet (fail)
  go_wp2_with fail
  go_ret3
  exact ⟨rfl, own1, ⟨hgr.os, hgr.tape, hgr.output, hgr.size, hgr.block⟩⟩

/-- ZZIdListInOrder over a row of the call's own. -/
theorem list_row (g n k : Nat) (l : List (List UInt8)) (w : World) (hn : n ≤ 65536) (hk : k ≤ n) (hl : l.length = n) (hown : w.ownsRow 0 9 1 (.slice (some ⟨g, 0, none⟩) n n) n (sv l)) (hord : Ord (l.take k)) :
    Calls Try.prog 14 #[.slice (some ⟨g, 0, none⟩) n n, .int .i64 k] w fun e w' => e = .returned (.tuple #[.slice (some ⟨g, 0, none⟩) n n, .slice (some ⟨g, 0, none⟩) n n, .int .i64 n]) ∧
      w'.ownsRow 0 9 1 (.slice (some ⟨g, 0, none⟩) n n) n (sv (Srt l)) ∧ w.grownBy w' (some g) := by
  by_cases e : k = n
  · subst e
    rw [List.take_of_length_le (by omega)] at hord
    rw [srt_of_ord hord]
    refine (list_whole (some ⟨g, 0, none⟩) k k w).mono ?_
    rintro e w' ⟨rfl, hb⟩
    exact ⟨rfl, own_below hown hb, ⟨hb.os, hb.tape, hb.output, hb.size, fun j h1 _ => hb.block j h1⟩⟩
  · exact list_part g n k l w hn (by omega) hl hown hord
end Go.Proofs.Qxb6617407a.ListWalk
