/-
  THE WALK of FnIdListInOrderIsSortedWhole (5).
-/
import Derived.Test.Qxb6617407aListWalk
namespace Go.Proofs.Qxb6617407a.IdsWalk
open Go.RowKit SortMath StrWalks MergeWalks MsWalk SortWalks OrderWalk ListWalk

theorem src_same {w w' : World} {ao : Option Addr} {n : Nat} {l : List (List UInt8)} (h : Src w ao n l) (hs : Same w w') : Src w' ao n l := h.below (hs.below (Below.refl _ _))
theorem src_own {w : World} {base g n cap : Nat} {l : List (List UInt8)} (h : w.ownsRow base 9 1 (.slice (some ⟨g, 0, none⟩) n cap) n (sv l)) : Src w (some ⟨g, 0, none⟩) n l := own_src h
theorem own_zero {w : World} {base : Nat} : w.ownsRow base 9 1 (.slice none 0 0) 0 (sv []) := World.ownsRow_nil _ _ _ _

set_option maxRecDepth 100000 in
set_option maxHeartbeats 1000000 in
theorem walk_some (x : Addr) (n cap : Nat) (l : List (List UInt8)) (i : Int) (w : World) (hnm : n ≤ maxLen) (hs : Src w (some x) n l) :
    Calls Try.prog 5 #[.slice (some x) n cap, .int .i64 i] w fun e w' => e = .returned (.bool true) ∧ Below w.heap.size w w' := by
  go_enter Try.func5, Try.ntmps5
  go_wp2_with fail
  refine (zz_any (some x) n cap l i _ hnm hs).mono ?_
  rintro e w1 ⟨v, rfl, sm1⟩
  have bel1 : Below w.heap.size w w1 := sm1.below (Below.refl _ _)
  unfold maxLen at hnm
  cases v
  · go_wp2_with fail
    go_ret
    exact ⟨rfl, bel1⟩
  by_cases hn : n ≤ 65536
  case neg =>
    go_wp2_with fail
    go_ret
    exact ⟨rfl, bel1⟩
  have hs1 := src_same hs sm1
  clear hs sm1
  go_wp2_with fail
  refine (bytes_any (some x) n cap l _ hn hs1).mono ?_
  rintro e w2 ⟨v, rfl, sm2⟩
  have bel2 : Below w.heap.size w w2 := sm2.below bel1
  have hs2 := src_same hs1 sm2
  clear hs1 sm2 bel1
  by_cases hv : v ≤ 1048576
  case neg =>
    go_wp2_with fail
    go_ret
    exact ⟨rfl, bel2⟩
  by_cases hi0 : i < 0
  · go_wp2_with fail
    go_ret
    exact ⟨rfl, bel2⟩
  obtain ⟨k, hik⟩ := Int.eq_ofNat_of_zero_le (by omega : 0 ≤ i)
  subst hik
  by_cases hkn : n < k
  · have hkn2 : (n : Int) < (k : Int) := by omega
    go_wp2_with fail
    go_ret
    exact ⟨rfl, bel2⟩
  have hk : k ≤ n := by omega
  have hki : (k : Int) ≤ (n : Int) := by omega
  clear hkn hi0
  go_wp2_with fail
  refine (prefix_all (some x) n cap k l _ hn hk hs2).mono ?_
  rintro e w3 ⟨v2, rfl, hord, sm3⟩
  have bel3 : Below w.heap.size w w3 := sm3.below bel2
  have hs3 := src_same hs2 sm3
  clear hs2 sm3 bel2
  cases v2
  · go_wp2_with fail
    go_ret
    exact ⟨rfl, bel3⟩
  have ho := hord rfl
  clear hord
  go_wp2_with fail
  refine (clone_some x n cap l _ hn hs3).mono ?_
  rintro e w4 ⟨rfl, own4, bel4⟩
  have hl := hs3.len
  go_wp2_with fail
  refine (clone_some ⟨w3.heap.size, 0, none⟩ n n l _ hn (src_own own4)).mono ?_
  rintro e w5 ⟨rfl, own5, bel5⟩
  have own4b := own_below own4 bel5
  go_wp2_with fail
  refine (ms_all n hn (some ⟨w4.heap.size, 0, none⟩) n l _ (Nat.le_refl _) (src_own own5)).mono ?_
  rintro e w6 ⟨rfl, own6, bel6⟩
  have own4c := own_below own4b bel6
  go_wp2_with fail
  refine (list_row w3.heap.size n k l _ hn hk hl (own_lower own4c (Nat.zero_le _)) ho).mono ?_
  rintro e w7 ⟨rfl, own7, gr7⟩
  have l4 := (own4.lt w3.heap.size rfl).2
  have hne : w5.heap.size ≠ w3.heap.size := by have := bel5.size; omega
  have own6b := own6.kept gr7 (.inr (fun e => hne (Option.some.inj e)))
  have bel7 : Below w.heap.size w w7 :=
    (((bel3.trans (bel4.mono bel3.size)).trans (bel5.mono (Nat.le_trans bel3.size bel4.size))).trans (bel6.mono (Nat.le_trans (Nat.le_trans bel3.size bel4.size) bel5.size))).grown gr7
      (Nat.le_trans (Nat.le_trans (Nat.le_trans bel3.size bel4.size) bel5.size) bel6.size) (fun j h => by cases h; exact bel3.size)
  have sO := src_own own7
  have sW := src_own own6b
  clear own7 own6b own6 own5 own4 own4b own4c gr7 bel3 bel4 bel5 bel6 hs3 hl ho l4 hne
  go_wp2_with fail
  refine (equal_all _ _ n n n (Srt l) _ hn sO sW).mono ?_
  rintro e w8 ⟨rfl, sm8⟩
  have sO8 := src_same sO sm8
  have sW8 := src_same sW sm8
  have bel8 := sm8.below bel7
  clear sO sW sm8 bel7
  go_wp2_with fail
  refine (equal_all _ _ n n n (Srt l) _ hn sO8 sW8).mono ?_
  rintro e w9 ⟨rfl, sm9⟩
  have bel9 := sm9.below bel8
  clear sO8 sW8 sm9 bel8
  go_wp2_with fail
  go_ret
  exact ⟨rfl, bel9⟩

theorem src_none (w : World) (ao : Option Addr) : Src w ao 0 [] := ⟨rfl, fun h => absurd h (by omega)⟩
theorem list_nil (k : Nat) (w : World) (hk : k ≤ 0) :
    Calls Try.prog 14 #[.slice none 0 0, .int .i64 k] w fun e w' => e = .returned (.tuple #[.slice none 0 0, .slice none 0 0, .int .i64 0]) ∧ Below w.heap.size w w' := by
  obtain rfl : k = 0 := by omega
  exact list_whole none 0 0 w

set_option maxRecDepth 100000 in
set_option maxHeartbeats 1000000 in
theorem walk_nil (i : Int) (w : World) :
    Calls Try.prog 5 #[.slice none 0 0, .int .i64 i] w fun e w' => e = .returned (.bool true) ∧ Below w.heap.size w w' := by
  go_enter Try.func5, Try.ntmps5
  go_wp2_with fail
  refine (zz_any none 0 0 [] i _ (Nat.zero_le _) (src_none _ _)).mono ?_
  rintro e w1 ⟨v, rfl, sm1⟩
  have bel1 : Below w.heap.size w w1 := sm1.below (Below.refl _ _)
  cases v
  · go_wp2_with fail
    go_ret
    exact ⟨rfl, bel1⟩
  clear sm1
  go_wp2_with fail
  refine (bytes_any none 0 0 [] _ (Nat.zero_le _) (src_none _ _)).mono ?_
  rintro e w2 ⟨v, rfl, sm2⟩
  have bel2 : Below w.heap.size w w2 := sm2.below bel1
  clear sm2 bel1
  by_cases hv : v ≤ 1048576
  case neg =>
    go_wp2_with fail
    go_ret
    exact ⟨rfl, bel2⟩
  by_cases hi0 : i < 0
  · go_wp2_with fail
    go_ret
    exact ⟨rfl, bel2⟩
  obtain ⟨k, hik⟩ := Int.eq_ofNat_of_zero_le (by omega : 0 ≤ i)
  subst hik
  by_cases hkn : 0 < k
  · have hkn2 : (0 : Int) < (k : Int) := by omega
    go_wp2_with fail
    go_ret
    exact ⟨rfl, bel2⟩
  have hk : k ≤ 0 := by omega
  have hki : (k : Int) ≤ 0 := by omega
  clear hkn hi0
  go_wp2_with fail
  refine (prefix_all none 0 0 k [] _ (Nat.zero_le _) hk (src_none _ _)).mono ?_
  rintro e w3 ⟨v2, rfl, hord, sm3⟩
  have bel3 : Below w.heap.size w w3 := sm3.below bel2
  clear sm3 bel2 hord
  cases v2
  · go_wp2_with fail
    go_ret
    exact ⟨rfl, bel3⟩
  go_wp2_with fail
  refine (clone_nil _).mono ?_
  rintro e w4 ⟨rfl, rfl⟩
  go_wp2_with fail
  refine (clone_nil _).mono ?_
  rintro e w5 ⟨rfl, rfl⟩
  go_wp2_with fail
  refine (ms_all 0 (Nat.zero_le _) none 0 [] _ (Nat.le_refl _) (src_none _ _)).mono ?_
  rintro e w6 ⟨rfl, _, bel6⟩
  have bel6w : Below w.heap.size w w6 := bel3.trans (bel6.mono bel3.size)
  clear bel6
  go_wp2_with fail
  refine (list_nil k _ hk).mono ?_
  rintro e w7 ⟨rfl, bel7⟩
  have bel7w : Below w.heap.size w w7 := bel6w.trans (bel7.mono bel6w.size)
  clear bel6w bel7
  go_wp2_with fail
  refine (equal_all _ _ 0 0 0 [] _ (Nat.zero_le _) (src_none _ _) (src_none _ _)).mono ?_
  rintro e w8 ⟨rfl, sm8⟩
  have bel8 := sm8.below bel7w
  clear sm8 bel7w
  go_wp2_with fail
  refine (equal_all _ _ 0 0 0 [] _ (Nat.zero_le _) (src_none _ _) (src_none _ _)).mono ?_
  rintro e w9 ⟨rfl, sm9⟩
  have bel9 := sm9.below bel8
  clear sm9 bel8
  go_wp2_with fail
  go_ret
  exact ⟨rfl, bel9⟩
end Go.Proofs.Qxb6617407a.IdsWalk
