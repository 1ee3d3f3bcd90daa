/-
  WALKS: zzBytes (5, 10), zzLess (9), instant.before (14), before (11), upTo (13).
-/
import Derived.Test.Qxb6621715aProg
import Derived.Test.Qxb6621715aOrder
import Derived.WalkKit
import Derived.WalkSpells
import Derived.Deep.RegionWith
import Derived.Deep.QuietTactic
import Derived.BigQuiet
namespace Go.Proofs.Qxb6621715a.Walks
open Go.RowKit Order

theorem bytesP_yes (a a' : Option Addr) (n cap m cap' : Nat) (x y : Int) (w : World) (h : n + m ≤ 1048576) :
    Calls Try.prog 5 #[.slice a n cap, .slice a' m cap', .int .i64 x, .int .i32 y] w fun e w' => e = .returned (.bool true) ∧ w = w' := by
  go_enter Try.func5, Try.ntmps5
  go_wp2
  go_ret
  exact ⟨rfl, rfl⟩
theorem bytesP_no (a a' : Option Addr) (n cap m cap' : Nat) (x y : Int) (w : World) (hn : n ≤ maxLen) (hm : m ≤ maxLen) (h : ¬ n + m ≤ 1048576) :
    Calls Try.prog 5 #[.slice a n cap, .slice a' m cap', .int .i64 x, .int .i32 y] w fun e w' => e = .returned (.bool false) ∧ w = w' := by
  unfold maxLen at hn hm
  by_cases h1 : n ≤ 1048576
  · by_cases h2 : m ≤ 1048576
    · go_enter Try.func5, Try.ntmps5
      go_wp2
      go_ret
      exact ⟨rfl, rfl⟩
    · go_enter Try.func5, Try.ntmps5
      go_wp2
      go_ret
      exact ⟨rfl, rfl⟩
  · go_enter Try.func5, Try.ntmps5
    go_wp2
    go_ret
    exact ⟨rfl, rfl⟩
theorem bytesN_yes (a a' : Option Addr) (n cap m cap' : Nat) (x y : Int) (w : World) (h : n + m ≤ 1048576) :
    Calls Try.prog 10 #[.slice a n cap, .slice a' m cap', .int .i64 x, .int .i32 y] w fun e w' => e = .returned (.bool true) ∧ w = w' := by
  go_enter Try.func10, Try.ntmps10
  go_wp2
  go_ret
  exact ⟨rfl, rfl⟩
theorem bytesN_no (a a' : Option Addr) (n cap m cap' : Nat) (x y : Int) (w : World) (hn : n ≤ maxLen) (hm : m ≤ maxLen) (h : ¬ n + m ≤ 1048576) :
    Calls Try.prog 10 #[.slice a n cap, .slice a' m cap', .int .i64 x, .int .i32 y] w fun e w' => e = .returned (.bool false) ∧ w = w' := by
  unfold maxLen at hn hm
  by_cases h1 : n ≤ 1048576
  · by_cases h2 : m ≤ 1048576
    · go_enter Try.func10, Try.ntmps10
      go_wp2
      go_ret
      exact ⟨rfl, rfl⟩
    · go_enter Try.func10, Try.ntmps10
      go_wp2
      go_ret
      exact ⟨rfl, rfl⟩
  · go_enter Try.func10, Try.ntmps10
    go_wp2
    go_ret
    exact ⟨rfl, rfl⟩

theorem less_any (a b c d : Int) (w : World) :
    Calls Try.prog 9 #[.int .i64 a, .int .i32 b, .int .i64 c, .int .i32 d] w fun e w' => e = .returned (.bool (lessB a b c d)) ∧ w' = w := by
  by_cases h : a = c
  · subst h
    have e : lessB a b a d = decide (b < d) := if_pos rfl
    rw [e]
    clear e
    go_enter Try.func9, Try.ntmps9
    go_wp2
    go_ret
    exact ⟨rfl, rfl⟩
  · have e : lessB a b c d = decide (a < c) := if_neg h
    rw [e]
    clear e
    have h1 : (a == c) = false := by simpa using h
    have h2 : (a != c) = true := by simpa using h
    clear h
    go_enter Try.func9, Try.ntmps9
    go_wp2
    go_ret
    exact ⟨rfl, rfl⟩

theorem inst_any (a b c d : Int) (w : World) :
    Calls Try.prog 14 #[.agg #[.int .i64 a, .int .i32 b], .agg #[.int .i64 c, .int .i32 d]] w fun e w' => e = .returned (.bool (lessB a b c d)) ∧ Below w.heap.size w w' := by
  by_cases h1 : a < c
  · have e : lessB a b c d = true := by rw [lessB_iff]; omega
    rw [e]
    clear e
    go_enter Try.func14, Try.ntmps14
    go_wp2
    go_ret
    exact ⟨rfl, by repeat (first | exact Below.refl _ _ | apply Below.drew | (refine Below.alloc ?_ (by simp) _))⟩
  · by_cases h2 : a = c
    · subst h2
      have e : lessB a b a d = decide (b < d) := if_pos rfl
      rw [e]
      clear e h1
      go_enter Try.func14, Try.ntmps14
      go_wp2
      go_ret
      exact ⟨rfl, by repeat (first | exact Below.refl _ _ | apply Below.drew | (refine Below.alloc ?_ (by simp) _))⟩
    · have e : lessB a b c d = false := by rw [lessB_no]; omega
      rw [e]
      clear e
      have h3 : (a == c) = false := by simpa using h2
      clear h2
      go_enter Try.func14, Try.ntmps14
      go_wp2
      go_ret
      exact ⟨rfl, by repeat (first | exact Below.refl _ _ | apply Below.drew | (refine Below.alloc ?_ (by simp) _))⟩
theorem inst_is (a b c d : Int) (v : Bool) (w : World) (h : lessB a b c d = v) :
    Calls Try.prog 14 #[.agg #[.int .i64 a, .int .i32 b], .agg #[.int .i64 c, .int .i32 d]] w fun e w' => e = .returned (.bool v) ∧ Below w.heap.size w w' := by
  subst h
  exact inst_any a b c d w
end Go.Proofs.Qxb6621715a.Walks
