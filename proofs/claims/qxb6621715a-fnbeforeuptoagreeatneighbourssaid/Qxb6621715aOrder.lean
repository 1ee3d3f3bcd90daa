/-
  THE PLAIN MATHEMATICS: instants (seconds, number within the second) in their order; a boundary in a sorted list; counting. No Go in sight.
-/
import Derived.WalkKit
namespace Go.Proofs.Qxb6621715a.Order

/-- (a, b) comes before (c, d). -/
def lessB (a b c d : Int) : Bool := if a = c then decide (b < d) else decide (a < c)

theorem lessB_iff (a b c d : Int) : lessB a b c d = true ↔ a < c ∨ (a = c ∧ b < d) := by
  unfold lessB; split <;> simp <;> omega
theorem lessB_no (a b c d : Int) : lessB a b c d = false ↔ c < a ∨ (a = c ∧ d ≤ b) := by
  unfold lessB; split <;> simp <;> omega
theorem lessB_asymm {a b c d : Int} (h : lessB a b c d = true) : lessB c d a b = false := by
  rw [lessB_iff] at h; rw [lessB_no]; omega

/-- The list of instants is in order: none before the one ahead of it. -/
def Sorted (A B : Nat → Int) (n : Nat) : Prop := ∀ k, 1 ≤ k → k < n → lessB (A k) (B k) (A (k - 1)) (B (k - 1)) = false
theorem sorted_le {A B : Nat → Int} {n : Nat} (h : Sorted A B n) : ∀ i j, i ≤ j → j < n → lessB (A j) (B j) (A i) (B i) = false := by
  intro i j hij hj
  induction j with
  | zero =>
    have : i = 0 := by omega
    subst this
    rw [lessB_no]; omega
  | succ j ih =>
    by_cases e : i = j + 1
    · subst e; rw [lessB_no]; omega
    · have h1 := ih (by omega) (by omega)
      have h2 := h (j + 1) (by omega) hj
      rw [Nat.add_sub_cancel] at h2
      rw [lessB_no] at h1 h2 ⊢
      omega

/-- 'p' says yes up to r and no from there on. -/
structure Bound (p : Nat → Bool) (n r : Nat) : Prop where
  le : r ≤ n
  yes : ∀ i, i < r → p i = true
  no : ∀ i, r ≤ i → i < n → p i = false
theorem Bound.unique {p : Nat → Bool} {n r s : Nat} (h : Bound p n r) (k : Bound p n s) : r = s := by
  rcases Nat.lt_trichotomy r s with e | e | e
  · have h1 := k.yes r e; have h2 := h.no r (Nat.le_refl _) (Nat.lt_of_lt_of_le e k.le); rw [h1] at h2; cases h2
  · exact e
  · have h1 := h.yes s e; have h2 := k.no s (Nat.le_refl _) (Nat.lt_of_lt_of_le e h.le); rw [h1] at h2; cases h2
theorem Bound.congr {p q : Nat → Bool} {n r : Nat} (h : Bound p n r) (e : ∀ i, i < n → p i = q i) : Bound q n r :=
  ⟨h.le, fun i hi => by rw [← e i (Nat.lt_of_lt_of_le hi h.le)]; exact h.yes i hi, fun i h1 h2 => by rw [← e i h2]; exact h.no i h1 h2⟩
theorem Bound.mono {p q : Nat → Bool} {n r s : Nat} (h : Bound p n r) (k : Bound q n s) (e : ∀ i, i < n → p i = true → q i = true) : r ≤ s := by
  rcases Nat.lt_or_ge s r with g | g
  · have h1 := e s (Nat.lt_of_lt_of_le g h.le) (h.yes s g)
    have h2 := k.no s (Nat.le_refl _) (Nat.lt_of_lt_of_le g h.le)
    rw [h1] at h2; cases h2
  · exact g

/-- What the two searches ask of the k-th instant. -/
def pre (A B : Nat → Int) (x y : Int) (k : Nat) : Bool := lessB (A k) (B k) x y
def upto (A B : Nat → Int) (x y : Int) (k : Nat) : Bool := !lessB x y (A k) (B k)
/-- Once 'no' always 'no'. -/
def Falls (p : Nat → Bool) (n : Nat) : Prop := ∀ i j, i ≤ j → j < n → p j = true → p i = true
theorem pre_falls {A B : Nat → Int} {n : Nat} (h : Sorted A B n) (x y : Int) : Falls (pre A B x y) n := by
  intro i j hij hj hp
  have h1 := sorted_le h i j hij hj
  unfold pre at *
  rw [lessB_iff] at *
  rw [lessB_no] at h1
  omega
theorem upto_falls {A B : Nat → Int} {n : Nat} (h : Sorted A B n) (x y : Int) : Falls (upto A B x y) n := by
  intro i j hij hj hp
  have h1 := sorted_le h i j hij hj
  unfold upto at *
  simp only [Bool.not_eq_true'] at *
  rw [lessB_no] at *
  omega

/-- How many k below m. -/
def cnt (p : Nat → Bool) : Nat → Nat
  | 0 => 0
  | m + 1 => cnt p m + (if p m then 1 else 0)
theorem cnt_le (p : Nat → Bool) (m : Nat) : cnt p m ≤ m := by
  induction m with
  | zero => exact Nat.le_refl _
  | succ m ih => unfold cnt; split <;> omega
theorem cnt_bound {p : Nat → Bool} {n r : Nat} (h : Bound p n r) : ∀ m, m ≤ n → cnt p m = min m r := by
  intro m
  induction m with
  | zero => intro _; simp [cnt]
  | succ m ih =>
    intro hm
    unfold cnt
    rw [ih (by omega)]
    by_cases e : m < r
    · rw [h.yes m e]; simp; omega
    · rw [h.no m (by omega) (by omega)]; simp; omega
theorem cnt_all {p : Nat → Bool} {n r : Nat} (h : Bound p n r) : cnt p n = r := by
  rw [cnt_bound h n (Nat.le_refl _)]; have := h.le; omega
theorem cnt_diff {p q : Nat → Bool} {n : Nat} (e : ∀ i, i < n → p i = true → q i = true) : ∀ m, m ≤ n → cnt (fun k => !p k && q k) m + cnt p m = cnt q m := by
  intro m
  induction m with
  | zero => intro _; rfl
  | succ m ih =>
    intro hm
    have h1 := ih (by omega)
    have h2 := e m (by omega)
    unfold cnt
    cases hp : p m
    · cases hq : q m <;> simp <;> omega
    · rw [h2 hp]; simp; omega
theorem pre_upto (A B : Nat → Int) (x y : Int) (k : Nat) (h : pre A B x y k = true) : upto A B x y k = true := by
  unfold pre at h; unfold upto; rw [lessB_asymm h]; rfl

/-! ### the neighbours -/
theorem next_in (A B : Nat → Int) (x y : Int) (k : Nat) : pre A B x (y + 1) k = upto A B x y k := by
  rw [Bool.eq_iff_iff]; unfold pre upto; rw [lessB_iff, Bool.not_eq_true', lessB_no]; omega
theorem next_over (A B : Nat → Int) (x lo hi : Int) (k : Nat) (h1 : lo ≤ B k) (h2 : B k ≤ hi) : pre A B (x + 1) lo k = upto A B x hi k := by
  rw [Bool.eq_iff_iff]; unfold pre upto; rw [lessB_iff, Bool.not_eq_true', lessB_no]; omega
theorem last_all (A B : Nat → Int) (x y : Int) (k : Nat) (h1 : A k ≤ x) (h2 : B k ≤ y) : upto A B x y k = true := by
  unfold upto; rw [Bool.not_eq_true', lessB_no]; omega
theorem prev_in (A B : Nat → Int) (x y : Int) (k : Nat) : upto A B x (y - 1) k = pre A B x y k := by
  rw [Bool.eq_iff_iff]; unfold pre upto; rw [lessB_iff, Bool.not_eq_true', lessB_no]; omega
theorem prev_under (A B : Nat → Int) (x lo hi : Int) (k : Nat) (h1 : lo ≤ B k) (h2 : B k ≤ hi) : upto A B (x - 1) hi k = pre A B x lo k := by
  rw [Bool.eq_iff_iff]; unfold pre upto; rw [lessB_iff, Bool.not_eq_true', lessB_no]; omega
theorem first_none (A B : Nat → Int) (x y : Int) (k : Nat) (h1 : x ≤ A k) (h2 : y ≤ B k) : pre A B x y k = false := by
  unfold pre; rw [lessB_no]; omega
end Go.Proofs.Qxb6621715a.Order
