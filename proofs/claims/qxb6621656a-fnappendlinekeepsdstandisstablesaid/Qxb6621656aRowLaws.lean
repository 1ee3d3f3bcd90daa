/-
  LAWS OF NO PROGRAM, for the walks of appendLine: 'append' onto a row that the call owns, with one word more than the library's law says: IN WHICH BLOCK THE RESULT LIES (the old row's own block, or a new one).
-/
import Derived.WalkKit
import Derived.Lib.AppendStr
import Derived.Deep.QuietTactic
namespace Go.Proofs.Qxb6621656a.RowLaws
open Go.RowKit

/-- The result lies in the old value's own block, or in a new one. -/
def Fresh (w : World) (v v' : Value) : Prop := ∀ k, v'.ownBlock = some k → v.ownBlock = some k ∨ w.heap.size ≤ k

theorem own_shape {w : World} {base : Nat} {e : TypeId} {size : Nat} {v : Value} {n : Nat} {xs : List Value} (h : w.ownsRow base e size v n xs) : ∃ ao cap, v = .slice ao n cap := by
  rcases h.2 with ⟨rfl, rfl⟩ | ⟨g, cap, cur, rfl, _⟩
  · exact ⟨none, 0, rfl⟩
  · exact ⟨_, _, rfl⟩

theorem own_lower {w : World} {base base' : Nat} {e : TypeId} {size : Nat} {v : Value} {n : Nat} {xs : List Value} (h : w.ownsRow base e size v n xs) (hb : base' ≤ base) : w.ownsRow base' e size v n xs := by
  refine ⟨h.1, ?_⟩
  rcases h.2 with hn | ⟨g, cap, cur, hv, h1, h2⟩
  · exact .inl hn
  · exact .inr ⟨g, cap, cur, hv, Nat.le_trans hb h1, h2⟩

theorem own_block_ge {w : World} {base : Nat} {e : TypeId} {size : Nat} {v : Value} {n : Nat} {xs : List Value} (h : w.ownsRow base e size v n xs) (k : Nat) (hk : v.ownBlock = some k) : base ≤ k := (h.lt k hk).1

theorem grown_trans {a b c : World} {v v1 : Value} (h : a.grownBy b v.ownBlock) (hf : Fresh a v v1) (k : b.grownBy c v1.ownBlock) : a.grownBy c v.ownBlock := by
  refine ⟨k.os.trans h.os, k.tape.trans h.tape, k.output.trans h.output, Nat.le_trans h.size k.size, fun i hi hne => ?_⟩
  refine (k.block i (Nat.lt_of_lt_of_le hi h.size) fun e => ?_).trans (h.block i hi hne)
  rcases hf i e.symm with h1 | h1
  · exact hne h1.symm
  · omega
theorem grown_alloc {a b : World} {row : Option Nat} (h : a.grownBy b row) (o : Obj) : a.grownBy (b.alloc o) row :=
  ⟨h.os, h.tape, h.output, Nat.le_trans h.size (by simp), fun i hi hne => (Below.heap_alloc b o i (Nat.lt_of_lt_of_le hi h.size)).trans (h.block i hi hne)⟩
theorem grown_same {a b c : World} {row : Option Nat} (h : a.grownBy b row) (k : b.grownBy c row) : a.grownBy c row :=
  ⟨k.os.trans h.os, k.tape.trans h.tape, k.output.trans h.output, Nat.le_trans h.size k.size, fun i hi hne => (k.block i (Nat.lt_of_lt_of_le hi h.size) hne).trans (h.block i hi hne)⟩
theorem fresh_trans {a b : World} {v v1 v2 : Value} (hf : Fresh a v v1) (hs : a.heap.size ≤ b.heap.size) (hf2 : Fresh b v1 v2) : Fresh a v v2 := by
  intro k hk
  rcases hf2 k hk with h | h
  · exact hf k h
  · exact .inr (by omega)

theorem grown_of_below {a b : World} (h : Below a.heap.size a b) (row : Option Nat) : a.grownBy b row :=
  ⟨h.os, h.tape, h.output, h.size, fun k hk _ => h.block k hk⟩
theorem own_below {a b : World} {base : Nat} {e : TypeId} {size : Nat} {v : Value} {n : Nat} {xs : List Value} (h : a.ownsRow base e size v n xs) (hb : Below a.heap.size a b) : b.ownsRow base e size v n xs :=
  h.kept (grown_of_below hb none) (by cases hv : v.ownBlock <;> simp)
theorem own_kept {a b : World} {base : Nat} {e : TypeId} {size : Nat} {v : Value} {n : Nat} {xs : List Value} {row : Option Nat} (h : a.ownsRow base e size v n xs) (hg : a.grownBy b row) (hne : ∀ k, v.ownBlock = some k → row ≠ some k) : b.ownsRow base e size v n xs := by
  refine h.kept hg ?_
  cases hv : v.ownBlock with
  | none => exact .inl rfl
  | some k => exact .inr fun e => hne k hv e.symm
/-- The same world but for what was drawn. -/
structure Same (w wr : World) : Prop where
  heap : wr.heap = w.heap
  os : wr.os = w.os
  tape : wr.tape = w.tape
  output : wr.output = w.output
theorem Same.refl (w : World) : Same w w := ⟨rfl, rfl, rfl, rfl⟩
theorem Same.drewN {w wr : World} (h : Same w wr) (n : Nat) : Same w (wr.drewN n) := ⟨h.heap, h.os, h.tape, h.output⟩
theorem Same.cell {w wr : World} (h : Same w wr) (a : Addr) : wr.cell? a = w.cell? a := World.cell?_of_block (by rw [h.heap])
theorem Same.below {B : Nat} {a w wr : World} (h : Same w wr) (hb : Below B a w) : Below B a wr := hb.trans ⟨h.os, h.tape, h.output, by rw [h.heap]; exact Nat.le_refl _, fun k _ => by rw [h.heap]⟩

/-- 'first[:n]': a shorter piece of an owned row is owned. -/
theorem own_prefix {w : World} {e : TypeId} {g N cap n : Nat} {xs : List Value} (h : w.ownsRow 0 e 1 (.slice (some ⟨g, 0, none⟩) N cap) N xs) (hn : n ≤ N) : w.ownsRow 0 e 1 (.slice (some ⟨g, 0, none⟩) n cap) n (xs.take n) := by
  rcases h.2 with ⟨hv, _⟩ | ⟨g', cap', cur, hv, hb, hg, hnc, hcm, hcs, htake⟩
  · simp at hv
  · simp only [Value.slice.injEq, Option.some.injEq, Addr.mk.injEq, and_true, true_and] at hv
    obtain ⟨rfl, rfl⟩ := hv
    refine ⟨?_, .inr ⟨g, cap, cur, rfl, Nat.zero_le _, hg, by omega, hcm, hcs, ?_⟩⟩
    · have := h.1; simp at this ⊢; omega
    · rw [← htake, List.take_take]; simp [Nat.min_eq_left hn]

/-- WHAT THE SHELL's 'IsRow' SAYS, as the walks want it. -/
theorem row_facts {w : World} {a : Option Addr} {len cap : Nat} {zs : List Int}
    (h : (a = none ∧ len = 0 ∧ cap = 0 ∧ zs = []) ∨ ∃ x, a = some x ∧ len ≤ cap ∧ cap ≤ maxLen ∧ zs.length = cap ∧ (∀ i, i < zs.length → w.cell? (x.add i) = some (.int .u8 (zs.getD i 0))) ∧ ∀ n ∈ zs, (Lit.int .u8 n).wf = true) :
    (zs.take len).length = len ∧ len ≤ maxLen ∧ (a = none → len = 0 ∧ cap = 0) ∧
      (0 < len → ∃ b off, a = some ⟨b, off, none⟩ ∧ b < w.heap.size ∧ ∀ j, j < len → w.cell? ⟨b, off + j, none⟩ = some (.int .u8 ((zs.take len).getD j 0))) := by
  rcases h with ⟨rfl, rfl, rfl, rfl⟩ | ⟨x, rfl, hl, hm, hz, hcell, _⟩
  · exact ⟨rfl, Nat.zero_le _, fun _ => ⟨rfl, rfl⟩, fun h => by omega⟩
  · refine ⟨by simp; omega, by omega, fun h => (by cases h), fun hp => ?_⟩
    obtain ⟨b, off, spot⟩ := x
    have hc0 := hcell 0 (by omega)
    have hspot : spot = none := by simpa [Addr.add] using World.cell?_spot hc0
    subst hspot
    refine ⟨b, off, rfl, World.block_lt_of_cell? w _ (by simpa [Addr.add] using hc0), fun j hj => ?_⟩
    have := hcell j (by omega)
    rw [Addr.add_lit] at this
    rw [this]
    simp only [List.getD]
    rw [List.getElem?_take_of_lt hj]

section
variable {P : Program} (w : World)

theorem fresh_string (t u ty e : TypeId) (i : TypeInfo) (ht : P.underlying t = some (.slice e)) (hu : P.underlying u = some .string) (hi : P.info? e = some i) (hz : i.zero = some (.int .u8 0))
    (hsize : i.size = 1) (hby : i.bytes = 1) (v : Value) (n : Nat) (xs : List Value) (hown : w.ownsRow 0 e 1 v n xs) (s : ByteArray) (h63 : n + s.size ≤ maxLen) (hbytes : n + s.size ≤ 140737488355328)
    {v' : Value} {w' : World} (hr : (Builtin.append_ #[t, u] ty #[v, .string s]).run P w = .ok v' w') : Fresh w v v' := by
  intro k hk
  have hsmall : n + s.size ≤ 9223372036854775807 := by simp only [maxLen] at h63; omega
  rcases hown.2 with ⟨rfl, rfl⟩ | ⟨g, cap, cur, rfl, hbg, hg, hnc, hcm, hcs, htake⟩
  · have hx : xs = [] := List.eq_nil_of_length_eq_zero (by simpa using hown.1)
    subst hx
    obtain ⟨v2, w2, hr2, hown2, _⟩ := Lib.run_append_own_string (P := P) w w.heap.size t u ty e i ht hu hi hz hsize hby (.slice none 0 0) 0 [] (World.ownsRow_nil w _ e 1) s h63 hbytes (Nat.le_refl _)
    rw [hr] at hr2
    injection hr2 with h1 h2
    subst h1
    exact .inr (own_block_ge hown2 k hk)
  · have hxl : xs.length = n := by simpa using hown.1
    by_cases hroom : n + s.size ≤ cap
    · have hcs' : cur.size = cap := by simpa using hcs
      have hr2 := Lib.run_append_room_string (P := P) w t u ty e i ht hu hi hsize g n cap cur hg s hroom (by omega)
      rw [hr] at hr2
      injection hr2 with h1 h2
      subst h1
      exact .inl hk
    · have hr2 := Lib.run_append_grow_string (P := P) w t u ty e i (.int .u8 0) ht hu hi hz ⟨g, 0, none⟩ n cap xs (by rw [hsize]; simpa using hxl) (hown.cells (g := g) rfl) s (by omega) (by omega) (by rw [hby]; exact growslice_fits (by omega) (by omega))
      rw [hr] at hr2
      injection hr2 with h1 h2
      subst h1
      simp [Value.ownBlock] at hk
      exact .inr (by omega)

/-- 'dst = append(dst, s...)', s a string. -/
theorem wpList_append_str {ops : Array Oper} {rest : List Oper} {o : Oper} {a : Act} {Q : Exit → Act → World → Prop} (hgd : o.guard = none) (sl x : Operand) (t u : TypeId)
    (ho : o.op = .call { callee := .builtin .append, args := #[sl, x], argTypes := #[t, u] })
    (e : TypeId) (i : TypeInfo) (ht : P.underlying t = some (.slice e)) (hu : P.underlying u = some .string) (hi : P.info? e = some i) (hz : i.zero = some (.int .u8 0))
    (hsize : i.size = 1) (hby : i.bytes = 1)
    (ao : Option Addr) (n cap : Nat) (xs : List Value) (hs : a.eval sl = .slice ao n cap) (hown : w.ownsRow 0 e 1 (.slice ao n cap) n xs) (s : ByteArray) (hx : a.eval x = .string s)
    (h63 : n + s.size ≤ maxLen) (hbytes : n + s.size ≤ 140737488355328)
    (h : ∀ ao' cap' w', w'.ownsRow 0 e 1 (.slice ao' (n + s.size) cap') (n + s.size) (xs ++ Lib.strCells s) → w.grownBy w' (Value.ownBlock (.slice ao n cap)) → Fresh w (.slice ao n cap) (.slice ao' (n + s.size) cap') →
      wpList P ops Q rest (a.put o.dst (.slice ao' (n + s.size) cap')) w') : wpList P ops Q (o :: rest) a w := by
  refine wpList_plain hgd fun K hK => ?_
  obtain ⟨v', w', hr, h2, h3, _⟩ := Lib.run_append_own_string (P := P) w 0 t u o.type e i ht hu hi hz hsize hby (.slice ao n cap) n xs hown s h63 hbytes (Nat.zero_le _)
  have hf := fresh_string (P := P) w t u o.type e i ht hu hi hz hsize hby (.slice ao n cap) n xs hown s h63 hbytes hr
  obtain ⟨ao', cap', rfl⟩ := own_shape h2
  unfold Oper.wp execOp
  simp only [ho, resolve, invoke, builtin, Sem.run_bind, Sem.run_pure, Result.andThen_ok, List.map_toArray, List.map_cons, List.map_nil, hs, hx, hr]
  exact hK _ _ (h ao' cap' w' h2 h3 hf)

theorem fresh_row (t ty e : TypeId) (i : TypeInfo) (z : Value) (size bytes : Nat) (ht : P.underlying t = some (.slice e)) (hi : P.info? e = some i) (hz : i.zero = some z)
    (hsize : i.size = size) (hby : i.bytes = bytes) (hzs : z.cells.size = size) (hsz : 0 < size)
    (v : Value) (n : Nat) (xs : List Value) (hown : w.ownsRow 0 e size v n xs)
    (a : Addr) (m c : Nat) (news : List Value) (hl : news.length = m * size) (hnews : ∀ j u, news[j]? = some u → w.cell? (a.add j) = some u) (h1 : ∀ u ∈ news, u.oneCell' = true)
    (h63 : n + m ≤ maxLen) (hbytes : (n + m) * bytes ≤ 140737488355328)
    {v' : Value} {w' : World} (hr : (Builtin.append_ #[t, t] ty #[v, .slice (some a) m c]).run P w = .ok v' w') : Fresh w v v' := by
  intro k hk
  have hsmall : n + m ≤ 9223372036854775807 := by simp only [maxLen] at h63; omega
  rcases hown.2 with ⟨rfl, rfl⟩ | ⟨g, cap, cur, rfl, hbg, hg, hnc, hcm, hcs, htake⟩
  · have hx : xs = [] := List.eq_nil_of_length_eq_zero (by simpa using hown.1)
    subst hx
    obtain ⟨v2, w2, hr2, hown2, _⟩ := run_append_own (P := P) w w.heap.size t ty e i z size bytes ht hi hz hsize hby hzs hsz (.slice none 0 0) 0 [] (World.ownsRow_nil w _ e size) a m c news hl hnews h1 h63 hbytes (Nat.le_refl _)
    rw [hr] at hr2
    injection hr2 with h1 h2
    subst h1
    exact .inr (own_block_ge hown2 k hk)
  · subst hsize
    subst hby
    by_cases hroom : n + m ≤ cap
    · have hfit : n * i.size + news.length ≤ cur.size := by rw [hl, hcs, ← Nat.add_mul]; exact Nat.mul_le_mul_right _ hroom
      have hr2 := run_append_room (P := P) w t ty e i ht hi g n cap cur hg a m c news hl hnews h1 hroom hfit
      rw [hr] at hr2
      injection hr2 with h1 h2
      subst h1
      exact .inl hk
    · have hr2 := run_append_grow (P := P) w t ty e i z ht hi hz ⟨g, 0, none⟩ n cap xs hown.1 (hown.cells (g := g) rfl) a m c news hl hnews (by omega) (by omega) (growslice_fits (by omega) hbytes)
      rw [hr] at hr2
      injection hr2 with h1 h2
      subst h1
      simp [Value.ownBlock] at hk
      exact .inr (by omega)

/-- 'append(dst, x, y ..)': at least one element: the result is not nil. -/
theorem wpList_append_row {ops : Array Oper} {rest : List Oper} {o : Oper} {a : Act} {Q : Exit → Act → World → Prop} (hgd : o.guard = none) (sl x : Operand) (t : TypeId)
    (ho : o.op = .call { callee := .builtin .append, args := #[sl, x], argTypes := #[t, t] })
    (e : TypeId) (i : TypeInfo) (z : Value) (bytes : Nat) (ht : P.underlying t = some (.slice e)) (hi : P.info? e = some i) (hz : i.zero = some z)
    (hsize : i.size = 1) (hby : i.bytes = bytes) (hzs : z.cells.size = 1)
    (ao : Option Addr) (n cap : Nat) (xs : List Value) (hs : a.eval sl = .slice ao n cap) (hown : w.ownsRow 0 e 1 (.slice ao n cap) n xs)
    (ad : Addr) (m c : Nat) (news : List Value) (hx : a.eval x = .slice (some ad) m c) (hm : 0 < m) (hl : news.length = m) (hnews : ∀ j u, news[j]? = some u → w.cell? (ad.add j) = some u) (h1 : ∀ u ∈ news, u.oneCell' = true)
    (h63 : n + m ≤ maxLen) (hbytes : (n + m) * bytes ≤ 140737488355328)
    (h : ∀ g' cap' w', w'.ownsRow 0 e 1 (.slice (some ⟨g', 0, none⟩) (n + m) cap') (n + m) (xs ++ news) → w.grownBy w' (Value.ownBlock (.slice ao n cap)) → Fresh w (.slice ao n cap) (.slice (some ⟨g', 0, none⟩) (n + m) cap') →
      wpList P ops Q rest (a.put o.dst (.slice (some ⟨g', 0, none⟩) (n + m) cap')) w') : wpList P ops Q (o :: rest) a w := by
  refine wpList_plain hgd fun K hK => ?_
  obtain ⟨v', w', hr, h2, h3, _⟩ := run_append_own (P := P) w 0 t o.type e i z 1 bytes ht hi hz hsize hby hzs (by decide) (.slice ao n cap) n xs hown ad m c news (by simpa using hl) hnews h1 h63 hbytes (Nat.zero_le _)
  have hf := fresh_row (P := P) w t o.type e i z 1 bytes ht hi hz hsize hby hzs (by decide) (.slice ao n cap) n xs hown ad m c news (by simpa using hl) hnews h1 h63 hbytes hr
  rcases h2.2 with ⟨_, hn⟩ | ⟨g, cap', cur, rfl, _⟩
  · omega
  unfold Oper.wp execOp
  simp only [ho, resolve, invoke, builtin, Sem.run_bind, Sem.run_pure, Result.andThen_ok, List.map_toArray, List.map_cons, List.map_nil, hs, hx, hr]
  exact hK _ _ (h g cap' w' h2 h3 hf)
end
end Go.Proofs.Qxb6621656a.RowLaws
