/-
  WHAT THE SHELLS' 'IsRow' SAYS, as the walks want it.
-/
import Derived.Test.Qxb6621715aInstWalks
namespace Go.Proofs.Qxb6621715a.RowFacts
open Go.RowKit Inst

theorem row_facts {k : IntKind} {w : World} {a : Option Addr} {len cap : Nat} {zs : List Int}
    (h : (a = none ∧ len = 0 ∧ cap = 0 ∧ zs = []) ∨ ∃ x, a = some x ∧ len ≤ cap ∧ cap ≤ maxLen ∧ zs.length = cap ∧ (∀ i, i < zs.length → w.cell? (x.add i) = some (.int k (zs.getD i 0))) ∧ ∀ n ∈ zs, (Lit.int k n).wf = true) :
    Src k w a len (zs.take len) ∧ len ≤ maxLen ∧ ∀ j, j < len → (Lit.int k ((zs.take len).getD j 0)).wf = true := by
  rcases h with ⟨rfl, rfl, rfl, rfl⟩ | ⟨x, rfl, hl, hm, hz, hcell, hwf⟩
  · exact ⟨⟨rfl, fun h => by omega⟩, Nat.zero_le _, fun j hj => by omega⟩
  · have hget : ∀ j, j < len → (zs.take len).getD j 0 = zs.getD j 0 := fun j hj => by
      simp only [List.getD]; rw [List.getElem?_take_of_lt hj]
    refine ⟨⟨by simp; omega, fun hp => ?_⟩, by omega, fun j hj => ?_⟩
    · obtain ⟨b, off, spot⟩ := x
      have hc0 := hcell 0 (by omega)
      have hspot : spot = none := by simpa [Addr.add] using World.cell?_spot hc0
      subst hspot
      refine ⟨b, off, rfl, World.block_lt_of_cell? w _ (by simpa [Addr.add] using hc0), fun j hj => ?_⟩
      have := hcell j (by omega)
      rw [Addr.add_lit] at this
      rw [this, hget j hj]
    · rw [hget j hj]
      refine hwf _ ?_
      have hjl : j < zs.length := by omega
      simp only [List.getD, List.getElem?_eq_getElem hjl, Option.getD_some]
      exact List.getElem_mem hjl
end Go.Proofs.Qxb6621715a.RowFacts
