/-
  No cell of these rows narrows 'for every input' (looked for: loops, veiled, ifaces, maps, wideKeys, modest, calm, conditions, laid).
  DERIVED. THE GIVEN ROWS OF THIS SEAT. 2 by the template 'for every input the law returns true; each argument reads behind the call as it read before'; 0 by the template 'total and deterministic' (their statements: Qxb6621715aTotals.lean).
  GIVEN WITH THE SEED: the statements are not yours to turn. If you find one false, say at which input.
  Laid BY PROGRAM, IN A SANDBOX (cutbox-rows.mjs): the forced cells as the released guide's own fill.sh prints them over the translation 6a05075a9c3e8351… (all of the seat's roots in one cut). By AI agents, Wed Nov 11 2026. No macro, syntax, notation, axiom, sorry.
-/
import Derived.Test.Qxb6621715aChecked
import GoSem.Claim
import GoSem.ClaimJoined
import GoSem.ClaimMapViews
import Derived.JoinedTies
import Derived.KernelRfl
namespace Go.Proofs.Qxb6621715a
/- THE CELL 'sum', in the pinned program and in every row, IS THE sha256 OF THE DUMP (.gsa) THAT Qxb6621715aProg.lean LOADS. Nothing in Lean hashes anything: it is a label: what it is worth is what the hold of that sum in a sandbox is worth. -/
noncomputable def Try.pinned : Pinned := { name := "qxb6621715a", sum := "6a05075a9c3e83519e263870db1910474c502f89b30bd258cda98fc49939f7a5", checked := Try.checked }
namespace Rows
def none {H : Type} : Left H := { results := [], args := [] }

/-- 'zzlaws_internal_backtest_b1.FnBeforeUpToPartition': WHATEVER THE INPUT: true; the input reads as it did. -/
def fnBeforeUpToPartitionSpec : ChangeSpec := { name := "fnBeforeUpToPartition", fn := fun _ => fun
  | [d1, d2, d3, d4] => { results := [.lit (.bool true)], args := [d1, d2, d3, d4] }
  | _ => none }
def fnBeforeUpToPartitionRow : OpenClaim := { program := "qxb6621715a", sum := "6a05075a9c3e83519e263870db1910474c502f89b30bd258cda98fc49939f7a5", func := "example.com/portcullis/portcullis/zzlaws_internal_backtest_b1.FnBeforeUpToPartition", spec := "fnBeforeUpToPartition", apart := false }
def FnBeforeUpToPartitionSaid : Prop := fnBeforeUpToPartitionRow.holds Try.pinned (OpenSpec.ofChange fnBeforeUpToPartitionSpec)

/-- ITS FALSE NEIGHBOUR: 'it returns false'. Refute it at one input. -/
def fnBeforeUpToPartitionWrong : ChangeSpec := { name := "fnBeforeUpToPartition", fn := fun _ => fun
  | [d1, d2, d3, d4] => { results := [.lit (.bool false)], args := [d1, d2, d3, d4] }
  | _ => none }
def FnBeforeUpToPartitionWrongFalsely : Prop := fnBeforeUpToPartitionRow.holds Try.pinned (OpenSpec.ofChange fnBeforeUpToPartitionWrong)

/-- 'zzlaws_internal_backtest_b1.FnBeforeUpToAgreeAtNeighbours': WHATEVER THE INPUT: true; the input reads as it did. -/
def fnBeforeUpToAgreeAtNeighboursSpec : ChangeSpec := { name := "fnBeforeUpToAgreeAtNeighbours", fn := fun _ => fun
  | [d1, d2, d3, d4] => { results := [.lit (.bool true)], args := [d1, d2, d3, d4] }
  | _ => none }
def fnBeforeUpToAgreeAtNeighboursRow : OpenClaim := { program := "qxb6621715a", sum := "6a05075a9c3e83519e263870db1910474c502f89b30bd258cda98fc49939f7a5", func := "example.com/portcullis/portcullis/zzlaws_internal_backtest_b1.FnBeforeUpToAgreeAtNeighbours", spec := "fnBeforeUpToAgreeAtNeighbours", apart := false }
def FnBeforeUpToAgreeAtNeighboursSaid : Prop := fnBeforeUpToAgreeAtNeighboursRow.holds Try.pinned (OpenSpec.ofChange fnBeforeUpToAgreeAtNeighboursSpec)

/-- ITS FALSE NEIGHBOUR: 'it returns false'. Refute it at one input. -/
def fnBeforeUpToAgreeAtNeighboursWrong : ChangeSpec := { name := "fnBeforeUpToAgreeAtNeighbours", fn := fun _ => fun
  | [d1, d2, d3, d4] => { results := [.lit (.bool false)], args := [d1, d2, d3, d4] }
  | _ => none }
def FnBeforeUpToAgreeAtNeighboursWrongFalsely : Prop := fnBeforeUpToAgreeAtNeighboursRow.holds Try.pinned (OpenSpec.ofChange fnBeforeUpToAgreeAtNeighboursWrong)

end Rows
end Go.Proofs.Qxb6621715a
