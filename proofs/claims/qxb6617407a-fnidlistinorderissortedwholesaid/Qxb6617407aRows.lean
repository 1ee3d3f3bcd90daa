/-
  No cell of these rows narrows 'for every input' (looked for: loops, veiled, ifaces, maps, wideKeys, modest, calm, conditions, laid).
  DERIVED. THE GIVEN ROWS OF THIS SEAT. 3 by the template 'for every input the law returns true; each argument reads behind the call as it read before'; 0 by the template 'total and deterministic' (their statements: Qxb6617407aTotals.lean).
  GIVEN WITH THE SEED: the statements are not yours to turn. If you find one false, say at which input.
  Laid BY PROGRAM, IN A SANDBOX (cutbox-rows.mjs): the forced cells as the released guide's own fill.sh prints them over the translation 7cfb8fe3968b7bb8… (all of the seat's roots in one cut). By AI agents, Wed Nov 11 2026. No macro, syntax, notation, axiom, sorry.
-/
import Derived.Test.Qxb6617407aChecked
import GoSem.Claim
import GoSem.ClaimJoined
import GoSem.ClaimMapViews
import Derived.JoinedTies
import Derived.KernelRfl
namespace Go.Proofs.Qxb6617407a
/- THE CELL 'sum', in the pinned program and in every row, IS THE sha256 OF THE DUMP (.gsa) THAT Qxb6617407aProg.lean LOADS. Nothing in Lean hashes anything: it is a label: what it is worth is what the hold of that sum in a sandbox is worth. -/
noncomputable def Try.pinned : Pinned := { name := "qxb6617407a", sum := "7cfb8fe3968b7bb87fd1d3d381bd3a65e39264635d385e9da43ba42113e9c9b4", checked := Try.checked }
namespace Rows
def none {H : Type} : Left H := { results := [], args := [] }

/-- 'zzlaws_root_b1.FnUint128CmpMatchesBitScanBothWays': WHATEVER THE INPUT: true; the input reads as it did. -/
def fnUint128CmpMatchesBitScanBothWaysSpec : ChangeSpec := { name := "fnUint128CmpMatchesBitScanBothWays", fn := fun _ => fun
  | [d1, d2, d3, d4] => { results := [.lit (.bool true)], args := [d1, d2, d3, d4] }
  | _ => none }
def fnUint128CmpMatchesBitScanBothWaysRow : OpenClaim := { program := "qxb6617407a", sum := "7cfb8fe3968b7bb87fd1d3d381bd3a65e39264635d385e9da43ba42113e9c9b4", func := "example.com/strikeline/strikeline/zzlaws_root_b1.FnUint128CmpMatchesBitScanBothWays", spec := "fnUint128CmpMatchesBitScanBothWays", apart := false }
def FnUint128CmpMatchesBitScanBothWaysSaid : Prop := fnUint128CmpMatchesBitScanBothWaysRow.holds Try.pinned (OpenSpec.ofChange fnUint128CmpMatchesBitScanBothWaysSpec)

/-- ITS FALSE NEIGHBOUR: 'it returns false'. Refute it at one input. -/
def fnUint128CmpMatchesBitScanBothWaysWrong : ChangeSpec := { name := "fnUint128CmpMatchesBitScanBothWays", fn := fun _ => fun
  | [d1, d2, d3, d4] => { results := [.lit (.bool false)], args := [d1, d2, d3, d4] }
  | _ => none }
def FnUint128CmpMatchesBitScanBothWaysWrongFalsely : Prop := fnUint128CmpMatchesBitScanBothWaysRow.holds Try.pinned (OpenSpec.ofChange fnUint128CmpMatchesBitScanBothWaysWrong)

/-- 'zzlaws_root_b1.FnUint128CmpUnderTranslation': WHATEVER THE INPUT: true; the input reads as it did. -/
def fnUint128CmpUnderTranslationSpec : ChangeSpec := { name := "fnUint128CmpUnderTranslation", fn := fun _ => fun
  | [d1, d2, d3, d4, d5, d6] => { results := [.lit (.bool true)], args := [d1, d2, d3, d4, d5, d6] }
  | _ => none }
def fnUint128CmpUnderTranslationRow : OpenClaim := { program := "qxb6617407a", sum := "7cfb8fe3968b7bb87fd1d3d381bd3a65e39264635d385e9da43ba42113e9c9b4", func := "example.com/strikeline/strikeline/zzlaws_root_b1.FnUint128CmpUnderTranslation", spec := "fnUint128CmpUnderTranslation", apart := false }
def FnUint128CmpUnderTranslationSaid : Prop := fnUint128CmpUnderTranslationRow.holds Try.pinned (OpenSpec.ofChange fnUint128CmpUnderTranslationSpec)

/-- ITS FALSE NEIGHBOUR: 'it returns false'. Refute it at one input. -/
def fnUint128CmpUnderTranslationWrong : ChangeSpec := { name := "fnUint128CmpUnderTranslation", fn := fun _ => fun
  | [d1, d2, d3, d4, d5, d6] => { results := [.lit (.bool false)], args := [d1, d2, d3, d4, d5, d6] }
  | _ => none }
def FnUint128CmpUnderTranslationWrongFalsely : Prop := fnUint128CmpUnderTranslationRow.holds Try.pinned (OpenSpec.ofChange fnUint128CmpUnderTranslationWrong)

/-- 'zzlaws_root_b1.FnIdListInOrderIsSortedWhole': WHATEVER THE INPUT: true; the input reads as it did. -/
def fnIdListInOrderIsSortedWholeSpec : ChangeSpec := { name := "fnIdListInOrderIsSortedWhole", fn := fun _ => fun
  | [d1, d2] => { results := [.lit (.bool true)], args := [d1, d2] }
  | _ => none }
def fnIdListInOrderIsSortedWholeRow : OpenClaim := { program := "qxb6617407a", sum := "7cfb8fe3968b7bb87fd1d3d381bd3a65e39264635d385e9da43ba42113e9c9b4", func := "example.com/strikeline/strikeline/zzlaws_root_b1.FnIdListInOrderIsSortedWhole", spec := "fnIdListInOrderIsSortedWhole", recurses := true, apart := false }
def FnIdListInOrderIsSortedWholeSaid : Prop := fnIdListInOrderIsSortedWholeRow.holds Try.pinned (OpenSpec.ofChange fnIdListInOrderIsSortedWholeSpec)

/-- ITS FALSE NEIGHBOUR: 'it returns false'. Refute it at one input. -/
def fnIdListInOrderIsSortedWholeWrong : ChangeSpec := { name := "fnIdListInOrderIsSortedWhole", fn := fun _ => fun
  | [d1, d2] => { results := [.lit (.bool false)], args := [d1, d2] }
  | _ => none }
def FnIdListInOrderIsSortedWholeWrongFalsely : Prop := fnIdListInOrderIsSortedWholeRow.holds Try.pinned (OpenSpec.ofChange fnIdListInOrderIsSortedWholeWrong)

end Rows
end Go.Proofs.Qxb6617407a
