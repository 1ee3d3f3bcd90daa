/-
  No cell of these rows narrows 'for every input' (looked for: loops, veiled, ifaces, maps, wideKeys, modest, calm, conditions, laid).
  DERIVED. THE GIVEN ROWS OF THIS SEAT. 3 by the template 'for every input the law returns true; each argument reads behind the call as it read before'; 0 by the template 'total and deterministic' (their statements: Qxb6621656aTotals.lean).
  GIVEN WITH THE SEED: the statements are not yours to turn. If you find one false, say at which input.
  Laid BY PROGRAM, IN A SANDBOX (cutbox-rows.mjs): the forced cells as the released guide's own fill.sh prints them over the translation 71acab80dbc37dd8… (all of the seat's roots in one cut). By AI agents, Wed Nov 11 2026. No macro, syntax, notation, axiom, sorry.
-/
import Derived.Test.Qxb6621656aChecked
import GoSem.Claim
import GoSem.ClaimJoined
import GoSem.ClaimMapViews
import Derived.JoinedTies
import Derived.KernelRfl
namespace Go.Proofs.Qxb6621656a
/- THE CELL 'sum', in the pinned program and in every row, IS THE sha256 OF THE DUMP (.gsa) THAT Qxb6621656aProg.lean LOADS. Nothing in Lean hashes anything: it is a label: what it is worth is what the hold of that sum in a sandbox is worth. -/
noncomputable def Try.pinned : Pinned := { name := "qxb6621656a", sum := "71acab80dbc37dd8724f1eb8953130d793747b8e358d5deb5719c85a20fefb36", checked := Try.checked }
namespace Rows
def none {H : Type} : Left H := { results := [], args := [] }

/-- 'zzlaws_internal_resp_b1.FnAppendLineAnyCutAndBlanksBreaks': WHATEVER THE INPUT: true; the input reads as it did. -/
def fnAppendLineAnyCutAndBlanksBreaksSpec : ChangeSpec := { name := "fnAppendLineAnyCutAndBlanksBreaks", fn := fun _ => fun
  | [d1, d2, d3] => { results := [.lit (.bool true)], args := [d1, d2, d3] }
  | _ => none }
def fnAppendLineAnyCutAndBlanksBreaksRow : OpenClaim := { program := "qxb6621656a", sum := "71acab80dbc37dd8724f1eb8953130d793747b8e358d5deb5719c85a20fefb36", func := "example.com/tidepool/tidepool/zzlaws_internal_resp_b1.FnAppendLineAnyCutAndBlanksBreaks", spec := "fnAppendLineAnyCutAndBlanksBreaks", apart := false }
def FnAppendLineAnyCutAndBlanksBreaksSaid : Prop := fnAppendLineAnyCutAndBlanksBreaksRow.holds Try.pinned (OpenSpec.ofChange fnAppendLineAnyCutAndBlanksBreaksSpec)

/-- ITS FALSE NEIGHBOUR: 'it returns false'. Refute it at one input. -/
def fnAppendLineAnyCutAndBlanksBreaksWrong : ChangeSpec := { name := "fnAppendLineAnyCutAndBlanksBreaks", fn := fun _ => fun
  | [d1, d2, d3] => { results := [.lit (.bool false)], args := [d1, d2, d3] }
  | _ => none }
def FnAppendLineAnyCutAndBlanksBreaksWrongFalsely : Prop := fnAppendLineAnyCutAndBlanksBreaksRow.holds Try.pinned (OpenSpec.ofChange fnAppendLineAnyCutAndBlanksBreaksWrong)

/-- 'zzlaws_internal_resp_b1.FnAppendLineKeepsDstAndIsStable': WHATEVER THE INPUT: true; the input reads as it did. -/
def fnAppendLineKeepsDstAndIsStableSpec : ChangeSpec := { name := "fnAppendLineKeepsDstAndIsStable", fn := fun _ => fun
  | [d1, d2] => { results := [.lit (.bool true)], args := [d1, d2] }
  | _ => none }
def fnAppendLineKeepsDstAndIsStableRow : OpenClaim := { program := "qxb6621656a", sum := "71acab80dbc37dd8724f1eb8953130d793747b8e358d5deb5719c85a20fefb36", func := "example.com/tidepool/tidepool/zzlaws_internal_resp_b1.FnAppendLineKeepsDstAndIsStable", spec := "fnAppendLineKeepsDstAndIsStable", apart := false }
def FnAppendLineKeepsDstAndIsStableSaid : Prop := fnAppendLineKeepsDstAndIsStableRow.holds Try.pinned (OpenSpec.ofChange fnAppendLineKeepsDstAndIsStableSpec)

/-- ITS FALSE NEIGHBOUR: 'it returns false'. Refute it at one input. -/
def fnAppendLineKeepsDstAndIsStableWrong : ChangeSpec := { name := "fnAppendLineKeepsDstAndIsStable", fn := fun _ => fun
  | [d1, d2] => { results := [.lit (.bool false)], args := [d1, d2] }
  | _ => none }
def FnAppendLineKeepsDstAndIsStableWrongFalsely : Prop := fnAppendLineKeepsDstAndIsStableRow.holds Try.pinned (OpenSpec.ofChange fnAppendLineKeepsDstAndIsStableWrong)

/-- 'zzlaws_internal_resp_b1.FnUnhexRanksHexDigits': WHATEVER THE INPUT: true; the input reads as it did. -/
def fnUnhexRanksHexDigitsSpec : ChangeSpec := { name := "fnUnhexRanksHexDigits", fn := fun _ => fun
  | [d1, d2] => { results := [.lit (.bool true)], args := [d1, d2] }
  | _ => none }
def fnUnhexRanksHexDigitsRow : OpenClaim := { program := "qxb6621656a", sum := "71acab80dbc37dd8724f1eb8953130d793747b8e358d5deb5719c85a20fefb36", func := "example.com/tidepool/tidepool/zzlaws_internal_resp_b1.FnUnhexRanksHexDigits", spec := "fnUnhexRanksHexDigits", apart := false }
def FnUnhexRanksHexDigitsSaid : Prop := fnUnhexRanksHexDigitsRow.holds Try.pinned (OpenSpec.ofChange fnUnhexRanksHexDigitsSpec)

/-- ITS FALSE NEIGHBOUR: 'it returns false'. Refute it at one input. -/
def fnUnhexRanksHexDigitsWrong : ChangeSpec := { name := "fnUnhexRanksHexDigits", fn := fun _ => fun
  | [d1, d2] => { results := [.lit (.bool false)], args := [d1, d2] }
  | _ => none }
def FnUnhexRanksHexDigitsWrongFalsely : Prop := fnUnhexRanksHexDigitsRow.holds Try.pinned (OpenSpec.ofChange fnUnhexRanksHexDigitsWrong)

end Rows
end Go.Proofs.Qxb6621656a
