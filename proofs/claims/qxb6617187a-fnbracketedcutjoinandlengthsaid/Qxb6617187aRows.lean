/-
  No cell of these rows narrows 'for every input' (looked for: loops, veiled, ifaces, maps, wideKeys, modest, calm, conditions, laid).
  DERIVED. THE GIVEN ROWS OF THIS SEAT. 2 by the template 'for every input the law returns true; each argument reads behind the call as it read before'; 0 by the template 'total and deterministic' (their statements: Qxb6617187aTotals.lean).
  GIVEN WITH THE SEED: the statements are not yours to turn. If you find one false, say at which input.
  Laid BY PROGRAM, IN A SANDBOX (cutbox-rows.mjs): the forced cells as the released guide's own fill.sh prints them over the translation c2ac4d98127eb5df… (all of the seat's roots in one cut). By AI agents, Wed Nov 11 2026. No macro, syntax, notation, axiom, sorry.
-/
import Derived.Test.Qxb6617187aChecked
import GoSem.Claim
import GoSem.ClaimJoined
import GoSem.ClaimMapViews
import Derived.JoinedTies
import Derived.KernelRfl
namespace Go.Proofs.Qxb6617187a
/- THE CELL 'sum', in the pinned program and in every row, IS THE sha256 OF THE DUMP (.gsa) THAT Qxb6617187aProg.lean LOADS. Nothing in Lean hashes anything: it is a label: what it is worth is what the hold of that sum in a sandbox is worth. -/
noncomputable def Try.pinned : Pinned := { name := "qxb6617187a", sum := "c2ac4d98127eb5df244736eb9f9067f4cc50355c4d32c5b99f8dadbdc123b81a", checked := Try.checked }
namespace Rows
def none {H : Type} : Left H := { results := [], args := [] }

/-- 'zzlaws_filter_b1.FnBracketEndShiftTruncateAndPlainClose': WHATEVER THE INPUT: true; the input reads as it did. -/
def fnBracketEndShiftTruncateAndPlainCloseSpec : ChangeSpec := { name := "fnBracketEndShiftTruncateAndPlainClose", fn := fun _ => fun
  | [d1, d2, d3] => { results := [.lit (.bool true)], args := [d1, d2, d3] }
  | _ => none }
def fnBracketEndShiftTruncateAndPlainCloseRow : OpenClaim := { program := "qxb6617187a", sum := "c2ac4d98127eb5df244736eb9f9067f4cc50355c4d32c5b99f8dadbdc123b81a", func := "example.com/mailstage/mailstage/zzlaws_filter_b1.FnBracketEndShiftTruncateAndPlainClose", spec := "fnBracketEndShiftTruncateAndPlainClose", inPlace := ["internal/bytealg.IndexByteString", "internal/bytealg.IndexString"], named := ["internal/bytealg.MaxLen"], apart := false }
def FnBracketEndShiftTruncateAndPlainCloseSaid : Prop := fnBracketEndShiftTruncateAndPlainCloseRow.holds Try.pinned (OpenSpec.ofChange fnBracketEndShiftTruncateAndPlainCloseSpec)

/-- ITS FALSE NEIGHBOUR: 'it returns false'. Refute it at one input. -/
def fnBracketEndShiftTruncateAndPlainCloseWrong : ChangeSpec := { name := "fnBracketEndShiftTruncateAndPlainClose", fn := fun _ => fun
  | [d1, d2, d3] => { results := [.lit (.bool false)], args := [d1, d2, d3] }
  | _ => none }
def FnBracketEndShiftTruncateAndPlainCloseWrongFalsely : Prop := fnBracketEndShiftTruncateAndPlainCloseRow.holds Try.pinned (OpenSpec.ofChange fnBracketEndShiftTruncateAndPlainCloseWrong)

/-- 'zzlaws_filter_b1.FnBracketedCutJoinAndLength': WHATEVER THE INPUT: true; the input reads as it did. -/
def fnBracketedCutJoinAndLengthSpec : ChangeSpec := { name := "fnBracketedCutJoinAndLength", fn := fun _ => fun
  | [d1, d2] => { results := [.lit (.bool true)], args := [d1, d2] }
  | _ => none }
def fnBracketedCutJoinAndLengthRow : OpenClaim := { program := "qxb6617187a", sum := "c2ac4d98127eb5df244736eb9f9067f4cc50355c4d32c5b99f8dadbdc123b81a", func := "example.com/mailstage/mailstage/zzlaws_filter_b1.FnBracketedCutJoinAndLength", spec := "fnBracketedCutJoinAndLength", inPlace := ["internal/abi.NoEscape", "internal/bytealg.MakeNoZero"], apart := false }
def FnBracketedCutJoinAndLengthSaid : Prop := fnBracketedCutJoinAndLengthRow.holds Try.pinned (OpenSpec.ofChange fnBracketedCutJoinAndLengthSpec)

/-- ITS FALSE NEIGHBOUR: 'it returns false'. Refute it at one input. -/
def fnBracketedCutJoinAndLengthWrong : ChangeSpec := { name := "fnBracketedCutJoinAndLength", fn := fun _ => fun
  | [d1, d2] => { results := [.lit (.bool false)], args := [d1, d2] }
  | _ => none }
def FnBracketedCutJoinAndLengthWrongFalsely : Prop := fnBracketedCutJoinAndLengthRow.holds Try.pinned (OpenSpec.ofChange fnBracketedCutJoinAndLengthWrong)

end Rows
end Go.Proofs.Qxb6617187a
