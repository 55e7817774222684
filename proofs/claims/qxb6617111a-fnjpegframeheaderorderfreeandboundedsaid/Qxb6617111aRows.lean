/-
  No cell of these rows narrows 'for every input' (looked for: loops, veiled, ifaces, maps, wideKeys, modest, calm, conditions, laid).
  DERIVED. THE GIVEN ROWS OF THIS SEAT. 5 by the template 'for every input the law returns true; each argument reads behind the call as it read before'; 0 by the template 'total and deterministic' (their statements: Qxb6617111aTotals.lean).
  GIVEN WITH THE SEED: the statements are not yours to turn. If you find one false, say at which input.
  Laid BY PROGRAM, IN A SANDBOX (cutbox-rows.mjs): the forced cells as the released guide's own fill.sh prints them over the translation 52414f17742adbf7… (all of the seat's roots in one cut). By AI agents, Wed Nov 11 2026. No macro, syntax, notation, axiom, sorry.
-/
import Derived.Test.Qxb6617111aChecked
import GoSem.Claim
import GoSem.ClaimJoined
import GoSem.ClaimMapViews
import Derived.JoinedTies
import Derived.KernelRfl
namespace Go.Proofs.Qxb6617111a
/- THE CELL 'sum', in the pinned program and in every row, IS THE sha256 OF THE DUMP (.gsa) THAT Qxb6617111aProg.lean LOADS. Nothing in Lean hashes anything: it is a label: what it is worth is what the hold of that sum in a sandbox is worth. -/
noncomputable def Try.pinned : Pinned := { name := "qxb6617111a", sum := "52414f17742adbf798750c44104549169a2bd27b8b6914ec0c28aa33e103b3cf", checked := Try.checked }
namespace Rows
def none {H : Type} : Left H := { results := [], args := [] }

/-- 'zzlaws_internal_photo_b1.FnOrientationSourceIsMirrorAndTransposeComposed': WHATEVER THE INPUT: true; the input reads as it did. -/
def fnOrientationSourceIsMirrorAndTransposeComposedSpec : ChangeSpec := { name := "fnOrientationSourceIsMirrorAndTransposeComposed", fn := fun _ => fun
  | [d1, d2, d3, d4, d5] => { results := [.lit (.bool true)], args := [d1, d2, d3, d4, d5] }
  | _ => none }
def fnOrientationSourceIsMirrorAndTransposeComposedRow : OpenClaim := { program := "qxb6617111a", sum := "52414f17742adbf798750c44104549169a2bd27b8b6914ec0c28aa33e103b3cf", func := "example.com/bindery/bindery/zzlaws_internal_photo_b1.FnOrientationSourceIsMirrorAndTransposeComposed", spec := "fnOrientationSourceIsMirrorAndTransposeComposed", apart := false }
def FnOrientationSourceIsMirrorAndTransposeComposedSaid : Prop := fnOrientationSourceIsMirrorAndTransposeComposedRow.holds Try.pinned (OpenSpec.ofChange fnOrientationSourceIsMirrorAndTransposeComposedSpec)

/-- ITS FALSE NEIGHBOUR: 'it returns false'. Refute it at one input. -/
def fnOrientationSourceIsMirrorAndTransposeComposedWrong : ChangeSpec := { name := "fnOrientationSourceIsMirrorAndTransposeComposed", fn := fun _ => fun
  | [d1, d2, d3, d4, d5] => { results := [.lit (.bool false)], args := [d1, d2, d3, d4, d5] }
  | _ => none }
def FnOrientationSourceIsMirrorAndTransposeComposedWrongFalsely : Prop := fnOrientationSourceIsMirrorAndTransposeComposedRow.holds Try.pinned (OpenSpec.ofChange fnOrientationSourceIsMirrorAndTransposeComposedWrong)

/-- 'zzlaws_internal_photo_b1.FnOrientationSourceUndoneByInverse': WHATEVER THE INPUT: true; the input reads as it did. -/
def fnOrientationSourceUndoneByInverseSpec : ChangeSpec := { name := "fnOrientationSourceUndoneByInverse", fn := fun _ => fun
  | [d1, d2, d3, d4, d5] => { results := [.lit (.bool true)], args := [d1, d2, d3, d4, d5] }
  | _ => none }
def fnOrientationSourceUndoneByInverseRow : OpenClaim := { program := "qxb6617111a", sum := "52414f17742adbf798750c44104549169a2bd27b8b6914ec0c28aa33e103b3cf", func := "example.com/bindery/bindery/zzlaws_internal_photo_b1.FnOrientationSourceUndoneByInverse", spec := "fnOrientationSourceUndoneByInverse", apart := false }
def FnOrientationSourceUndoneByInverseSaid : Prop := fnOrientationSourceUndoneByInverseRow.holds Try.pinned (OpenSpec.ofChange fnOrientationSourceUndoneByInverseSpec)

/-- ITS FALSE NEIGHBOUR: 'it returns false'. Refute it at one input. -/
def fnOrientationSourceUndoneByInverseWrong : ChangeSpec := { name := "fnOrientationSourceUndoneByInverse", fn := fun _ => fun
  | [d1, d2, d3, d4, d5] => { results := [.lit (.bool false)], args := [d1, d2, d3, d4, d5] }
  | _ => none }
def FnOrientationSourceUndoneByInverseWrongFalsely : Prop := fnOrientationSourceUndoneByInverseRow.holds Try.pinned (OpenSpec.ofChange fnOrientationSourceUndoneByInverseWrong)

/-- 'zzlaws_internal_photo_b1.FnFitIsNearestProportionalPreview': WHATEVER THE INPUT: true; the input reads as it did. -/
def fnFitIsNearestProportionalPreviewSpec : ChangeSpec := { name := "fnFitIsNearestProportionalPreview", fn := fun _ => fun
  | [d1, d2] => { results := [.lit (.bool true)], args := [d1, d2] }
  | _ => none }
def fnFitIsNearestProportionalPreviewRow : OpenClaim := { program := "qxb6617111a", sum := "52414f17742adbf798750c44104549169a2bd27b8b6914ec0c28aa33e103b3cf", func := "example.com/bindery/bindery/zzlaws_internal_photo_b1.FnFitIsNearestProportionalPreview", spec := "fnFitIsNearestProportionalPreview", unfollowed := true, recurses := true, apart := false }
def FnFitIsNearestProportionalPreviewSaid : Prop := fnFitIsNearestProportionalPreviewRow.holds Try.pinned (OpenSpec.ofChange fnFitIsNearestProportionalPreviewSpec)

/-- ITS FALSE NEIGHBOUR: 'it returns false'. Refute it at one input. -/
def fnFitIsNearestProportionalPreviewWrong : ChangeSpec := { name := "fnFitIsNearestProportionalPreview", fn := fun _ => fun
  | [d1, d2] => { results := [.lit (.bool false)], args := [d1, d2] }
  | _ => none }
def FnFitIsNearestProportionalPreviewWrongFalsely : Prop := fnFitIsNearestProportionalPreviewRow.holds Try.pinned (OpenSpec.ofChange fnFitIsNearestProportionalPreviewWrong)

/-- 'zzlaws_internal_photo_b1.FnFitKeepsShapeScalesFreelyAndSettles': WHATEVER THE INPUT: true; the input reads as it did. -/
def fnFitKeepsShapeScalesFreelyAndSettlesSpec : ChangeSpec := { name := "fnFitKeepsShapeScalesFreelyAndSettles", fn := fun _ => fun
  | [d1, d2, d3] => { results := [.lit (.bool true)], args := [d1, d2, d3] }
  | _ => none }
def fnFitKeepsShapeScalesFreelyAndSettlesRow : OpenClaim := { program := "qxb6617111a", sum := "52414f17742adbf798750c44104549169a2bd27b8b6914ec0c28aa33e103b3cf", func := "example.com/bindery/bindery/zzlaws_internal_photo_b1.FnFitKeepsShapeScalesFreelyAndSettles", spec := "fnFitKeepsShapeScalesFreelyAndSettles", unfollowed := true, recurses := true, apart := false }
def FnFitKeepsShapeScalesFreelyAndSettlesSaid : Prop := fnFitKeepsShapeScalesFreelyAndSettlesRow.holds Try.pinned (OpenSpec.ofChange fnFitKeepsShapeScalesFreelyAndSettlesSpec)

/-- ITS FALSE NEIGHBOUR: 'it returns false'. Refute it at one input. -/
def fnFitKeepsShapeScalesFreelyAndSettlesWrong : ChangeSpec := { name := "fnFitKeepsShapeScalesFreelyAndSettles", fn := fun _ => fun
  | [d1, d2, d3] => { results := [.lit (.bool false)], args := [d1, d2, d3] }
  | _ => none }
def FnFitKeepsShapeScalesFreelyAndSettlesWrongFalsely : Prop := fnFitKeepsShapeScalesFreelyAndSettlesRow.holds Try.pinned (OpenSpec.ofChange fnFitKeepsShapeScalesFreelyAndSettlesWrong)

/-- 'zzlaws_internal_photo_b1.FnJpegFrameHeaderOrderFreeAndBounded': WHATEVER THE INPUT: true; the input reads as it did. -/
def fnJpegFrameHeaderOrderFreeAndBoundedSpec : ChangeSpec := { name := "fnJpegFrameHeaderOrderFreeAndBounded", fn := fun _ => fun
  | [d1, d2, d3, d4, d5, d6] => { results := [.lit (.bool true)], args := [d1, d2, d3, d4, d5, d6] }
  | _ => none }
def fnJpegFrameHeaderOrderFreeAndBoundedRow : OpenClaim := { program := "qxb6617111a", sum := "52414f17742adbf798750c44104549169a2bd27b8b6914ec0c28aa33e103b3cf", func := "example.com/bindery/bindery/zzlaws_internal_photo_b1.FnJpegFrameHeaderOrderFreeAndBounded", spec := "fnJpegFrameHeaderOrderFreeAndBounded", apart := false }
def FnJpegFrameHeaderOrderFreeAndBoundedSaid : Prop := fnJpegFrameHeaderOrderFreeAndBoundedRow.holds Try.pinned (OpenSpec.ofChange fnJpegFrameHeaderOrderFreeAndBoundedSpec)

/-- ITS FALSE NEIGHBOUR: 'it returns false'. Refute it at one input. -/
def fnJpegFrameHeaderOrderFreeAndBoundedWrong : ChangeSpec := { name := "fnJpegFrameHeaderOrderFreeAndBounded", fn := fun _ => fun
  | [d1, d2, d3, d4, d5, d6] => { results := [.lit (.bool false)], args := [d1, d2, d3, d4, d5, d6] }
  | _ => none }
def FnJpegFrameHeaderOrderFreeAndBoundedWrongFalsely : Prop := fnJpegFrameHeaderOrderFreeAndBoundedRow.holds Try.pinned (OpenSpec.ofChange fnJpegFrameHeaderOrderFreeAndBoundedWrong)

end Rows
end Go.Proofs.Qxb6617111a
