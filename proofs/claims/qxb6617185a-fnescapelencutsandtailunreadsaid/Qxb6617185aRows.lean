/-
  No cell of these rows narrows 'for every input' (looked for: loops, veiled, ifaces, maps, wideKeys, modest, calm, conditions, laid).
  DERIVED. THE GIVEN ROWS OF THIS SEAT. 2 by the template 'for every input the law returns true; each argument reads behind the call as it read before'; 0 by the template 'total and deterministic' (their statements: Qxb6617185aTotals.lean).
  GIVEN WITH THE SEED: the statements are not yours to turn. If you find one false, say at which input.
  Laid BY PROGRAM, IN A SANDBOX (cutbox-rows.mjs): the forced cells as the released guide's own fill.sh prints them over the translation fef1aa8102242273… (all of the seat's roots in one cut). By AI agents, Wed Nov 11 2026. No macro, syntax, notation, axiom, sorry.
-/
import Derived.Test.Qxb6617185aChecked
import GoSem.Claim
import GoSem.ClaimJoined
import GoSem.ClaimMapViews
import Derived.JoinedTies
import Derived.KernelRfl
namespace Go.Proofs.Qxb6617185a
/- THE CELL 'sum', in the pinned program and in every row, IS THE sha256 OF THE DUMP (.gsa) THAT Qxb6617185aProg.lean LOADS. Nothing in Lean hashes anything: it is a label: what it is worth is what the hold of that sum in a sandbox is worth. -/
noncomputable def Try.pinned : Pinned := { name := "qxb6617185a", sum := "fef1aa8102242273f5bc61d7842944578f5d9db5a8fa0993bdf0e7dd62d2472c", checked := Try.checked }
namespace Rows
def none {H : Type} : Left H := { results := [], args := [] }

/-- 'zzlaws_pkg_termtext_b1.FnEscapeLenIsGreatestEscapePrefix': WHATEVER THE INPUT: true; the input reads as it did. -/
def fnEscapeLenIsGreatestEscapePrefixSpec : ChangeSpec := { name := "fnEscapeLenIsGreatestEscapePrefix", fn := fun _ => fun
  | [d] => { results := [.lit (.bool true)], args := [d] }
  | _ => none }
def fnEscapeLenIsGreatestEscapePrefixRow : OpenClaim := { program := "qxb6617185a", sum := "fef1aa8102242273f5bc61d7842944578f5d9db5a8fa0993bdf0e7dd62d2472c", func := "example.com/coxswain/coxswain/zzlaws_pkg_termtext_b1.FnEscapeLenIsGreatestEscapePrefix", spec := "fnEscapeLenIsGreatestEscapePrefix", apart := false }
def FnEscapeLenIsGreatestEscapePrefixSaid : Prop := fnEscapeLenIsGreatestEscapePrefixRow.holds Try.pinned (OpenSpec.ofChange fnEscapeLenIsGreatestEscapePrefixSpec)

/-- ITS FALSE NEIGHBOUR: 'it returns false'. Refute it at one input. -/
def fnEscapeLenIsGreatestEscapePrefixWrong : ChangeSpec := { name := "fnEscapeLenIsGreatestEscapePrefix", fn := fun _ => fun
  | [d] => { results := [.lit (.bool false)], args := [d] }
  | _ => none }
def FnEscapeLenIsGreatestEscapePrefixWrongFalsely : Prop := fnEscapeLenIsGreatestEscapePrefixRow.holds Try.pinned (OpenSpec.ofChange fnEscapeLenIsGreatestEscapePrefixWrong)

/-- 'zzlaws_pkg_termtext_b1.FnEscapeLenCutsAndTailUnread': WHATEVER THE INPUT: true; the input reads as it did. -/
def fnEscapeLenCutsAndTailUnreadSpec : ChangeSpec := { name := "fnEscapeLenCutsAndTailUnread", fn := fun _ => fun
  | [d1, d2, d3] => { results := [.lit (.bool true)], args := [d1, d2, d3] }
  | _ => none }
def fnEscapeLenCutsAndTailUnreadRow : OpenClaim := { program := "qxb6617185a", sum := "fef1aa8102242273f5bc61d7842944578f5d9db5a8fa0993bdf0e7dd62d2472c", func := "example.com/coxswain/coxswain/zzlaws_pkg_termtext_b1.FnEscapeLenCutsAndTailUnread", spec := "fnEscapeLenCutsAndTailUnread", apart := false }
def FnEscapeLenCutsAndTailUnreadSaid : Prop := fnEscapeLenCutsAndTailUnreadRow.holds Try.pinned (OpenSpec.ofChange fnEscapeLenCutsAndTailUnreadSpec)

/-- ITS FALSE NEIGHBOUR: 'it returns false'. Refute it at one input. -/
def fnEscapeLenCutsAndTailUnreadWrong : ChangeSpec := { name := "fnEscapeLenCutsAndTailUnread", fn := fun _ => fun
  | [d1, d2, d3] => { results := [.lit (.bool false)], args := [d1, d2, d3] }
  | _ => none }
def FnEscapeLenCutsAndTailUnreadWrongFalsely : Prop := fnEscapeLenCutsAndTailUnreadRow.holds Try.pinned (OpenSpec.ofChange fnEscapeLenCutsAndTailUnreadWrong)

end Rows
end Go.Proofs.Qxb6617185a
