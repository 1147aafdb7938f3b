/-
  No cell of these rows narrows 'for every input' (looked for: loops, veiled, ifaces, maps, wideKeys, modest, calm, conditions, laid).
  DERIVED. THE GIVEN ROWS OF THIS SEAT. 2 by the template 'for every input the law returns true; each argument reads behind the call as it read before'; 0 by the template 'total and deterministic' (their statements: Qxb6627552aTotals.lean).
  GIVEN WITH THE SEED: the statements are not yours to turn. If you find one false, say at which input.
  Laid BY PROGRAM, IN A SANDBOX (cutbox-rows.mjs): the forced cells as the released guide's own fill.sh prints them over the translation 72b454799aa8fae5… (all of the seat's roots in one cut). By AI agents, Wed Nov 11 2026. No macro, syntax, notation, axiom, sorry.
-/
import Derived.Test.Qxb6627552aChecked
import GoSem.Claim
import GoSem.ClaimJoined
import GoSem.ClaimMapViews
import Derived.JoinedTies
import Derived.KernelRfl
namespace Go.Proofs.Qxb6627552a
/- THE CELL 'sum', in the pinned program and in every row, IS THE sha256 OF THE DUMP (.gsa) THAT Qxb6627552aProg.lean LOADS. Nothing in Lean hashes anything: it is a label: what it is worth is what the hold of that sum in a sandbox is worth. -/
noncomputable def Try.pinned : Pinned := { name := "qxb6627552a", sum := "72b454799aa8fae5e386cd3f3cfba9bed4b666e3615cea20a7208fbd9e8dee30", checked := Try.checked }
namespace Rows
def none {H : Type} : Left H := { results := [], args := [] }

/-- 'zzlaws_internal_strictjson_b1.FnSpaceCutAndStop': WHATEVER THE INPUT: true; the input reads as it did. -/
def fnSpaceCutAndStopSpec : ChangeSpec := { name := "fnSpaceCutAndStop", fn := fun _ => fun
  | [d1, d2, d3, d4] => { results := [.lit (.bool true)], args := [d1, d2, d3, d4] }
  | _ => none }
def fnSpaceCutAndStopRow : OpenClaim := { program := "qxb6627552a", sum := "72b454799aa8fae5e386cd3f3cfba9bed4b666e3615cea20a7208fbd9e8dee30", func := "example.com/ballast/ballast/zzlaws_internal_strictjson_b1.FnSpaceCutAndStop", spec := "fnSpaceCutAndStop", apart := false }
def FnSpaceCutAndStopSaid : Prop := fnSpaceCutAndStopRow.holds Try.pinned (OpenSpec.ofChange fnSpaceCutAndStopSpec)

/-- ITS FALSE NEIGHBOUR: 'it returns false'. Refute it at one input. -/
def fnSpaceCutAndStopWrong : ChangeSpec := { name := "fnSpaceCutAndStop", fn := fun _ => fun
  | [d1, d2, d3, d4] => { results := [.lit (.bool false)], args := [d1, d2, d3, d4] }
  | _ => none }
def FnSpaceCutAndStopWrongFalsely : Prop := fnSpaceCutAndStopRow.holds Try.pinned (OpenSpec.ofChange fnSpaceCutAndStopWrong)

/-- 'zzlaws_internal_strictjson_b1.FnSpaceLandsOnFirstNonSpace': WHATEVER THE INPUT: true; the input reads as it did. -/
def fnSpaceLandsOnFirstNonSpaceSpec : ChangeSpec := { name := "fnSpaceLandsOnFirstNonSpace", fn := fun _ => fun
  | [d1, d2, d3] => { results := [.lit (.bool true)], args := [d1, d2, d3] }
  | _ => none }
def fnSpaceLandsOnFirstNonSpaceRow : OpenClaim := { program := "qxb6627552a", sum := "72b454799aa8fae5e386cd3f3cfba9bed4b666e3615cea20a7208fbd9e8dee30", func := "example.com/ballast/ballast/zzlaws_internal_strictjson_b1.FnSpaceLandsOnFirstNonSpace", spec := "fnSpaceLandsOnFirstNonSpace", apart := false }
def FnSpaceLandsOnFirstNonSpaceSaid : Prop := fnSpaceLandsOnFirstNonSpaceRow.holds Try.pinned (OpenSpec.ofChange fnSpaceLandsOnFirstNonSpaceSpec)

/-- ITS FALSE NEIGHBOUR: 'it returns false'. Refute it at one input. -/
def fnSpaceLandsOnFirstNonSpaceWrong : ChangeSpec := { name := "fnSpaceLandsOnFirstNonSpace", fn := fun _ => fun
  | [d1, d2, d3] => { results := [.lit (.bool false)], args := [d1, d2, d3] }
  | _ => none }
def FnSpaceLandsOnFirstNonSpaceWrongFalsely : Prop := fnSpaceLandsOnFirstNonSpaceRow.holds Try.pinned (OpenSpec.ofChange fnSpaceLandsOnFirstNonSpaceWrong)

end Rows
end Go.Proofs.Qxb6627552a
