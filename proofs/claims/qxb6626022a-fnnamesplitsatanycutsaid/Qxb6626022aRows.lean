/-
  No cell of these rows narrows 'for every input' (looked for: loops, veiled, ifaces, maps, wideKeys, modest, calm, conditions, laid).
  DERIVED. THE GIVEN ROWS OF THIS SEAT. 2 by the template 'for every input the law returns true; each argument reads behind the call as it read before'; 0 by the template 'total and deterministic' (their statements: Qxb6626022aTotals.lean).
  GIVEN WITH THE SEED: the statements are not yours to turn. If you find one false, say at which input.
  Laid BY PROGRAM, IN A SANDBOX (cutbox-rows.mjs): the forced cells as the released guide's own fill.sh prints them over the translation 096274a99a9a7887… (all of the seat's roots in one cut). By AI agents, Wed Nov 11 2026. No macro, syntax, notation, axiom, sorry.
-/
import Derived.Test.Qxb6626022aChecked
import GoSem.Claim
import GoSem.ClaimJoined
import GoSem.ClaimMapViews
import Derived.JoinedTies
import Derived.KernelRfl
namespace Go.Proofs.Qxb6626022a
/- THE CELL 'sum', in the pinned program and in every row, IS THE sha256 OF THE DUMP (.gsa) THAT Qxb6626022aProg.lean LOADS. Nothing in Lean hashes anything: it is a label: what it is worth is what the hold of that sum in a sandbox is worth. -/
noncomputable def Try.pinned : Pinned := { name := "qxb6626022a", sum := "096274a99a9a7887cb5ab407083a3ec691f3532db01226141f57d9d053f2b344", checked := Try.checked }
namespace Rows
def none {H : Type} : Left H := { results := [], args := [] }

/-- 'zzlaws_internal_git_b1.FnNameReadsTheLongestKeyRun': WHATEVER THE INPUT: true; the input reads as it did. -/
def fnNameReadsTheLongestKeyRunSpec : ChangeSpec := { name := "fnNameReadsTheLongestKeyRun", fn := fun _ => fun
  | [d1, d2] => { results := [.lit (.bool true)], args := [d1, d2] }
  | _ => none }
def fnNameReadsTheLongestKeyRunRow : OpenClaim := { program := "qxb6626022a", sum := "096274a99a9a7887cb5ab407083a3ec691f3532db01226141f57d9d053f2b344", func := "example.com/hollowtree/hollowtree/zzlaws_internal_git_b1.FnNameReadsTheLongestKeyRun", spec := "fnNameReadsTheLongestKeyRun", apart := false }
def FnNameReadsTheLongestKeyRunSaid : Prop := fnNameReadsTheLongestKeyRunRow.holds Try.pinned (OpenSpec.ofChange fnNameReadsTheLongestKeyRunSpec)

/-- ITS FALSE NEIGHBOUR: 'it returns false'. Refute it at one input. -/
def fnNameReadsTheLongestKeyRunWrong : ChangeSpec := { name := "fnNameReadsTheLongestKeyRun", fn := fun _ => fun
  | [d1, d2] => { results := [.lit (.bool false)], args := [d1, d2] }
  | _ => none }
def FnNameReadsTheLongestKeyRunWrongFalsely : Prop := fnNameReadsTheLongestKeyRunRow.holds Try.pinned (OpenSpec.ofChange fnNameReadsTheLongestKeyRunWrong)

/-- 'zzlaws_internal_git_b1.FnNameSplitsAtAnyCut': WHATEVER THE INPUT: true; the input reads as it did. -/
def fnNameSplitsAtAnyCutSpec : ChangeSpec := { name := "fnNameSplitsAtAnyCut", fn := fun _ => fun
  | [d1, d2, d3] => { results := [.lit (.bool true)], args := [d1, d2, d3] }
  | _ => none }
def fnNameSplitsAtAnyCutRow : OpenClaim := { program := "qxb6626022a", sum := "096274a99a9a7887cb5ab407083a3ec691f3532db01226141f57d9d053f2b344", func := "example.com/hollowtree/hollowtree/zzlaws_internal_git_b1.FnNameSplitsAtAnyCut", spec := "fnNameSplitsAtAnyCut", apart := false }
def FnNameSplitsAtAnyCutSaid : Prop := fnNameSplitsAtAnyCutRow.holds Try.pinned (OpenSpec.ofChange fnNameSplitsAtAnyCutSpec)

/-- ITS FALSE NEIGHBOUR: 'it returns false'. Refute it at one input. -/
def fnNameSplitsAtAnyCutWrong : ChangeSpec := { name := "fnNameSplitsAtAnyCut", fn := fun _ => fun
  | [d1, d2, d3] => { results := [.lit (.bool false)], args := [d1, d2, d3] }
  | _ => none }
def FnNameSplitsAtAnyCutWrongFalsely : Prop := fnNameSplitsAtAnyCutRow.holds Try.pinned (OpenSpec.ofChange fnNameSplitsAtAnyCutWrong)

end Rows
end Go.Proofs.Qxb6626022a
