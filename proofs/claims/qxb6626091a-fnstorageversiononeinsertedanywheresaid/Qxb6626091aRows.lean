/-
  No cell of these rows narrows 'for every input' (looked for: loops, veiled, ifaces, maps, wideKeys, modest, calm, conditions, laid).
  DERIVED. THE GIVEN ROWS OF THIS SEAT. 2 by the template 'for every input the law returns true; each argument reads behind the call as it read before'; 0 by the template 'total and deterministic' (their statements: Qxb6626091aTotals.lean).
  GIVEN WITH THE SEED: the statements are not yours to turn. If you find one false, say at which input.
  Laid BY PROGRAM, IN A SANDBOX (cutbox-rows.mjs): the forced cells as the released guide's own fill.sh prints them over the translation 7091fd5d6fe08f45… (all of the seat's roots in one cut). By AI agents, Wed Nov 11 2026. No macro, syntax, notation, axiom, sorry.
-/
import Derived.Test.Qxb6626091aChecked
import GoSem.Claim
import GoSem.ClaimJoined
import GoSem.ClaimMapViews
import Derived.JoinedTies
import Derived.KernelRfl
namespace Go.Proofs.Qxb6626091a
/- THE CELL 'sum', in the pinned program and in every row, IS THE sha256 OF THE DUMP (.gsa) THAT Qxb6626091aProg.lean LOADS. Nothing in Lean hashes anything: it is a label: what it is worth is what the hold of that sum in a sandbox is worth. -/
noncomputable def Try.pinned : Pinned := { name := "qxb6626091a", sum := "7091fd5d6fe08f45d376205610228816284c840a109736d1325b97031b3db5d6", checked := Try.checked }
namespace Rows
def none {H : Type} : Left H := { results := [], args := [] }

/-- 'zzlaws_history_b1.FnStorageVersionSplitsAtAnyCut': WHATEVER THE INPUT: true; the input reads as it did. -/
def fnStorageVersionSplitsAtAnyCutSpec : ChangeSpec := { name := "fnStorageVersionSplitsAtAnyCut", fn := fun _ => fun
  | [d1, d2, d3, d4, d5, d6, d7, d8] => { results := [.lit (.bool true)], args := [d1, d2, d3, d4, d5, d6, d7, d8] }
  | _ => none }
def fnStorageVersionSplitsAtAnyCutRow : OpenClaim := { program := "qxb6626091a", sum := "7091fd5d6fe08f45d376205610228816284c840a109736d1325b97031b3db5d6", func := "example.com/patient-sunset/patient-sunset/zzlaws_history_b1.FnStorageVersionSplitsAtAnyCut", spec := "fnStorageVersionSplitsAtAnyCut", apart := false }
def FnStorageVersionSplitsAtAnyCutSaid : Prop := fnStorageVersionSplitsAtAnyCutRow.holds Try.pinned (OpenSpec.ofChange fnStorageVersionSplitsAtAnyCutSpec)

/-- ITS FALSE NEIGHBOUR: 'it returns false'. Refute it at one input. -/
def fnStorageVersionSplitsAtAnyCutWrong : ChangeSpec := { name := "fnStorageVersionSplitsAtAnyCut", fn := fun _ => fun
  | [d1, d2, d3, d4, d5, d6, d7, d8] => { results := [.lit (.bool false)], args := [d1, d2, d3, d4, d5, d6, d7, d8] }
  | _ => none }
def FnStorageVersionSplitsAtAnyCutWrongFalsely : Prop := fnStorageVersionSplitsAtAnyCutRow.holds Try.pinned (OpenSpec.ofChange fnStorageVersionSplitsAtAnyCutWrong)

/-- 'zzlaws_history_b1.FnStorageVersionOneInsertedAnywhere': WHATEVER THE INPUT: true; the input reads as it did. -/
def fnStorageVersionOneInsertedAnywhereSpec : ChangeSpec := { name := "fnStorageVersionOneInsertedAnywhere", fn := fun _ => fun
  | [d1, d2, d3, d4, d5, d6, d7, d8, d9, d10, d11, d12] => { results := [.lit (.bool true)], args := [d1, d2, d3, d4, d5, d6, d7, d8, d9, d10, d11, d12] }
  | _ => none }
def fnStorageVersionOneInsertedAnywhereRow : OpenClaim := { program := "qxb6626091a", sum := "7091fd5d6fe08f45d376205610228816284c840a109736d1325b97031b3db5d6", func := "example.com/patient-sunset/patient-sunset/zzlaws_history_b1.FnStorageVersionOneInsertedAnywhere", spec := "fnStorageVersionOneInsertedAnywhere", apart := false }
def FnStorageVersionOneInsertedAnywhereSaid : Prop := fnStorageVersionOneInsertedAnywhereRow.holds Try.pinned (OpenSpec.ofChange fnStorageVersionOneInsertedAnywhereSpec)

/-- ITS FALSE NEIGHBOUR: 'it returns false'. Refute it at one input. -/
def fnStorageVersionOneInsertedAnywhereWrong : ChangeSpec := { name := "fnStorageVersionOneInsertedAnywhere", fn := fun _ => fun
  | [d1, d2, d3, d4, d5, d6, d7, d8, d9, d10, d11, d12] => { results := [.lit (.bool false)], args := [d1, d2, d3, d4, d5, d6, d7, d8, d9, d10, d11, d12] }
  | _ => none }
def FnStorageVersionOneInsertedAnywhereWrongFalsely : Prop := fnStorageVersionOneInsertedAnywhereRow.holds Try.pinned (OpenSpec.ofChange fnStorageVersionOneInsertedAnywhereWrong)

end Rows
end Go.Proofs.Qxb6626091a
