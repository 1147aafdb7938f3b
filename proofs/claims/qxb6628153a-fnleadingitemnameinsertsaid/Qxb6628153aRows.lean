/-
  No cell of these rows narrows 'for every input' (looked for: loops, veiled, ifaces, maps, wideKeys, modest, calm, conditions, laid).
  DERIVED. THE GIVEN ROWS OF THIS SEAT. 2 by the template 'for every input the law returns true; each argument reads behind the call as it read before'; 0 by the template 'total and deterministic' (their statements: Qxb6628153aTotals.lean).
  GIVEN WITH THE SEED: the statements are not yours to turn. If you find one false, say at which input.
  Laid BY PROGRAM, IN A SANDBOX (cutbox-rows.mjs): the forced cells as the released guide's own fill.sh prints them over the translation a7e3fd54e0eb907a… (all of the seat's roots in one cut). By AI agents, Wed Nov 11 2026. No macro, syntax, notation, axiom, sorry.
-/
import Derived.Test.Qxb6628153aChecked
import GoSem.Claim
import GoSem.ClaimJoined
import GoSem.ClaimMapViews
import Derived.JoinedTies
import Derived.KernelRfl
namespace Go.Proofs.Qxb6628153a
/- THE CELL 'sum', in the pinned program and in every row, IS THE sha256 OF THE DUMP (.gsa) THAT Qxb6628153aProg.lean LOADS. Nothing in Lean hashes anything: it is a label: what it is worth is what the hold of that sum in a sandbox is worth. -/
noncomputable def Try.pinned : Pinned := { name := "qxb6628153a", sum := "a7e3fd54e0eb907a594d1302401911b0313f92d970cdd0b642a713dce2f2946e", checked := Try.checked }
namespace Rows
def none {H : Type} : Left H := { results := [], args := [] }

/-- 'zzlaws_pkg_history_b1.FnLeadingItemNameJoin': WHATEVER THE INPUT: true; the input reads as it did. -/
def fnLeadingItemNameJoinSpec : ChangeSpec := { name := "fnLeadingItemNameJoin", fn := fun _ => fun
  | [d1, d2] => { results := [.lit (.bool true)], args := [d1, d2] }
  | _ => none }
def fnLeadingItemNameJoinRow : OpenClaim := { program := "qxb6628153a", sum := "a7e3fd54e0eb907a594d1302401911b0313f92d970cdd0b642a713dce2f2946e", func := "example.com/historium/historium/zzlaws_pkg_history_b1.FnLeadingItemNameJoin", spec := "fnLeadingItemNameJoin", apart := false }
def FnLeadingItemNameJoinSaid : Prop := fnLeadingItemNameJoinRow.holds Try.pinned (OpenSpec.ofChange fnLeadingItemNameJoinSpec)

/-- ITS FALSE NEIGHBOUR: 'it returns false'. Refute it at one input. -/
def fnLeadingItemNameJoinWrong : ChangeSpec := { name := "fnLeadingItemNameJoin", fn := fun _ => fun
  | [d1, d2] => { results := [.lit (.bool false)], args := [d1, d2] }
  | _ => none }
def FnLeadingItemNameJoinWrongFalsely : Prop := fnLeadingItemNameJoinRow.holds Try.pinned (OpenSpec.ofChange fnLeadingItemNameJoinWrong)

/-- 'zzlaws_pkg_history_b1.FnLeadingItemNameInsert': WHATEVER THE INPUT: true; the input reads as it did. -/
def fnLeadingItemNameInsertSpec : ChangeSpec := { name := "fnLeadingItemNameInsert", fn := fun _ => fun
  | [d1, d2, d3] => { results := [.lit (.bool true)], args := [d1, d2, d3] }
  | _ => none }
def fnLeadingItemNameInsertRow : OpenClaim := { program := "qxb6628153a", sum := "a7e3fd54e0eb907a594d1302401911b0313f92d970cdd0b642a713dce2f2946e", func := "example.com/historium/historium/zzlaws_pkg_history_b1.FnLeadingItemNameInsert", spec := "fnLeadingItemNameInsert", apart := false }
def FnLeadingItemNameInsertSaid : Prop := fnLeadingItemNameInsertRow.holds Try.pinned (OpenSpec.ofChange fnLeadingItemNameInsertSpec)

/-- ITS FALSE NEIGHBOUR: 'it returns false'. Refute it at one input. -/
def fnLeadingItemNameInsertWrong : ChangeSpec := { name := "fnLeadingItemNameInsert", fn := fun _ => fun
  | [d1, d2, d3] => { results := [.lit (.bool false)], args := [d1, d2, d3] }
  | _ => none }
def FnLeadingItemNameInsertWrongFalsely : Prop := fnLeadingItemNameInsertRow.holds Try.pinned (OpenSpec.ofChange fnLeadingItemNameInsertWrong)

end Rows
end Go.Proofs.Qxb6628153a
