/-
  No cell of these rows narrows 'for every input' (looked for: loops, veiled, ifaces, maps, wideKeys, modest, calm, conditions, laid).
  DERIVED. THE GIVEN ROWS OF THIS SEAT. 1 by the template 'for every input the law returns true; each argument reads behind the call as it read before'; 0 by the template 'total and deterministic' (their statements: Qxb6614323aTotals.lean).
  GIVEN WITH THE SEED: the statements are not yours to turn. If you find one false, say at which input.
  Laid BY PROGRAM, IN A SANDBOX (cutbox-rows.mjs): the forced cells as the released guide's own fill.sh prints them over the translation f2e9c0f0458e83cd… (all of the seat's roots in one cut). By AI agents, Wed Nov 11 2026. No macro, syntax, notation, axiom, sorry.
-/
import Derived.Test.Qxb6614323aChecked
import GoSem.Claim
import GoSem.ClaimJoined
import GoSem.ClaimMapViews
import Derived.JoinedTies
import Derived.KernelRfl
namespace Go.Proofs.Qxb6614323a
/- THE CELL 'sum', in the pinned program and in every row, IS THE sha256 OF THE DUMP (.gsa) THAT Qxb6614323aProg.lean LOADS. Nothing in Lean hashes anything: it is a label: what it is worth is what the hold of that sum in a sandbox is worth. -/
noncomputable def Try.pinned : Pinned := { name := "qxb6614323a", sum := "f2e9c0f0458e83cd859100b9add40c67234c3e8f3fba901c7319c4dd9f9690ab", checked := Try.checked }
namespace Rows
def none {H : Type} : Left H := { results := [], args := [] }

/-- 'zzlaws_internal_testbin_b1.FnUnitsCutJoin': WHATEVER THE INPUT: true; the input reads as it did. -/
def fnUnitsCutJoinSpec : ChangeSpec := { name := "fnUnitsCutJoin", fn := fun _ => fun
  | [d1, d2] => { results := [.lit (.bool true)], args := [d1, d2] }
  | _ => none }
def fnUnitsCutJoinRow : OpenClaim := { program := "qxb6614323a", sum := "f2e9c0f0458e83cd859100b9add40c67234c3e8f3fba901c7319c4dd9f9690ab", func := "example.com/tickmark/tickmark/zzlaws_internal_testbin_b1.FnUnitsCutJoin", spec := "fnUnitsCutJoin", apart := false }
def FnUnitsCutJoinSaid : Prop := fnUnitsCutJoinRow.holds Try.pinned (OpenSpec.ofChange fnUnitsCutJoinSpec)

/-- ITS FALSE NEIGHBOUR: 'it returns false'. Refute it at one input. -/
def fnUnitsCutJoinWrong : ChangeSpec := { name := "fnUnitsCutJoin", fn := fun _ => fun
  | [d1, d2] => { results := [.lit (.bool false)], args := [d1, d2] }
  | _ => none }
def FnUnitsCutJoinWrongFalsely : Prop := fnUnitsCutJoinRow.holds Try.pinned (OpenSpec.ofChange fnUnitsCutJoinWrong)

end Rows
end Go.Proofs.Qxb6614323a
