/-
  No cell of these rows narrows 'for every input' (looked for: loops, veiled, ifaces, maps, wideKeys, modest, calm, conditions, laid).
  DERIVED. THE GIVEN ROWS OF THIS SEAT. 1 by the template 'for every input the law returns true; each argument reads behind the call as it read before'; 0 by the template 'total and deterministic' (their statements: Qxb6614268aTotals.lean).
  GIVEN WITH THE SEED: the statements are not yours to turn. If you find one false, say at which input.
  Laid BY PROGRAM, IN A SANDBOX (cutbox-rows.mjs): the forced cells as the released guide's own fill.sh prints them over the translation 2ae3b9b7da7c96a4… (all of the seat's roots in one cut). By AI agents, Wed Nov 11 2026. No macro, syntax, notation, axiom, sorry.
-/
import Derived.Test.Qxb6614268aChecked
import GoSem.Claim
import GoSem.ClaimJoined
import GoSem.ClaimMapViews
import Derived.JoinedTies
import Derived.KernelRfl
namespace Go.Proofs.Qxb6614268a
/- THE CELL 'sum', in the pinned program and in every row, IS THE sha256 OF THE DUMP (.gsa) THAT Qxb6614268aProg.lean LOADS. Nothing in Lean hashes anything: it is a label: what it is worth is what the hold of that sum in a sandbox is worth. -/
noncomputable def Try.pinned : Pinned := { name := "qxb6614268a", sum := "2ae3b9b7da7c96a470497edfae496cc7ba3082b8c7a66aa50b3194f0a779c192", checked := Try.checked }
namespace Rows
def none {H : Type} : Left H := { results := [], args := [] }

/-- 'zzlaws_internal_peer_b1.FnFollowSteadyInputEndsSlackAhead': WHATEVER THE INPUT: true; the input reads as it did. -/
def fnFollowSteadyInputEndsSlackAheadSpec : ChangeSpec := { name := "fnFollowSteadyInputEndsSlackAhead", fn := fun _ => fun
  | [d1, d2, d3, d4, d5, d6] => { results := [.lit (.bool true)], args := [d1, d2, d3, d4, d5, d6] }
  | _ => none }
def fnFollowSteadyInputEndsSlackAheadRow : OpenClaim := { program := "qxb6614268a", sum := "2ae3b9b7da7c96a470497edfae496cc7ba3082b8c7a66aa50b3194f0a779c192", func := "example.com/rivulet/rivulet/zzlaws_internal_peer_b1.FnFollowSteadyInputEndsSlackAhead", spec := "fnFollowSteadyInputEndsSlackAhead", apart := false }
def FnFollowSteadyInputEndsSlackAheadSaid : Prop := fnFollowSteadyInputEndsSlackAheadRow.holds Try.pinned (OpenSpec.ofChange fnFollowSteadyInputEndsSlackAheadSpec)

/-- ITS FALSE NEIGHBOUR: 'it returns false'. Refute it at one input. -/
def fnFollowSteadyInputEndsSlackAheadWrong : ChangeSpec := { name := "fnFollowSteadyInputEndsSlackAhead", fn := fun _ => fun
  | [d1, d2, d3, d4, d5, d6] => { results := [.lit (.bool false)], args := [d1, d2, d3, d4, d5, d6] }
  | _ => none }
def FnFollowSteadyInputEndsSlackAheadWrongFalsely : Prop := fnFollowSteadyInputEndsSlackAheadRow.holds Try.pinned (OpenSpec.ofChange fnFollowSteadyInputEndsSlackAheadWrong)

end Rows
end Go.Proofs.Qxb6614268a
