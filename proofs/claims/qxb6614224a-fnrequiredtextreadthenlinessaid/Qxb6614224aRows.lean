/-
  No cell of these rows narrows 'for every input' (looked for: loops, veiled, ifaces, maps, wideKeys, modest, calm, conditions, laid).
  DERIVED. THE GIVEN ROWS OF THIS SEAT. 3 by the template 'for every input the law returns true; each argument reads behind the call as it read before'; 0 by the template 'total and deterministic' (their statements: Qxb6614224aTotals.lean).
  GIVEN WITH THE SEED: the statements are not yours to turn. If you find one false, say at which input.
  Laid BY PROGRAM, IN A SANDBOX (cutbox-rows.mjs): the forced cells as the released guide's own fill.sh prints them over the translation 511ba176b6339f0d… (all of the seat's roots in one cut). By AI agents, Wed Nov 11 2026. No macro, syntax, notation, axiom, sorry.
-/
import Derived.Test.Qxb6614224aChecked
import GoSem.Claim
import GoSem.ClaimJoined
import GoSem.ClaimMapViews
import Derived.JoinedTies
import Derived.KernelRfl
namespace Go.Proofs.Qxb6614224a
/- THE CELL 'sum', in the pinned program and in every row, IS THE sha256 OF THE DUMP (.gsa) THAT Qxb6614224aProg.lean LOADS. Nothing in Lean hashes anything: it is a label: what it is worth is what the hold of that sum in a sandbox is worth. -/
noncomputable def Try.pinned : Pinned := { name := "qxb6614224a", sum := "511ba176b6339f0d8623c782842994ebea73d89d3ba104550290e3f257805f47", checked := Try.checked }
namespace Rows
def none {H : Type} : Left H := { results := [], args := [] }

/-- 'zzlaws_internal_record_b1.FnRequiredTextLinesThenReadRoundTrip': WHATEVER THE INPUT: true; the input reads as it did. -/
def fnRequiredTextLinesThenReadRoundTripSpec : ChangeSpec := { name := "fnRequiredTextLinesThenReadRoundTrip", fn := fun _ => fun
  | [d1, d2, d3, d4] => { results := [.lit (.bool true)], args := [d1, d2, d3, d4] }
  | _ => none }
def fnRequiredTextLinesThenReadRoundTripRow : OpenClaim := { program := "qxb6614224a", sum := "511ba176b6339f0d8623c782842994ebea73d89d3ba104550290e3f257805f47", func := "example.com/tenorfix/tenorfix/zzlaws_internal_record_b1.FnRequiredTextLinesThenReadRoundTrip", spec := "fnRequiredTextLinesThenReadRoundTrip", unfollowed := true, recurses := true, apart := false }
def FnRequiredTextLinesThenReadRoundTripSaid : Prop := fnRequiredTextLinesThenReadRoundTripRow.holds Try.pinned (OpenSpec.ofChange fnRequiredTextLinesThenReadRoundTripSpec)

/-- ITS FALSE NEIGHBOUR: 'it returns false'. Refute it at one input. -/
def fnRequiredTextLinesThenReadRoundTripWrong : ChangeSpec := { name := "fnRequiredTextLinesThenReadRoundTrip", fn := fun _ => fun
  | [d1, d2, d3, d4] => { results := [.lit (.bool false)], args := [d1, d2, d3, d4] }
  | _ => none }
def FnRequiredTextLinesThenReadRoundTripWrongFalsely : Prop := fnRequiredTextLinesThenReadRoundTripRow.holds Try.pinned (OpenSpec.ofChange fnRequiredTextLinesThenReadRoundTripWrong)

/-- 'zzlaws_internal_record_b1.FnRequiredTextReadThenLines': WHATEVER THE INPUT: true; the input reads as it did. -/
def fnRequiredTextReadThenLinesSpec : ChangeSpec := { name := "fnRequiredTextReadThenLines", fn := fun _ => fun
  | [d1, d2, d3, d4, d5, d6, d7] => { results := [.lit (.bool true)], args := [d1, d2, d3, d4, d5, d6, d7] }
  | _ => none }
def fnRequiredTextReadThenLinesRow : OpenClaim := { program := "qxb6614224a", sum := "511ba176b6339f0d8623c782842994ebea73d89d3ba104550290e3f257805f47", func := "example.com/tenorfix/tenorfix/zzlaws_internal_record_b1.FnRequiredTextReadThenLines", spec := "fnRequiredTextReadThenLines", unfollowed := true, recurses := true, apart := false }
def FnRequiredTextReadThenLinesSaid : Prop := fnRequiredTextReadThenLinesRow.holds Try.pinned (OpenSpec.ofChange fnRequiredTextReadThenLinesSpec)

/-- ITS FALSE NEIGHBOUR: 'it returns false'. Refute it at one input. -/
def fnRequiredTextReadThenLinesWrong : ChangeSpec := { name := "fnRequiredTextReadThenLines", fn := fun _ => fun
  | [d1, d2, d3, d4, d5, d6, d7] => { results := [.lit (.bool false)], args := [d1, d2, d3, d4, d5, d6, d7] }
  | _ => none }
def FnRequiredTextReadThenLinesWrongFalsely : Prop := fnRequiredTextReadThenLinesRow.holds Try.pinned (OpenSpec.ofChange fnRequiredTextReadThenLinesWrong)

/-- 'zzlaws_internal_record_b1.FnHashOfIsFIPS180SHA256': WHATEVER THE INPUT: true; the input reads as it did. -/
def fnHashOfIsFIPS180SHA256Spec : ChangeSpec := { name := "fnHashOfIsFIPS180SHA256", fn := fun _ => fun
  | [d] => { results := [.lit (.bool true)], args := [d] }
  | _ => none }
def fnHashOfIsFIPS180SHA256Row : OpenClaim := { program := "qxb6614224a", sum := "511ba176b6339f0d8623c782842994ebea73d89d3ba104550290e3f257805f47", func := "example.com/tenorfix/tenorfix/zzlaws_internal_record_b1.FnHashOfIsFIPS180SHA256", spec := "fnHashOfIsFIPS180SHA256", unfollowed := true, recurses := true, apart := false }
def FnHashOfIsFIPS180SHA256Said : Prop := fnHashOfIsFIPS180SHA256Row.holds Try.pinned (OpenSpec.ofChange fnHashOfIsFIPS180SHA256Spec)

/-- ITS FALSE NEIGHBOUR: 'it returns false'. Refute it at one input. -/
def fnHashOfIsFIPS180SHA256Wrong : ChangeSpec := { name := "fnHashOfIsFIPS180SHA256", fn := fun _ => fun
  | [d] => { results := [.lit (.bool false)], args := [d] }
  | _ => none }
def FnHashOfIsFIPS180SHA256WrongFalsely : Prop := fnHashOfIsFIPS180SHA256Row.holds Try.pinned (OpenSpec.ofChange fnHashOfIsFIPS180SHA256Wrong)

end Rows
end Go.Proofs.Qxb6614224a
