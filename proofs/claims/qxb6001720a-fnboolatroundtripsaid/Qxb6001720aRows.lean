/-
  No cell of these rows narrows 'for every input' (looked for: loops, veiled, ifaces, maps, wideKeys, modest, calm, conditions, laid).
  DERIVED. THE GIVEN ROWS OF THIS SEAT. 8 by the template 'for every input the law returns true; each argument reads behind the call as it read before'; 0 by the template 'total and deterministic' (their statements: Qxb6001720aTotals.lean).
  GIVEN WITH THE SEED: the statements are not yours to turn. If you find one false, say at which input.
  Laid BY PROGRAM, IN A SANDBOX (cutbox-rows.mjs): the forced cells as the released guide's own fill.sh prints them over the translation 3ecd2006c8488d98… (all of the seat's roots in one cut). By AI agents, Wed Nov 11 2026. No macro, syntax, notation, axiom, sorry.
-/
import Derived.Test.Qxb6001720aChecked
import GoSem.Claim
import GoSem.ClaimJoined
import GoSem.ClaimMapViews
import Derived.JoinedTies
import Derived.KernelRfl
namespace Go.Proofs.Qxb6001720a
/- THE CELL 'sum', in the pinned program and in every row, IS THE sha256 OF THE DUMP (.gsa) THAT Qxb6001720aProg.lean LOADS. Nothing in Lean hashes anything: it is a label: what it is worth is what the hold of that sum in a sandbox is worth. -/
noncomputable def Try.pinned : Pinned := { name := "qxb6001720a", sum := "3ecd2006c8488d9860161bf30f6e19578fabd187de3852a289078125c6752b2c", checked := Try.checked }
namespace Rows
def none {H : Type} : Left H := { results := [], args := [] }

/-- 'zzlaws_local_b1.FnBoolAtRoundTrip': WHATEVER THE INPUT: true; the input reads as it did. -/
def fnBoolAtRoundTripSpec : ChangeSpec := { name := "fnBoolAtRoundTrip", fn := fun _ => fun
  | [d1, d2] => { results := [.lit (.bool true)], args := [d1, d2] }
  | _ => none }
def fnBoolAtRoundTripRow : OpenClaim := { program := "qxb6001720a", sum := "3ecd2006c8488d9860161bf30f6e19578fabd187de3852a289078125c6752b2c", func := "example.com/shardkeeper/shardkeeper/zzlaws_local_b1.FnBoolAtRoundTrip", spec := "fnBoolAtRoundTrip", apart := false }
def FnBoolAtRoundTripSaid : Prop := fnBoolAtRoundTripRow.holds Try.pinned (OpenSpec.ofChange fnBoolAtRoundTripSpec)

/-- ITS FALSE NEIGHBOUR: 'it returns false'. Refute it at one input. -/
def fnBoolAtRoundTripWrong : ChangeSpec := { name := "fnBoolAtRoundTrip", fn := fun _ => fun
  | [d1, d2] => { results := [.lit (.bool false)], args := [d1, d2] }
  | _ => none }
def FnBoolAtRoundTripWrongFalsely : Prop := fnBoolAtRoundTripRow.holds Try.pinned (OpenSpec.ofChange fnBoolAtRoundTripWrong)

/-- 'zzlaws_local_b1.FnDigitsAtMaximalRun': WHATEVER THE INPUT: true; the input reads as it did. -/
def fnDigitsAtMaximalRunSpec : ChangeSpec := { name := "fnDigitsAtMaximalRun", fn := fun _ => fun
  | [d1, d2] => { results := [.lit (.bool true)], args := [d1, d2] }
  | _ => none }
def fnDigitsAtMaximalRunRow : OpenClaim := { program := "qxb6001720a", sum := "3ecd2006c8488d9860161bf30f6e19578fabd187de3852a289078125c6752b2c", func := "example.com/shardkeeper/shardkeeper/zzlaws_local_b1.FnDigitsAtMaximalRun", spec := "fnDigitsAtMaximalRun", apart := false }
def FnDigitsAtMaximalRunSaid : Prop := fnDigitsAtMaximalRunRow.holds Try.pinned (OpenSpec.ofChange fnDigitsAtMaximalRunSpec)

/-- ITS FALSE NEIGHBOUR: 'it returns false'. Refute it at one input. -/
def fnDigitsAtMaximalRunWrong : ChangeSpec := { name := "fnDigitsAtMaximalRun", fn := fun _ => fun
  | [d1, d2] => { results := [.lit (.bool false)], args := [d1, d2] }
  | _ => none }
def FnDigitsAtMaximalRunWrongFalsely : Prop := fnDigitsAtMaximalRunRow.holds Try.pinned (OpenSpec.ofChange fnDigitsAtMaximalRunWrong)

/-- 'zzlaws_local_b1.FnDigitsAtFromInside': WHATEVER THE INPUT: true; the input reads as it did. -/
def fnDigitsAtFromInsideSpec : ChangeSpec := { name := "fnDigitsAtFromInside", fn := fun _ => fun
  | [d1, d2, d3] => { results := [.lit (.bool true)], args := [d1, d2, d3] }
  | _ => none }
def fnDigitsAtFromInsideRow : OpenClaim := { program := "qxb6001720a", sum := "3ecd2006c8488d9860161bf30f6e19578fabd187de3852a289078125c6752b2c", func := "example.com/shardkeeper/shardkeeper/zzlaws_local_b1.FnDigitsAtFromInside", spec := "fnDigitsAtFromInside", apart := false }
def FnDigitsAtFromInsideSaid : Prop := fnDigitsAtFromInsideRow.holds Try.pinned (OpenSpec.ofChange fnDigitsAtFromInsideSpec)

/-- ITS FALSE NEIGHBOUR: 'it returns false'. Refute it at one input. -/
def fnDigitsAtFromInsideWrong : ChangeSpec := { name := "fnDigitsAtFromInside", fn := fun _ => fun
  | [d1, d2, d3] => { results := [.lit (.bool false)], args := [d1, d2, d3] }
  | _ => none }
def FnDigitsAtFromInsideWrongFalsely : Prop := fnDigitsAtFromInsideRow.holds Try.pinned (OpenSpec.ofChange fnDigitsAtFromInsideWrong)

/-- 'zzlaws_local_b1.FnPlainTextIgnoresWritten': WHATEVER THE INPUT: true; the input reads as it did. -/
def fnPlainTextIgnoresWrittenSpec : ChangeSpec := { name := "fnPlainTextIgnoresWritten", fn := fun _ => fun
  | [d1, d2, d3, d4, d5] => { results := [.lit (.bool true)], args := [d1, d2, d3, d4, d5] }
  | _ => none }
def fnPlainTextIgnoresWrittenRow : OpenClaim := { program := "qxb6001720a", sum := "3ecd2006c8488d9860161bf30f6e19578fabd187de3852a289078125c6752b2c", func := "example.com/shardkeeper/shardkeeper/zzlaws_local_b1.FnPlainTextIgnoresWritten", spec := "fnPlainTextIgnoresWritten", apart := false }
def FnPlainTextIgnoresWrittenSaid : Prop := fnPlainTextIgnoresWrittenRow.holds Try.pinned (OpenSpec.ofChange fnPlainTextIgnoresWrittenSpec)

/-- ITS FALSE NEIGHBOUR: 'it returns false'. Refute it at one input. -/
def fnPlainTextIgnoresWrittenWrong : ChangeSpec := { name := "fnPlainTextIgnoresWritten", fn := fun _ => fun
  | [d1, d2, d3, d4, d5] => { results := [.lit (.bool false)], args := [d1, d2, d3, d4, d5] }
  | _ => none }
def FnPlainTextIgnoresWrittenWrongFalsely : Prop := fnPlainTextIgnoresWrittenRow.holds Try.pinned (OpenSpec.ofChange fnPlainTextIgnoresWrittenWrong)

/-- 'zzlaws_local_b1.FnPlainTextRoundTrip': WHATEVER THE INPUT: true; the input reads as it did. -/
def fnPlainTextRoundTripSpec : ChangeSpec := { name := "fnPlainTextRoundTrip", fn := fun _ => fun
  | [d1, d2, d3] => { results := [.lit (.bool true)], args := [d1, d2, d3] }
  | _ => none }
def fnPlainTextRoundTripRow : OpenClaim := { program := "qxb6001720a", sum := "3ecd2006c8488d9860161bf30f6e19578fabd187de3852a289078125c6752b2c", func := "example.com/shardkeeper/shardkeeper/zzlaws_local_b1.FnPlainTextRoundTrip", spec := "fnPlainTextRoundTrip", apart := false }
def FnPlainTextRoundTripSaid : Prop := fnPlainTextRoundTripRow.holds Try.pinned (OpenSpec.ofChange fnPlainTextRoundTripSpec)

/-- ITS FALSE NEIGHBOUR: 'it returns false'. Refute it at one input. -/
def fnPlainTextRoundTripWrong : ChangeSpec := { name := "fnPlainTextRoundTrip", fn := fun _ => fun
  | [d1, d2, d3] => { results := [.lit (.bool false)], args := [d1, d2, d3] }
  | _ => none }
def FnPlainTextRoundTripWrongFalsely : Prop := fnPlainTextRoundTripRow.holds Try.pinned (OpenSpec.ofChange fnPlainTextRoundTripWrong)

/-- 'zzlaws_local_b1.FnPlainTextNegation': WHATEVER THE INPUT: true; the input reads as it did. -/
def fnPlainTextNegationSpec : ChangeSpec := { name := "fnPlainTextNegation", fn := fun _ => fun
  | [d1, d2] => { results := [.lit (.bool true)], args := [d1, d2] }
  | _ => none }
def fnPlainTextNegationRow : OpenClaim := { program := "qxb6001720a", sum := "3ecd2006c8488d9860161bf30f6e19578fabd187de3852a289078125c6752b2c", func := "example.com/shardkeeper/shardkeeper/zzlaws_local_b1.FnPlainTextNegation", spec := "fnPlainTextNegation", apart := false }
def FnPlainTextNegationSaid : Prop := fnPlainTextNegationRow.holds Try.pinned (OpenSpec.ofChange fnPlainTextNegationSpec)

/-- ITS FALSE NEIGHBOUR: 'it returns false'. Refute it at one input. -/
def fnPlainTextNegationWrong : ChangeSpec := { name := "fnPlainTextNegation", fn := fun _ => fun
  | [d1, d2] => { results := [.lit (.bool false)], args := [d1, d2] }
  | _ => none }
def FnPlainTextNegationWrongFalsely : Prop := fnPlainTextNegationRow.holds Try.pinned (OpenSpec.ofChange fnPlainTextNegationWrong)

/-- 'zzlaws_local_b1.FnNextStopsAtFirstEOF': WHATEVER THE INPUT: true; the input reads as it did. -/
def fnNextStopsAtFirstEOFSpec : ChangeSpec := { name := "fnNextStopsAtFirstEOF", fn := fun _ => fun
  | [d1, d2, d3] => { results := [.lit (.bool true)], args := [d1, d2, d3] }
  | _ => none }
def fnNextStopsAtFirstEOFRow : OpenClaim := { program := "qxb6001720a", sum := "3ecd2006c8488d9860161bf30f6e19578fabd187de3852a289078125c6752b2c", func := "example.com/shardkeeper/shardkeeper/zzlaws_local_b1.FnNextStopsAtFirstEOF", spec := "fnNextStopsAtFirstEOF", apart := false }
def FnNextStopsAtFirstEOFSaid : Prop := fnNextStopsAtFirstEOFRow.holds Try.pinned (OpenSpec.ofChange fnNextStopsAtFirstEOFSpec)

/-- ITS FALSE NEIGHBOUR: 'it returns false'. Refute it at one input. -/
def fnNextStopsAtFirstEOFWrong : ChangeSpec := { name := "fnNextStopsAtFirstEOF", fn := fun _ => fun
  | [d1, d2, d3] => { results := [.lit (.bool false)], args := [d1, d2, d3] }
  | _ => none }
def FnNextStopsAtFirstEOFWrongFalsely : Prop := fnNextStopsAtFirstEOFRow.holds Try.pinned (OpenSpec.ofChange fnNextStopsAtFirstEOFWrong)

/-- 'zzlaws_local_b1.FnNextAgreesWithAccept': WHATEVER THE INPUT: true; the input reads as it did. -/
def fnNextAgreesWithAcceptSpec : ChangeSpec := { name := "fnNextAgreesWithAccept", fn := fun _ => fun
  | [d1, d2, d3] => { results := [.lit (.bool true)], args := [d1, d2, d3] }
  | _ => none }
def fnNextAgreesWithAcceptRow : OpenClaim := { program := "qxb6001720a", sum := "3ecd2006c8488d9860161bf30f6e19578fabd187de3852a289078125c6752b2c", func := "example.com/shardkeeper/shardkeeper/zzlaws_local_b1.FnNextAgreesWithAccept", spec := "fnNextAgreesWithAccept", apart := false }
def FnNextAgreesWithAcceptSaid : Prop := fnNextAgreesWithAcceptRow.holds Try.pinned (OpenSpec.ofChange fnNextAgreesWithAcceptSpec)

/-- ITS FALSE NEIGHBOUR: 'it returns false'. Refute it at one input. -/
def fnNextAgreesWithAcceptWrong : ChangeSpec := { name := "fnNextAgreesWithAccept", fn := fun _ => fun
  | [d1, d2, d3] => { results := [.lit (.bool false)], args := [d1, d2, d3] }
  | _ => none }
def FnNextAgreesWithAcceptWrongFalsely : Prop := fnNextAgreesWithAcceptRow.holds Try.pinned (OpenSpec.ofChange fnNextAgreesWithAcceptWrong)

end Rows
end Go.Proofs.Qxb6001720a
