/-
  No cell of these rows narrows 'for every input' (looked for: loops, veiled, ifaces, maps, wideKeys, modest, calm, conditions, laid).
  DERIVED. THE GIVEN ROWS OF THIS SEAT. 3 by the template 'for every input the law returns true; each argument reads behind the call as it read before'; 0 by the template 'total and deterministic' (their statements: Qxb6603117aTotals.lean).
  GIVEN WITH THE SEED: the statements are not yours to turn. If you find one false, say at which input.
  Laid BY PROGRAM, IN A SANDBOX (cutbox-rows.mjs): the forced cells as the released guide's own fill.sh prints them over the translation 27e0de3fbc782ca6… (all of the seat's roots in one cut). By AI agents, Wed Nov 11 2026. No macro, syntax, notation, axiom, sorry.
-/
import Derived.Test.Qxb6603117aChecked
import GoSem.Claim
import GoSem.ClaimJoined
import GoSem.ClaimMapViews
import Derived.JoinedTies
import Derived.KernelRfl
namespace Go.Proofs.Qxb6603117a
/- THE CELL 'sum', in the pinned program and in every row, IS THE sha256 OF THE DUMP (.gsa) THAT Qxb6603117aProg.lean LOADS. Nothing in Lean hashes anything: it is a label: what it is worth is what the hold of that sum in a sandbox is worth. -/
noncomputable def Try.pinned : Pinned := { name := "qxb6603117a", sum := "27e0de3fbc782ca61c9c86ebd7345e0682dd5628798310a6a865b82a9d1792ed", checked := Try.checked }
namespace Rows
def none {H : Type} : Left H := { results := [], args := [] }

/-- 'zzlaws_internal_strictjson_b1.FnHexEscapeInvertsEncoding': WHATEVER THE INPUT: true; the input reads as it did. -/
def fnHexEscapeInvertsEncodingSpec : ChangeSpec := { name := "fnHexEscapeInvertsEncoding", fn := fun _ => fun
  | [d1, d2, d3] => { results := [.lit (.bool true)], args := [d1, d2, d3] }
  | _ => none }
def fnHexEscapeInvertsEncodingRow : OpenClaim := { program := "qxb6603117a", sum := "27e0de3fbc782ca61c9c86ebd7345e0682dd5628798310a6a865b82a9d1792ed", func := "example.com/knotwise/knotwise/zzlaws_internal_strictjson_b1.FnHexEscapeInvertsEncoding", spec := "fnHexEscapeInvertsEncoding", apart := false }
def FnHexEscapeInvertsEncodingSaid : Prop := fnHexEscapeInvertsEncodingRow.holds Try.pinned (OpenSpec.ofChange fnHexEscapeInvertsEncodingSpec)

/-- ITS FALSE NEIGHBOUR: 'it returns false'. Refute it at one input. -/
def fnHexEscapeInvertsEncodingWrong : ChangeSpec := { name := "fnHexEscapeInvertsEncoding", fn := fun _ => fun
  | [d1, d2, d3] => { results := [.lit (.bool false)], args := [d1, d2, d3] }
  | _ => none }
def FnHexEscapeInvertsEncodingWrongFalsely : Prop := fnHexEscapeInvertsEncodingRow.holds Try.pinned (OpenSpec.ofChange fnHexEscapeInvertsEncodingWrong)

/-- 'zzlaws_internal_strictjson_b1.FnKeySetAddAnswersFirstSight': WHATEVER THE INPUT: true; the input reads as it did. -/
def fnKeySetAddAnswersFirstSightSpec : ChangeSpec := { name := "fnKeySetAddAnswersFirstSight", fn := fun _ => fun
  | [d] => { results := [.lit (.bool true)], args := [d] }
  | _ => none }
def fnKeySetAddAnswersFirstSightRow : OpenClaim := { program := "qxb6603117a", sum := "27e0de3fbc782ca61c9c86ebd7345e0682dd5628798310a6a865b82a9d1792ed", func := "example.com/knotwise/knotwise/zzlaws_internal_strictjson_b1.FnKeySetAddAnswersFirstSight", spec := "fnKeySetAddAnswersFirstSight", apart := false }
def FnKeySetAddAnswersFirstSightSaid : Prop := fnKeySetAddAnswersFirstSightRow.holds Try.pinned (OpenSpec.ofChange fnKeySetAddAnswersFirstSightSpec)

/-- ITS FALSE NEIGHBOUR: 'it returns false'. Refute it at one input. -/
def fnKeySetAddAnswersFirstSightWrong : ChangeSpec := { name := "fnKeySetAddAnswersFirstSight", fn := fun _ => fun
  | [d] => { results := [.lit (.bool false)], args := [d] }
  | _ => none }
def FnKeySetAddAnswersFirstSightWrongFalsely : Prop := fnKeySetAddAnswersFirstSightRow.holds Try.pinned (OpenSpec.ofChange fnKeySetAddAnswersFirstSightWrong)

/-- 'zzlaws_internal_strictjson_b1.FnKeySetAddCountsDistinctAndRefusesRepeats': WHATEVER THE INPUT: true; the input reads as it did. -/
def fnKeySetAddCountsDistinctAndRefusesRepeatsSpec : ChangeSpec := { name := "fnKeySetAddCountsDistinctAndRefusesRepeats", fn := fun _ => fun
  | [d] => { results := [.lit (.bool true)], args := [d] }
  | _ => none }
def fnKeySetAddCountsDistinctAndRefusesRepeatsRow : OpenClaim := { program := "qxb6603117a", sum := "27e0de3fbc782ca61c9c86ebd7345e0682dd5628798310a6a865b82a9d1792ed", func := "example.com/knotwise/knotwise/zzlaws_internal_strictjson_b1.FnKeySetAddCountsDistinctAndRefusesRepeats", spec := "fnKeySetAddCountsDistinctAndRefusesRepeats", apart := false }
def FnKeySetAddCountsDistinctAndRefusesRepeatsSaid : Prop := fnKeySetAddCountsDistinctAndRefusesRepeatsRow.holds Try.pinned (OpenSpec.ofChange fnKeySetAddCountsDistinctAndRefusesRepeatsSpec)

/-- ITS FALSE NEIGHBOUR: 'it returns false'. Refute it at one input. -/
def fnKeySetAddCountsDistinctAndRefusesRepeatsWrong : ChangeSpec := { name := "fnKeySetAddCountsDistinctAndRefusesRepeats", fn := fun _ => fun
  | [d] => { results := [.lit (.bool false)], args := [d] }
  | _ => none }
def FnKeySetAddCountsDistinctAndRefusesRepeatsWrongFalsely : Prop := fnKeySetAddCountsDistinctAndRefusesRepeatsRow.holds Try.pinned (OpenSpec.ofChange fnKeySetAddCountsDistinctAndRefusesRepeatsWrong)

end Rows
end Go.Proofs.Qxb6603117a
