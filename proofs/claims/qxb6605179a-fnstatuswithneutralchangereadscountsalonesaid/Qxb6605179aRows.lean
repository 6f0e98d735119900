/-
  No cell of these rows narrows 'for every input' (looked for: loops, veiled, ifaces, maps, wideKeys, modest, calm, conditions, laid).
  DERIVED. THE GIVEN ROWS OF THIS SEAT. 3 by the template 'for every input the law returns true; each argument reads behind the call as it read before'; 0 by the template 'total and deterministic' (their statements: Qxb6605179aTotals.lean).
  GIVEN WITH THE SEED: the statements are not yours to turn. If you find one false, say at which input.
  Laid BY PROGRAM, IN A SANDBOX (cutbox-rows.mjs): the forced cells as the released guide's own fill.sh prints them over the translation a9ea8f36f40660cc… (all of the seat's roots in one cut). By AI agents, Wed Nov 11 2026. No macro, syntax, notation, axiom, sorry.
-/
import Derived.Test.Qxb6605179aChecked
import GoSem.Claim
import GoSem.ClaimJoined
import GoSem.ClaimMapViews
import Derived.JoinedTies
import Derived.KernelRfl
namespace Go.Proofs.Qxb6605179a
/- THE CELL 'sum', in the pinned program and in every row, IS THE sha256 OF THE DUMP (.gsa) THAT Qxb6605179aProg.lean LOADS. Nothing in Lean hashes anything: it is a label: what it is worth is what the hold of that sum in a sandbox is worth. -/
noncomputable def Try.pinned : Pinned := { name := "qxb6605179a", sum := "a9ea8f36f40660cc5382c33f4b4bc582058ff7e134442c9d5cf749fe917ca9c1", checked := Try.checked }
namespace Rows
def none {H : Type} : Left H := { results := [], args := [] }

/-- 'zzlaws_internal_model_b1.FnIDDigitsAgreesWithGroupSplit': WHATEVER THE INPUT: true; the input reads as it did. -/
def fnIDDigitsAgreesWithGroupSplitSpec : ChangeSpec := { name := "fnIDDigitsAgreesWithGroupSplit", fn := fun _ => fun
  | [d] => { results := [.lit (.bool true)], args := [d] }
  | _ => none }
def fnIDDigitsAgreesWithGroupSplitRow : OpenClaim := { program := "qxb6605179a", sum := "a9ea8f36f40660cc5382c33f4b4bc582058ff7e134442c9d5cf749fe917ca9c1", func := "example.com/binpack/binpack/zzlaws_internal_model_b1.FnIDDigitsAgreesWithGroupSplit", spec := "fnIDDigitsAgreesWithGroupSplit", apart := false }
def FnIDDigitsAgreesWithGroupSplitSaid : Prop := fnIDDigitsAgreesWithGroupSplitRow.holds Try.pinned (OpenSpec.ofChange fnIDDigitsAgreesWithGroupSplitSpec)

/-- ITS FALSE NEIGHBOUR: 'it returns false'. Refute it at one input. -/
def fnIDDigitsAgreesWithGroupSplitWrong : ChangeSpec := { name := "fnIDDigitsAgreesWithGroupSplit", fn := fun _ => fun
  | [d] => { results := [.lit (.bool false)], args := [d] }
  | _ => none }
def FnIDDigitsAgreesWithGroupSplitWrongFalsely : Prop := fnIDDigitsAgreesWithGroupSplitRow.holds Try.pinned (OpenSpec.ofChange fnIDDigitsAgreesWithGroupSplitWrong)

/-- 'zzlaws_internal_model_b1.FnIDDigitsRoundTripThroughDigitString': WHATEVER THE INPUT: true; the input reads as it did. -/
def fnIDDigitsRoundTripThroughDigitStringSpec : ChangeSpec := { name := "fnIDDigitsRoundTripThroughDigitString", fn := fun _ => fun
  | [d] => { results := [.lit (.bool true)], args := [d] }
  | _ => none }
def fnIDDigitsRoundTripThroughDigitStringRow : OpenClaim := { program := "qxb6605179a", sum := "a9ea8f36f40660cc5382c33f4b4bc582058ff7e134442c9d5cf749fe917ca9c1", func := "example.com/binpack/binpack/zzlaws_internal_model_b1.FnIDDigitsRoundTripThroughDigitString", spec := "fnIDDigitsRoundTripThroughDigitString", apart := false }
def FnIDDigitsRoundTripThroughDigitStringSaid : Prop := fnIDDigitsRoundTripThroughDigitStringRow.holds Try.pinned (OpenSpec.ofChange fnIDDigitsRoundTripThroughDigitStringSpec)

/-- ITS FALSE NEIGHBOUR: 'it returns false'. Refute it at one input. -/
def fnIDDigitsRoundTripThroughDigitStringWrong : ChangeSpec := { name := "fnIDDigitsRoundTripThroughDigitString", fn := fun _ => fun
  | [d] => { results := [.lit (.bool false)], args := [d] }
  | _ => none }
def FnIDDigitsRoundTripThroughDigitStringWrongFalsely : Prop := fnIDDigitsRoundTripThroughDigitStringRow.holds Try.pinned (OpenSpec.ofChange fnIDDigitsRoundTripThroughDigitStringWrong)

/-- 'zzlaws_internal_model_b1.FnStatusWithNeutralChangeReadsCountsAlone': WHATEVER THE INPUT: true; the input reads as it did. -/
def fnStatusWithNeutralChangeReadsCountsAloneSpec : ChangeSpec := { name := "fnStatusWithNeutralChangeReadsCountsAlone", fn := fun _ => fun
  | [d1, d2, d3, d4, d5, d6, d7, d8, d9, d10] => { results := [.lit (.bool true)], args := [d1, d2, d3, d4, d5, d6, d7, d8, d9, d10] }
  | _ => none }
def fnStatusWithNeutralChangeReadsCountsAloneRow : OpenClaim := { program := "qxb6605179a", sum := "a9ea8f36f40660cc5382c33f4b4bc582058ff7e134442c9d5cf749fe917ca9c1", func := "example.com/binpack/binpack/zzlaws_internal_model_b1.FnStatusWithNeutralChangeReadsCountsAlone", spec := "fnStatusWithNeutralChangeReadsCountsAlone", apart := false }
def FnStatusWithNeutralChangeReadsCountsAloneSaid : Prop := fnStatusWithNeutralChangeReadsCountsAloneRow.holds Try.pinned (OpenSpec.ofChange fnStatusWithNeutralChangeReadsCountsAloneSpec)

/-- ITS FALSE NEIGHBOUR: 'it returns false'. Refute it at one input. -/
def fnStatusWithNeutralChangeReadsCountsAloneWrong : ChangeSpec := { name := "fnStatusWithNeutralChangeReadsCountsAlone", fn := fun _ => fun
  | [d1, d2, d3, d4, d5, d6, d7, d8, d9, d10] => { results := [.lit (.bool false)], args := [d1, d2, d3, d4, d5, d6, d7, d8, d9, d10] }
  | _ => none }
def FnStatusWithNeutralChangeReadsCountsAloneWrongFalsely : Prop := fnStatusWithNeutralChangeReadsCountsAloneRow.holds Try.pinned (OpenSpec.ofChange fnStatusWithNeutralChangeReadsCountsAloneWrong)

end Rows
end Go.Proofs.Qxb6605179a
