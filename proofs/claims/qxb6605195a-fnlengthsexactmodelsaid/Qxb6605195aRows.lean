/-
  NARROWER THAN 'FOR EVERY INPUT', by the rows' own cells (each row's printed sentence says how): FnLengthsExactModel: loops · FnFirstCharsEmptyAgreesWithLengths: loops.
  DERIVED. THE GIVEN ROWS OF THIS SEAT. 4 by the template 'for every input the law returns true; each argument reads behind the call as it read before'; 0 by the template 'total and deterministic' (their statements: Qxb6605195aTotals.lean).
  GIVEN WITH THE SEED: the statements are not yours to turn. If you find one false, say at which input.
  Laid BY PROGRAM, IN A SANDBOX (cutbox-rows.mjs): the forced cells as the released guide's own fill.sh prints them over the translation f48e52682694a558… (all of the seat's roots in one cut). By AI agents, Wed Nov 11 2026. No macro, syntax, notation, axiom, sorry.
-/
import Derived.Test.Qxb6605195aChecked
import GoSem.Claim
import GoSem.ClaimJoined
import GoSem.ClaimMapViews
import Derived.JoinedTies
import Derived.KernelRfl
namespace Go.Proofs.Qxb6605195a
/- THE CELL 'sum', in the pinned program and in every row, IS THE sha256 OF THE DUMP (.gsa) THAT Qxb6605195aProg.lean LOADS. Nothing in Lean hashes anything: it is a label: what it is worth is what the hold of that sum in a sandbox is worth. -/
noncomputable def Try.pinned : Pinned := { name := "qxb6605195a", sum := "f48e52682694a55829783757130bda4f450c1fab6ef6c8919030874b26bae3b3", checked := Try.checked }
namespace Rows
def none {H : Type} : Left H := { results := [], args := [] }

/-- 'zzlaws_internal_regex_b1.FnNewSetIsCoverage': WHATEVER THE INPUT: true; the input reads as it did. -/
def fnNewSetIsCoverageSpec : ChangeSpec := { name := "fnNewSetIsCoverage", fn := fun _ => fun
  | [d] => { results := [.lit (.bool true)], args := [d] }
  | _ => none }
def fnNewSetIsCoverageRow : OpenClaim := { program := "qxb6605195a", sum := "f48e52682694a55829783757130bda4f450c1fab6ef6c8919030874b26bae3b3", func := "example.com/driftline/driftline/zzlaws_internal_regex_b1.FnNewSetIsCoverage", spec := "fnNewSetIsCoverage", unfollowed := true, recurses := true, apart := false }
def FnNewSetIsCoverageSaid : Prop := fnNewSetIsCoverageRow.holds Try.pinned (OpenSpec.ofChange fnNewSetIsCoverageSpec)

/-- ITS FALSE NEIGHBOUR: 'it returns false'. Refute it at one input. -/
def fnNewSetIsCoverageWrong : ChangeSpec := { name := "fnNewSetIsCoverage", fn := fun _ => fun
  | [d] => { results := [.lit (.bool false)], args := [d] }
  | _ => none }
def FnNewSetIsCoverageWrongFalsely : Prop := fnNewSetIsCoverageRow.holds Try.pinned (OpenSpec.ofChange fnNewSetIsCoverageWrong)

/-- 'zzlaws_internal_regex_b1.FnUnionIsCoverage': WHATEVER THE INPUT: true; the input reads as it did. -/
def fnUnionIsCoverageSpec : ChangeSpec := { name := "fnUnionIsCoverage", fn := fun _ => fun
  | [d1, d2] => { results := [.lit (.bool true)], args := [d1, d2] }
  | _ => none }
def fnUnionIsCoverageRow : OpenClaim := { program := "qxb6605195a", sum := "f48e52682694a55829783757130bda4f450c1fab6ef6c8919030874b26bae3b3", func := "example.com/driftline/driftline/zzlaws_internal_regex_b1.FnUnionIsCoverage", spec := "fnUnionIsCoverage", unfollowed := true, recurses := true, apart := false }
def FnUnionIsCoverageSaid : Prop := fnUnionIsCoverageRow.holds Try.pinned (OpenSpec.ofChange fnUnionIsCoverageSpec)

/-- ITS FALSE NEIGHBOUR: 'it returns false'. Refute it at one input. -/
def fnUnionIsCoverageWrong : ChangeSpec := { name := "fnUnionIsCoverage", fn := fun _ => fun
  | [d1, d2] => { results := [.lit (.bool false)], args := [d1, d2] }
  | _ => none }
def FnUnionIsCoverageWrongFalsely : Prop := fnUnionIsCoverageRow.holds Try.pinned (OpenSpec.ofChange fnUnionIsCoverageWrong)

/-- 'zzlaws_internal_regex_b1.FnLengthsExactModel': WHATEVER THE INPUT: true; the input reads as it did. -/
def fnLengthsExactModelSpec : ChangeSpec := { name := "fnLengthsExactModel", fn := fun _ => fun
  | [d] => { results := [.lit (.bool true)], args := [d] }
  | _ => none }
def fnLengthsExactModelRow : OpenClaim := { program := "qxb6605195a", sum := "f48e52682694a55829783757130bda4f450c1fab6ef6c8919030874b26bae3b3", func := "example.com/driftline/driftline/zzlaws_internal_regex_b1.FnLengthsExactModel", spec := "fnLengthsExactModel", unfollowed := true, recurses := true, loops := true, apart := false }
def FnLengthsExactModelSaid : Prop := fnLengthsExactModelRow.holds Try.pinned (OpenSpec.ofChange fnLengthsExactModelSpec)

/-- ITS FALSE NEIGHBOUR: 'it returns false'. Refute it at one input. -/
def fnLengthsExactModelWrong : ChangeSpec := { name := "fnLengthsExactModel", fn := fun _ => fun
  | [d] => { results := [.lit (.bool false)], args := [d] }
  | _ => none }
def FnLengthsExactModelWrongFalsely : Prop := fnLengthsExactModelRow.holds Try.pinned (OpenSpec.ofChange fnLengthsExactModelWrong)

/-- 'zzlaws_internal_regex_b1.FnFirstCharsEmptyAgreesWithLengths': WHATEVER THE INPUT: true; the input reads as it did. -/
def fnFirstCharsEmptyAgreesWithLengthsSpec : ChangeSpec := { name := "fnFirstCharsEmptyAgreesWithLengths", fn := fun _ => fun
  | [d] => { results := [.lit (.bool true)], args := [d] }
  | _ => none }
def fnFirstCharsEmptyAgreesWithLengthsRow : OpenClaim := { program := "qxb6605195a", sum := "f48e52682694a55829783757130bda4f450c1fab6ef6c8919030874b26bae3b3", func := "example.com/driftline/driftline/zzlaws_internal_regex_b1.FnFirstCharsEmptyAgreesWithLengths", spec := "fnFirstCharsEmptyAgreesWithLengths", unfollowed := true, recurses := true, loops := true, apart := false }
def FnFirstCharsEmptyAgreesWithLengthsSaid : Prop := fnFirstCharsEmptyAgreesWithLengthsRow.holds Try.pinned (OpenSpec.ofChange fnFirstCharsEmptyAgreesWithLengthsSpec)

/-- ITS FALSE NEIGHBOUR: 'it returns false'. Refute it at one input. -/
def fnFirstCharsEmptyAgreesWithLengthsWrong : ChangeSpec := { name := "fnFirstCharsEmptyAgreesWithLengths", fn := fun _ => fun
  | [d] => { results := [.lit (.bool false)], args := [d] }
  | _ => none }
def FnFirstCharsEmptyAgreesWithLengthsWrongFalsely : Prop := fnFirstCharsEmptyAgreesWithLengthsRow.holds Try.pinned (OpenSpec.ofChange fnFirstCharsEmptyAgreesWithLengthsWrong)

end Rows
end Go.Proofs.Qxb6605195a
