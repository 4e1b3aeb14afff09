/-
  No cell of these rows narrows 'for every input' (looked for: loops, veiled, ifaces, maps, wideKeys, modest, calm, conditions, laid).
  DERIVED. THE GIVEN ROWS OF THIS SEAT. 4 by the template 'for every input the law returns true; each argument reads behind the call as it read before'; 0 by the template 'total and deterministic' (their statements: Qxb6603719aTotals.lean).
  GIVEN WITH THE SEED: the statements are not yours to turn. If you find one false, say at which input.
  Laid BY PROGRAM, IN A SANDBOX (cutbox-rows.mjs): the forced cells as the released guide's own fill.sh prints them over the translation c021f30d269f0d16… (all of the seat's roots in one cut). By AI agents, Wed Nov 11 2026. No macro, syntax, notation, axiom, sorry.
-/
import Derived.Test.Qxb6603719aChecked
import GoSem.Claim
import GoSem.ClaimJoined
import GoSem.ClaimMapViews
import Derived.JoinedTies
import Derived.KernelRfl
namespace Go.Proofs.Qxb6603719a
/- THE CELL 'sum', in the pinned program and in every row, IS THE sha256 OF THE DUMP (.gsa) THAT Qxb6603719aProg.lean LOADS. Nothing in Lean hashes anything: it is a label: what it is worth is what the hold of that sum in a sandbox is worth. -/
noncomputable def Try.pinned : Pinned := { name := "qxb6603719a", sum := "c021f30d269f0d168268d43baa3f0dd6388cdd0edd658d6c129d8d4d231efa09", checked := Try.checked }
namespace Rows
def none {H : Type} : Left H := { results := [], args := [] }

/-- 'zzlaws_validate_b1.FnRequirementMatchesTable': WHATEVER THE INPUT: true; the input reads as it did. -/
def fnRequirementMatchesTableSpec : ChangeSpec := { name := "fnRequirementMatchesTable", fn := fun _ => fun
  | [d1, d2, d3] => { results := [.lit (.bool true)], args := [d1, d2, d3] }
  | _ => none }
def fnRequirementMatchesTableRow : OpenClaim := { program := "qxb6603719a", sum := "c021f30d269f0d168268d43baa3f0dd6388cdd0edd658d6c129d8d4d231efa09", func := "example.com/harborline/harborline/zzlaws_validate_b1.FnRequirementMatchesTable", spec := "fnRequirementMatchesTable", apart := false }
def FnRequirementMatchesTableSaid : Prop := fnRequirementMatchesTableRow.holds Try.pinned (OpenSpec.ofChange fnRequirementMatchesTableSpec)

/-- ITS FALSE NEIGHBOUR: 'it returns false'. Refute it at one input. -/
def fnRequirementMatchesTableWrong : ChangeSpec := { name := "fnRequirementMatchesTable", fn := fun _ => fun
  | [d1, d2, d3] => { results := [.lit (.bool false)], args := [d1, d2, d3] }
  | _ => none }
def FnRequirementMatchesTableWrongFalsely : Prop := fnRequirementMatchesTableRow.holds Try.pinned (OpenSpec.ofChange fnRequirementMatchesTableWrong)

/-- 'zzlaws_validate_b1.FnRequirementIgnoresOrderAndRepeats': WHATEVER THE INPUT: true; the input reads as it did. -/
def fnRequirementIgnoresOrderAndRepeatsSpec : ChangeSpec := { name := "fnRequirementIgnoresOrderAndRepeats", fn := fun _ => fun
  | [d1, d2, d3] => { results := [.lit (.bool true)], args := [d1, d2, d3] }
  | _ => none }
def fnRequirementIgnoresOrderAndRepeatsRow : OpenClaim := { program := "qxb6603719a", sum := "c021f30d269f0d168268d43baa3f0dd6388cdd0edd658d6c129d8d4d231efa09", func := "example.com/harborline/harborline/zzlaws_validate_b1.FnRequirementIgnoresOrderAndRepeats", spec := "fnRequirementIgnoresOrderAndRepeats", apart := false }
def FnRequirementIgnoresOrderAndRepeatsSaid : Prop := fnRequirementIgnoresOrderAndRepeatsRow.holds Try.pinned (OpenSpec.ofChange fnRequirementIgnoresOrderAndRepeatsSpec)

/-- ITS FALSE NEIGHBOUR: 'it returns false'. Refute it at one input. -/
def fnRequirementIgnoresOrderAndRepeatsWrong : ChangeSpec := { name := "fnRequirementIgnoresOrderAndRepeats", fn := fun _ => fun
  | [d1, d2, d3] => { results := [.lit (.bool false)], args := [d1, d2, d3] }
  | _ => none }
def FnRequirementIgnoresOrderAndRepeatsWrongFalsely : Prop := fnRequirementIgnoresOrderAndRepeatsRow.holds Try.pinned (OpenSpec.ofChange fnRequirementIgnoresOrderAndRepeatsWrong)

/-- 'zzlaws_validate_b1.FnAdvanceReadsLongestToken': WHATEVER THE INPUT: true; the input reads as it did. -/
def fnAdvanceReadsLongestTokenSpec : ChangeSpec := { name := "fnAdvanceReadsLongestToken", fn := fun _ => fun
  | [d1, d2, d3, d4, d5] => { results := [.lit (.bool true)], args := [d1, d2, d3, d4, d5] }
  | _ => none }
def fnAdvanceReadsLongestTokenRow : OpenClaim := { program := "qxb6603719a", sum := "c021f30d269f0d168268d43baa3f0dd6388cdd0edd658d6c129d8d4d231efa09", func := "example.com/harborline/harborline/zzlaws_validate_b1.FnAdvanceReadsLongestToken", spec := "fnAdvanceReadsLongestToken", inPlace := ["internal/bytealg.IndexByteString"], apart := false }
def FnAdvanceReadsLongestTokenSaid : Prop := fnAdvanceReadsLongestTokenRow.holds Try.pinned (OpenSpec.ofChange fnAdvanceReadsLongestTokenSpec)

/-- ITS FALSE NEIGHBOUR: 'it returns false'. Refute it at one input. -/
def fnAdvanceReadsLongestTokenWrong : ChangeSpec := { name := "fnAdvanceReadsLongestToken", fn := fun _ => fun
  | [d1, d2, d3, d4, d5] => { results := [.lit (.bool false)], args := [d1, d2, d3, d4, d5] }
  | _ => none }
def FnAdvanceReadsLongestTokenWrongFalsely : Prop := fnAdvanceReadsLongestTokenRow.holds Try.pinned (OpenSpec.ofChange fnAdvanceReadsLongestTokenWrong)

/-- 'zzlaws_validate_b1.FnAdvanceTokenizesAllButSpaces': WHATEVER THE INPUT: true; the input reads as it did. -/
def fnAdvanceTokenizesAllButSpacesSpec : ChangeSpec := { name := "fnAdvanceTokenizesAllButSpaces", fn := fun _ => fun
  | [d] => { results := [.lit (.bool true)], args := [d] }
  | _ => none }
def fnAdvanceTokenizesAllButSpacesRow : OpenClaim := { program := "qxb6603719a", sum := "c021f30d269f0d168268d43baa3f0dd6388cdd0edd658d6c129d8d4d231efa09", func := "example.com/harborline/harborline/zzlaws_validate_b1.FnAdvanceTokenizesAllButSpaces", spec := "fnAdvanceTokenizesAllButSpaces", inPlace := ["internal/bytealg.IndexByteString"], apart := false }
def FnAdvanceTokenizesAllButSpacesSaid : Prop := fnAdvanceTokenizesAllButSpacesRow.holds Try.pinned (OpenSpec.ofChange fnAdvanceTokenizesAllButSpacesSpec)

/-- ITS FALSE NEIGHBOUR: 'it returns false'. Refute it at one input. -/
def fnAdvanceTokenizesAllButSpacesWrong : ChangeSpec := { name := "fnAdvanceTokenizesAllButSpaces", fn := fun _ => fun
  | [d] => { results := [.lit (.bool false)], args := [d] }
  | _ => none }
def FnAdvanceTokenizesAllButSpacesWrongFalsely : Prop := fnAdvanceTokenizesAllButSpacesRow.holds Try.pinned (OpenSpec.ofChange fnAdvanceTokenizesAllButSpacesWrong)

end Rows
end Go.Proofs.Qxb6603719a
