/-
  No cell of these rows narrows 'for every input' (looked for: loops, veiled, ifaces, maps, wideKeys, modest, calm, conditions, laid).
  DERIVED. THE GIVEN ROWS OF THIS SEAT. 4 by the template 'for every input the law returns true; each argument reads behind the call as it read before'; 0 by the template 'total and deterministic' (their statements: Qxb6603699aTotals.lean).
  GIVEN WITH THE SEED: the statements are not yours to turn. If you find one false, say at which input.
  Laid BY PROGRAM, IN A SANDBOX (cutbox-rows.mjs): the forced cells as the released guide's own fill.sh prints them over the translation 870748353847b372… (all of the seat's roots in one cut). By AI agents, Wed Nov 11 2026. No macro, syntax, notation, axiom, sorry.
-/
import Derived.Test.Qxb6603699aChecked
import GoSem.Claim
import GoSem.ClaimJoined
import GoSem.ClaimMapViews
import Derived.JoinedTies
import Derived.KernelRfl
namespace Go.Proofs.Qxb6603699a
/- THE CELL 'sum', in the pinned program and in every row, IS THE sha256 OF THE DUMP (.gsa) THAT Qxb6603699aProg.lean LOADS. Nothing in Lean hashes anything: it is a label: what it is worth is what the hold of that sum in a sandbox is worth. -/
noncomputable def Try.pinned : Pinned := { name := "qxb6603699a", sum := "870748353847b3720b07741602134f6418b1441fef644871efa051729a99e5c5", checked := Try.checked }
namespace Rows
def none {H : Type} : Left H := { results := [], args := [] }

/-- 'zzlaws_internal_report_b1.FnValueMatchesForwardScan': WHATEVER THE INPUT: true; the input reads as it did. -/
def fnValueMatchesForwardScanSpec : ChangeSpec := { name := "fnValueMatchesForwardScan", fn := fun _ => fun
  | [d1, d2] => { results := [.lit (.bool true)], args := [d1, d2] }
  | _ => none }
def fnValueMatchesForwardScanRow : OpenClaim := { program := "qxb6603699a", sum := "870748353847b3720b07741602134f6418b1441fef644871efa051729a99e5c5", func := "example.com/drayage/drayage/zzlaws_internal_report_b1.FnValueMatchesForwardScan", spec := "fnValueMatchesForwardScan", inPlace := ["internal/bytealg.IndexByte", "internal/bytealg.IndexByteString", "internal/bytealg.IndexString"], named := ["internal/bytealg.MaxLen"], apart := false }
def FnValueMatchesForwardScanSaid : Prop := fnValueMatchesForwardScanRow.holds Try.pinned (OpenSpec.ofChange fnValueMatchesForwardScanSpec)

/-- ITS FALSE NEIGHBOUR: 'it returns false'. Refute it at one input. -/
def fnValueMatchesForwardScanWrong : ChangeSpec := { name := "fnValueMatchesForwardScan", fn := fun _ => fun
  | [d1, d2] => { results := [.lit (.bool false)], args := [d1, d2] }
  | _ => none }
def FnValueMatchesForwardScanWrongFalsely : Prop := fnValueMatchesForwardScanRow.holds Try.pinned (OpenSpec.ofChange fnValueMatchesForwardScanWrong)

/-- 'zzlaws_internal_report_b1.FnArrayMatchesElementModel': WHATEVER THE INPUT: true; the input reads as it did. -/
def fnArrayMatchesElementModelSpec : ChangeSpec := { name := "fnArrayMatchesElementModel", fn := fun _ => fun
  | [d1, d2] => { results := [.lit (.bool true)], args := [d1, d2] }
  | _ => none }
def fnArrayMatchesElementModelRow : OpenClaim := { program := "qxb6603699a", sum := "870748353847b3720b07741602134f6418b1441fef644871efa051729a99e5c5", func := "example.com/drayage/drayage/zzlaws_internal_report_b1.FnArrayMatchesElementModel", spec := "fnArrayMatchesElementModel", inPlace := ["internal/bytealg.IndexByte", "internal/bytealg.IndexByteString", "internal/bytealg.IndexString"], named := ["internal/bytealg.MaxLen"], apart := false }
def FnArrayMatchesElementModelSaid : Prop := fnArrayMatchesElementModelRow.holds Try.pinned (OpenSpec.ofChange fnArrayMatchesElementModelSpec)

/-- ITS FALSE NEIGHBOUR: 'it returns false'. Refute it at one input. -/
def fnArrayMatchesElementModelWrong : ChangeSpec := { name := "fnArrayMatchesElementModel", fn := fun _ => fun
  | [d1, d2] => { results := [.lit (.bool false)], args := [d1, d2] }
  | _ => none }
def FnArrayMatchesElementModelWrongFalsely : Prop := fnArrayMatchesElementModelRow.holds Try.pinned (OpenSpec.ofChange fnArrayMatchesElementModelWrong)

/-- 'zzlaws_internal_report_b1.FnRecordMatchesUnionModel': WHATEVER THE INPUT: true; the input reads as it did. -/
def fnRecordMatchesUnionModelSpec : ChangeSpec := { name := "fnRecordMatchesUnionModel", fn := fun _ => fun
  | [d1, d2, d3, d4, d5, d6] => { results := [.lit (.bool true)], args := [d1, d2, d3, d4, d5, d6] }
  | _ => none }
def fnRecordMatchesUnionModelRow : OpenClaim := { program := "qxb6603699a", sum := "870748353847b3720b07741602134f6418b1441fef644871efa051729a99e5c5", func := "example.com/drayage/drayage/zzlaws_internal_report_b1.FnRecordMatchesUnionModel", spec := "fnRecordMatchesUnionModel", apart := false }
def FnRecordMatchesUnionModelSaid : Prop := fnRecordMatchesUnionModelRow.holds Try.pinned (OpenSpec.ofChange fnRecordMatchesUnionModelSpec)

/-- ITS FALSE NEIGHBOUR: 'it returns false'. Refute it at one input. -/
def fnRecordMatchesUnionModelWrong : ChangeSpec := { name := "fnRecordMatchesUnionModel", fn := fun _ => fun
  | [d1, d2, d3, d4, d5, d6] => { results := [.lit (.bool false)], args := [d1, d2, d3, d4, d5, d6] }
  | _ => none }
def FnRecordMatchesUnionModelWrongFalsely : Prop := fnRecordMatchesUnionModelRow.holds Try.pinned (OpenSpec.ofChange fnRecordMatchesUnionModelWrong)

/-- 'zzlaws_internal_report_b1.FnRecordSinceIsAFixedPoint': WHATEVER THE INPUT: true; the input reads as it did. -/
def fnRecordSinceIsAFixedPointSpec : ChangeSpec := { name := "fnRecordSinceIsAFixedPoint", fn := fun _ => fun
  | [d1, d2, d3, d4, d5, d6] => { results := [.lit (.bool true)], args := [d1, d2, d3, d4, d5, d6] }
  | _ => none }
def fnRecordSinceIsAFixedPointRow : OpenClaim := { program := "qxb6603699a", sum := "870748353847b3720b07741602134f6418b1441fef644871efa051729a99e5c5", func := "example.com/drayage/drayage/zzlaws_internal_report_b1.FnRecordSinceIsAFixedPoint", spec := "fnRecordSinceIsAFixedPoint", apart := false }
def FnRecordSinceIsAFixedPointSaid : Prop := fnRecordSinceIsAFixedPointRow.holds Try.pinned (OpenSpec.ofChange fnRecordSinceIsAFixedPointSpec)

/-- ITS FALSE NEIGHBOUR: 'it returns false'. Refute it at one input. -/
def fnRecordSinceIsAFixedPointWrong : ChangeSpec := { name := "fnRecordSinceIsAFixedPoint", fn := fun _ => fun
  | [d1, d2, d3, d4, d5, d6] => { results := [.lit (.bool false)], args := [d1, d2, d3, d4, d5, d6] }
  | _ => none }
def FnRecordSinceIsAFixedPointWrongFalsely : Prop := fnRecordSinceIsAFixedPointRow.holds Try.pinned (OpenSpec.ofChange fnRecordSinceIsAFixedPointWrong)

end Rows
end Go.Proofs.Qxb6603699a
