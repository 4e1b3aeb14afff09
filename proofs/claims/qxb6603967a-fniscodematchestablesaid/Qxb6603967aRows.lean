/-
  No cell of these rows narrows 'for every input' (looked for: loops, veiled, ifaces, maps, wideKeys, modest, calm, conditions, laid).
  DERIVED. THE GIVEN ROWS OF THIS SEAT. 2 by the template 'for every input the law returns true; each argument reads behind the call as it read before'; 0 by the template 'total and deterministic' (their statements: Qxb6603967aTotals.lean).
  GIVEN WITH THE SEED: the statements are not yours to turn. If you find one false, say at which input.
  Laid BY PROGRAM, IN A SANDBOX (cutbox-rows.mjs): the forced cells as the released guide's own fill.sh prints them over the translation b19389203401077d… (all of the seat's roots in one cut). By AI agents, Wed Nov 11 2026. No macro, syntax, notation, axiom, sorry.
-/
import Derived.Test.Qxb6603967aChecked
import GoSem.Claim
import GoSem.ClaimJoined
import GoSem.ClaimMapViews
import Derived.JoinedTies
import Derived.KernelRfl
namespace Go.Proofs.Qxb6603967a
/- THE CELL 'sum', in the pinned program and in every row, IS THE sha256 OF THE DUMP (.gsa) THAT Qxb6603967aProg.lean LOADS. Nothing in Lean hashes anything: it is a label: what it is worth is what the hold of that sum in a sandbox is worth. -/
noncomputable def Try.pinned : Pinned := { name := "qxb6603967a", sum := "b19389203401077d1eb2ad5c02979da9ccb8648eee573eb01a0259e986e3f7a8", checked := Try.checked }
namespace Rows
def none {H : Type} : Left H := { results := [], args := [] }

/-- 'zzlaws_internal_invoice_b1.FnIsCodeMatchesTable': WHATEVER THE INPUT: true; the input reads as it did. -/
def fnIsCodeMatchesTableSpec : ChangeSpec := { name := "fnIsCodeMatchesTable", fn := fun _ => fun
  | [d1, d2, d3] => { results := [.lit (.bool true)], args := [d1, d2, d3] }
  | _ => none }
def fnIsCodeMatchesTableRow : OpenClaim := { program := "qxb6603967a", sum := "b19389203401077d1eb2ad5c02979da9ccb8648eee573eb01a0259e986e3f7a8", func := "example.com/settleline/settleline/zzlaws_internal_invoice_b1.FnIsCodeMatchesTable", spec := "fnIsCodeMatchesTable", inPlace := ["internal/bytealg.IndexByteString"], apart := false }
def FnIsCodeMatchesTableSaid : Prop := fnIsCodeMatchesTableRow.holds Try.pinned (OpenSpec.ofChange fnIsCodeMatchesTableSpec)

/-- ITS FALSE NEIGHBOUR: 'it returns false'. Refute it at one input. -/
def fnIsCodeMatchesTableWrong : ChangeSpec := { name := "fnIsCodeMatchesTable", fn := fun _ => fun
  | [d1, d2, d3] => { results := [.lit (.bool false)], args := [d1, d2, d3] }
  | _ => none }
def FnIsCodeMatchesTableWrongFalsely : Prop := fnIsCodeMatchesTableRow.holds Try.pinned (OpenSpec.ofChange fnIsCodeMatchesTableWrong)

/-- 'zzlaws_internal_invoice_b1.FnIdPrefixBytes': WHATEVER THE INPUT: true; the input reads as it did. -/
def fnIdPrefixBytesSpec : ChangeSpec := { name := "fnIdPrefixBytes", fn := fun _ => fun
  | [d] => { results := [.lit (.bool true)], args := [d] }
  | _ => none }
def fnIdPrefixBytesRow : OpenClaim := { program := "qxb6603967a", sum := "b19389203401077d1eb2ad5c02979da9ccb8648eee573eb01a0259e986e3f7a8", func := "example.com/settleline/settleline/zzlaws_internal_invoice_b1.FnIdPrefixBytes", spec := "fnIdPrefixBytes", apart := false }
def FnIdPrefixBytesSaid : Prop := fnIdPrefixBytesRow.holds Try.pinned (OpenSpec.ofChange fnIdPrefixBytesSpec)

/-- ITS FALSE NEIGHBOUR: 'it returns false'. Refute it at one input. -/
def fnIdPrefixBytesWrong : ChangeSpec := { name := "fnIdPrefixBytes", fn := fun _ => fun
  | [d] => { results := [.lit (.bool false)], args := [d] }
  | _ => none }
def FnIdPrefixBytesWrongFalsely : Prop := fnIdPrefixBytesRow.holds Try.pinned (OpenSpec.ofChange fnIdPrefixBytesWrong)

end Rows
end Go.Proofs.Qxb6603967a
