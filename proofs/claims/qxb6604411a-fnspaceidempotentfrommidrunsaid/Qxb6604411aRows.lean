/-
  No cell of these rows narrows 'for every input' (looked for: loops, veiled, ifaces, maps, wideKeys, modest, calm, conditions, laid).
  DERIVED. THE GIVEN ROWS OF THIS SEAT. 2 by the template 'for every input the law returns true; each argument reads behind the call as it read before'; 0 by the template 'total and deterministic' (their statements: Qxb6604411aTotals.lean).
  GIVEN WITH THE SEED: the statements are not yours to turn. If you find one false, say at which input.
  Laid BY PROGRAM, IN A SANDBOX (cutbox-rows.mjs): the forced cells as the released guide's own fill.sh prints them over the translation 16419a8305f987f2… (all of the seat's roots in one cut). By AI agents, Wed Nov 11 2026. No macro, syntax, notation, axiom, sorry.
-/
import Derived.Test.Qxb6604411aChecked
import GoSem.Claim
import GoSem.ClaimJoined
import GoSem.ClaimMapViews
import Derived.JoinedTies
import Derived.KernelRfl
namespace Go.Proofs.Qxb6604411a
/- THE CELL 'sum', in the pinned program and in every row, IS THE sha256 OF THE DUMP (.gsa) THAT Qxb6604411aProg.lean LOADS. Nothing in Lean hashes anything: it is a label: what it is worth is what the hold of that sum in a sandbox is worth. -/
noncomputable def Try.pinned : Pinned := { name := "qxb6604411a", sum := "16419a8305f987f265339048fb99b12c478db0f080a5b04119b1bb4a735acb44", checked := Try.checked }
namespace Rows
def none {H : Type} : Left H := { results := [], args := [] }

/-- 'zzlaws_web_b1.FnSpaceEndsTheWhiteRun': WHATEVER THE INPUT: true; the input reads as it did. -/
def fnSpaceEndsTheWhiteRunSpec : ChangeSpec := { name := "fnSpaceEndsTheWhiteRun", fn := fun _ => fun
  | [d1, d2] => { results := [.lit (.bool true)], args := [d1, d2] }
  | _ => none }
def fnSpaceEndsTheWhiteRunRow : OpenClaim := { program := "qxb6604411a", sum := "16419a8305f987f265339048fb99b12c478db0f080a5b04119b1bb4a735acb44", func := "example.com/baucis/baucis/zzlaws_web_b1.FnSpaceEndsTheWhiteRun", spec := "fnSpaceEndsTheWhiteRun", inPlace := ["internal/bytealg.IndexByteString"], apart := false }
def FnSpaceEndsTheWhiteRunSaid : Prop := fnSpaceEndsTheWhiteRunRow.holds Try.pinned (OpenSpec.ofChange fnSpaceEndsTheWhiteRunSpec)

/-- ITS FALSE NEIGHBOUR: 'it returns false'. Refute it at one input. -/
def fnSpaceEndsTheWhiteRunWrong : ChangeSpec := { name := "fnSpaceEndsTheWhiteRun", fn := fun _ => fun
  | [d1, d2] => { results := [.lit (.bool false)], args := [d1, d2] }
  | _ => none }
def FnSpaceEndsTheWhiteRunWrongFalsely : Prop := fnSpaceEndsTheWhiteRunRow.holds Try.pinned (OpenSpec.ofChange fnSpaceEndsTheWhiteRunWrong)

/-- 'zzlaws_web_b1.FnSpaceIdempotentFromMidRun': WHATEVER THE INPUT: true; the input reads as it did. -/
def fnSpaceIdempotentFromMidRunSpec : ChangeSpec := { name := "fnSpaceIdempotentFromMidRun", fn := fun _ => fun
  | [d1, d2] => { results := [.lit (.bool true)], args := [d1, d2] }
  | _ => none }
def fnSpaceIdempotentFromMidRunRow : OpenClaim := { program := "qxb6604411a", sum := "16419a8305f987f265339048fb99b12c478db0f080a5b04119b1bb4a735acb44", func := "example.com/baucis/baucis/zzlaws_web_b1.FnSpaceIdempotentFromMidRun", spec := "fnSpaceIdempotentFromMidRun", inPlace := ["internal/bytealg.IndexByteString"], apart := false }
def FnSpaceIdempotentFromMidRunSaid : Prop := fnSpaceIdempotentFromMidRunRow.holds Try.pinned (OpenSpec.ofChange fnSpaceIdempotentFromMidRunSpec)

/-- ITS FALSE NEIGHBOUR: 'it returns false'. Refute it at one input. -/
def fnSpaceIdempotentFromMidRunWrong : ChangeSpec := { name := "fnSpaceIdempotentFromMidRun", fn := fun _ => fun
  | [d1, d2] => { results := [.lit (.bool false)], args := [d1, d2] }
  | _ => none }
def FnSpaceIdempotentFromMidRunWrongFalsely : Prop := fnSpaceIdempotentFromMidRunRow.holds Try.pinned (OpenSpec.ofChange fnSpaceIdempotentFromMidRunWrong)

end Rows
end Go.Proofs.Qxb6604411a
