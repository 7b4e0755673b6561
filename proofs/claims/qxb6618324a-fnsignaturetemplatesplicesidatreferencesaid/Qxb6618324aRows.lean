/-
  No cell of these rows narrows 'for every input' (looked for: loops, veiled, ifaces, maps, wideKeys, modest, calm, conditions, laid).
  DERIVED. THE GIVEN ROWS OF THIS SEAT. 1 by the template 'for every input the law returns true; each argument reads behind the call as it read before'; 0 by the template 'total and deterministic' (their statements: Qxb6618324aTotals.lean).
  GIVEN WITH THE SEED: the statements are not yours to turn. If you find one false, say at which input.
  Laid BY PROGRAM, IN A SANDBOX (cutbox-rows.mjs): the forced cells as the released guide's own fill.sh prints them over the translation a7c0df0ef8fcf5f7… (all of the seat's roots in one cut). By AI agents, Wed Nov 11 2026. No macro, syntax, notation, axiom, sorry.
-/
import Derived.Test.Qxb6618324aChecked
import GoSem.Claim
import GoSem.ClaimJoined
import GoSem.ClaimMapViews
import Derived.JoinedTies
import Derived.KernelRfl
namespace Go.Proofs.Qxb6618324a
/- THE CELL 'sum', in the pinned program and in every row, IS THE sha256 OF THE DUMP (.gsa) THAT Qxb6618324aProg.lean LOADS. Nothing in Lean hashes anything: it is a label: what it is worth is what the hold of that sum in a sandbox is worth. -/
noncomputable def Try.pinned : Pinned := { name := "qxb6618324a", sum := "a7c0df0ef8fcf5f7a35ee97c34ca69e93fb8e7b9e8bf4bd5759dbb6ee31eb210", checked := Try.checked }
namespace Rows
def none {H : Type} : Left H := { results := [], args := [] }

/-- 'zzlaws_internal_samltest_b1.FnSignatureTemplateSplicesIdAtReference': WHATEVER THE INPUT: true; the input reads as it did. -/
def fnSignatureTemplateSplicesIdAtReferenceSpec : ChangeSpec := { name := "fnSignatureTemplateSplicesIdAtReference", fn := fun _ => fun
  | [d] => { results := [.lit (.bool true)], args := [d] }
  | _ => none }
def fnSignatureTemplateSplicesIdAtReferenceRow : OpenClaim := { program := "qxb6618324a", sum := "a7c0df0ef8fcf5f7a35ee97c34ca69e93fb8e7b9e8bf4bd5759dbb6ee31eb210", func := "example.com/liaise/liaise/zzlaws_internal_samltest_b1.FnSignatureTemplateSplicesIdAtReference", spec := "fnSignatureTemplateSplicesIdAtReference", apart := false }
def FnSignatureTemplateSplicesIdAtReferenceSaid : Prop := fnSignatureTemplateSplicesIdAtReferenceRow.holds Try.pinned (OpenSpec.ofChange fnSignatureTemplateSplicesIdAtReferenceSpec)

/-- ITS FALSE NEIGHBOUR: 'it returns false'. Refute it at one input. -/
def fnSignatureTemplateSplicesIdAtReferenceWrong : ChangeSpec := { name := "fnSignatureTemplateSplicesIdAtReference", fn := fun _ => fun
  | [d] => { results := [.lit (.bool false)], args := [d] }
  | _ => none }
def FnSignatureTemplateSplicesIdAtReferenceWrongFalsely : Prop := fnSignatureTemplateSplicesIdAtReferenceRow.holds Try.pinned (OpenSpec.ofChange fnSignatureTemplateSplicesIdAtReferenceWrong)

end Rows
end Go.Proofs.Qxb6618324a
