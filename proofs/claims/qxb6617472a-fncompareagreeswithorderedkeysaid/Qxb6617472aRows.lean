/-
  No cell of these rows narrows 'for every input' (looked for: loops, veiled, ifaces, maps, wideKeys, modest, calm, conditions, laid).
  DERIVED. THE GIVEN ROWS OF THIS SEAT. 1 by the template 'for every input the law returns true; each argument reads behind the call as it read before'; 0 by the template 'total and deterministic' (their statements: Qxb6617472aTotals.lean).
  GIVEN WITH THE SEED: the statements are not yours to turn. If you find one false, say at which input.
  Laid BY PROGRAM, IN A SANDBOX (cutbox-rows.mjs): the forced cells as the released guide's own fill.sh prints them over the translation ce8c8e5a01335046… (all of the seat's roots in one cut). By AI agents, Wed Nov 11 2026. No macro, syntax, notation, axiom, sorry.
-/
import Derived.Test.Qxb6617472aChecked
import GoSem.Claim
import GoSem.ClaimJoined
import GoSem.ClaimMapViews
import Derived.JoinedTies
import Derived.KernelRfl
namespace Go.Proofs.Qxb6617472a
/- THE CELL 'sum', in the pinned program and in every row, IS THE sha256 OF THE DUMP (.gsa) THAT Qxb6617472aProg.lean LOADS. Nothing in Lean hashes anything: it is a label: what it is worth is what the hold of that sum in a sandbox is worth. -/
noncomputable def Try.pinned : Pinned := { name := "qxb6617472a", sum := "ce8c8e5a013350466aa4746425c8bb77d07d6f66265dce4c07cac87f3cf4fdeb", checked := Try.checked }
namespace Rows
def none {H : Type} : Left H := { results := [], args := [] }

/-- 'zzlaws_internal_report_b1.FnCompareAgreesWithOrderedKey': WHATEVER THE INPUT: true; the input reads as it did. -/
def fnCompareAgreesWithOrderedKeySpec : ChangeSpec := { name := "fnCompareAgreesWithOrderedKey", fn := fun _ => fun
  | [d1, d2, d3, d4, d5, d6, d7, d8, d9, d10, d11, d12] => { results := [.lit (.bool true)], args := [d1, d2, d3, d4, d5, d6, d7, d8, d9, d10, d11, d12] }
  | _ => none }
def fnCompareAgreesWithOrderedKeyRow : OpenClaim := { program := "qxb6617472a", sum := "ce8c8e5a013350466aa4746425c8bb77d07d6f66265dce4c07cac87f3cf4fdeb", func := "example.com/grade/grade/zzlaws_internal_report_b1.FnCompareAgreesWithOrderedKey", spec := "fnCompareAgreesWithOrderedKey", apart := false }
def FnCompareAgreesWithOrderedKeySaid : Prop := fnCompareAgreesWithOrderedKeyRow.holds Try.pinned (OpenSpec.ofChange fnCompareAgreesWithOrderedKeySpec)

/-- ITS FALSE NEIGHBOUR: 'it returns false'. Refute it at one input. -/
def fnCompareAgreesWithOrderedKeyWrong : ChangeSpec := { name := "fnCompareAgreesWithOrderedKey", fn := fun _ => fun
  | [d1, d2, d3, d4, d5, d6, d7, d8, d9, d10, d11, d12] => { results := [.lit (.bool false)], args := [d1, d2, d3, d4, d5, d6, d7, d8, d9, d10, d11, d12] }
  | _ => none }
def FnCompareAgreesWithOrderedKeyWrongFalsely : Prop := fnCompareAgreesWithOrderedKeyRow.holds Try.pinned (OpenSpec.ofChange fnCompareAgreesWithOrderedKeyWrong)

end Rows
end Go.Proofs.Qxb6617472a
