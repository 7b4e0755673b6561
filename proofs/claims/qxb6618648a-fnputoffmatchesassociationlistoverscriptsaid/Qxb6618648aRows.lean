/-
  No cell of these rows narrows 'for every input' (looked for: loops, veiled, ifaces, maps, wideKeys, modest, calm, conditions, laid).
  DERIVED. THE GIVEN ROWS OF THIS SEAT. 5 by the template 'for every input the law returns true; each argument reads behind the call as it read before'; 0 by the template 'total and deterministic' (their statements: Qxb6618648aTotals.lean).
  GIVEN WITH THE SEED: the statements are not yours to turn. If you find one false, say at which input.
  Laid BY PROGRAM, IN A SANDBOX (cutbox-rows.mjs): the forced cells as the released guide's own fill.sh prints them over the translation dd3b3e7d0631b431… (all of the seat's roots in one cut). By AI agents, Wed Nov 11 2026. No macro, syntax, notation, axiom, sorry.
-/
import Derived.Test.Qxb6618648aChecked
import GoSem.Claim
import GoSem.ClaimJoined
import GoSem.ClaimMapViews
import Derived.JoinedTies
import Derived.KernelRfl
namespace Go.Proofs.Qxb6618648a
/- THE CELL 'sum', in the pinned program and in every row, IS THE sha256 OF THE DUMP (.gsa) THAT Qxb6618648aProg.lean LOADS. Nothing in Lean hashes anything: it is a label: what it is worth is what the hold of that sum in a sandbox is worth. -/
noncomputable def Try.pinned : Pinned := { name := "qxb6618648a", sum := "dd3b3e7d0631b431f5af4c2918b878500b7f7592ee1fd47134847fda02f33c4f", checked := Try.checked }
namespace Rows
def none {H : Type} : Left H := { results := [], args := [] }

/-- 'zzlaws_postgres_b1.FnLookingBackIsThresholdInBack': WHATEVER THE INPUT: true; the input reads as it did. -/
def fnLookingBackIsThresholdInBackSpec : ChangeSpec := { name := "fnLookingBackIsThresholdInBack", fn := fun _ => fun
  | [d1, d2, d3, d4, d5, d6, d7, d8] => { results := [.lit (.bool true)], args := [d1, d2, d3, d4, d5, d6, d7, d8] }
  | _ => none }
def fnLookingBackIsThresholdInBackRow : OpenClaim := { program := "qxb6618648a", sum := "dd3b3e7d0631b431f5af4c2918b878500b7f7592ee1fd47134847fda02f33c4f", func := "example.com/tx1/tx1/zzlaws_postgres_b1.FnLookingBackIsThresholdInBack", spec := "fnLookingBackIsThresholdInBack", apart := false }
def FnLookingBackIsThresholdInBackSaid : Prop := fnLookingBackIsThresholdInBackRow.holds Try.pinned (OpenSpec.ofChange fnLookingBackIsThresholdInBackSpec)

/-- ITS FALSE NEIGHBOUR: 'it returns false'. Refute it at one input. -/
def fnLookingBackIsThresholdInBackWrong : ChangeSpec := { name := "fnLookingBackIsThresholdInBack", fn := fun _ => fun
  | [d1, d2, d3, d4, d5, d6, d7, d8] => { results := [.lit (.bool false)], args := [d1, d2, d3, d4, d5, d6, d7, d8] }
  | _ => none }
def FnLookingBackIsThresholdInBackWrongFalsely : Prop := fnLookingBackIsThresholdInBackRow.holds Try.pinned (OpenSpec.ofChange fnLookingBackIsThresholdInBackWrong)

/-- 'zzlaws_postgres_b1.FnLookingBackReadsOnlyBackAndBegan': WHATEVER THE INPUT: true; the input reads as it did. -/
def fnLookingBackReadsOnlyBackAndBeganSpec : ChangeSpec := { name := "fnLookingBackReadsOnlyBackAndBegan", fn := fun _ => fun
  | [d1, d2, d3, d4, d5, d6, d7, d8, d9, d10] => { results := [.lit (.bool true)], args := [d1, d2, d3, d4, d5, d6, d7, d8, d9, d10] }
  | _ => none }
def fnLookingBackReadsOnlyBackAndBeganRow : OpenClaim := { program := "qxb6618648a", sum := "dd3b3e7d0631b431f5af4c2918b878500b7f7592ee1fd47134847fda02f33c4f", func := "example.com/tx1/tx1/zzlaws_postgres_b1.FnLookingBackReadsOnlyBackAndBegan", spec := "fnLookingBackReadsOnlyBackAndBegan", apart := false }
def FnLookingBackReadsOnlyBackAndBeganSaid : Prop := fnLookingBackReadsOnlyBackAndBeganRow.holds Try.pinned (OpenSpec.ofChange fnLookingBackReadsOnlyBackAndBeganSpec)

/-- ITS FALSE NEIGHBOUR: 'it returns false'. Refute it at one input. -/
def fnLookingBackReadsOnlyBackAndBeganWrong : ChangeSpec := { name := "fnLookingBackReadsOnlyBackAndBegan", fn := fun _ => fun
  | [d1, d2, d3, d4, d5, d6, d7, d8, d9, d10] => { results := [.lit (.bool false)], args := [d1, d2, d3, d4, d5, d6, d7, d8, d9, d10] }
  | _ => none }
def FnLookingBackReadsOnlyBackAndBeganWrongFalsely : Prop := fnLookingBackReadsOnlyBackAndBeganRow.holds Try.pinned (OpenSpec.ofChange fnLookingBackReadsOnlyBackAndBeganWrong)

/-- 'zzlaws_postgres_b1.FnPutOffMatchesAssociationListOverScript': WHATEVER THE INPUT: true; the input reads as it did. -/
def fnPutOffMatchesAssociationListOverScriptSpec : ChangeSpec := { name := "fnPutOffMatchesAssociationListOverScript", fn := fun _ => fun
  | [d1, d2] => { results := [.lit (.bool true)], args := [d1, d2] }
  | _ => none }
def fnPutOffMatchesAssociationListOverScriptRow : OpenClaim := { program := "qxb6618648a", sum := "dd3b3e7d0631b431f5af4c2918b878500b7f7592ee1fd47134847fda02f33c4f", func := "example.com/tx1/tx1/zzlaws_postgres_b1.FnPutOffMatchesAssociationListOverScript", spec := "fnPutOffMatchesAssociationListOverScript", apart := false }
def FnPutOffMatchesAssociationListOverScriptSaid : Prop := fnPutOffMatchesAssociationListOverScriptRow.holds Try.pinned (OpenSpec.ofChange fnPutOffMatchesAssociationListOverScriptSpec)

/-- ITS FALSE NEIGHBOUR: 'it returns false'. Refute it at one input. -/
def fnPutOffMatchesAssociationListOverScriptWrong : ChangeSpec := { name := "fnPutOffMatchesAssociationListOverScript", fn := fun _ => fun
  | [d1, d2] => { results := [.lit (.bool false)], args := [d1, d2] }
  | _ => none }
def FnPutOffMatchesAssociationListOverScriptWrongFalsely : Prop := fnPutOffMatchesAssociationListOverScriptRow.holds Try.pinned (OpenSpec.ofChange fnPutOffMatchesAssociationListOverScriptWrong)

/-- 'zzlaws_postgres_b1.FnDueAgainLastWriteWins': WHATEVER THE INPUT: true; the input reads as it did. -/
def fnDueAgainLastWriteWinsSpec : ChangeSpec := { name := "fnDueAgainLastWriteWins", fn := fun _ => fun
  | [d1, d2, d3, d4, d5] => { results := [.lit (.bool true)], args := [d1, d2, d3, d4, d5] }
  | _ => none }
def fnDueAgainLastWriteWinsRow : OpenClaim := { program := "qxb6618648a", sum := "dd3b3e7d0631b431f5af4c2918b878500b7f7592ee1fd47134847fda02f33c4f", func := "example.com/tx1/tx1/zzlaws_postgres_b1.FnDueAgainLastWriteWins", spec := "fnDueAgainLastWriteWins", apart := false }
def FnDueAgainLastWriteWinsSaid : Prop := fnDueAgainLastWriteWinsRow.holds Try.pinned (OpenSpec.ofChange fnDueAgainLastWriteWinsSpec)

/-- ITS FALSE NEIGHBOUR: 'it returns false'. Refute it at one input. -/
def fnDueAgainLastWriteWinsWrong : ChangeSpec := { name := "fnDueAgainLastWriteWins", fn := fun _ => fun
  | [d1, d2, d3, d4, d5] => { results := [.lit (.bool false)], args := [d1, d2, d3, d4, d5] }
  | _ => none }
def FnDueAgainLastWriteWinsWrongFalsely : Prop := fnDueAgainLastWriteWinsRow.holds Try.pinned (OpenSpec.ofChange fnDueAgainLastWriteWinsWrong)

/-- 'zzlaws_postgres_b1.FnSettledUndoesAndIsIdempotent': WHATEVER THE INPUT: true; the input reads as it did. -/
def fnSettledUndoesAndIsIdempotentSpec : ChangeSpec := { name := "fnSettledUndoesAndIsIdempotent", fn := fun _ => fun
  | [d1, d2, d3, d4] => { results := [.lit (.bool true)], args := [d1, d2, d3, d4] }
  | _ => none }
def fnSettledUndoesAndIsIdempotentRow : OpenClaim := { program := "qxb6618648a", sum := "dd3b3e7d0631b431f5af4c2918b878500b7f7592ee1fd47134847fda02f33c4f", func := "example.com/tx1/tx1/zzlaws_postgres_b1.FnSettledUndoesAndIsIdempotent", spec := "fnSettledUndoesAndIsIdempotent", apart := false }
def FnSettledUndoesAndIsIdempotentSaid : Prop := fnSettledUndoesAndIsIdempotentRow.holds Try.pinned (OpenSpec.ofChange fnSettledUndoesAndIsIdempotentSpec)

/-- ITS FALSE NEIGHBOUR: 'it returns false'. Refute it at one input. -/
def fnSettledUndoesAndIsIdempotentWrong : ChangeSpec := { name := "fnSettledUndoesAndIsIdempotent", fn := fun _ => fun
  | [d1, d2, d3, d4] => { results := [.lit (.bool false)], args := [d1, d2, d3, d4] }
  | _ => none }
def FnSettledUndoesAndIsIdempotentWrongFalsely : Prop := fnSettledUndoesAndIsIdempotentRow.holds Try.pinned (OpenSpec.ofChange fnSettledUndoesAndIsIdempotentWrong)

end Rows
end Go.Proofs.Qxb6618648a
