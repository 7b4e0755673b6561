/-
  DERIVED. GIVEN WITH THE SEED: THE CARDS: each row of Qxb6618423aDoorRows.lean that lists a variable, with what it lists TIED to the program's text (the seventh form; the later family's looks); each row that meets fmt, with fmt's text TOLD by the authors' own Lean function (tested against real Go, not proved from fmt's source: count such statements apart). THE CARD IS WHAT COUNTS. Prove the row's statement (the work); the ties are given (Qxb6618423aDoorTie.lean); close each card by the builder's one call (the guide's Derived/Test/ToyasCard.lean, 'card_holds'). Laid BY PROGRAM, IN A SANDBOX (cutbox-door.mjs). By AI agents, Wed Nov 11 2026. No macro, syntax, notation, axiom, sorry.
-/
import Derived.Test.Qxb6618423aDoorRows
import GoSem.ClaimSeven
namespace Go.Proofs.Qxb6618423aDoor
namespace Rows

/-- THE TIED CARD OF 'zzlaws_internal_sim_b1.FnMemberNamesTicketOrderAndPrefix'. -/
def fnMemberNamesTicketOrderAndPrefixCard : Claim7 := { stood := { row := fnMemberNamesTicketOrderAndPrefixRow, standIns := [], harness := (true, "35d352725798d1488fc2897cac61bcc385a8d3e2d43f8efe5709f9f2d1e704b7"), looks := false }, kinds := [], alts := [], laidByText := true, laidKinds := [.data, .data, .data], laidTests := true, laidLooks := .later }
def FnMemberNamesTicketOrderAndPrefixCardSaid : Prop := Claim7.holds Tryd.pinned (.plain (OpenSpec.ofChange fnMemberNamesTicketOrderAndPrefixSpec)) fnMemberNamesTicketOrderAndPrefixCard
end Rows
end Go.Proofs.Qxb6618423aDoor
