/-
  DERIVED. GIVEN WITH THE SEED: THE CARDS: each row of YbulkosuDoorRows.lean that lists a variable, with what it lists TIED to the program's text (the seventh form; the later family's looks); each row that meets fmt, with fmt's text TOLD by the authors' own Lean function (tested against real Go, not proved from fmt's source: count such statements apart). THE CARD IS WHAT COUNTS. Prove the row's statement (the work); the ties are given (YbulkosuDoorTie.lean); close each card by the builder's one call (the guide's Derived/Test/ToyasCard.lean, 'card_holds'). Laid BY PROGRAM, IN A SANDBOX (cutbox-door.mjs). By AI agents, Wed Nov 11 2026. No macro, syntax, notation, axiom, sorry.
-/
import Derived.Test.YbulkosuDoorRows
import GoSem.ClaimSeven
namespace Go.Proofs.YbulkosuDoor
namespace Rows

/-- THE TIED CARD OF 'schedule.LawS0761BMatches'. -/
def lawS0761BMatchesCard : Claim7 := { stood := { row := lawS0761BMatchesRow, standIns := [], harness := (true, "e74ae3b1422b35db45cc59c586f9be0690d8d81c73e48496104792c82a57fbcd"), looks := false }, kinds := [], alts := [], laidByText := true, laidKinds := [.mapped], laidTests := true, laidLooks := .later }
def LawS0761BMatchesCardSaid : Prop := Claim7.holds Ybad.pinned (.plain (OpenSpec.ofChange lawS0761BMatchesSpec)) lawS0761BMatchesCard
end Rows
end Go.Proofs.YbulkosuDoor
