/-
  DERIVED. GIVEN WITH THE SEED: THE CARDS: each row of YbulkouyFmtRows.lean that lists a variable, with what it lists TIED to the program's text (the seventh form; the later family's looks); each row that meets fmt, with fmt's text TOLD by the authors' own Lean function (tested against real Go, not proved from fmt's source: count such statements apart). THE CARD IS WHAT COUNTS. Prove the row's statement (the work); the ties are given (YbulkouyFmtTie.lean); close each card by the builder's one call (the guide's Derived/Test/ToyasCard.lean, 'card_holds'). Laid BY PROGRAM, IN A SANDBOX (cutbox-door.mjs). By AI agents, Wed Nov 11 2026. No macro, syntax, notation, axiom, sorry.
-/
import Derived.Test.YbulkouyFmtRows
import GoSem.ClaimSeven
namespace Go.Proofs.YbulkouyFmt
namespace Rows

/-- THE TOLD CARD OF 'polog.LawS0765CAcceptsOneGroup'. -/
def lawS0765CAcceptsOneGroupCard : Claim7 := { stood := { row := lawS0765CAcceptsOneGroupRow, standIns := [], harness := (true, "2e95ad4451d4454a9a32b9476d3d0e5b0a345a75b29faa7cca6ec829fc539f7b"), looks := false }, told := true, goes := false }
def LawS0765CAcceptsOneGroupToldSaid : Prop := Claim7.holds Ybaf.pinned (.plain (OpenSpec.ofChange lawS0765CAcceptsOneGroupSpec)) lawS0765CAcceptsOneGroupCard
/-- ITS FALSE NEIGHBOUR. Refute it at one input. -/
def LawS0765CAcceptsOneGroupToldWrongFalsely : Prop := Claim7.holds Ybaf.pinned (.plain (OpenSpec.ofChange lawS0765CAcceptsOneGroupWrong)) lawS0765CAcceptsOneGroupCard

/-- THE TOLD CARD OF 'polog.LawS0765CFirstAndLast'. -/
def lawS0765CFirstAndLastCard : Claim7 := { stood := { row := lawS0765CFirstAndLastRow, standIns := [], harness := (true, "2e95ad4451d4454a9a32b9476d3d0e5b0a345a75b29faa7cca6ec829fc539f7b"), looks := false }, told := true, goes := false }
def LawS0765CFirstAndLastToldSaid : Prop := Claim7.holds Ybaf.pinned (.plain (OpenSpec.ofChange lawS0765CFirstAndLastSpec)) lawS0765CFirstAndLastCard
/-- ITS FALSE NEIGHBOUR. Refute it at one input. -/
def LawS0765CFirstAndLastToldWrongFalsely : Prop := Claim7.holds Ybaf.pinned (.plain (OpenSpec.ofChange lawS0765CFirstAndLastWrong)) lawS0765CFirstAndLastCard
end Rows
end Go.Proofs.YbulkouyFmt
