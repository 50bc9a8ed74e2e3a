/-
  NARROWER THAN 'FOR EVERY INPUT', by the rows' own cells (each row's printed sentence says how): LawS0761BMatches: maps, laid.
  DERIVED. THE GIVEN ROWS OF THIS SEAT. 1 by the template 'for every input the law returns true; each argument reads behind the call as it read before'; 0 by the template 'total and deterministic' (their statements: YbulkosuDoorTotals.lean).
  GIVEN WITH THE SEED: the statements are not yours to turn. If you find one false, say at which input.
  Laid BY PROGRAM, IN A SANDBOX (cutbox-rows.mjs): the forced cells as the released guide's own fill.sh prints them over the translation 614dc9f1808331f8… (all of the seat's roots in one cut). By AI agents, Wed Nov 11 2026. No macro, syntax, notation, axiom, sorry.
-/
import Derived.Test.YbulkosuDoorChecked
import GoSem.Claim
import GoSem.ClaimJoined
import GoSem.ClaimMapViews
import Derived.JoinedTies
import Derived.KernelRfl
namespace Go.Proofs.YbulkosuDoor
/- THE CELL 'sum', in the pinned program and in every row, IS THE sha256 OF THE DUMP (.gsa) THAT YbulkosuDoorProg.lean LOADS. Nothing in Lean hashes anything: it is a label: what it is worth is what the hold of that sum in a sandbox is worth. -/
noncomputable def Ybad.pinned : Pinned := { name := "ybulkosudoor", sum := "614dc9f1808331f84104416750009558db7e0e1760f30964691e78594dce5991", checked := Ybad.checked }
namespace Rows
def none {H : Type} : Left H := { results := [], args := [] }

/- WHAT THE LISTED PACKAGE-LEVEL VARIABLES READ AS WHEN THE CALL BEGINS. Each datum BY PROGRAM (the guide's laid-datum.mjs) off the statement by which the dump's own 'gosem.cut.vars' lays the variable. In a bare row this is a premise. The card (YbulkosuDoorCards.lean) ties it to the program's text. -/
def laid_example_com_waitsfor_waitsfor_internal_schedule_operators {H : Type} : DataW H := .map [(.string [42], .lit (.int .i64 6)), (.string [43], .lit (.int .i64 4)), (.string [45], .lit (.int .i64 5))]

/-- 'schedule.LawS0761BMatches': WHATEVER THE INPUT: true; the input reads as it did. -/
def lawS0761BMatchesSpec : ChangeSpec := { name := "lawS0761BMatches", vars := ["example.com/waitsfor/waitsfor/internal/schedule.operators"], fn := fun _ => fun
  | [d1, d2, d3, g1] => { results := [.lit (.bool true)], args := [d1, d2, d3], vars := [g1] }
  | _ => none }
def lawS0761BMatchesRow : OpenClaim := { program := "ybulkosudoor", sum := "614dc9f1808331f84104416750009558db7e0e1760f30964691e78594dce5991", func := "example.com/waitsfor/waitsfor/internal/schedule.LawS0761BMatches", spec := "lawS0761BMatches", named := ["example.com/waitsfor/waitsfor/internal/schedule.operators"], maps := true, apart := false, laid := [("example.com/waitsfor/waitsfor/internal/schedule.operators", laid_example_com_waitsfor_waitsfor_internal_schedule_operators)] }
def LawS0761BMatchesSaid : Prop := lawS0761BMatchesRow.holds Ybad.pinned (OpenSpec.ofChange lawS0761BMatchesSpec)

/-- ITS FALSE NEIGHBOUR: 'it returns false'. Refute it at one input. -/
def lawS0761BMatchesWrong : ChangeSpec := { name := "lawS0761BMatches", vars := ["example.com/waitsfor/waitsfor/internal/schedule.operators"], fn := fun _ => fun
  | [d1, d2, d3, g1] => { results := [.lit (.bool false)], args := [d1, d2, d3], vars := [g1] }
  | _ => none }
def LawS0761BMatchesWrongFalsely : Prop := lawS0761BMatchesRow.holds Ybad.pinned (OpenSpec.ofChange lawS0761BMatchesWrong)

end Rows
end Go.Proofs.YbulkosuDoor
