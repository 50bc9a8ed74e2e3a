/-
  No cell of these rows narrows 'for every input' (looked for: loops, veiled, ifaces, maps, wideKeys, modest, calm, conditions, laid).
  DERIVED. THE GIVEN ROWS OF THIS SEAT. 2 by the template 'for every input the law returns true; each argument reads behind the call as it read before'; 0 by the template 'total and deterministic' (their statements: YbulkouyFmtTotals.lean).
  GIVEN WITH THE SEED: the statements are not yours to turn. If you find one false, say at which input.
  Laid BY PROGRAM, IN A SANDBOX (cutbox-rows.mjs): the forced cells as the released guide's own fill.sh prints them over the translation 52e4c858d1fb04af… (all of the seat's roots in one cut). By AI agents, Wed Nov 11 2026. No macro, syntax, notation, axiom, sorry.
-/
import Derived.Test.YbulkouyFmtChecked
import GoSem.Claim
import GoSem.ClaimJoined
import GoSem.ClaimMapViews
import Derived.JoinedTies
import Derived.KernelRfl
namespace Go.Proofs.YbulkouyFmt
/- THE CELL 'sum', in the pinned program and in every row, IS THE sha256 OF THE DUMP (.gsa) THAT YbulkouyFmtProg.lean LOADS. Nothing in Lean hashes anything: it is a label: what it is worth is what the hold of that sum in a sandbox is worth. -/
noncomputable def Ybaf.pinned : Pinned := { name := "ybulkouyfmt", sum := "52e4c858d1fb04af3645f990bb6e5d799a2c2572d58e2eeedc1ee3ef465b0689", checked := Ybaf.checked }
namespace Rows
def none {H : Type} : Left H := { results := [], args := [] }

/-- 'polog.LawS0765CAcceptsOneGroup': WHATEVER THE INPUT: true; the input reads as it did. -/
def lawS0765CAcceptsOneGroupSpec : ChangeSpec := { name := "lawS0765CAcceptsOneGroup", fn := fun _ => fun
  | [d1, d2, d3, d4] => { results := [.lit (.bool true)], args := [d1, d2, d3, d4] }
  | _ => none }
def lawS0765CAcceptsOneGroupRow : OpenClaim := { program := "ybulkouyfmt", sum := "52e4c858d1fb04af3645f990bb6e5d799a2c2572d58e2eeedc1ee3ef465b0689", func := "polog.example/polog.LawS0765CAcceptsOneGroup", spec := "lawS0765CAcceptsOneGroup", stops := ["fmt.Sprintf"], inPlace := ["fmt.Sprintf"], apart := false }
/-- NO THEOREM (fmt's text is open here; it may be false): for the released tool's asking of the row's closed facts alone. THE STATEMENT IS 'LawS0765CAcceptsOneGroupToldSaid' (YbulkouyFmtCards.lean). -/
def LawS0765CAcceptsOneGroupFormAsk : Prop := lawS0765CAcceptsOneGroupRow.holds Ybaf.pinned (OpenSpec.ofChange lawS0765CAcceptsOneGroupSpec)

/-- ITS FALSE NEIGHBOUR: 'it returns false'. Refute it at one input. -/
def lawS0765CAcceptsOneGroupWrong : ChangeSpec := { name := "lawS0765CAcceptsOneGroup", fn := fun _ => fun
  | [d1, d2, d3, d4] => { results := [.lit (.bool false)], args := [d1, d2, d3, d4] }
  | _ => none }
def LawS0765CAcceptsOneGroupWrongFormAsk : Prop := lawS0765CAcceptsOneGroupRow.holds Ybaf.pinned (OpenSpec.ofChange lawS0765CAcceptsOneGroupWrong)

/-- 'polog.LawS0765CFirstAndLast': WHATEVER THE INPUT: true; the input reads as it did. -/
def lawS0765CFirstAndLastSpec : ChangeSpec := { name := "lawS0765CFirstAndLast", fn := fun _ => fun
  | [d] => { results := [.lit (.bool true)], args := [d] }
  | _ => none }
def lawS0765CFirstAndLastRow : OpenClaim := { program := "ybulkouyfmt", sum := "52e4c858d1fb04af3645f990bb6e5d799a2c2572d58e2eeedc1ee3ef465b0689", func := "polog.example/polog.LawS0765CFirstAndLast", spec := "lawS0765CFirstAndLast", stops := ["fmt.Sprintf"], inPlace := ["fmt.Sprintf"], apart := false }
/-- NO THEOREM (fmt's text is open here; it may be false): for the released tool's asking of the row's closed facts alone. THE STATEMENT IS 'LawS0765CFirstAndLastToldSaid' (YbulkouyFmtCards.lean). -/
def LawS0765CFirstAndLastFormAsk : Prop := lawS0765CFirstAndLastRow.holds Ybaf.pinned (OpenSpec.ofChange lawS0765CFirstAndLastSpec)

/-- ITS FALSE NEIGHBOUR: 'it returns false'. Refute it at one input. -/
def lawS0765CFirstAndLastWrong : ChangeSpec := { name := "lawS0765CFirstAndLast", fn := fun _ => fun
  | [d] => { results := [.lit (.bool false)], args := [d] }
  | _ => none }
def LawS0765CFirstAndLastWrongFormAsk : Prop := lawS0765CFirstAndLastRow.holds Ybaf.pinned (OpenSpec.ofChange lawS0765CFirstAndLastWrong)

end Rows
end Go.Proofs.YbulkouyFmt
