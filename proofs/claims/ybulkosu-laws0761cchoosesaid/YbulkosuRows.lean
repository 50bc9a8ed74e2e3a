/-
  No cell of these rows narrows 'for every input' (looked for: loops, veiled, ifaces, maps, wideKeys, modest, calm, conditions, laid).
  DERIVED. THE GIVEN ROWS OF THIS SEAT. 3 by the template 'for every input the law returns true; each argument reads behind the call as it read before'; 0 by the template 'total and deterministic' (their statements: YbulkosuTotals.lean).
  GIVEN WITH THE SEED: the statements are not yours to turn. If you find one false, say at which input.
  Laid BY PROGRAM, IN A SANDBOX (cutbox-rows.mjs): the forced cells as the released guide's own fill.sh prints them over the translation 1d4b05fad40d3383… (all of the seat's roots in one cut). By AI agents, Wed Nov 11 2026. No macro, syntax, notation, axiom, sorry.
-/
import Derived.Test.YbulkosuChecked
import GoSem.Claim
import GoSem.ClaimJoined
import GoSem.ClaimMapViews
import Derived.JoinedTies
import Derived.KernelRfl
namespace Go.Proofs.Ybulkosu
/- THE CELL 'sum', in the pinned program and in every row, IS THE sha256 OF THE DUMP (.gsa) THAT YbulkosuProg.lean LOADS. Nothing in Lean hashes anything: it is a label: what it is worth is what the hold of that sum in a sandbox is worth. -/
noncomputable def Yba.pinned : Pinned := { name := "ybulkosu", sum := "1d4b05fad40d3383c61fec962e154a82f53fd032dd3467f46e204bc0cca9cf1b", checked := Yba.checked }
namespace Rows
def none {H : Type} : Left H := { results := [], args := [] }

/-- 'waitsfor.LawS0761AForget': WHATEVER THE INPUT: true; the input reads as it did. -/
def lawS0761AForgetSpec : ChangeSpec := { name := "lawS0761AForget", fn := fun _ => fun
  | [d1, d2] => { results := [.lit (.bool true)], args := [d1, d2] }
  | _ => none }
def lawS0761AForgetRow : OpenClaim := { program := "ybulkosu", sum := "1d4b05fad40d3383c61fec962e154a82f53fd032dd3467f46e204bc0cca9cf1b", func := "example.com/waitsfor/waitsfor.LawS0761AForget", spec := "lawS0761AForget", apart := false }
def LawS0761AForgetSaid : Prop := lawS0761AForgetRow.holds Yba.pinned (OpenSpec.ofChange lawS0761AForgetSpec)

/-- ITS FALSE NEIGHBOUR: 'it returns false'. Refute it at one input. -/
def lawS0761AForgetWrong : ChangeSpec := { name := "lawS0761AForget", fn := fun _ => fun
  | [d1, d2] => { results := [.lit (.bool false)], args := [d1, d2] }
  | _ => none }
def LawS0761AForgetWrongFalsely : Prop := lawS0761AForgetRow.holds Yba.pinned (OpenSpec.ofChange lawS0761AForgetWrong)

/-- 'waitsfor.LawS0761CTable': WHATEVER THE INPUT: true; the input reads as it did. -/
def lawS0761CTableSpec : ChangeSpec := { name := "lawS0761CTable", fn := fun _ => fun
  | [d1, d2] => { results := [.lit (.bool true)], args := [d1, d2] }
  | _ => none }
def lawS0761CTableRow : OpenClaim := { program := "ybulkosu", sum := "1d4b05fad40d3383c61fec962e154a82f53fd032dd3467f46e204bc0cca9cf1b", func := "example.com/waitsfor/waitsfor.LawS0761CTable", spec := "lawS0761CTable", apart := false }
def LawS0761CTableSaid : Prop := lawS0761CTableRow.holds Yba.pinned (OpenSpec.ofChange lawS0761CTableSpec)

/-- ITS FALSE NEIGHBOUR: 'it returns false'. Refute it at one input. -/
def lawS0761CTableWrong : ChangeSpec := { name := "lawS0761CTable", fn := fun _ => fun
  | [d1, d2] => { results := [.lit (.bool false)], args := [d1, d2] }
  | _ => none }
def LawS0761CTableWrongFalsely : Prop := lawS0761CTableRow.holds Yba.pinned (OpenSpec.ofChange lawS0761CTableWrong)

/-- 'waitsfor.LawS0761CChoose': WHATEVER THE INPUT: true; the input reads as it did. -/
def lawS0761CChooseSpec : ChangeSpec := { name := "lawS0761CChoose", fn := fun _ => fun
  | [d1, d2] => { results := [.lit (.bool true)], args := [d1, d2] }
  | _ => none }
def lawS0761CChooseRow : OpenClaim := { program := "ybulkosu", sum := "1d4b05fad40d3383c61fec962e154a82f53fd032dd3467f46e204bc0cca9cf1b", func := "example.com/waitsfor/waitsfor.LawS0761CChoose", spec := "lawS0761CChoose", apart := false }
def LawS0761CChooseSaid : Prop := lawS0761CChooseRow.holds Yba.pinned (OpenSpec.ofChange lawS0761CChooseSpec)

/-- ITS FALSE NEIGHBOUR: 'it returns false'. Refute it at one input. -/
def lawS0761CChooseWrong : ChangeSpec := { name := "lawS0761CChoose", fn := fun _ => fun
  | [d1, d2] => { results := [.lit (.bool false)], args := [d1, d2] }
  | _ => none }
def LawS0761CChooseWrongFalsely : Prop := lawS0761CChooseRow.holds Yba.pinned (OpenSpec.ofChange lawS0761CChooseWrong)

end Rows
end Go.Proofs.Ybulkosu
