/-
  No cell of these rows narrows 'for every input' (looked for: loops, veiled, ifaces, maps, wideKeys, modest, calm, conditions, laid).
  DERIVED. THE GIVEN ROWS OF THIS SEAT. 2 by the template 'for every input the law returns true; each argument reads behind the call as it read before'; 0 by the template 'total and deterministic' (their statements: YbulkosgTotals.lean).
  GIVEN WITH THE SEED: the statements are not yours to turn. If you find one false, say at which input.
  Laid BY PROGRAM, IN A SANDBOX (cutbox-rows.mjs): the forced cells as the released guide's own fill.sh prints them over the translation ef3c4a1994a27d54… (all of the seat's roots in one cut). By AI agents, Wed Nov 11 2026. No macro, syntax, notation, axiom, sorry.
-/
import Derived.Test.YbulkosgChecked
import GoSem.Claim
import GoSem.ClaimJoined
import GoSem.ClaimMapViews
import Derived.JoinedTies
import Derived.KernelRfl
namespace Go.Proofs.Ybulkosg
/- THE CELL 'sum', in the pinned program and in every row, IS THE sha256 OF THE DUMP (.gsa) THAT YbulkosgProg.lean LOADS. Nothing in Lean hashes anything: it is a label: what it is worth is what the hold of that sum in a sandbox is worth. -/
noncomputable def Yba.pinned : Pinned := { name := "ybulkosg", sum := "ef3c4a1994a27d54d4f82304f8ccc6de9c4654e8181c8e2eed592702bd0e4703", checked := Yba.checked }
namespace Rows
def none {H : Type} : Left H := { results := [], args := [] }

/-- 'knotwork.LawS0760AExact': WHATEVER THE INPUT: true; the input reads as it did. -/
def lawS0760AExactSpec : ChangeSpec := { name := "lawS0760AExact", fn := fun _ => fun
  | [d1, d2, d3, d4, d5, d6, d7, d8, d9, d10] => { results := [.lit (.bool true)], args := [d1, d2, d3, d4, d5, d6, d7, d8, d9, d10] }
  | _ => none }
def lawS0760AExactRow : OpenClaim := { program := "ybulkosg", sum := "ef3c4a1994a27d54d4f82304f8ccc6de9c4654e8181c8e2eed592702bd0e4703", func := "example.com/knotwork/knotwork.LawS0760AExact", spec := "lawS0760AExact", apart := false }
def LawS0760AExactSaid : Prop := lawS0760AExactRow.holds Yba.pinned (OpenSpec.ofChange lawS0760AExactSpec)

/-- ITS FALSE NEIGHBOUR: 'it returns false'. Refute it at one input. -/
def lawS0760AExactWrong : ChangeSpec := { name := "lawS0760AExact", fn := fun _ => fun
  | [d1, d2, d3, d4, d5, d6, d7, d8, d9, d10] => { results := [.lit (.bool false)], args := [d1, d2, d3, d4, d5, d6, d7, d8, d9, d10] }
  | _ => none }
def LawS0760AExactWrongFalsely : Prop := lawS0760AExactRow.holds Yba.pinned (OpenSpec.ofChange lawS0760AExactWrong)

/-- 'knotwork.LawS0760AStrict': WHATEVER THE INPUT: true; the input reads as it did. -/
def lawS0760AStrictSpec : ChangeSpec := { name := "lawS0760AStrict", fn := fun _ => fun
  | [d1, d2, d3, d4, d5, d6] => { results := [.lit (.bool true)], args := [d1, d2, d3, d4, d5, d6] }
  | _ => none }
def lawS0760AStrictRow : OpenClaim := { program := "ybulkosg", sum := "ef3c4a1994a27d54d4f82304f8ccc6de9c4654e8181c8e2eed592702bd0e4703", func := "example.com/knotwork/knotwork.LawS0760AStrict", spec := "lawS0760AStrict", apart := false }
def LawS0760AStrictSaid : Prop := lawS0760AStrictRow.holds Yba.pinned (OpenSpec.ofChange lawS0760AStrictSpec)

/-- ITS FALSE NEIGHBOUR: 'it returns false'. Refute it at one input. -/
def lawS0760AStrictWrong : ChangeSpec := { name := "lawS0760AStrict", fn := fun _ => fun
  | [d1, d2, d3, d4, d5, d6] => { results := [.lit (.bool false)], args := [d1, d2, d3, d4, d5, d6] }
  | _ => none }
def LawS0760AStrictWrongFalsely : Prop := lawS0760AStrictRow.holds Yba.pinned (OpenSpec.ofChange lawS0760AStrictWrong)

end Rows
end Go.Proofs.Ybulkosg
