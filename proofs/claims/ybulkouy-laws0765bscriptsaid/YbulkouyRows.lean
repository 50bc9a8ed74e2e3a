/-
  No cell of these rows narrows 'for every input' (looked for: loops, veiled, ifaces, maps, wideKeys, modest, calm, conditions, laid).
  DERIVED. THE GIVEN ROWS OF THIS SEAT. 1 by the template 'for every input the law returns true; each argument reads behind the call as it read before'; 0 by the template 'total and deterministic' (their statements: YbulkouyTotals.lean).
  GIVEN WITH THE SEED: the statements are not yours to turn. If you find one false, say at which input.
  Laid BY PROGRAM, IN A SANDBOX (cutbox-rows.mjs): the forced cells as the released guide's own fill.sh prints them over the translation 3a2bb3dca464b356… (all of the seat's roots in one cut). By AI agents, Wed Nov 11 2026. No macro, syntax, notation, axiom, sorry.
-/
import Derived.Test.YbulkouyChecked
import GoSem.Claim
import GoSem.ClaimJoined
import GoSem.ClaimMapViews
import Derived.JoinedTies
import Derived.KernelRfl
namespace Go.Proofs.Ybulkouy
/- THE CELL 'sum', in the pinned program and in every row, IS THE sha256 OF THE DUMP (.gsa) THAT YbulkouyProg.lean LOADS. Nothing in Lean hashes anything: it is a label: what it is worth is what the hold of that sum in a sandbox is worth. -/
noncomputable def Yba.pinned : Pinned := { name := "ybulkouy", sum := "3a2bb3dca464b356b08a1f5e5362e2c7da87e1627f0e2bc1d9f08acf04292cd9", checked := Yba.checked }
namespace Rows
def none {H : Type} : Left H := { results := [], args := [] }

/-- 'node.LawS0765BScript': WHATEVER THE INPUT: true; the input reads as it did. -/
def lawS0765BScriptSpec : ChangeSpec := { name := "lawS0765BScript", fn := fun _ => fun
  | [d] => { results := [.lit (.bool true)], args := [d] }
  | _ => none }
def lawS0765BScriptRow : OpenClaim := { program := "ybulkouy", sum := "3a2bb3dca464b356b08a1f5e5362e2c7da87e1627f0e2bc1d9f08acf04292cd9", func := "polog.example/polog/node.LawS0765BScript", spec := "lawS0765BScript", apart := false }
def LawS0765BScriptSaid : Prop := lawS0765BScriptRow.holds Yba.pinned (OpenSpec.ofChange lawS0765BScriptSpec)

/-- ITS FALSE NEIGHBOUR: 'it returns false'. Refute it at one input. -/
def lawS0765BScriptWrong : ChangeSpec := { name := "lawS0765BScript", fn := fun _ => fun
  | [d] => { results := [.lit (.bool false)], args := [d] }
  | _ => none }
def LawS0765BScriptWrongFalsely : Prop := lawS0765BScriptRow.holds Yba.pinned (OpenSpec.ofChange lawS0765BScriptWrong)

end Rows
end Go.Proofs.Ybulkouy
