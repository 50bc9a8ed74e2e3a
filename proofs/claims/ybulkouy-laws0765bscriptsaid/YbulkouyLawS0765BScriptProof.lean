/-
  The proof of Rows.LawS0765BScriptSaid. The walk is in YbulkouyWalk.
-/
import Derived.Test.YbulkouyWalk
import Derived.Test.YbulkouyOpen
import Derived.WalkKit
import Derived.ProofKit
import Derived.OpenShut
import Derived.ChangeOld
import Derived.Below
import Derived.Carry
namespace Go.Proofs.Ybulkouy.lawS0765BScript
open Go.ChangeShapes Go.WideShapes Go.ChangeAt Go.RowKit

theorem own : ownKnob Yba.prog.godebug = none := by kernel_rfl
theorem laidOut : laidOutB Yba.prog = true := by kernel_rfl
theorem cells29 : Yba.prog.cellsOf 29 = 2 := by kernel_rfl
theorem cells3 : Yba.prog.cellsOf 3 = 1 := by kernel_rfl
theorem cells5 : Yba.prog.cellsOf 5 = 1 := by kernel_rfl

theorem walk_many (a : Option Addr) (n cap : Nat) (h : 1024 < n) (w : World) :
    Calls Yba.prog 3 #[.slice a n cap] w fun e w' => e = .returned (.bool true) ∧ Below w.heap.size w w' := by
  have g1 : decide ((1024 : Int) < (n : Int)) = true := by simp; omega
  go_enter Yba.func3, Yba.ntmps3
  go_wp2
  go_ret
  exact ⟨rfl, Below.refl _ _⟩

set_option maxRecDepth 100000 in
theorem ops_of {H : Type} {enc : TypeId × Value → H} {W : World} {a0 : Option Addr} {n cap : Nat} {d : DataW H} {p : List MemPlace} (h : DataW.Trod enc Yba.prog W 0 (fun _ => true) true 22 (.slice a0 n cap) d p) :
    ∃ kd sz, Kt.Ops W a0 n kd sz := by
  obtain ⟨fuel, hf⟩ := h
  by_cases hn : n = 0
  · subst hn
    exact ⟨fun _ => 0, fun _ => 0, fun h => by omega, fun i hi => by omega⟩
  obtain ⟨b, off, rfl, hb, hx⟩ := Opn.open_structs Yba.underlying22 Yba.underlying29 (by rw [cells29]; omega) hf (by omega)
  have each : ∀ i, i < n → ∃ q : Int × Int, W.cell? ⟨b, off + i * 2, none⟩ = some (.int .u8 q.1) ∧ W.cell? ⟨b, off + i * 2 + 1, none⟩ = some (.int .i64 q.2) ∧ (0 ≤ q.1 ∧ q.1 ≤ 255) := by
    intro i hi
    obtain ⟨cs, k, xs, hl, hc, hxl, hfd⟩ := hx i hi
    rw [cells29] at hl hc
    match cs, hl, xs, hxl with
    | [v0, v1], _, [y0, y1], _ =>
      have g0 := hfd 0 _ rfl
      have g1 := hfd 1 _ rfl
      simp [cells3, cells5] at g0 g1
      obtain ⟨x0, e0, _, w0⟩ := DataW.trod_int Yba.underlying5 g0
      obtain ⟨x1, e1, _, _⟩ := DataW.trod_int Yba.underlying3 g1
      simp at e0 e1
      subst e0 e1
      exact ⟨(x0, x1), by simpa using hc 0 (by omega), by simpa using hc 1 (by omega), bounds_u8 w0⟩
  obtain ⟨q, hq⟩ := Deep.choose_lt each
  exact ⟨fun i => (q i).1, fun i => (q i).2, fun _ => ⟨b, off, rfl, hb, fun i hi => ⟨(hq i hi).1, (hq i hi).2.1⟩⟩, fun i hi => (hq i hi).2.2⟩

set_option maxRecDepth 100000 in
theorem lifted (os : Os) (started : os.Started) (H : Type) (enc : TypeId × Value → H) :
    ReturnsInHanded {} Yba.checked os 3 .any (Rows.lawS0765BScriptSpec.pre6 enc Yba.prog Yba.f3 Rows.lawS0765BScriptRow.domain false) (Rows.lawS0765BScriptSpec.post enc Yba.prog Yba.f3 false true false false) := by
  refine returnsInHanded_of_change (C := Yba.checked) own started (by kernel_rfl) Yba.func3
    (ChangeSpec.witness6 (enc := enc) (C := Yba.checked) false ⟨#[], #[.slice none 0 0], []⟩ 8 (by kernel_rfl) (by kernel_rfl) (by kernel_rfl) (by kernel_rfl)) ?_
  intro W base args ds gs before hval0 hW hcnd _
  have hval : ∀ (j : Nat) t v, Yba.f3.params[j]? = some t → args[j]? = some v → Value.okWide Yba.prog W .any base t v := hval0
  have hW' := hW
  obtain ⟨p, q, hA0, hV, rfl, hfz, hnd⟩ := hW
  have hA : DataW.TrodAll enc Yba.prog W 0 (fun _ => true) true Yba.f3.params.toList args.toList ds p := hA0
  rw [Yba.params3] at hA hval
  obtain ⟨v0, d0, rfl, rfl, h0⟩ := trodAll_one hA
  obtain ⟨rfl, rfl⟩ := trodVars_none hV
  obtain ⟨a0, len0, cap0, rfl⟩ := okWide_slice Yba.underlying22 (hval 0 22 v0 rfl rfl)
  have k0 := h0
  have lt0 : ∀ x ∈ p, x.block < W.heap.size := by obtain ⟨m, hm⟩ := k0; exact DataW.trod_lt m _ _ _ hm
  clear hA0 hval0
  have wk : Calls Yba.prog 3 #[.slice a0 len0 cap0] W fun e w' => e = .returned (.bool true) ∧ Below W.heap.size W w' := by
    by_cases hn : 1024 < len0
    · exact walk_many _ _ _ hn _
    · obtain ⟨kd, sz, hO⟩ := ops_of h0
      exact Kt.law_walk a0 len0 cap0 kd sz W hO (by omega)
  refine wk.mono fun e W' ⟨he, bel⟩ => ?_
  subst he
  exact ⟨_, rfl, _, _, _, [], _, [], hW', trodAll_mk1 (shut_bool Yba.underlying4 _), trodAll_mk1 (Below.trod laidOut (by kernel_rfl) (of_decide_eq_true (by kernel_rfl)) k0 bel lt0), rfl, bel.frame _, fun h => by cases h⟩

theorem over : Rows.lawS0765BScriptRow.holds Yba.pinned (OpenSpec.ofChange Rows.lawS0765BScriptSpec) :=
  OpenClaim.holds_of_wide 3 Yba.f3 rfl rfl rfl rfl rfl rfl rfl ⟨rfl, rfl, rfl, rfl, rfl⟩ rfl rfl rfl rfl rfl (by kernel_rfl) Yba.func3 (by kernel_rfl)
    (of_decide_eq_true (by kernel_rfl)) (by unfold Func.isWrapper; first | (rw [if_pos (by decide +kernel)]; kernel_rfl) | (rw [if_neg (by decide +kernel)]; exact ⟨rfl, rfl⟩))
    (fun os started H enc _ => lifted os started H enc)

theorem proved : Rows.LawS0765BScriptSaid :=
  over
#print axioms proved
end Go.Proofs.Ybulkouy.lawS0765BScript
