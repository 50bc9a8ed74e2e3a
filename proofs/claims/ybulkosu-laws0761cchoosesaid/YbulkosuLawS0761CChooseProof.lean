/-
  The proof of Rows.LawS0761CChooseSaid. The walk is in YbulkosuChooseLaw.
-/
import Derived.Test.YbulkosuChooseLaw
import Derived.Test.YbulkosuOpen
import Derived.WalkKit
import Derived.ProofKit
import Derived.OpenShut
import Derived.ChangeOld
import Derived.Below
import Derived.Carry
namespace Go.Proofs.Ybulkosu.lawS0761CChoose
open Go.ChangeShapes Go.WideShapes Go.ChangeAt Go.RowKit

theorem own : ownKnob Yba.prog.godebug = none := by kernel_rfl
theorem laidOut : laidOutB Yba.prog = true := by kernel_rfl
theorem cells45 : Yba.prog.cellsOf 45 = 4 := by kernel_rfl
theorem cells3 : Yba.prog.cellsOf 3 = 1 := by kernel_rfl
theorem cells4 : Yba.prog.cellsOf 4 = 1 := by kernel_rfl
theorem cells5 : Yba.prog.cellsOf 5 = 1 := by kernel_rfl

theorem walk_none (s : Int) (a : Option Addr) (cap : Nat) (w : World) :
    Calls Yba.prog 5 #[.int .u8 s, .slice a 0 cap] w fun e w' => e = .returned (.bool true) ∧ Below w.heap.size w w' := by
  go_enter Yba.func5, Yba.ntmps5
  go_wp2
  go_ret
  exact ⟨rfl, Below.refl _ _⟩

theorem walk_many (s : Int) (a : Option Addr) (n cap : Nat) (h : 1024 < n) (w : World) :
    Calls Yba.prog 5 #[.int .u8 s, .slice a n cap] w fun e w' => e = .returned (.bool true) ∧ Below w.heap.size w w' := by
  have g0 : ((n : Int) == 0) = false := beq_eq_false_iff_ne.2 (by omega)
  have g1 : decide ((1024 : Int) < (n : Int)) = true := by simp; omega
  go_enter Yba.func5, Yba.ntmps5
  go_wp2
  go_ret
  exact ⟨rfl, Below.refl _ _⟩

set_option maxRecDepth 100000 in
theorem ds_of {H : Type} {enc : TypeId × Value → H} {W : World} {a0 : Option Addr} {n cap : Nat} {d : DataW H} {p : List MemPlace} (h : DataW.Trod enc Yba.prog W 0 (fun _ => true) true 50 (.slice a0 n cap) d p) (hn : 0 < n) :
    ∃ age ex vict lk, Choose.Ds W a0 n age ex vict lk := by
  obtain ⟨fuel, hf⟩ := h
  obtain ⟨b, off, rfl, hb, hx⟩ := Opn.open_structs Yba.underlying50 Yba.underlying45 (by rw [cells45]; omega) hf hn
  have each : ∀ i, i < n → ∃ q : Int × Int × Bool × Int, W.cell? ⟨b, off + i * 4, none⟩ = some (.int .i64 q.1) ∧ W.cell? ⟨b, off + i * 4 + 1, none⟩ = some (.int .i64 q.2.1) ∧ W.cell? ⟨b, off + i * 4 + 2, none⟩ = some (.bool q.2.2.1) ∧
      W.cell? ⟨b, off + i * 4 + 3, none⟩ = some (.int .u8 q.2.2.2) ∧ (0 ≤ q.2.2.2 ∧ q.2.2.2 ≤ 255) := by
    intro i hi
    obtain ⟨cs, k, xs, hl, hc, hxl, hfd⟩ := hx i hi
    rw [cells45] at hl hc
    match cs, hl, xs, hxl with
    | [v0, v1, v2, v3], _, [y0, y1, y2, y3], _ =>
      have g0 := hfd 0 _ rfl
      have g1 := hfd 1 _ rfl
      have g2 := hfd 2 _ rfl
      have g3 := hfd 3 _ rfl
      simp [cells3, cells4, cells5] at g0 g1 g2 g3
      obtain ⟨x0, e0, _, _⟩ := DataW.trod_int Yba.underlying3 g0
      obtain ⟨x1, e1, _, _⟩ := DataW.trod_int Yba.underlying3 g1
      obtain ⟨x2, e2, _⟩ := DataW.trod_bool Yba.underlying4 g2
      obtain ⟨x3, e3, _, w3⟩ := DataW.trod_int Yba.underlying5 g3
      simp at e0 e1 e2 e3
      subst e0 e1 e2 e3
      exact ⟨(x0, x1, x2, x3), by simpa using hc 0 (by omega), by simpa using hc 1 (by omega), by simpa using hc 2 (by omega), by simpa using hc 3 (by omega), bounds_u8 w3⟩
  obtain ⟨q, hq⟩ := Deep.choose_lt each
  exact ⟨fun i => (q i).1, fun i => (q i).2.1, fun i => (q i).2.2.1, fun i => (q i).2.2.2, fun _ => ⟨b, off, rfl, hb, fun i hi => ⟨(hq i hi).1, (hq i hi).2.1, (hq i hi).2.2.1, (hq i hi).2.2.2.1⟩⟩, fun i hi => (hq i hi).2.2.2.2⟩

set_option maxRecDepth 100000 in
theorem lifted (os : Os) (started : os.Started) (H : Type) (enc : TypeId × Value → H) :
    ReturnsInHanded {} Yba.checked os 5 .any (Rows.lawS0761CChooseSpec.pre6 enc Yba.prog Yba.f5 Rows.lawS0761CChooseRow.domain false) (Rows.lawS0761CChooseSpec.post enc Yba.prog Yba.f5 false true false false) := by
  refine returnsInHanded_of_change (C := Yba.checked) own started (by kernel_rfl) Yba.func5
    (ChangeSpec.witness6 (enc := enc) (C := Yba.checked) false ⟨#[], #[.int .u8 0, .slice none 0 0], []⟩ 8 (by kernel_rfl) (by kernel_rfl) (by kernel_rfl) (by kernel_rfl)) ?_
  intro W base args ds gs before hval0 hW hcnd _
  have hval : ∀ (j : Nat) t v, Yba.f5.params[j]? = some t → args[j]? = some v → Value.okWide Yba.prog W .any base t v := hval0
  have hW' := hW
  obtain ⟨p, q, hA0, hV, rfl, hfz, hnd⟩ := hW
  have hA : DataW.TrodAll enc Yba.prog W 0 (fun _ => true) true Yba.f5.params.toList args.toList ds p := hA0
  rw [Yba.params5] at hA hval
  obtain ⟨v0, v1, d0, d1, p0, p1, rfl, rfl, rfl, h0, h1⟩ := trodAll_two hA
  obtain ⟨rfl, rfl⟩ := trodVars_none hV
  obtain ⟨a0, rfl, rfl, rfl, w0⟩ := open_int Yba.underlying5 (hval 0 5 v0 rfl rfl) h0
  obtain ⟨a1, len1, cap1, rfl⟩ := okWide_slice Yba.underlying50 (hval 1 50 v1 rfl rfl)
  have k1 := h1
  have lt1 : ∀ x ∈ p1, x.block < W.heap.size := by obtain ⟨m, hm⟩ := k1; exact DataW.trod_lt m _ _ _ hm
  clear hA0 hval0
  have hb := bounds_u8 w0
  have wk : Calls Yba.prog 5 #[.int .u8 a0, .slice a1 len1 cap1] W fun e w' => e = .returned (.bool true) ∧ Below W.heap.size W w' := by
    by_cases hz : len1 = 0
    · subst hz; exact walk_none _ _ _ _
    by_cases hn : 1024 < len1
    · exact walk_many _ _ _ _ hn _
    · obtain ⟨age, ex, vict, lk, hD⟩ := ds_of h1 (by omega)
      exact Choose.law_walk a0 hb.1 hb.2 a1 len1 cap1 age ex vict lk W hD (by omega) (by omega)
  refine wk.mono fun e W' ⟨he, bel⟩ => ?_
  subst he
  exact ⟨_, rfl, _, _, _, [], _, [], hW', trodAll_mk1 (shut_bool Yba.underlying4 _), trodAll_mk2 (shut_int Yba.underlying5 w0) (Below.trod laidOut (by kernel_rfl) (of_decide_eq_true (by kernel_rfl)) k1 bel lt1), rfl, bel.frame _, fun h => by cases h⟩

theorem over : Rows.lawS0761CChooseRow.holds Yba.pinned (OpenSpec.ofChange Rows.lawS0761CChooseSpec) :=
  OpenClaim.holds_of_wide 5 Yba.f5 rfl rfl rfl rfl rfl rfl rfl ⟨rfl, rfl, rfl, rfl, rfl⟩ rfl rfl rfl rfl rfl (by kernel_rfl) Yba.func5 (by kernel_rfl)
    (of_decide_eq_true (by kernel_rfl)) (by unfold Func.isWrapper; first | (rw [if_pos (by decide +kernel)]; kernel_rfl) | (rw [if_neg (by decide +kernel)]; exact ⟨rfl, rfl⟩))
    (fun os started H enc _ => lifted os started H enc)

theorem proved : Rows.LawS0761CChooseSaid :=
  over
#print axioms proved
end Go.Proofs.Ybulkosu.lawS0761CChoose
