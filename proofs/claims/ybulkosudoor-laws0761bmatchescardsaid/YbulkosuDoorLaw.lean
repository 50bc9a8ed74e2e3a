/-
  The proof of Rows.LawS0761BMatchesCardSaid: the row, then the tied card.
-/
import Derived.Test.YbulkosuDoorWalk
import Derived.Test.YbulkosuDoorOpen
import Derived.Test.YbulkosuDoorTie
import Derived.Test.YbulkosuDoorCards
import Derived.ProofKit
import Derived.LaidMore
import Derived.OpenShut
import Derived.OpenVars
import Derived.ChangeOld
import Derived.Below
import Derived.Carry
import Derived.Stop.Joined
import Derived.SevenTiedAt
namespace Go.Proofs.YbulkosuDoor.lawS0761BMatches
open Go.ChangeShapes Go.WideShapes Go.ChangeAt Go.WideMaps Go.WideElems Go.RowKit

theorem own : ownKnob Ybad.prog.godebug = none := by kernel_rfl
theorem laidOut : laidOutB Ybad.prog = true := by kernel_rfl
theorem cells28 : Ybad.prog.cellsOf 28 = 3 := by kernel_rfl
theorem cells5 : Ybad.prog.cellsOf 5 = 1 := by kernel_rfl
theorem cells9 : Ybad.prog.cellsOf 9 = 1 := by kernel_rfl
theorem gOps : Ybad.prog.globalNamed (Rows.lawS0761BMatchesSpec.vars.headD "") = some 0 := by kernel_rfl
theorem tOps : (Ybad.prog.globals[0]?).map (·.type) = some 44 := by kernel_rfl
theorem law : KeyLaw Ybad.prog 9 := string_law Ybad.underlying9

/-- too many tokens, or too many steps: true at once -/
theorem walk_many (a0 : Option Addr) (n cap0 : Nat) (pos : Int) (a2 : Option Addr) (m cap2 : Nat) (w : World) (h : 1024 < n ∨ 1024 < m) :
    Calls Ybad.prog 3 #[.slice a0 n cap0, .int .u64 pos, .slice a2 m cap2] w fun e w' => e = .returned (.bool true) ∧ Below w.heap.size w w' := by
  by_cases hn : 1024 < n
  · have g1 : decide ((1024 : Int) < (n : Int)) = true := by simp; omega
    clear h
    go_enter Ybad.func3, Ybad.ntmps3
    go_wp2
    go_ret
    exact ⟨rfl, Below.refl _ _⟩
  · have g1 : decide ((1024 : Int) < (n : Int)) = false := by simp; omega
    have g2 : decide ((1024 : Int) < (m : Int)) = true := by simp; omega
    clear h
    go_enter Ybad.func3, Ybad.ntmps3
    go_wp2
    go_ret
    exact ⟨rfl, Below.refl _ _⟩

/-- what the listed map says of a word -/
theorem atOps (s : ByteArray) : ((Rows.laid_example_com_waitsfor_waitsfor_internal_schedule_operators : DataW Unit).atKey (.string s.data.toList) .nil = .lit (.int .i64 (Fns.opF s))) ∨
    ((Rows.laid_example_com_waitsfor_waitsfor_internal_schedule_operators : DataW Unit).atKey (.string s.data.toList) .nil = .nil ∧ Fns.opF s = 0) := by
  unfold Fns.opF
  rw [ByteArray.toList_eq]
  generalize s.data.toList = l
  by_cases h1 : l = [42]
  · subst h1; exact .inl rfl
  by_cases h2 : l = [43]
  · subst h2; exact .inl rfl
  by_cases h3 : l = [45]
  · subst h3; exact .inl rfl
  refine .inr ⟨?_, by simp [h1, h2, h3]⟩
  have e1 : ([42] == l) = false := beq_eq_false_iff_ne.2 fun e => h1 e.symm
  have e2 : ([43] == l) = false := beq_eq_false_iff_ne.2 fun e => h2 e.symm
  have e3 : ([45] == l) = false := beq_eq_false_iff_ne.2 fun e => h3 e.symm
  simp [Rows.laid_example_com_waitsfor_waitsfor_internal_schedule_operators, DataW.atKey, Lit.sameKey, List.find?, e1, e2, e3]

theorem of_laid {W : World} (h : laidMetH Ybad.prog Rows.lawS0761BMatchesRow.laid W) : ∃ bm, 0 < W.heap.size ∧ W.cell? ⟨0, 0, none⟩ = some (.map (some bm)) ∧
    ∀ w' s, s.size ≤ maxLen → Below W.heap.size W w' → (Instr.lookup 44 (.map (some bm)) (.string s) false).run Ybad.prog w' = .ok (.int .i64 (Fns.opF s)) w' := by
  rw [MakeChecks.laidMetH_plain _ _ _ (by kernel_rfl)] at h
  obtain ⟨ps, ⟨g0, t0, cs0, f0, p0, q0, hg0, ht0, hv0, hd0, _, _⟩, _, _⟩ := h
  obtain rfl := Option.some.inj (gOps.symm.trans hg0)
  obtain rfl := Option.some.inj (tOps.symm.trans ht0)
  rcases open_map Ybad.underlying44 hd0 with ⟨_, hx⟩ | ⟨bm, es, clock, m, rfl, hcs, hb, _, F, hx⟩
  · simp [Rows.laid_example_com_waitsfor_waitsfor_internal_schedule_operators] at hx
  simp only [Prod.mk.injEq] at hx
  have hcell : W.cell? ⟨0, 0, none⟩ = some (.map (some bm)) := by
    have := World.var?_cell hg0 hv0 0
    rw [Array.eq_one_of_toList hcs] at this
    simpa using this
  have hlt : bm < W.heap.size := (Array.getElem?_eq_some_iff.1 hb).1
  refine ⟨bm, block_lt_of_cell hcell, hcell, fun w' s hs hbel => ?_⟩
  have zero : (zeroValue 33).run Ybad.prog w' = .ok (.int .i64 0) w' := by kernel_rfl
  have hb' : w'.heap[bm]? = some (.map es clock) := (hbel.block bm hlt).trans hb
  rcases fit_lookup (w := w') law Ybad.underlying44 zero hb' F (keyOf_string_mk (s := s) Ybad.underlying9 hs) with ⟨hrun, hat⟩ | ⟨v, y, hrun, hRv, hat, _⟩
  · have := hat .nil
    rw [← hx.1] at this
    rcases atOps s with e | ⟨_, e⟩
    · rw [e] at this; cases this
    · rw [e]; exact hrun
  · obtain ⟨r, rfl, rfl, _⟩ := elemAt_int Ybad.underlying33 hRv
    have := hat .nil
    rw [← hx.1] at this
    rcases atOps s with e | ⟨e, _⟩
    · rw [e] at this
      cases this
      exact hrun
    · rw [e] at this; cases this

theorem door_met (os : Os) (args : Array Value) : laidMetH Ybad.prog Rows.lawS0761BMatchesRow.laid ((World.doorLaid Ybad.prog 400 os).forCall (fun _ _ => 0) ⟨#[], args, []⟩).memory :=
  laidMetH_of_parts3 (fuel := 8) (laidMet_of_run' 8 (by kernel_rfl) (by kernel_rfl)) (by kernel_rfl) (by kernel_rfl)

/-- the arguments, opened -/
theorem toks_of {H : Type} {enc : TypeId × Value → H} {W : World} {a0 : Option Addr} {n cap : Nat} {d : DataW H} {p : List MemPlace} (h : DataW.Trod enc Ybad.prog W 0 (fun _ => true) true 22 (.slice a0 n cap) d p) :
    ∃ kd sy tx, Fns.Toks W a0 n kd sy tx := by
  obtain ⟨fuel, hf⟩ := h
  by_cases hn : n = 0
  · subst hn
    exact ⟨fun _ => 0, fun _ => 0, fun _ => ByteArray.empty, fun h => by omega, fun i hi => by omega, fun i hi => by omega, fun i hi => by omega⟩
  obtain ⟨b, off, rfl, hb, hx⟩ := Opn.open_structs Ybad.underlying22 Ybad.underlying28 (by rw [cells28]; omega) hf (by omega)
  have each : ∀ i, i < n → ∃ q : Int × Int × ByteArray, W.cell? ⟨b, off + i * 3, none⟩ = some (.int .u8 q.1) ∧ W.cell? ⟨b, off + i * 3 + 1, none⟩ = some (.int .u8 q.2.1) ∧ W.cell? ⟨b, off + i * 3 + 2, none⟩ = some (.string q.2.2) ∧
      (0 ≤ q.1 ∧ q.1 ≤ 255) ∧ (0 ≤ q.2.1 ∧ q.2.1 ≤ 255) ∧ q.2.2.size ≤ maxLen := by
    intro i hi
    obtain ⟨cs, k, xs, hl, hc, hxl, hfd⟩ := hx i hi
    rw [cells28] at hl hc
    match cs, hl, xs, hxl with
    | [v0, v1, v2], _, [y0, y1, y2], _ =>
      have g0 := hfd 0 _ rfl
      have g1 := hfd 1 _ rfl
      have g2 := hfd 2 _ rfl
      simp [cells5, cells9] at g0 g1 g2
      obtain ⟨x0, e0, _, w0⟩ := DataW.trod_int Ybad.underlying5 g0
      obtain ⟨x1, e1, _, w1⟩ := DataW.trod_int Ybad.underlying5 g1
      obtain ⟨x2, e2, _, w2⟩ := DataW.trod_string Ybad.underlying9 g2
      simp at e0 e1 e2
      subst e0 e1 e2
      exact ⟨(x0, x1, x2), by simpa using hc 0 (by omega), by simpa using hc 1 (by omega), by simpa using hc 2 (by omega), bounds_u8 w0, bounds_u8 w1, w2⟩
  obtain ⟨q, hq⟩ := Deep.choose_lt each
  exact ⟨fun i => (q i).1, fun i => (q i).2.1, fun i => (q i).2.2, fun _ => ⟨b, off, rfl, hb, fun i hi => ⟨(hq i hi).1, (hq i hi).2.1, (hq i hi).2.2.1⟩⟩, fun i hi => (hq i hi).2.2.2.1, fun i hi => (hq i hi).2.2.2.2.1, fun i hi => (hq i hi).2.2.2.2.2⟩

theorem ops_of {H : Type} {enc : TypeId × Value → H} {W : World} {a0 : Option Addr} {n cap : Nat} {d : DataW H} {p : List MemPlace} (h : DataW.Trod enc Ybad.prog W 0 (fun _ => true) true 24 (.slice a0 n cap) d p) :
    ∃ op, Fns.Ops W a0 n op := by
  obtain ⟨fuel, hf⟩ := h
  rcases open_ints Ybad.underlying24 Ybad.underlying3 (by kernel_rfl) hf with ⟨hcs, _⟩ | ⟨x, l, c, zs, hcs, _, hl, hm, hz, _, hcell, hwz⟩
  · simp [Value.cells] at hcs
    obtain ⟨rfl, rfl, rfl⟩ := hcs
    exact ⟨fun _ => 0, ⟨fun h => by omega⟩⟩
  · simp [Value.cells] at hcs
    obtain ⟨rfl, rfl, rfl⟩ := hcs
    have hz' : zs.length = cap := by simpa using hz
    refine ⟨fun i => zs.getD i 0, ⟨fun hp => ?_⟩⟩
    obtain ⟨b, off, rfl, hc⟩ := ints_at hcell (by omega)
    exact ⟨b, off, rfl, block_lt_of_cell (hc 0 (by omega)), fun i hi => hc i (by omega)⟩

set_option maxRecDepth 100000 in
theorem lifted (os : Os) (started : os.Started) (H : Type) (enc : TypeId × Value → H) :
    ReturnsInHanded {} Ybad.checked os 3 .any (fun w args => (Rows.lawS0761BMatchesSpec.pre enc Ybad.prog Ybad.f3 [] false w args ∧ laidMetH Ybad.prog Rows.lawS0761BMatchesRow.laid w) ∧ sizedMet enc Ybad.prog Ybad.f3 (OpenSpec.ofChange Rows.lawS0761BMatchesSpec) false w args)
      (Rows.lawS0761BMatchesSpec.post enc Ybad.prog Ybad.f3 false true false false) := by
  refine returnsInHanded_of_change_and (C := Ybad.checked) (X := fun w _ => laidMetH Ybad.prog Rows.lawS0761BMatchesRow.laid w) (fun _ _ _ hh h => h.of_heap hh) own started (by kernel_rfl) Ybad.func3
    (ChangeSpec.witness_shaped (enc := enc) (C := Ybad.checked) (os := os) (X := fun w _ => laidMetH Ybad.prog Rows.lawS0761BMatchesRow.laid w) false (World.doorLaid Ybad.prog 400 os) #[.slice none 0 0, .int .u64 0, .slice none 0 0] 8 rfl (World.shaped_of_RefB (by kernel_rfl) (by kernel_rfl)) (by kernel_rfl) (by kernel_rfl) (by kernel_rfl) (door_met os _)) ?_
  intro W base args ds gs before hval0 hW _ _ hL _
  have hval : ∀ (j : Nat) t v, Ybad.f3.params[j]? = some t → args[j]? = some v → Value.okWide Ybad.prog W .any base t v := hval0
  have hW' := hW
  obtain ⟨p, q, hA0, hV, rfl, hfz, hnd⟩ := hW
  have hV0 := hV
  have hA : DataW.TrodAll enc Ybad.prog W 0 (fun _ => true) true Ybad.f3.params.toList args.toList ds p := hA0
  rw [Ybad.params3] at hA hval
  obtain ⟨v0, v1, v2, d0, d1, d2, p0, p1, p2, rfl, rfl, rfl, h0, h1, h2⟩ := trodAll_three hA
  obtain ⟨_, _, _, _, g1, _, rfl, _, _, _, _, _⟩ := trodVars_one hV
  obtain ⟨a0, len0, cap0, rfl⟩ := okWide_slice Ybad.underlying22 (hval 0 22 v0 rfl rfl)
  have k0 := h0
  have lt0 : ∀ x ∈ p0, x.block < W.heap.size := by obtain ⟨m, hm⟩ := k0; exact DataW.trod_lt m _ _ _ hm
  obtain ⟨kd, sy, tx, hT⟩ := toks_of h0
  obtain ⟨a1, rfl, rfl, rfl, w1⟩ := open_int Ybad.underlying23 (hval 1 23 v1 rfl rfl) h1
  obtain ⟨a2, len2, cap2, rfl⟩ := okWide_slice Ybad.underlying24 (hval 2 24 v2 rfl rfl)
  have k2 := h2
  have lt2 : ∀ x ∈ p2, x.block < W.heap.size := by obtain ⟨m, hm⟩ := k2; exact DataW.trod_lt m _ _ _ hm
  obtain ⟨op, hO⟩ := ops_of h2
  obtain ⟨bm, hg0, hg, hl⟩ := of_laid hL
  clear hA0 hval0
  have hb := bounds_u64 w1
  have wk : Calls Ybad.prog 3 #[.slice a0 len0 cap0, .int .u64 a1, .slice a2 len2 cap2] W fun e w' => e = .returned (.bool true) ∧ Below W.heap.size W w' := by
    by_cases hn : 1024 < len0 ∨ 1024 < len2
    · exact walk_many _ _ _ _ _ _ _ _ hn
    · exact Fns.law_walk a0 len0 cap0 kd sy tx a1 hb.1 (by omega) a2 len2 cap2 op W hT hO (by omega) (by omega) bm hg0 hg hl
  refine wk.mono fun e W' ⟨he, bel⟩ => ?_
  subst he
  exact ⟨_, rfl, _, _, _, [], _, _, hW', trodAll_mk1 (shut_bool Ybad.underlying4 _), trodAll_mk3 (Below.trod laidOut (by kernel_rfl) (of_decide_eq_true (by kernel_rfl)) k0 bel lt0) (shut_int Ybad.underlying23 w1) (Below.trod laidOut (by kernel_rfl) (of_decide_eq_true (by kernel_rfl)) k2 bel lt2),
    Below.trodVars laidOut bel (by kernel_rfl) hV0, bel.frame _, fun h => by cases h⟩

theorem row_holds : Rows.LawS0761BMatchesSaid :=
  OpenClaim.holds_of_wide 3 Ybad.f3 rfl rfl rfl rfl rfl rfl rfl ⟨rfl, rfl, rfl, rfl, rfl⟩ rfl rfl rfl rfl rfl (by kernel_rfl) Ybad.func3 (by kernel_rfl)
    (of_decide_eq_true (by kernel_rfl)) (by unfold Func.isWrapper; first | (rw [if_pos (by decide +kernel)]; kernel_rfl) | (rw [if_neg (by decide +kernel)]; exact ⟨rfl, rfl⟩))
    (fun os started H enc _ => lifted os started H enc)

theorem proved : Rows.LawS0761BMatchesCardSaid :=
  Claim7.holds_tied_plain_at .later [] [.mapped] true (true, "e74ae3b1422b35db45cc59c586f9be0690d8d81c73e48496104792c82a57fbcd") false
    row_holds (fun _ h => by cases h) (by kernel_rfl) (fun _ h => by cases h) lawS0761BMatches_row_tie rfl ⟨rfl, rfl⟩ (by kernel_rfl) rfl
    (fun f fn hf hfn => by
      obtain rfl : f = 3 := Option.some.inj ((show Ybad.prog.funcNamed Rows.lawS0761BMatchesRow.func = some 3 by kernel_rfl).symm.trans hf) |>.symm
      obtain rfl : fn = Ybad.f3 := (Option.some.inj (Ybad.func3.symm.trans hfn)).symm
      exact ⟨by kernel_rfl, fun j t ht => by
        rw [Ybad.params3] at ht
        have hm : t ∈ [22, 23, 24] := by simpa using Array.mem_of_getElem? ht
        have hall : ([22, 23, 24].all fun u => !Ybad.prog.wantsStandIn u) = true := by kernel_rfl
        exact (show Ybad.prog.wantsStandIn t = false by simpa using List.all_eq_true.1 hall t hm)⟩)
    (by kernel_rfl)
#print axioms proved
end Go.Proofs.YbulkosuDoor.lawS0761BMatches
