/-
  The proof of Rows.LawS0760AStrictSaid. The frame is the kit's shell; the walk is ours.
-/
import Derived.Test.YbulkosgMine
import Derived.WalkKit
import Derived.ProofKit
import Derived.OpenShut
import Derived.ShutString
namespace Go.Proofs.Ybulkosg.lawS0760AStrict
open Go.ChangeShapes Go.WideShapes Go.ChangeAt Go.RowKit
open Go.ChangeMaps (open_string shut_string)
set_option linter.unusedVariables false      -- a walk need not use every 'w<i>' (that an integer argument fits its kind)

theorem own : ownKnob Yba.prog.godebug = none := by kernel_rfl

/-! ### STEP 1: THE WALK: the Go text returns true. 'Grown w w'': the world has at most new blocks (Derived/RowKit3.lean). Part the cases AHEAD of 'go_enter' where a test parts the walk; take each callee by a contract of your own. -/
theorem self (a : Bool) (n h : Int) : Mine.bef a a n n h h = false := by
  cases a <;> simp [Mine.bef]

theorem plain (a0 a1 : Bool) (a2 a3 a4 a5 : Int) : (Mine.bef a0 a1 a2 a3 a4 a5 && Mine.bef a1 a0 a3 a2 a5 a4) = false ∧
    ((!Mine.bef a0 a1 a2 a3 a4 a5 && !Mine.bef a1 a0 a3 a2 a5 a4) == ((a0 == a1) && ((a0 && (a2 == a3)) || (!a0 && (a4 == a5))))) = true := by
  cases a0 <;> cases a1 <;> simp only [Mine.bef] <;> simp
  · refine ⟨by omega, ?_⟩
    rw [Bool.eq_iff_iff]; simp; omega
  · refine ⟨by omega, ?_⟩
    rw [Bool.eq_iff_iff]; simp; omega

theorem core (a0 : Bool) (a1 : Bool) (a2 : Int) (a3 : Int) (a4 : Int) (a5 : Int) (x y : Bool) (hx : Hid (Mine.bef a0 a1 a2 a3 a4 a5 = x)) (hy : Hid (Mine.bef a1 a0 a3 a2 a5 a4 = y))
    (hxy : (x && y) = false) (hfin : Hid (((!x && !y) == ((a0 == a1) && ((a0 && (a2 == a3)) || (!a0 && (a4 == a5))))) = true)) (w : World) :
    Calls Yba.prog 4 #[.bool a0, .bool a1, .int .u64 a2, .int .u64 a3, .int .i64 a4, .int .i64 a5] w fun e w' => e = .returned (.bool true) ∧ Grown w w' := by
  go_enter Yba.func4, Yba.ntmps4
  go_wp2_with fail
  refine (Mine.mk a0 a2 a4 0 0 _).mono ?_
  rintro e w1 ⟨cs, hcs, rfl, g1⟩
  go_wp2_with (refine Mine.wpList_store_new rfl 28 _ _ rfl rfl rfl cs rfl 28 _ (by rw [hcs.size]; exact Mine.info28) (by rw [hcs.size]; rfl) hcs.one ?_)
  refine (Mine.mk a1 a3 a5 7 1 _).mono ?_
  rintro e w2 ⟨ds, hds, rfl, g2⟩
  have hc1 : w2.heap[w1.heap.size]? = some (.cells cs 28 (0, 0)) := Mine.gblock g2 (heap_alloc_last w1 _)
  have hc : ∀ o : Obj, (w2.alloc o).heap[w1.heap.size]? = some (.cells cs 28 (0, 0)) := Mine.heap_old hc1
  have Hc : Hid (∀ o : Obj, (w2.alloc o).heap[w1.heap.size]? = some (.cells cs 28 (0, 0))) := hc
  clear hc1 hc
  go_wp2_with (first
    | (refine Mine.wpList_store_new rfl 28 _ _ rfl rfl rfl ds rfl 28 _ (by rw [hds.size]; exact Mine.info28) (by rw [hds.size]; rfl) hds.one ?_)
    | (refine wpList_load_row rfl 28 (.tmp 13) rfl _ rfl 28 cs (0,0) _ (Hc.out _) Yba.underlying28 rfl (by rw [hcs.size]; exact Mine.info28) ?_)
    | (refine wpList_load_row rfl 28 (.tmp 14) rfl _ rfl 28 ds (0,0) _ (heap_alloc_last _ _) Yba.underlying28 rfl (by rw [hds.size]; exact Mine.info28) ?_))
  refine (Mine.before _ _ _ _ _ _ cs ds hcs hds _).mono ?_
  rintro e w3 ⟨rfl, g3⟩
  have gg : Grown w w3 := Mine.gtrans (Mine.gtrans (g1.alloc _ _) (g2.alloc _ _)) g3
  have Ec : Hid (w3.heap[w1.heap.size]? = some (.cells cs 28 (0, 0))) := Mine.gblock g3 (Hc.out _)
  have Ed : Hid (w3.heap[w2.heap.size]? = some (.cells ds 28 (0, 0))) := Mine.gblock g3 (heap_alloc_last _ _)
  rw [hx.out]
  clear g1 g2 g3 Hc
  go_wp2_with (first
    | (refine wpList_load_row rfl 28 (.tmp 13) rfl _ rfl 28 cs (0,0) _ Ec.out Yba.underlying28 rfl (by rw [hcs.size]; exact Mine.info28) ?_)
    | (refine wpList_load_row rfl 28 (.tmp 14) rfl _ rfl 28 ds (0,0) _ Ed.out Yba.underlying28 rfl (by rw [hds.size]; exact Mine.info28) ?_))
  refine (Mine.before _ _ _ _ _ _ ds cs hds hcs _).mono ?_
  rintro e w4 ⟨rfl, g4⟩
  have gg4 : Grown w w4 := Mine.gtrans gg g4
  have Ec4 : Hid (w4.heap[w1.heap.size]? = some (.cells cs 28 (0, 0))) := Mine.gblock g4 Ec.out
  have Ed4 : Hid (w4.heap[w2.heap.size]? = some (.cells ds 28 (0, 0))) := Mine.gblock g4 Ed.out
  rw [hy.out]
  clear gg g4 Ec Ed hx hy
  cases x <;> cases y <;> try (exact absurd hxy (by decide))
  all_goals
    go_wp2_with (first
    | (refine wpList_load_row rfl 28 (.tmp 13) rfl _ rfl 28 cs (0,0) _ Ec4.out Yba.underlying28 rfl (by rw [hcs.size]; exact Mine.info28) ?_)
    | (refine wpList_load_row rfl 28 (.tmp 14) rfl _ rfl 28 ds (0,0) _ Ed4.out Yba.underlying28 rfl (by rw [hds.size]; exact Mine.info28) ?_))
  all_goals
    refine (Mine.before _ _ _ _ _ _ cs cs hcs hcs _).mono ?_
    rintro e w5 ⟨rfl, g5⟩
    have gg5 : Grown w w5 := Mine.gtrans gg4 g5
    have Ec5 : Hid (w5.heap[w1.heap.size]? = some (.cells cs 28 (0, 0))) := Mine.gblock g5 Ec4.out
    have Ed5 : Hid (w5.heap[w2.heap.size]? = some (.cells ds 28 (0, 0))) := Mine.gblock g5 Ed4.out
    rw [self]
    clear gg4 g5 Ec4 Ed4
    go_wp2_with (refine Mine.wpList_load_guarded 28 (.tmp 14) rfl rfl _ rfl 28 ds (0,0) _ Ed5.out Yba.underlying28 rfl (by rw [hds.size]; exact Mine.info28) ?_)
    refine (Mine.before _ _ _ _ _ _ ds ds hds hds _).mono ?_
    rintro e w6 ⟨rfl, g6⟩
    have gg6 : Grown w w6 := Mine.gtrans gg5 g6
    rw [self]
    clear gg5 g6 Ec5 Ed5 hcs hds
  all_goals
    cases a0 <;> cases a1 <;> simp [Hid] at hfin <;> go_wp2
  all_goals
    go_ret
    exact ⟨by simp [hfin], gg6⟩

theorem walk (a0 : Bool) (a1 : Bool) (a2 : Int) (a3 : Int) (a4 : Int) (a5 : Int) (w2 : (Lit.int .u64 a2).wf = true) (w3 : (Lit.int .u64 a3).wf = true) (w4 : (Lit.int .i64 a4).wf = true) (w5 : (Lit.int .i64 a5).wf = true) (w : World) :
    Calls Yba.prog 4 #[.bool a0, .bool a1, .int .u64 a2, .int .u64 a3, .int .i64 a4, .int .i64 a5] w fun e w' => e = .returned (.bool true) ∧ Grown w w' := by
  exact core a0 a1 a2 a3 a4 a5 _ _ rfl rfl (plain ..).1 (plain ..).2 w

/-! ### THE ROW's STEP: WRITTEN OUT: LEAVE IT -/
set_option maxRecDepth 100000 in
theorem lifted (os : Os) (started : os.Started) (H : Type) (enc : TypeId × Value → H) :
    ReturnsInHanded {} Yba.checked os 4 .any (Rows.lawS0760AStrictSpec.pre6 enc Yba.prog Yba.f4 Rows.lawS0760AStrictRow.domain false) (Rows.lawS0760AStrictSpec.post enc Yba.prog Yba.f4 false true false false) := by
  refine returnsInHanded_of_change (C := Yba.checked) own started (by kernel_rfl) Yba.func4
    (ChangeSpec.witness6 (enc := enc) (C := Yba.checked) false ⟨#[], #[.bool false, .bool false, .int .u64 0, .int .u64 0, .int .i64 0, .int .i64 0], []⟩ 8 (by kernel_rfl) (by kernel_rfl) (by kernel_rfl) (by kernel_rfl)) ?_
  intro W base args ds gs before hval0 hW hcnd _
  have hval : ∀ (j : Nat) t v, Yba.f4.params[j]? = some t → args[j]? = some v → Value.okWide Yba.prog W .any base t v := hval0
  have hW' := hW
  obtain ⟨p, q, hA0, hV, rfl, hfz, hnd⟩ := hW
  have hA : DataW.TrodAll enc Yba.prog W 0 (fun _ => true) true Yba.f4.params.toList args.toList ds p := hA0
  rw [Yba.params4] at hA hval
  obtain ⟨v0, vs0, d0, ds0, p0, q0, hargs, rfl, rfl, h0, r0⟩ := trodAll_cons hA
  obtain ⟨v1, vs1, d1, ds1, p1, q1, rfl, rfl, rfl, h1, r1⟩ := trodAll_cons r0
  obtain ⟨v2, vs2, d2, ds2, p2, q2, rfl, rfl, rfl, h2, r2⟩ := trodAll_cons r1
  obtain ⟨v3, vs3, d3, ds3, p3, q3, rfl, rfl, rfl, h3, r3⟩ := trodAll_cons r2
  obtain ⟨v4, vs4, d4, ds4, p4, q4, rfl, rfl, rfl, h4, r4⟩ := trodAll_cons r3
  obtain ⟨v5, vs5, d5, ds5, p5, q5, rfl, rfl, rfl, h5, r5⟩ := trodAll_cons r4
  obtain ⟨rfl, rfl, rfl⟩ := trodAll_nil r5
  obtain rfl : args = #[v0, v1, v2, v3, v4, v5] := by cases args; simp_all
  obtain ⟨rfl, rfl⟩ := trodVars_none hV
  obtain ⟨a0, rfl, rfl, rfl⟩ := open_bool Yba.underlying4 (hval 0 4 v0 rfl rfl) h0
  obtain ⟨a1, rfl, rfl, rfl⟩ := open_bool Yba.underlying4 (hval 1 4 v1 rfl rfl) h1
  obtain ⟨a2, rfl, rfl, rfl, w2⟩ := open_int Yba.underlying22 (hval 2 22 v2 rfl rfl) h2
  obtain ⟨a3, rfl, rfl, rfl, w3⟩ := open_int Yba.underlying22 (hval 3 22 v3 rfl rfl) h3
  obtain ⟨a4, rfl, rfl, rfl, w4⟩ := open_int Yba.underlying3 (hval 4 3 v4 rfl rfl) h4
  obtain ⟨a5, rfl, rfl, rfl, w5⟩ := open_int Yba.underlying3 (hval 5 3 v5 rfl rfl) h5
  clear hA0 hval0
  simp only [List.append_nil] at hW'
  refine (walk a0 a1 a2 a3 a4 a5 w2 w3 w4 w5 W).mono fun e W' ⟨he, hg⟩ => ?_
  subst he
  exact ⟨_, rfl, post_of_same (pa := []) (pv := []) hW' (fun _ _ _ => (trodAll_cons_mk (shut_bool Yba.underlying4 _) trodAll_mk0)) (fun sp _ => (trodAll_cons_mk (shut_bool Yba.underlying4 _) (trodAll_cons_mk (shut_bool Yba.underlying4 _) (trodAll_cons_mk (shut_int Yba.underlying22 w2) (trodAll_cons_mk (shut_int Yba.underlying22 w3) (trodAll_cons_mk (shut_int Yba.underlying3 w4) (trodAll_cons_mk (shut_int Yba.underlying3 w5) trodAll_mk0))))))) (fun _ _ => rfl) rfl
    (hg.frame _) hg.2.1 (ok_one (by kernel_rfl) rfl (okWide_bool_mk Yba.underlying4 _))⟩

theorem over : Rows.lawS0760AStrictRow.holds Yba.pinned (OpenSpec.ofChange Rows.lawS0760AStrictSpec) :=
  OpenClaim.holds_of_wide 4 Yba.f4 rfl rfl rfl rfl rfl rfl rfl ⟨rfl, rfl, rfl, rfl, rfl⟩ rfl rfl rfl rfl rfl (by kernel_rfl) Yba.func4 (by kernel_rfl)
    (of_decide_eq_true (by kernel_rfl)) (by unfold Func.isWrapper; first | (rw [if_pos (by decide +kernel)]; kernel_rfl) | (rw [if_neg (by decide +kernel)]; exact ⟨rfl, rfl⟩))
    (fun os started H enc _ => lifted os started H enc)

/-- ████ THE STATEMENT ████ -/
theorem proved : Rows.LawS0760AStrictSaid :=
  over
#print axioms proved
end Go.Proofs.Ybulkosg.lawS0760AStrict
