/-
  The proof of Rows.LawS0761CTableSaid: rank equals the case table.
-/
import Derived.Test.YbulkosuTxn
import Derived.WalkKit
import Derived.ProofKit
import Derived.OpenShut
import Derived.Lib.SmallJoins
namespace Go.Proofs.Ybulkosu.lawS0761CTable
open Go.ChangeShapes Go.WideShapes Go.ChangeAt Go.RowKit Go.Joins

theorem own : ownKnob Yba.prog.godebug = none := by kernel_rfl
theorem cells45 : Yba.prog.cellsOf 45 = 4 := by kernel_rfl

/-- behind rank: the table, by hand -/
theorem walk (p : Int) (age ex : Int) (vict : Bool) (locks : Int) (h0 : 0 ≤ locks) (h1 : locks ≤ 255) (w : World) :
    Calls Yba.prog 4 #[.int .i64 p, .agg #[.int .i64 age, .int .i64 ex, .bool vict, .int .u8 locks]] w fun e w' => e = .returned (.bool true) ∧ Grown w w' := by
  go_enter Yba.func4, Yba.ntmps4
  go_wp2_with fail
  refine (Txn.build age ex vict locks h0 h1 _).mono ?_
  rintro e w1 ⟨B, rfl, hx, hg, hB, hB1⟩
  go_wp2_with fail
  refine (Txn.rank p w1 B age ex vict _ (by omega) hx).mono ?_
  rintro e w2 ⟨rfl, rfl⟩
  have gg : Grown w w2 := Txn.gtrans ((Grown.refl _).alloc _ _) hg
  have hc : ∀ o v, (w.alloc (.cells #[.int .i64 age, .int .i64 ex, .bool vict, .int .u8 locks] 45)).cell? ⟨w.heap.size, o, none⟩ = some v → w2.cell? ⟨w.heap.size, o, none⟩ = some v := fun _ _ h => Txn.gcell hg h
  have c0 := hc 0 _ (by simp [go_sem]; rfl)
  have c1 := hc 1 _ (by simp [go_sem]; rfl)
  have c2 := hc 2 _ (by simp [go_sem]; rfl)
  have c3 := hc 3 _ (by simp [go_sem]; rfl)
  clear hc hx hg hB hB1
  by_cases p1 : p = 1
  · subst p1
    rw [show Txn.rankF 1 age ex vict locks.toNat = age from by simp [Txn.rankF]]
    go_wp2
    go_ret
    exact ⟨by simp, gg⟩
  by_cases p2 : p = 2
  · subst p2
    rw [show Txn.rankF 2 age ex vict locks.toNat = ex from by simp [Txn.rankF]]
    go_wp2
    go_ret
    exact ⟨by simp, gg⟩
  by_cases p3 : p = 3
  · subst p3
    rw [show Txn.rankF 3 age ex vict locks.toNat = - locks from by simp [Txn.rankF]; omega]
    go_wp2
    go_ret
    exact ⟨by simp, gg⟩
  by_cases p4 : p = 4
  · subst p4
    rw [show Txn.rankF 4 age ex vict locks.toNat = (if vict then 1 else 0) from by simp [Txn.rankF]]
    cases vict
    all_goals
      go_wp2
      go_ret
      exact ⟨by simp, gg⟩
  have q1 := beq_eq_false_iff_ne.2 p1
  have q2 := beq_eq_false_iff_ne.2 p2
  have q3 := beq_eq_false_iff_ne.2 p3
  have q4 := beq_eq_false_iff_ne.2 p4
  rw [show Txn.rankF p age ex vict locks.toNat = 0 from by simp [Txn.rankF, p1, p2, p3, p4]]
  go_wp2
  go_ret
  exact ⟨by simp, gg⟩

set_option maxRecDepth 100000 in
theorem lifted (os : Os) (started : os.Started) (H : Type) (enc : TypeId × Value → H) :
    ReturnsInHanded {} Yba.checked os 4 .any (Rows.lawS0761CTableSpec.pre6 enc Yba.prog Yba.f4 Rows.lawS0761CTableRow.domain false) (Rows.lawS0761CTableSpec.post enc Yba.prog Yba.f4 false true false false) := by
  refine returnsInHanded_of_change (C := Yba.checked) own started (by kernel_rfl) Yba.func4
    (ChangeSpec.witness6 (enc := enc) (C := Yba.checked) false ⟨#[], #[.int .i64 0, .agg #[.int .i64 0, .int .i64 0, .bool false, .int .u8 0]], []⟩ 8 (by kernel_rfl) (by kernel_rfl) (by kernel_rfl) (by kernel_rfl)) ?_
  intro W base args ds gs before hval0 hW hcnd _
  have hval : ∀ (j : Nat) t v, Yba.f4.params[j]? = some t → args[j]? = some v → Value.okWide Yba.prog W .any base t v := hval0
  have hW' := hW
  obtain ⟨p, q, hA0, hV, rfl, hfz, hnd⟩ := hW
  have hA : DataW.TrodAll enc Yba.prog W 0 (fun _ => true) true Yba.f4.params.toList args.toList ds p := hA0
  rw [Yba.params4] at hA hval
  obtain ⟨v0, v1, d0, d1, p0, p1, rfl, rfl, rfl, h0, h1⟩ := trodAll_two hA
  obtain ⟨rfl, rfl⟩ := trodVars_none hV
  obtain ⟨a0, rfl, rfl, rfl, w0⟩ := open_int Yba.underlying3 (hval 0 3 v0 rfl rfl) h0
  obtain ⟨c0, c1, c2, c3, y0, y1, y2, y3, m, rfl, rfl, rfl, hy0, hy1, hy2, hy3⟩ := open_agg4 Yba.underlying45 (by kernel_rfl) cells45 (hval 1 45 v1 rfl rfl) h1
  obtain ⟨a, e0, rfl, wa⟩ := DataW.trod_int Yba.underlying3 hy0
  obtain ⟨b, e1, rfl, wb⟩ := DataW.trod_int Yba.underlying3 hy1
  obtain ⟨c, e2, rfl⟩ := DataW.trod_bool Yba.underlying4 hy2
  obtain ⟨l, e3, rfl, wl⟩ := DataW.trod_int Yba.underlying5 hy3
  simp at e0 e1 e2 e3
  subst e0 e1 e2 e3
  clear hA0 hval0
  simp only [List.append_nil] at hW'
  have hb := bounds_u8 wl
  have structReads : ∀ (W' : World) (sp : Nat → Bool), DataW.Trod enc Yba.prog W' 0 sp true 45 (.agg #[.int .i64 a, .int .i64 b, .bool c, .int .u8 l]) (.agg [.lit (.int .i64 a), .lit (.int .i64 b), .lit (.bool c), .lit (.int .u8 l)]) [] := fun W' sp =>
    shut_agg4 (y0 := (.lit (.int .i64 a), [])) (y1 := (.lit (.int .i64 b), [])) (y2 := (.lit (.bool c), [])) (y3 := (.lit (.int .u8 l), [])) Yba.underlying45 (by kernel_rfl) cells45 ⟨1, by simp [DataW.trod, Yba.underlying3, wa]⟩ ⟨1, by simp [DataW.trod, Yba.underlying3, wb]⟩ ⟨1, by simp [DataW.trod, Yba.underlying4]⟩ ⟨1, by simp [DataW.trod, Yba.underlying5, wl]⟩
  refine (walk a0 a b c l hb.1 hb.2 W).mono fun e W' ⟨he, hg⟩ => ?_
  subst he
  exact ⟨_, rfl, post_of_same (pa := []) (pv := []) hW' (fun _ _ _ => trodAll_mk1 (shut_bool Yba.underlying4 _)) (fun sp _ => trodAll_mk2 (shut_int Yba.underlying3 w0) (structReads _ sp)) (fun _ _ => rfl) rfl
    (hg.frame _) hg.2.1 (ok_one (by kernel_rfl) rfl (okWide_bool_mk Yba.underlying4 _))⟩

theorem over : Rows.lawS0761CTableRow.holds Yba.pinned (OpenSpec.ofChange Rows.lawS0761CTableSpec) :=
  OpenClaim.holds_of_wide 4 Yba.f4 rfl rfl rfl rfl rfl rfl rfl ⟨rfl, rfl, rfl, rfl, rfl⟩ rfl rfl rfl rfl rfl (by kernel_rfl) Yba.func4 (by kernel_rfl)
    (of_decide_eq_true (by kernel_rfl)) (by unfold Func.isWrapper; first | (rw [if_pos (by decide +kernel)]; kernel_rfl) | (rw [if_neg (by decide +kernel)]; exact ⟨rfl, rfl⟩))
    (fun os started H enc _ => lifted os started H enc)

theorem proved : Rows.LawS0761CTableSaid :=
  over
#print axioms proved
end Go.Proofs.Ybulkosu.lawS0761CTable
