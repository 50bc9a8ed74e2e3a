import Derived.Test.YbulkosuRows
import Derived.WalkKit
import Derived.ProofKit
import Derived.Deep.RegionHeld3
namespace Go.Proofs.Ybulkosu.Txn
open Go.ChangeShapes Go.WideShapes Go.ChangeAt Go.RowKit

theorem gtrans {A B C : World} (h : Grown A B) (k : Grown B C) : Grown A C :=
  ⟨World.keptBut_trans h.1 k.1, fun a => (k.2.1 a).trans (h.2.1 a), Nat.le_trans h.2.2 k.2.2⟩

theorem gblock {A B : World} (h : Grown A B) {i : Nat} {c : Array Value} {t : TypeId} {fr : Nat × Nat} (hi : A.heap[i]? = some (.cells c t fr)) : B.heap[i]? = some (.cells c t fr) := by
  have hlt : i < A.heap.size := (Array.getElem?_eq_some_iff.1 hi).1
  have k := h.1.2.2 i hlt
  rw [hi] at k
  cases hb : B.heap[i]? with
  | none => rw [hb] at k; simp at k
  | some o =>
    rw [hb] at k
    cases o with
    | cells c' t' fr' =>
      obtain ⟨rfl, rfl, _, h4⟩ := k
      have : c' = c := Array.ext_getElem? (fun j => h4 j (fun f => f))
      rw [this]
    | map es cl => simp at k
    | _ => simp at k

theorem gcell {A B : World} (h : Grown A B) {i o : Nat} {v : Value} (hc : A.cell? ⟨i, o, none⟩ = some v) : B.cell? ⟨i, o, none⟩ = some v := by
  cases hi : A.heap[i]? with
  | none => simp [World.cell?, hi] at hc
  | some x =>
    cases x with
    | cells c t fr =>
      have := gblock h hi
      simp [World.cell?, hi] at hc
      simp [World.cell?, this, hc]
    | _ => simp [World.cell?, hi] at hc

/-- What the walks ask of a Txn that lies in block B. -/
structure TxnAt (w : World) (B : Nat) (age ex : Int) (vict : Bool) (n : Nat) : Prop where
  age : w.cell? ⟨B, 1, none⟩ = some (.int .i64 age)
  locks : ∃ a, w.cell? ⟨B, 3, none⟩ = some (.slice a n n)
  ex : w.cell? ⟨B, 10, none⟩ = some (.int .i64 ex)
  vict : w.cell? ⟨B, 11, none⟩ = some (.bool vict)

theorem TxnAt.grown {A B : World} (h : Grown A B) {b : Nat} {age ex : Int} {vict : Bool} {n : Nat} (x : TxnAt A b age ex vict n) : TxnAt B b age ex vict n :=
  ⟨gcell h x.age, x.locks.elim fun a ha => ⟨a, gcell h ha⟩, gcell h x.ex, gcell h x.vict⟩

theorem info28' : (Yba.prog.info? 28).map (fun i => (i.zero, i.bytes, i.size)) = some (some (.pointer none), 8, 1) := by kernel_rfl
theorem info28 : ∃ i, Yba.prog.info? 28 = some i ∧ i.zero = some (.pointer none) ∧ i.bytes = 8 ∧ i.size = 1 := by
  have h := info28'
  cases hq : Yba.prog.info? 28 with
  | none => rw [hq] at h; simp at h
  | some i => rw [hq] at h; simp at h; exact ⟨i, rfl, h.1, h.2.1, h.2.2⟩

theorem makeLocks (w : World) (n : Int) (h0 : 0 ≤ n) (h : n ≤ 65536) : (Instr.makeSlice 26 (.int .i64 n) (.int .i64 n)).run Yba.prog w = .ok (.slice (some ⟨w.heap.size, 0, none⟩) n.toNat n.toNat) (w.alloc (.cells (madeCells #[.pointer none] n.toNat) 28)) := by
  obtain ⟨i, hi, hz, hb, hs⟩ := info28
  have := run_make (P := Yba.prog) w 26 28 i _ Yba.underlying26 hi hz .i64 .i64 n n h0 (Int.le_refl _) (by rw [hb]; omega) (by omega)
  rw [this, hs, Nat.mul_one]
  rfl

set_option maxRecDepth 100000 in
theorem build (age ex : Int) (vict : Bool) (locks : Int) (h0 : 0 ≤ locks) (h1 : locks ≤ 255) (w : World) :
    Calls Yba.prog 7 #[.agg #[.int .i64 age, .int .i64 ex, .bool vict, .int .u8 locks]] w fun e w' => ∃ B, e = .returned (.pointer (some ⟨B, 0, none⟩)) ∧ TxnAt w' B age ex vict locks.toNat ∧ Grown w w' ∧ w.heap.size ≤ B ∧ B < w'.heap.size := by
  have hmk := fun w => makeLocks w locks h0 (by omega)
  have hwr : IntKind.i64.wrap locks = locks := by rw [IntKind.wrap_i64]; omega
  go_enter Yba.func7, Yba.ntmps7
  go_wp2
  go_region_held3 (fun w' => w'.cell? ⟨w.heap.size, 0, none⟩ = some (.int .i64 age) ∧ w'.cell? ⟨w.heap.size, 1, none⟩ = some (.int .i64 ex) ∧ w'.cell? ⟨w.heap.size, 2, none⟩ = some (.bool vict) ∧ w'.cell? ⟨w.heap.size, 3, none⟩ = some (.int .u8 locks)) (go_keep) (fail)
  go_wp2
  go_ret
  refine ⟨w.heap.size + 1 + 1, rfl, ⟨?_, ⟨some ⟨w.heap.size + 1, 0, none⟩, ?_⟩, ?_, ?_⟩, ?_, by omega, by simp⟩
  · simp [go_sem]
  · simp [go_sem]
  · simp [go_sem]
  · simp [go_sem]
  · exact ((((Grown.refl _).alloc _ _).alloc _ _).alloc _ _).drew

/-- rank, as a plain function -/
def rankF (p age ex : Int) (vict : Bool) (n : Nat) : Int :=
  if p = 1 then age else if p = 2 then ex else if p = 3 then -(n : Int) else if p = 4 then (if vict then 1 else 0) else 0

theorem lockCount (w : World) (B : Nat) (age ex : Int) (vict : Bool) (n : Nat) (hx : TxnAt w B age ex vict n) :
    Calls Yba.prog 13 #[.pointer (some ⟨B, 0, none⟩)] w fun e w' => e = .returned (.int .i64 n) ∧ w' = w := by
  obtain ⟨h1, ⟨a, h2⟩, h3, h4⟩ := hx
  go_enter Yba.func13, Yba.ntmps13
  go_wp2
  go_ret
  exact ⟨rfl, rfl⟩

theorem rank (p : Int) (w : World) (B : Nat) (age ex : Int) (vict : Bool) (n : Nat) (hn : n ≤ 255) (hx : TxnAt w B age ex vict n) :
    Calls Yba.prog 8 #[.int .i64 p, .pointer (some ⟨B, 0, none⟩)] w fun e w' => e = .returned (.int .i64 (rankF p age ex vict n)) ∧ w' = w := by
  have hx' := hx
  obtain ⟨h1, ⟨a, h2⟩, h3, h4⟩ := hx
  by_cases p1 : p = 1
  · subst p1
    go_enter Yba.func8, Yba.ntmps8
    go_wp2
    go_ret
    exact ⟨by simp [rankF], rfl⟩
  by_cases p2 : p = 2
  · subst p2
    go_enter Yba.func8, Yba.ntmps8
    go_wp2
    go_ret
    exact ⟨by simp [rankF], rfl⟩
  by_cases p3 : p = 3
  · subst p3
    go_enter Yba.func8, Yba.ntmps8
    go_wp2_with (go_at_call 13; refine (lockCount _ _ _ _ _ _ hx').mono ?_; rintro e w' ⟨rfl, rfl⟩)
    go_ret
    refine ⟨?_, rfl⟩
    simp [rankF]
  by_cases p4 : p = 4
  · subst p4
    cases vict
    all_goals
      go_enter Yba.func8, Yba.ntmps8
      go_wp2
      go_ret
      exact ⟨by simp [rankF], rfl⟩
  have q1 := beq_eq_false_iff_ne.2 p1
  have q2 := beq_eq_false_iff_ne.2 p2
  have q3 := beq_eq_false_iff_ne.2 p3
  have q4 := beq_eq_false_iff_ne.2 p4
  go_enter Yba.func8, Yba.ntmps8
  go_wp2
  go_ret
  exact ⟨by simp [rankF, p1, p2, p3, p4], rfl⟩
end Go.Proofs.Ybulkosu.Txn
