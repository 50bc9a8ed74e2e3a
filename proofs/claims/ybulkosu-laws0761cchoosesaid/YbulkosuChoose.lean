import Derived.Test.YbulkosuTxn
import Derived.Test.YbulkosuPtr
import Derived.Laws.Rows
import Derived.WalkSmall
import Derived.Deep.QuietTactic
import Derived.BigQuiet
namespace Go.Proofs.Ybulkosu.Choose
open Go.ChangeShapes Go.WideShapes Go.ChangeAt Go.RowKit
open Go.Proofs.Ybulkosu.Txn

/-- the data of a transaction: age, exclusive, victimized, how many locks -/
abbrev Tx := Int × Int × Bool × Nat

/-- a transaction in a block of its own -/
structure Lies (w : World) (B : Nat) (x : Tx) : Prop where
  at_ : TxnAt w B x.1 x.2.1 x.2.2.1 x.2.2.2
  row : ∃ c t, w.heap[B]? = some (.cells c t (0, 0))

theorem Lies.below {w w' : World} {B : Nat} {x : Tx} {N : Nat} (h : Lies w B x) (hb : Below N w w') (hB : B < N) : Lies w' B x := by
  obtain ⟨⟨h1, ⟨a, h2⟩, h3, h4⟩, c, t, hr⟩ := h
  exact ⟨⟨(hb.cell (p := ⟨B, 1, none⟩) hB).trans h1, ⟨a, (hb.cell (p := ⟨B, 3, none⟩) hB).trans h2⟩, (hb.cell (p := ⟨B, 10, none⟩) hB).trans h3, (hb.cell (p := ⟨B, 11, none⟩) hB).trans h4⟩, c, t, (hb.block B hB).trans hr⟩

theorem Lies.drewN {w : World} {B : Nat} {x : Tx} (h : Lies w B x) (n : Nat) : Lies (w.drewN n) B x := ⟨⟨h.at_.age, h.at_.locks, h.at_.ex, h.at_.vict⟩, h.row⟩

theorem Lies.lt {w : World} {B : Nat} {x : Tx} (h : Lies w B x) : B < w.heap.size := by
  obtain ⟨c, t, hr⟩ := h.row
  exact (Array.getElem?_eq_some_iff.1 hr).1

theorem row_of3 (w : World) (A B : Obj) (c : Array Value) (t : TypeId) : ∃ c' t', (((w.alloc A).alloc B).alloc (.cells c t)).drew.heap[w.heap.size + 1 + 1]? = some (.cells c' t' (0, 0)) := by
  refine ⟨c, t, ?_⟩
  have h := heap_alloc_new ((w.alloc A).alloc B) (.cells c t)
  have e : ((w.alloc A).alloc B).heap.size = w.heap.size + 1 + 1 := by simp
  rw [e] at h
  exact h

set_option maxRecDepth 100000 in
theorem build2 (age ex : Int) (vict : Bool) (locks : Int) (h0 : 0 ≤ locks) (h1 : locks ≤ 255) (w : World) :
    Calls Yba.prog 7 #[.agg #[.int .i64 age, .int .i64 ex, .bool vict, .int .u8 locks]] w fun e w' => ∃ B, e = .returned (.pointer (some ⟨B, 0, none⟩)) ∧ Lies w' B (age, ex, vict, locks.toNat) ∧ Below w.heap.size w w' ∧ w.heap.size ≤ B := by
  have hmk := fun w => makeLocks w locks h0 (by omega)
  have hwr : IntKind.i64.wrap locks = locks := by rw [IntKind.wrap_i64]; omega
  go_enter Yba.func7, Yba.ntmps7
  go_wp2
  go_region_held3 (fun w' => w'.cell? ⟨w.heap.size, 0, none⟩ = some (.int .i64 age) ∧ w'.cell? ⟨w.heap.size, 1, none⟩ = some (.int .i64 ex) ∧ w'.cell? ⟨w.heap.size, 2, none⟩ = some (.bool vict) ∧ w'.cell? ⟨w.heap.size, 3, none⟩ = some (.int .u8 locks)) (go_keep) (fail)
  go_wp2
  go_ret
  refine ⟨w.heap.size + 1 + 1, rfl, ⟨⟨?_, ⟨some ⟨w.heap.size + 1, 0, none⟩, ?_⟩, ?_, ?_⟩, ?_⟩, ?_, by omega⟩
  · simp [go_sem]
  · simp [go_sem]
  · simp [go_sem]
  · simp [go_sem]
  · exact row_of3 _ _ _ _ _
  · exact ((((Below.refl _ _).alloc (Nat.le_refl _) _).alloc (by simp) _).alloc (by simp; omega) _).drew

/-- the rank of x under p -/
def rk (p : Int) (x : Tx) : Int := rankF p x.1 x.2.1 x.2.2.1 x.2.2.2
/-- x comes before y -/
def bef (p : Int) (x y : Tx) : Bool := decide (rk p x < rk p y) || (decide (rk p x = rk p y) && decide (y.1 < x.1))

theorem bef_trans {p : Int} {x y z : Tx} (h : bef p y z = true) (k : bef p x z = false) : bef p x y = false := by
  simp only [bef, Bool.or_eq_true, Bool.and_eq_true, decide_eq_true_eq, Bool.or_eq_false_iff, Bool.and_eq_false_iff, decide_eq_false_iff_not] at *
  omega
theorem bef_irrefl (p : Int) (x : Tx) : bef p x x = false := by
  simp [bef]

theorem crank (p : Int) (w : World) (B : Nat) (x : Tx) (hn : x.2.2.2 ≤ 255) (hx : Lies w B x) :
    Calls Yba.prog 10 #[.int .i64 p, .pointer (some ⟨B, 0, none⟩)] w fun e w' => e = .returned (.int .i64 (rk p x)) ∧ w' = w := by
  obtain ⟨age, ex, vict, n⟩ := x
  obtain ⟨h1, ⟨a, h2⟩, h3, h4⟩ := hx.at_
  simp only at h1 h2 h3 h4 hn
  clear hx
  show Calls Yba.prog 10 _ w fun e w' => e = .returned (.int .i64 (rankF p age ex vict n)) ∧ w' = w
  by_cases p1 : p = 1
  · subst p1
    go_enter Yba.func10, Yba.ntmps10
    go_wp2
    go_ret
    exact ⟨by simp [rankF], rfl⟩
  by_cases p2 : p = 2
  · subst p2
    go_enter Yba.func10, Yba.ntmps10
    go_wp2
    go_ret
    exact ⟨by simp [rankF], rfl⟩
  by_cases p3 : p = 3
  · subst p3
    go_enter Yba.func10, Yba.ntmps10
    go_wp2
    go_ret
    refine ⟨?_, rfl⟩
    simp [rankF]
  by_cases p4 : p = 4
  · subst p4
    cases vict
    all_goals
      go_enter Yba.func10, Yba.ntmps10
      go_wp2
      go_ret
      exact ⟨by simp [rankF], rfl⟩
  have q1 := beq_eq_false_iff_ne.2 p1
  have q2 := beq_eq_false_iff_ne.2 p2
  have q3 := beq_eq_false_iff_ne.2 p3
  have q4 := beq_eq_false_iff_ne.2 p4
  go_enter Yba.func10, Yba.ntmps10
  go_wp2
  go_ret
  exact ⟨by simp [rankF, p1, p2, p3, p4], rfl⟩

set_option maxRecDepth 100000 in
theorem before (p : Int) (w : World) (B C : Nat) (x y : Tx) (hn : x.2.2.2 ≤ 255) (hm : y.2.2.2 ≤ 255) (hx : Lies w B x) (hy : Lies w C y) :
    Calls Yba.prog 14 #[.int .i64 p, .pointer (some ⟨B, 0, none⟩), .pointer (some ⟨C, 0, none⟩)] w fun e w' => e = .returned (.bool (bef p x y)) ∧ ∃ nq, w' = w.drewN nq := by
  have x1 := hx.at_.age
  have y1 := hy.at_.age
  go_enter Yba.func14, Yba.ntmps14
  go_wp2_with fail
  refine (rank p _ B _ _ _ _ hn hx.at_).mono ?_
  rintro e w1 ⟨rfl, rfl⟩
  go_wp2_with fail
  refine (rank p _ C _ _ _ _ hm hy.at_).mono ?_
  rintro e w1 ⟨rfl, rfl⟩
  show _
  rw [show rankF p x.1 x.2.1 x.2.2.1 x.2.2.2 = rk p x from rfl, show rankF p y.1 y.2.1 y.2.2.1 y.2.2.2 = rk p y from rfl]
  clear hx hy
  by_cases h1 : rk p x < rk p y
  · have g1 : decide (rk p x < rk p y) = true := by simpa using h1
    have hb : Hid (bef p x y = true) := by show bef p x y = true; simp [bef, h1]
    go_wp2_with fail
    go_quiet (fail)
    go_wp2
    go_ret
    exact ⟨by rw [hb.out]; rfl, _, rfl⟩
  have g1 : decide (rk p x < rk p y) = false := by simpa using h1
  by_cases h2 : rk p x = rk p y
  · have g2 : (rk p x == rk p y) = true := by simpa using h2
    have hb : Hid (bef p x y = decide (y.1 < x.1)) := by show bef p x y = decide (y.1 < x.1); simp [bef, h2]
    clear h2
    go_wp2_with fail
    go_quiet (fail)
    go_wp2
    go_ret
    exact ⟨by rw [hb.out]; rfl, _, rfl⟩
  · have g2 : (rk p x == rk p y) = false := by simpa using h2
    have hb : Hid (bef p x y = false) := by show bef p x y = false; simp [bef, h2, h1]
    go_wp2_with fail
    go_quiet (fail)
    go_wp2
    go_ret
    exact ⟨by rw [hb.out]; rfl, _, rfl⟩
end Go.Proofs.Ybulkosu.Choose
