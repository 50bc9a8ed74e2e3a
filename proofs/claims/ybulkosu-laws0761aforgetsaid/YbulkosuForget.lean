import Derived.Test.YbulkosuTxn
import Derived.Test.YbulkosuPtr
import Derived.Laws.Rows
import Derived.Laws.CopyOwn
import Derived.WalkSmall
namespace Go.Proofs.Ybulkosu.Forget
open Go.ChangeShapes Go.WideShapes Go.ChangeAt Go.RowKit
attribute [local go_sem] Ptr.eql23 Ptr.neq23 Ptr.neq28

/-- Block T: the Txn; T + 1: orig; T + 2 + j: resource j; T + 2 + c: the backing array of locks. AHEAD of forget. -/
structure Pre (X : World) (T c : Nat) : Prop where
  t3 : X.cell? ⟨T, 3, none⟩ = some (.slice (some ⟨T + 2 + c, 0, none⟩) c c)
  o : ∀ j, j < c → X.cell? ⟨T + 1, j, none⟩ = some (.pointer (some ⟨T + 2 + j, 0, none⟩))
  l : ∀ j, j < c → X.cell? ⟨T + 2 + c, j, none⟩ = some (.pointer (some ⟨T + 2 + j, 0, none⟩))
  r3 : ∀ j, j < c → X.cell? ⟨T + 2 + j, 3, none⟩ = some (.pointer (some ⟨T, 0, none⟩))
  r4 : ∀ j, j < c → X.cell? ⟨T + 2 + j, 4, none⟩ = some (.int .i32 (j : Int))
  fz : ∀ b o, T ≤ b → b ≤ T + 2 + c → X.frozen? ⟨b, o, none⟩ = false

/-- BEHIND forget(i), the last being d = c - 1. -/
structure Post (X : World) (T d i : Nat) : Prop where
  t3 : X.cell? ⟨T, 3, none⟩ = some (.slice (some ⟨T + 2 + (d + 1), 0, none⟩) d (d + 1))
  o : ∀ j, j < d + 1 → X.cell? ⟨T + 1, j, none⟩ = some (.pointer (some ⟨T + 2 + j, 0, none⟩))
  l : ∀ j, j < d → X.cell? ⟨T + 2 + (d + 1), j, none⟩ = some (.pointer (some ⟨T + 2 + (if j = i then d else j), 0, none⟩))
  ll : X.cell? ⟨T + 2 + (d + 1), d, none⟩ = some (.pointer none)
  r3 : ∀ j, j < d + 1 → X.cell? ⟨T + 2 + j, 3, none⟩ = some (.pointer (some ⟨T, 0, none⟩))
  r4 : ∀ j, j < d → X.cell? ⟨T + 2 + j, 4, none⟩ = some (.int .i32 (j : Int))
  r4l : X.cell? ⟨T + 2 + d, 4, none⟩ = some (.int .i32 (i : Int))

set_option maxRecDepth 100000 in
theorem holder (w : World) (R T : Nat) (h : w.cell? ⟨R, 3, none⟩ = some (.pointer (some ⟨T, 0, none⟩))) :
    Calls Yba.prog 12 #[.pointer (some ⟨R, 0, none⟩), .pointer (some ⟨T, 0, none⟩)] w fun e w' => e = .returned (.int .i64 0) ∧ w' = w := by
  go_enter Yba.func12, Yba.ntmps12
  go_wp2
  go_ret
  exact ⟨rfl, rfl⟩

set_option maxRecDepth 100000 in
theorem holderAt (w : World) (R : Nat) :
    Calls Yba.prog 11 #[.pointer (some ⟨R, 0, none⟩), .int .i64 0] w fun e w' => e = .returned (.pointer (some ⟨R, 3, none⟩)) ∧ w' = w := by
  go_enter Yba.func11, Yba.ntmps11
  go_wp2
  go_ret
  exact ⟨rfl, rfl⟩

theorem ne_block {b b' o o' : Nat} (h : b ≠ b') : (⟨b, o, none⟩ : Addr) ≠ ⟨b', o', none⟩ := fun e => by injection e; exact h ‹_›
theorem ne_off {b o o' : Nat} (h : o ≠ o') : (⟨b, o, none⟩ : Addr) ≠ ⟨b, o', none⟩ := fun e => by injection e; exact h ‹_›

theorem sc_other {w : World} {a b : Addr} {x v : Value} (h : a ≠ b) (hv : w.cell? b = some v) : (w.setCell a x).cell? b = some v := by rw [World.cell?_setCell_other _ _ _ _ h]; exact hv
theorem sc_same {w : World} {a : Addr} {x : Value} (h : ∃ u, w.cell? a = some u) : (w.setCell a x).cell? a = some x := h.elim fun _ hu => World.cell?_setCell_same _ _ _ hu
theorem sc_some {w : World} {a b : Addr} {x : Value} (hv : ∃ u, w.cell? b = some u) : ∃ u, (w.setCell a x).cell? b = some u := by
  by_cases h : a = b
  · subst h; exact ⟨_, sc_same hv⟩
  · exact hv.elim fun u hu => ⟨u, sc_other h hu⟩

set_option maxRecDepth 100000 in
theorem forget_last (X : World) (T d : Nat) (hd : d ≤ 255) (h : Pre X T (d + 1)) :
    Calls Yba.prog 6 #[.pointer (some ⟨T, 0, none⟩), .int .i64 (d : Int)] X fun e X' => e = .returned (.tuple #[]) ∧ Post X' T d d ∧ Below T X X' := by
  have h1 := h.t3
  have h2 := h.l d (by omega)
  have f1 := h.fz T 3 (Nat.le_refl _) (by omega)
  have f2 := h.fz (T + 2 + (d + 1)) d (by omega) (by omega)
  go_enter Yba.func6, Yba.ntmps6
  go_wp2
  go_end0
  refine ⟨rfl, ⟨?_, fun j hj => ?_, fun j hj => ?_, ?_, fun j hj => ?_, fun j hj => ?_, ?_⟩, ?_⟩
  rotate_left 7
  · refine ((Below.refl T X).setCell ?_ _).setCell ?_ _
    · show T ≤ T + 2 + (d + 1); omega
    · exact Nat.le_refl T
  · exact sc_same (sc_some ⟨_, h1⟩)
  · exact sc_other (ne_block (by omega)) (sc_other (ne_block (by omega)) (h.o j hj))
  · rw [if_neg (by omega)]
    exact sc_other (ne_block (by omega)) (sc_other (ne_off (by omega)) (h.l j (by omega)))
  · exact sc_other (ne_block (by omega)) (sc_same ⟨_, h2⟩)
  · exact sc_other (ne_block (by omega)) (sc_other (ne_block (by omega)) (h.r3 j hj))
  · exact sc_other (ne_block (by omega)) (sc_other (ne_block (by omega)) (h.r4 j (by omega)))
  · exact sc_other (ne_block (by omega)) (sc_other (ne_block (by omega)) (h.r4 d (by omega)))

set_option maxRecDepth 100000 in
theorem forget_mid (X : World) (T d i : Nat) (hd : d ≤ 255) (hi : i < d) (h : Pre X T (d + 1)) :
    Calls Yba.prog 6 #[.pointer (some ⟨T, 0, none⟩), .int .i64 (i : Int)] X fun e X' => e = .returned (.tuple #[]) ∧ Post X' T d i ∧ Below T X X' := by
  have h1 := h.t3
  have h2 := h.l d (by omega)
  have h3 := h.l i (by omega)
  have h4 := h.r3 d (by omega)
  have h5 := h.r4 d (by omega)
  have f1 := h.fz T 3 (Nat.le_refl _) (by omega)
  have f2 := h.fz (T + 2 + (d + 1)) d (by omega) (by omega)
  have f3 := h.fz (T + 2 + (d + 1)) i (by omega) (by omega)
  have f4 := h.fz (T + 2 + d) 4 (by omega) (by omega)
  have wi : IntKind.i32.wrap (i : Int) = (i : Int) := by rw [IntKind.wrap_i32]; omega
  go_enter Yba.func6, Yba.ntmps6
  go_wp2_with fail
  refine (holder _ _ _ (sc_other (ne_block (by omega)) h4)).mono ?_
  rintro e w1 ⟨rfl, rfl⟩
  go_wp2_with fail
  refine (holderAt _ _).mono ?_
  rintro e w1 ⟨rfl, rfl⟩
  go_wp2_with fail
  go_end0
  refine ⟨rfl, ⟨?_, fun j hj => ?_, fun j hj => ?_, ?_, fun j hj => ?_, fun j hj => ?_, ?_⟩, ?_⟩
  rotate_left 7
  · refine ((((Below.refl T X).setCell ?_ _).setCell ?_ _).setCell ?_ _).setCell ?_ _
    · show T ≤ T + 2 + (d + 1); omega
    · show T ≤ T + 2 + d; omega
    · show T ≤ T + 2 + (d + 1); omega
    · exact Nat.le_refl T
  · exact sc_same (sc_some (sc_some (sc_some ⟨_, h1⟩)))
  · exact sc_other (ne_block (by omega)) (sc_other (ne_block (by omega)) (sc_other (ne_block (by omega)) (sc_other (ne_block (by omega)) (h.o j hj))))
  · by_cases e : j = i
    · subst e
      rw [if_pos rfl]
      exact sc_other (ne_block (by omega)) (sc_other (ne_off (by omega)) (sc_other (ne_block (by omega)) (sc_same ⟨_, h3⟩)))
    · rw [if_neg e]
      exact sc_other (ne_block (by omega)) (sc_other (ne_off (by omega)) (sc_other (ne_block (by omega)) (sc_other (ne_off (fun x => e x.symm)) (h.l j (by omega)))))
  · exact sc_other (ne_block (by omega)) (sc_same (sc_some (sc_some ⟨_, h2⟩)))
  · by_cases e : j = d
    · subst e
      exact sc_other (ne_block (by omega)) (sc_other (ne_block (by omega)) (sc_other (ne_off (by omega)) (sc_other (ne_block (by omega)) (h.r3 j hj))))
    · exact sc_other (ne_block (by omega)) (sc_other (ne_block (by omega)) (sc_other (ne_block (by omega)) (sc_other (ne_block (by omega)) (h.r3 j hj))))
  · exact sc_other (ne_block (by omega)) (sc_other (ne_block (by omega)) (sc_other (ne_block (by omega)) (sc_other (ne_block (by omega)) (h.r4 j (by omega)))))
  · exact sc_other (ne_block (by omega)) (sc_other (ne_block (by omega)) (sc_same (sc_some ⟨_, h5⟩)))

/-- the loop that builds the resources, k of them built -/
structure Built (w wr : World) (T c k : Nat) : Prop where
  bel : Below T w wr
  size : wr.heap.size = T + 2 + k
  t3 : ∃ v, wr.cell? ⟨T, 3, none⟩ = some v
  row : ∃ cs : Array Value, wr.heap[T + 1]? = some (.cells cs 28 (0, 0)) ∧ cs.size = c ∧ ∀ j, j < k → cs[j]? = some (.pointer (some ⟨T + 2 + j, 0, none⟩))
  r3 : ∀ j, j < k → wr.cell? ⟨T + 2 + j, 3, none⟩ = some (.pointer (some ⟨T, 0, none⟩))
  r4 : ∀ j, j < k → wr.cell? ⟨T + 2 + j, 4, none⟩ = some (.int .i32 (j : Int))
  fz : ∀ b o, T ≤ b → wr.frozen? ⟨b, o, none⟩ = false

theorem old_cell {w : World} {o : Obj} {b x : Nat} {v : Value} (hb : b < w.heap.size) (h : w.cell? ⟨b, x, none⟩ = some v) : (w.alloc o).cell? ⟨b, x, none⟩ = some v := by
  rw [World.cell?_alloc_past _ _ _ hb]; exact h

theorem built_start (w : World) (tc cs : Array Value) (c : Nat) (ht : ∃ v, tc[3]? = some v) (hc : cs.size = c) : Built w ((w.alloc (.cells tc 34)).alloc (.cells cs 28)) w.heap.size c 0 where
  bel := ((Below.refl _ _).alloc (Nat.le_refl _) _).alloc (by simp) _
  size := by simp
  t3 := by
    obtain ⟨v, hv⟩ := ht
    exact ⟨v, old_cell (by simp) (by rw [cell_of_row _ _ _ _ _ _ (heap_alloc_new w _)]; exact hv)⟩
  row := ⟨cs, heap_alloc2_new w _ _, hc, fun j hj => by omega⟩
  r3 := fun j hj => by omega
  r4 := fun j hj => by omega
  fz := fun b o hb => by
    rw [frozen?_alloc_cells, frozen?_alloc_cells]
    simp [World.frozen?, show w.heap[b]? = none by simpa using hb]

theorem built_step {w wr : World} {T c k : Nat} (h : Built w wr T c k) (hk : k < c) (rc : Array Value) (h3 : rc[3]? = some (.pointer (some ⟨T, 0, none⟩))) (h4 : rc[4]? = some (.int .i32 (k : Int))) :
    Built w ((wr.alloc (.cells rc 41)).setCell ⟨T + 1, k, none⟩ (.pointer (some ⟨T + 2 + k, 0, none⟩))) T c (k + 1) where
  bel := ((h.bel.alloc (by have := h.size; omega) _).setCell (show T ≤ T + 1 by omega) _)
  size := by have := h.size; simp; omega
  t3 := sc_some (h.t3.elim fun v hv => ⟨v, old_cell (by have := h.size; omega) hv⟩)
  row := by
    obtain ⟨cs, hr, hc, ho⟩ := h.row
    have hr' : (wr.alloc (.cells rc 41)).heap[T + 1]? = some (.cells cs 28 (0, 0)) := (Below.heap_alloc wr _ _ (by have := h.size; omega)).trans hr
    refine ⟨_, heap_setCell_same _ (T + 1) k cs 28 _ hr', by simp [hc], fun j hj => ?_⟩
    by_cases e : j = k
    · subst e
      have a1 : j < cs.size := by omega
      simp [a1]
    · rw [Array.getElem?_setIfInBounds, if_neg (fun x => e x.symm), ho j (by omega)]
  r3 := fun j hj => by
    by_cases e : j = k
    · subst e
      refine sc_other (ne_block (by omega)) ?_
      rw [← h.size, cell_of_row _ _ _ _ _ _ (heap_alloc_new wr _)]; exact h3
    · exact sc_other (ne_block (by omega)) (old_cell (by have := h.size; omega) (h.r3 j (by omega)))
  r4 := fun j hj => by
    by_cases e : j = k
    · subst e
      refine sc_other (ne_block (by omega)) ?_
      rw [← h.size, cell_of_row _ _ _ _ _ _ (heap_alloc_new wr _)]; exact h4
    · exact sc_other (ne_block (by omega)) (old_cell (by have := h.size; omega) (h.r4 j (by omega)))
  fz := fun b o hb => by
    rw [World.frozen?_setCell, frozen?_alloc_cells]; exact h.fz b o hb

/-- behind the making of locks and the copy -/
theorem pre_of {w wr w2 : World} {T c : Nat} (h : Built w wr T c c) (cs : Array Value) (hr : wr.heap[T + 1]? = some (.cells cs 28 (0, 0))) (hc : cs.size = c) (ho : ∀ j, j < c → cs[j]? = some (.pointer (some ⟨T + 2 + j, 0, none⟩))) (cur : Array Value)
    (hrow : w2.heap[T + 2 + c]? = some (.cells cs 28 (0, 0)))
    (hb : Below (T + 2 + c) ((wr.alloc (.cells cur 28)).setCell ⟨T, 3, none⟩ (.slice (some ⟨T + 2 + c, 0, none⟩) c c)) w2) : Pre w2 T c := by
  have hsz := h.size
  have low : ∀ b o v, b < T + 2 + c → b ≠ T → wr.cell? ⟨b, o, none⟩ = some v → w2.cell? ⟨b, o, none⟩ = some v := fun b o v h1 h2 h3 => by
    rw [hb.cell (p := ⟨b, o, none⟩) h1]
    exact sc_other (ne_block (fun e => h2 e.symm)) (old_cell (by omega) h3)
  refine ⟨?_, fun j hj => ?_, fun j hj => ?_, fun j hj => ?_, fun j hj => ?_, fun b o h1 h2 => ?_⟩
  · rw [hb.cell (p := ⟨T, 3, none⟩) (by show T < T + 2 + c; omega)]
    exact sc_same (h.t3.elim fun v hv => ⟨v, old_cell (by omega) hv⟩)
  · exact low _ _ _ (by omega) (by omega) (by rw [cell_of_row _ _ _ _ _ _ hr]; exact ho j hj)
  · rw [cell_of_row _ _ _ _ _ _ hrow]; exact ho j hj
  · exact low _ _ _ (by omega) (by omega) (h.r3 j hj)
  · exact low _ _ _ (by omega) (by omega) (h.r4 j hj)
  · by_cases e : b = T + 2 + c
    · subst e; exact frozen_of_row _ _ _ _ _ hrow
    · rw [hb.frozen (p := ⟨b, o, none⟩) (by show b < T + 2 + c; omega), World.frozen?_setCell, frozen?_alloc_cells]
      exact h.fz b o h1

theorem forget (X : World) (T d i : Nat) (hd : d ≤ 255) (hi : i ≤ d) (h : Pre X T (d + 1)) :
    Calls Yba.prog 6 #[.pointer (some ⟨T, 0, none⟩), .int .i64 (i : Int)] X fun e X' => e = .returned (.tuple #[]) ∧ Post X' T d i ∧ Below T X X' := by
  by_cases e : i = d
  · subst e; exact forget_last X T i hd h
  · exact forget_mid X T d i hd (by omega) h

theorem copied {w wr : World} {T c : Nat} (h : Built w wr T c c) (cur : Array Value) (hcur : cur.size = c) :
    ∃ v W2, (Builtin.copy_ #[26, 26] 3 #[.slice (some ⟨T + 2 + c, 0, none⟩) c c, .slice (some ⟨T + 1, 0, none⟩) c c]).run Yba.prog ((wr.alloc (.cells cur 28)).setCell ⟨T, 3, none⟩ (.slice (some ⟨T + 2 + c, 0, none⟩) c c)) = .ok v W2 ∧ Pre W2 T c ∧ Below T w W2 := by
  have hsz := h.size
  obtain ⟨cs, hr, hcs, ho⟩ := h.row
  have hL : ((wr.alloc (.cells cur 28)).setCell ⟨T, 3, none⟩ (.slice (some ⟨T + 2 + c, 0, none⟩) c c)).heap[T + 2 + c]? = some (.cells cur 28 (0, 0)) := by
    rw [Below.heap_setCell _ _ _ _ (by show T + 2 + c ≠ T; omega), ← hsz]; exact heap_alloc_new wr _
  have hO : ((wr.alloc (.cells cur 28)).setCell ⟨T, 3, none⟩ (.slice (some ⟨T + 2 + c, 0, none⟩) c c)).heap[T + 1]? = some (.cells cs 28 (0, 0)) := by
    rw [Below.heap_setCell _ _ _ _ (by show T + 1 ≠ T; omega), Below.heap_alloc _ _ _ (by omega)]; exact hr
  have hi : (Yba.prog.info? 28).map (·.size) = some 1 := by kernel_rfl
  have hrun := run_copy_row (P := Yba.prog) _ 26 26 3 28 (T + 2 + c) 0 c c ⟨T + 1, 0, none⟩ c c cur 28 cs.toList Yba.underlying26 hi hL (by simp [hcs])
    (fun j v hv => by rw [add_plain, Nat.zero_add, cell_of_row _ _ _ _ _ _ hO]; simpa using hv) (by simp; omega)
    (fun v hv => by
      obtain ⟨j, hj, rfl⟩ := List.getElem_of_mem hv
      have hj' : j < c := by simpa [hcs] using hj
      have := ho j hj'
      rw [Array.getElem?_eq_getElem (by omega)] at this
      simp at this
      simp [this, Value.oneCell'])
  have e : (cur.toList.take 0 ++ cs.toList ++ cur.toList.drop (0 + cs.toList.length)).toArray = cs := by
    rw [List.drop_of_length_le (by simp; omega)]; simp
  rw [e] at hrun
  have hb : Below (T + 2 + c) ((wr.alloc (.cells cur 28)).setCell ⟨T, 3, none⟩ (.slice (some ⟨T + 2 + c, 0, none⟩) c c)) (((wr.alloc (.cells cur 28)).setCell ⟨T, 3, none⟩ (.slice (some ⟨T + 2 + c, 0, none⟩) c c)).setRow (T + 2 + c) cs) :=
    below_setRow (Below.refl _ _) (Nat.le_refl _) _
  refine ⟨_, _, hrun, pre_of h cs hr hcs ho cur (setRow_heap _ _ _ _ _ _ hL) hb, ?_⟩
  exact ((h.bel.alloc (by omega) _).setCell (Nat.le_refl T) _).trans (hb.mono (by omega))

set_option maxRecDepth 100000 in
set_option maxHeartbeats 1000000 in
theorem law_walk (d : Nat) (hd : d ≤ 255) (s : Nat) (hs : s ≤ 65535) (w : World) :
    Calls Yba.prog 3 #[.int .u8 (d : Int), .int .u16 (s : Int)] w fun e w' => e = .returned (.bool true) ∧ Below w.heap.size w w' := by
  have wn : IntKind.i64.wrap (d : Int) = (d : Int) := by rw [IntKind.wrap_i64]; omega
  have ws : IntKind.i64.wrap (s : Int) = (s : Int) := by rw [IntKind.wrap_i64]; omega
  have hmk := fun w => Txn.makeLocks w ((d : Int) + 1) (by omega) (by omega)
  have hdn : ((d : Int) + 1).toNat = d + 1 := by omega
  obtain ⟨i, hi, hid⟩ : ∃ i : Nat, (s : Int) % ((d : Int) + 1) = (i : Int) ∧ i ≤ d := by
    have h1 := Int.emod_nonneg (s : Int) (show (d : Int) + 1 ≠ 0 by omega)
    have h2 := Int.emod_lt_of_pos (s : Int) (show (0 : Int) < (d : Int) + 1 by omega)
    exact ⟨((s : Int) % ((d : Int) + 1)).toNat, by omega, by omega⟩
  have Hi : Hid ((s : Int) % ((d : Int) + 1) = (i : Int)) := hi
  clear hi
  go_enter Yba.func3, Yba.ntmps3
  go_wp2
  rw [Hi.out]
  go_loopw [9] (fun q wr => ∃ k : Nat, k ≤ d + 1 ∧ q = .int .i64 (k : Int) ∧ Built w wr w.heap.size (d + 1) k) (fun q _ => d + 1 - (intOf q).toNat)
  case atStart => exact ⟨0, Nat.zero_le _, rfl, built_start w _ _ _ ⟨_, rfl⟩ (size_madeCells _ _)⟩
  case round =>
    obtain ⟨k, hk, rfl, hB⟩ := hrel
    clear Hi ws
    by_cases hlt : k < d + 1
    · have hsz := hB.size
      obtain ⟨cs, hr, hcs, _⟩ := hB.row
      obtain ⟨v0, c0⟩ : ∃ v, wr.cell? ⟨w.heap.size + 1, k, none⟩ = some v := ⟨cs[k], by rw [cell_of_row _ _ _ _ _ _ hr]; exact Array.getElem?_eq_getElem (by omega)⟩
      have f0 := hB.fz (w.heap.size + 1) k (by omega)
      have b0 : (0 : Int) ≤ (k : Int) := by omega
      have b1 : (k : Int) < (d : Int) + 1 := by omega
      have wk : IntKind.i32.wrap (k : Int) = (k : Int) := by rw [IntKind.wrap_i32]; omega
      have c1 : ∀ o : Obj, (wr.alloc o).cell? ⟨w.heap.size + 1, k, none⟩ = some v0 := fun o => old_cell (by omega) c0
      have f1 : ∀ (c : Array Value) (t : TypeId), (wr.alloc (.cells c t)).frozen? ⟨w.heap.size + 1, k, none⟩ = false := fun c t => by rw [frozen?_alloc_cells]; exact f0
      clear hr hcs hmk c0 f0
      go_wp2
      go_roundw
      case rel => exact ⟨k + 1, by omega, by go_num, built_step hB hlt _ rfl rfl⟩
      case measure => simp [intOf]; omega
    · have hkd : k = d + 1 := by omega
      subst hkd
      have hsz := hB.size
      obtain ⟨v0, c0⟩ := hB.t3
      have f0 := hB.fz w.heap.size 3 (Nat.le_refl _)
      have c1 : ∀ o : Obj, (wr.alloc o).cell? ⟨w.heap.size, 3, none⟩ = some v0 := fun o => old_cell (by omega) c0
      have f1 : ∀ (c : Array Value) (t : TypeId), (wr.alloc (.cells c t)).frozen? ⟨w.heap.size, 3, none⟩ = false := fun c t => by rw [frozen?_alloc_cells]; exact f0
      obtain ⟨vc, W2, hcopy, hP, hBel⟩ := copied hB (madeCells #[.pointer none] (d + 1)) (size_madeCells _ _)
      have t3 := hP.t3
      clear c0 f0 hB
      have wi : IntKind.i32.wrap (i : Int) = (i : Int) := by rw [IntKind.wrap_i32]; omega
      go_wp2_with fail
      refine (forget W2 _ d i hd hid hP).mono ?_
      rintro e X ⟨rfl, hQ, hBX⟩
      have hBel' := hBel.trans hBX
      clear hcopy hP t3 hBel hBX hmk c1 f1
      have t3 := hQ.t3
      have ll := hQ.ll
      have g1 : ((d : Int) != (d : Int)) = false := by simp
      have b0 : (0 : Int) ≤ (d : Int) := by omega
      have b1 : (d : Int) < (d : Int) + 1 := by omega
      have b2 : (d : Int) + 1 - 1 = (d : Int) := by omega
      go_wp2_with fail
      go_loop [12] (fun q => ∃ k : Nat, k ≤ d ∧ q = .int .i64 (k : Int)) (fun q => d - (intOf q).toNat)
      case atStart => exact ⟨0, Nat.zero_le _, rfl⟩
      case round =>
        obtain ⟨k, hk2, rfl⟩ := hrel
        by_cases hlt2 : k < d
        · have b3 : (0 : Int) ≤ (k : Int) := by omega
          have b4 : (k : Int) < (d : Int) := by omega
          have b5 : (k : Int) < (d : Int) + 1 := by omega
          have wk : IntKind.i32.wrap (k : Int) = (k : Int) := by rw [IntKind.wrap_i32]; omega
          have o1 := hQ.o k (by omega)
          have l1 := hQ.l k hlt2
          by_cases e : k = i
          · subst e
            rw [if_pos rfl] at l1
            have e1 : ((k : Int) == (k : Int)) = true := by simp
            have e2 : ((k : Int) != (k : Int)) = false := by simp
            have o2 := hQ.o d (by omega)
            have r3 := hQ.r3 d (by omega)
            have r4 := hQ.r4l
            clear hQ
            go_wp2
            go_round
            case rel => exact ⟨k + 1, by omega, by go_num⟩
            case measure => simp [intOf]; omega
          · rw [if_neg e] at l1
            have e1 : ((k : Int) == (i : Int)) = false := beq_eq_false_iff_ne.2 (by omega)
            have e2 : ((k : Int) != (k : Int)) = false := by simp
            have r3 := hQ.r3 k (by omega)
            have r4 := hQ.r4 k hlt2
            clear hQ
            go_wp2
            go_round
            case rel => exact ⟨k + 1, by omega, by go_num⟩
            case measure => simp [intOf]; omega
        · have hkd2 : k = d := by omega
          subst hkd2
          have o2 := hQ.o k (by omega)
          have o3 := hQ.o i (by omega)
          have r3 := hQ.r3 i (by omega)
          have r4 := hQ.r4l
          have b6 : (0 : Int) ≤ (i : Int) := by omega
          have b7 : (i : Int) < (k : Int) + 1 := by omega
          have e2 : ((i : Int) != (i : Int)) = false := by simp
          clear hQ
          go_wp2
          go_ret
          exact ⟨rfl, hBel'⟩
end Go.Proofs.Ybulkosu.Forget
