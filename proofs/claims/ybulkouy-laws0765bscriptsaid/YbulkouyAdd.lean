import Derived.Test.YbulkouyBase
import Derived.Deep.RegionHeld3
import Derived.Deep.QuietTactic
import Derived.BigQuiet
namespace Go.Proofs.Ybulkouy.Kt
open Go.ChangeShapes Go.WideShapes Go.ChangeAt Go.RowKit
open Go.WideMaps Go.WideElems Go.Maps

/-- ahead of the second half of add: the map is there -/
structure Half (W : World) (T C M : Nat) (ov : Value) (sz size rep : Int) (ks : ByteArray) (n : Nat) (xs : List Value) (D : DataW Unit) (base : Nat) : Prop where
  t : W.heap[T]? = some (.cells #[.map (some M), ov, .int .i64 sz] 26 (0, 0))
  c0 : W.cell? ⟨C, 0, none⟩ = some (.string ks)
  c5 : W.cell? ⟨C, 5, none⟩ = some (.int .i64 size)
  m : W.ownsMap Yba.prog 9 ptrElem M n D
  o : W.ownsRow base 30 1 ov n xs
  old : (D.atKey (.string ks.data.toList) .nil = .nil ∧ rep = 0) ∨ ∃ b : Nat, D.atKey (.string ks.data.toList) .nil = .lit (.int .u64 (b : Int)) ∧ W.cell? ⟨b, 5, none⟩ = some (.int .i64 rep)

/-- what add leaves -/
structure Added (w w' : World) (T C : Nat) (mo : Option Nat) (ov : Value) (n : Nat) (xs : List Value) (D : DataW Unit) (ks : ByteArray) (sz' : Int) (base M' : Nat) (ov' : Value) : Prop where
  t : w'.heap[T]? = some (.cells #[.map (some M'), ov', .int .i64 sz'] 26 (0, 0))
  m : w'.ownsMap Yba.prog 9 ptrElem M' (n + 1) (D.put (.string ks.data.toList) (.lit (.int .u64 (C : Int))))
  o : w'.ownsRow base 30 1 ov' (n + 1) (xs ++ [.pointer (some ⟨C, 0, none⟩)])
  kept : Kept (fun b => b = T ∨ mo = some b ∨ ov.ownBlock = some b) w w'
  mat : mo = some M' ∨ w.heap.size ≤ M'
  oat : ∀ g, ov'.ownBlock = some g → ov.ownBlock = some g ∨ w.heap.size ≤ g

theorem eql_map_nil (w : World) (mo : Option Nat) : (binOp .eql 23 (.map mo) (.map none)).run Yba.prog w = .ok (.bool mo.isNone) w := by
  have h : ∀ d : Nat, (Op.equalIn (d + 1) 23 (.map mo) (.map none)).run Yba.prog w = .ok mo.isNone w := fun d => by
    cases mo <;> simp [Op.equalIn, run_underlying Yba.underlying23]
  have e : (Op.equal 23 (.map mo) (.map none)).run Yba.prog w = .ok mo.isNone w := h 9999
  simp only [binOp]
  simp [e]
attribute [local go_sem] eql_map_nil

theorem look_eq {w : World} {M n : Nat} {D : DataW Unit} (hm : w.ownsMap Yba.prog 9 ptrElem M n D) {ks : ByteArray} (hks : ks.size ≤ maxLen) :
    (D.atKey (.string ks.data.toList) .nil = .nil → (Instr.lookup 23 (.map (some M)) (.string ks) false).run Yba.prog w = .ok (.pointer none) w) ∧
    ∀ b : Nat, D.atKey (.string ks.data.toList) .nil = .lit (.int .u64 (b : Int)) → (Instr.lookup 23 (.map (some M)) (.string ks) false).run Yba.prog w = .ok (.pointer (some ⟨b, 0, none⟩)) w := by
  obtain ⟨v, ps, hrun, hv⟩ := hm.lookup law Yba.underlying23 (zero30 w) (zd := .nil) (zp := []) rfl (keyOf_string_mk Yba.underlying9 hks)
  constructor
  · intro e; rw [e] at hv; rw [hrun, ptrElem_nil hv]
  · intro b e; rw [e] at hv; rw [hrun, ptrElem_at hv]

theorem Half.drewN {W : World} {T C M : Nat} {ov : Value} {sz size rep : Int} {ks : ByteArray} {n : Nat} {xs : List Value} {D : DataW Unit} {base : Nat} (h : Half W T C M ov sz size rep ks n xs D base) (q : Nat) : Half (W.drewN q) T C M ov sz size rep ks n xs D base :=
  ⟨h.t, h.c0, h.c5, h.m, h.o, h.old⟩

/-- the store into the map -/
theorem half_put {Y : World} {T C M : Nat} {ov : Value} {sz size rep : Int} {ks : ByteArray} {n : Nat} {xs : List Value} {D : DataW Unit} {base : Nat} (h : Half Y T C M ov sz size rep ks n xs D base) (hks : ks.size ≤ maxLen) (hn : n < 1024)
    (hCM : C ≠ M) (hMT : M ≠ T) :
    ∃ w2, (Instr.mapUpdate 23 (.map (some M)) (.string ks) (.pointer (some ⟨C, 0, none⟩))).run Yba.prog Y.drew = .ok () w2 ∧
      w2.heap[T]? = some (.cells #[.map (some M), ov, .int .i64 sz] 26 (0, 0)) ∧ w2.cell? ⟨C, 0, none⟩ = some (.string ks) ∧ w2.cell? ⟨C, 5, none⟩ = some (.int .i64 size) ∧
      w2.ownsMap Yba.prog 9 ptrElem M (n + 1) (D.put (.string ks.data.toList) (.lit (.int .u64 (C : Int)))) ∧ w2.ownsRow base 30 1 ov n xs ∧ Y.grownBy w2 (some M) := by
  obtain ⟨w2, hup, hown2, hg2⟩ := World.ownsMap.update (w := Y.drew) (val := .pointer (some ⟨C, 0, none⟩)) (d := .lit (.int .u64 (C : Int))) (ps := []) h.m law Yba.underlying23 (by unfold maxLen; omega) (keyOf_string_mk Yba.underlying9 hks) rfl
  have hg : Y.grownBy w2 (some M) := ⟨hg2.os, hg2.tape, hg2.output, hg2.size, hg2.block⟩
  have hk : Kept (fun b => b = M) Y w2 := (Kept.refl _ Y).grown hg (fun k e _ => by cases e; rfl)
  refine ⟨w2, hup, ?_, hk.cell h.c0 hCM, hk.cell h.c5 hCM, hown2, ownsRow_kept h.o hk ?_, hg⟩
  · rw [hk.block T (Array.getElem?_eq_some_iff.1 h.t).1 (fun e => hMT e.symm)]; exact h.t
  · rintro g hgo e
    subst e
    obtain ⟨es, cl, hm, _⟩ := h.m
    rcases h.o.2 with ⟨hv, _⟩ | ⟨g', cap, cur, hv, _, hh, _⟩
    · rw [hv] at hgo; cases hgo
    · rw [hv] at hgo
      cases hgo
      rw [hm] at hh
      cases hh

/-- the end of add -/
theorem added_of {w Y w2 w4 Z : World} {T C M g cap : Nat} {mo : Option Nat} {ov : Value} {sz sz' : Int} {ks : ByteArray} {n : Nat} {xs : List Value} {D : DataW Unit} {base : Nat}
    (hmo : mo = some M ∨ w.heap.size ≤ M) (hKY : Kept (fun b => b = T ∨ mo = some b ∨ ov.ownBlock = some b) w Y) (hg2 : Y.grownBy w2 (some M)) (hk4 : Kept (fun b => ov.ownBlock = some b) w2 w4) (hTw : T < w.heap.size)
    (hMT : M ≠ T) (hoT : ov.ownBlock ≠ some T) (hat4 : ov.ownBlock = some g ∨ w2.heap.size ≤ g)
    (t4 : w4.heap[T]? = some (.cells #[.map (some M), ov, .int .i64 sz] 26 (0, 0)))
    (m4 : w4.ownsMap Yba.prog 9 ptrElem M (n + 1) (D.put (.string ks.data.toList) (.lit (.int .u64 (C : Int)))))
    (o4 : w4.ownsRow base 30 1 (.slice (some ⟨g, 0, none⟩) (n + 1) cap) (n + 1) (xs ++ [.pointer (some ⟨C, 0, none⟩)]))
    (hZ : Z = w4.setCell ⟨T, 1, none⟩ (.slice (some ⟨g, 0, none⟩) (n + 1) cap)) :
    Added w (Z.setCell ⟨T, 2, none⟩ (.int .i64 sz')) T C mo ov n xs D ks sz' base M (.slice (some ⟨g, 0, none⟩) (n + 1) cap) := by
  subst hZ
  have hs1 := hKY.size
  have hs2 := hg2.size
  have hgT : g ≠ T := fun e => by
    subst e
    rcases hat4 with h | h
    · exact hoT h
    · omega
  have k1 : Kept (fun b => b = T ∨ mo = some b ∨ ov.ownBlock = some b) w w2 := hKY.grown hg2 (fun k e hk => by
    cases e
    rcases hmo with h | h
    · exact .inr (.inl h)
    · omega)
  have k2 : Kept (fun b => b = T ∨ mo = some b ∨ ov.ownBlock = some b) w w4 := k1.andThen hk4 (fun i _ h => .inr (.inr h))
  have t5 := heap_setCell_same w4 T 1 _ 26 (.slice (some ⟨g, 0, none⟩) (n + 1) cap) t4
  refine ⟨?_, (m4.setCell hMT _).setCell hMT _, ?_, (k2.setCell (.inl rfl) _).setCell (.inl rfl) _, hmo, ?_⟩
  · rw [heap_setCell_same _ T 2 _ 26 (.int .i64 sz') t5]; rfl
  · refine ownsRow_kept o4 (((Kept.refl (fun b => b = T) w4).setCell rfl _).setCell rfl _) (fun g' hg' e => ?_)
    cases hg'
    exact hgT e
  · rintro g' hg'
    cases hg'
    rcases hat4 with h | h
    · exact .inl h
    · exact .inr (show w.heap.size ≤ g by omega)

theorem Added.drew {w w' : World} {T C : Nat} {mo : Option Nat} {ov : Value} {n : Nat} {xs : List Value} {D : DataW Unit} {ks : ByteArray} {sz' : Int} {base M' : Nat} {ov' : Value} (h : Added w w' T C mo ov n xs D ks sz' base M' ov') : Added w w'.drew T C mo ov n xs D ks sz' base M' ov' :=
  ⟨h.t, h.m, h.o, h.kept.drew, h.mat, h.oat⟩

set_option maxRecDepth 100000 in
set_option maxHeartbeats 1000000 in
theorem add_made (w : World) (T C M : Nat) (ov : Value) (sz size rep : Int) (ks : ByteArray) (n : Nat) (xs : List Value) (D : DataW Unit) (base : Nat)
    (h : Half w T C M ov sz size rep ks n xs D base) (hks : ks.size ≤ maxLen) (hn : n < 1024) (hCT : C ≠ T) (hCM : C ≠ M) (hMT : M ≠ T) (hoT : ov.ownBlock ≠ some T) (hoC : ov.ownBlock ≠ some C) (hbase : base ≤ w.heap.size) :
    Calls Yba.prog 5 #[.pointer (some ⟨T, 0, none⟩), .pointer (some ⟨C, 0, none⟩)] w fun e w' => ∃ M' ov', e = .returned (.int .i64 rep) ∧ Added w w' T C (some M) ov n xs D ks (wrap64 (sz + wrap64 (size - rep))) base M' ov' := by
  have t0 : w.cell? ⟨T, 0, none⟩ = some (.map (some M)) := by rw [cell_of_row _ _ _ _ _ _ h.t]; rfl
  have hTw : Hid (w.heap[T]? = some (.cells #[.map (some M), ov, .int .i64 sz] 26 (0, 0))) := h.t
  go_enter Yba.func5, Yba.ntmps5
  go_wp2_with fail
  rcases h.old with ⟨ho, rfl⟩ | ⟨b, ho, hb5⟩
  all_goals
    first
    | have hlk : ∀ nq, (Instr.lookup 23 (.map (some M)) (.string ks) false).run Yba.prog (w.drewN nq) = .ok (.pointer none) (w.drewN nq) := fun nq => (look_eq (w := w.drewN nq) h.m hks).1 ho
    | have hlk : ∀ nq, (Instr.lookup 23 (.map (some M)) (.string ks) false).run Yba.prog (w.drewN nq) = .ok (.pointer (some ⟨b, 0, none⟩)) (w.drewN nq) := fun nq => (look_eq (w := w.drewN nq) h.m hks).2 b ho
    have c0 := h.c0
    go_quiet (fail)
    go_wp2_with fail
    clear hlk
  all_goals
    have hY := h.drewN nq
    have hKY : Kept (fun b => b = T ∨ some M = some b ∨ ov.ownBlock = some b) w (w.drewN nq) := (Kept.refl _ w).drewN nq
    have hbY : base ≤ (w.drewN nq).heap.size := hbase
    clear h t0 c0
    generalize w.drewN nq = Y at hY hKY hbY ⊢
    obtain ⟨w2, hup, t2, c2, c5, m2, o2, hg2⟩ := half_put hY hks hn hCM hMT
    have y0 : Y.cell? ⟨T, 0, none⟩ = some (.map (some M)) := by rw [cell_of_row _ _ _ _ _ _ hY.t]; rfl
    have y1 := hY.c0
    have z0 : w2.cell? ⟨T, 0, none⟩ = some (.map (some M)) := by rw [cell_of_row _ _ _ _ _ _ t2]; rfl
    have z1 : w2.cell? ⟨T, 1, none⟩ = some ov := by rw [cell_of_row _ _ _ _ _ _ t2]; rfl
    obtain ⟨g, cap, w4, happ, o4, hg4, hat4, hlt4⟩ := appended (w2.alloc (.cells #[.pointer (some ⟨C, 0, none⟩)] 30)) ov n xs base (ownsRow_kept o2 ((Kept.refl (fun _ => False) _).alloc _) (fun _ _ h => h)) (by omega) (.pointer (some ⟨C, 0, none⟩)) rfl w2.heap.size
      (by rw [cell_of_row _ _ _ _ _ _ (heap_alloc_new w2 _)]; rfl) (by have := hg2.size; simp; omega) 24
    have hk4 : Kept (fun b => ov.ownBlock = some b) w2 w4 := ((Kept.refl _ w2).alloc _).grown hg4 (fun k e _ => e)
    have t4 : w4.heap[T]? = some (.cells #[.map (some M), ov, .int .i64 sz] 26 (0, 0)) := (hk4.block T (Array.getElem?_eq_some_iff.1 t2).1 hoT).trans t2
    have c54 : w4.cell? ⟨C, 5, none⟩ = some (.int .i64 size) := hk4.cell c5 hoC
    have m4 : w4.ownsMap Yba.prog 9 ptrElem M (n + 1) (D.put (.string ks.data.toList) (.lit (.int .u64 (C : Int)))) := by
      refine (m2.alloc _).kept hg4 (fun e => ?_)
      obtain ⟨es, cl, hm, _⟩ := m2
      rcases o2.2 with ⟨hv, _⟩ | ⟨g', cap', cur, hv, _, hh, _⟩
      · rw [hv] at e; cases e
      · rw [hv] at e
        cases e
        rw [hm] at hh
        cases hh
    have z4 : w4.cell? ⟨T, 1, none⟩ = some ov := by rw [cell_of_row _ _ _ _ _ _ t4]; rfl
    have f4 : w4.frozen? ⟨T, 1, none⟩ = false := frozen_of_row _ _ _ _ _ t4
    go_region_held3 (fun w' => w'.cell? ⟨T, 0, none⟩ = some (.map (some M)) ∧ w'.cell? ⟨C, 0, none⟩ = some (.string ks)) (go_keep) (fail)
    go_wp2_with (at_builtin; refine wpList_append_run rfl _ _ _ rfl _ _ _ w4 rfl rfl happ ?_)
    have t5 := heap_setCell_same w4 T 1 _ 26 (.slice (some ⟨g, 0, none⟩) (n + 1) cap) t4
    have c55 : (w4.setCell ⟨T, 1, none⟩ (.slice (some ⟨g, 0, none⟩) (n + 1) cap)).cell? ⟨C, 5, none⟩ = some (.int .i64 size) := ((Kept.refl (fun b => b = T) w4).setCell rfl _).cell c54 hCT
    have hfin := fun sz' => added_of (C := C) (sz' := sz') (.inl rfl) hKY hg2 hk4 (by have := (Array.getElem?_eq_some_iff.1 hTw.out).1; exact this) hMT hoT (hat4.elim .inl (fun e => .inr (by rw [e]; simp))) t4 m4 o4 rfl
    generalize (w4.setCell ⟨T, 1, none⟩ (.slice (some ⟨g, 0, none⟩) (n + 1) cap)) = Z at t5 c55 hfin ⊢
    have z2 : Z.cell? ⟨T, 2, none⟩ = some (.int .i64 sz) := by rw [cell_of_row _ _ _ _ _ _ t5]; rfl
    have f2 : Z.frozen? ⟨T, 2, none⟩ = false := frozen_of_row _ _ _ _ _ t5
    clear hup happ y0 y1 z0 z1 z4 f4 c2 c5 c54 t4 m4 o4 hg2 hk4 hKY hY m2 o2 t2 hat4 hlt4 hg4 t5 hbY ho
    have hfin' : ∀ sz', Hid (Added w (Z.setCell ⟨T, 2, none⟩ (.int .i64 sz')) T C (some M) ov n xs D ks sz' base M (.slice (some ⟨g, 0, none⟩) (n + 1) cap)) := hfin
    clear hfin
    go_region
    go_wp2
    go_ret
    refine ⟨M, .slice (some ⟨g, 0, none⟩) (n + 1) cap, rfl, ?_⟩
    first
    | exact (hfin' _).out.drew
    | (rw [Int.sub_zero]; exact (hfin' (wrap64 (sz + wrap64 size))).out.drew)
/-- Half, behind the making of the map -/
theorem half_made {w : World} {T C : Nat} {ov : Value} {sz size : Int} {ks : ByteArray} {xs : List Value} {base : Nat} (ht : w.heap[T]? = some (.cells #[.map none, ov, .int .i64 sz] 26 (0, 0))) (c0 : w.cell? ⟨C, 0, none⟩ = some (.string ks))
    (c5 : w.cell? ⟨C, 5, none⟩ = some (.int .i64 size)) (o : w.ownsRow base 30 1 ov 0 xs) (hCT : C ≠ T) (hoT : ov.ownBlock ≠ some T) :
    Half ((w.alloc (.map #[] 0)).setCell ⟨T, 0, none⟩ (.map (some w.heap.size))) T C w.heap.size ov sz size 0 ks 0 xs (.map []) base := by
  have hTw := (Array.getElem?_eq_some_iff.1 ht).1
  have t1 : (w.alloc (.map #[] 0)).heap[T]? = some (.cells #[.map none, ov, .int .i64 sz] 26 (0, 0)) := (Below.heap_alloc w _ _ hTw).trans ht
  have k : Kept (fun b => b = T) w ((w.alloc (.map #[] 0)).setCell ⟨T, 0, none⟩ (.map (some w.heap.size))) := ((Kept.refl (fun b => b = T) w).alloc _).setCell rfl _
  refine ⟨?_, k.cell c0 hCT, k.cell c5 hCT, (World.ownsMap_made w Yba.prog 9 ptrElem).setCell (by show w.heap.size ≠ T; omega) _, ownsRow_kept o k (fun g hg e => hoT (by rw [hg, e])), .inl ⟨rfl, rfl⟩⟩
  rw [heap_setCell_same _ T 0 _ 26 (.map (some w.heap.size)) t1]; rfl

set_option maxRecDepth 100000 in
set_option maxHeartbeats 1000000 in
theorem add_first (w : World) (T C : Nat) (ov : Value) (sz size : Int) (ks : ByteArray) (xs : List Value) (base : Nat)
    (ht : w.heap[T]? = some (.cells #[.map none, ov, .int .i64 sz] 26 (0, 0))) (hc0 : w.cell? ⟨C, 0, none⟩ = some (.string ks)) (hc5 : w.cell? ⟨C, 5, none⟩ = some (.int .i64 size)) (ho : w.ownsRow base 30 1 ov 0 xs)
    (hks : ks.size ≤ maxLen) (hCT : C ≠ T) (hoT : ov.ownBlock ≠ some T) (hoC : ov.ownBlock ≠ some C) (hbase : base ≤ w.heap.size) :
    Calls Yba.prog 5 #[.pointer (some ⟨T, 0, none⟩), .pointer (some ⟨C, 0, none⟩)] w fun e w' => ∃ M' ov', e = .returned (.int .i64 0) ∧ Added w w' T C none ov 0 xs (.map []) ks (wrap64 (sz + wrap64 (size - 0))) base M' ov' := by
  have t0 : w.cell? ⟨T, 0, none⟩ = some (.map none) := by rw [cell_of_row _ _ _ _ _ _ ht]; rfl
  have f0 : w.frozen? ⟨T, 0, none⟩ = false := frozen_of_row _ _ _ _ _ ht
  have hTw : Hid (w.heap[T]? = some (.cells #[.map none, ov, .int .i64 sz] 26 (0, 0))) := ht
  have hlt := (Array.getElem?_eq_some_iff.1 ht).1
  have t0' : (w.alloc (.map #[] 0)).cell? ⟨T, 0, none⟩ = some (.map none) := by rw [World.cell?_alloc_past _ _ _ hlt]; exact t0
  have f0' : (w.alloc (.map #[] 0)).frozen? ⟨T, 0, none⟩ = false := by rw [frozen?_alloc_map]; exact f0
  have hmm := @run_makeMap Yba.prog
  have hH := half_made ht hc0 hc5 ho hCT hoT
  have hCw := block_lt_of_cell hc0
  have hK1 : Kept (fun b => b = T ∨ none = some b ∨ ov.ownBlock = some b) w ((w.alloc (.map #[] 0)).setCell ⟨T, 0, none⟩ (.map (some w.heap.size))) := ((Kept.refl _ w).alloc _).setCell (.inl rfl) _
  have hb1 : base ≤ ((w.alloc (.map #[] 0)).setCell ⟨T, 0, none⟩ (.map (some w.heap.size))).heap.size := by simp; omega
  have eV : (w.alloc (.map #[] 0)).setCell ⟨T, 0, none⟩ (.map (some w.heap.size)) = (w.setCell ⟨T, 0, none⟩ (.map (some w.heap.size))).alloc (.map #[] 0) := World.setCell_alloc_past (w := w) (.map #[] 0) T 0 (.map (some w.heap.size)) hlt
  rw [eV] at hH hK1 hb1
  clear ht ho hc0 hc5 eV
  go_enter Yba.func5, Yba.ntmps5
  go_wp2_with fail
  clear t0 f0 t0' f0' hmm
  generalize hM : w.heap.size = M at hH hK1 hb1 hbase ⊢
  generalize (w.setCell ⟨T, 0, none⟩ (.map (some M))).alloc (.map #[] 0) = V at hH hK1 hb1 ⊢
  have hMT : M ≠ T := by omega
  have hCM : C ≠ M := by
    have : C < w.heap.size := hCw
    omega
  have hMw : w.heap.size ≤ M := by omega
  clear hM hlt hCw
  have hn : (0 : Nat) < 1024 := by omega
  have hlk : ∀ nq, (Instr.lookup 23 (.map (some M)) (.string ks) false).run Yba.prog (V.drewN nq) = .ok (.pointer none) (V.drewN nq) := fun nq => (look_eq (w := V.drewN nq) hH.m hks).1 rfl
  have c0 := hH.c0
  have t0 : V.cell? ⟨T, 0, none⟩ = some (.map (some M)) := by rw [cell_of_row _ _ _ _ _ _ hH.t]; rfl
  obtain ⟨n, hn0⟩ : ∃ n, n = 0 := ⟨0, rfl⟩
  obtain ⟨D, hD0⟩ : ∃ D : DataW Unit, D = .map [] := ⟨_, rfl⟩
  go_quiet (fail)
  go_wp2_with fail
  clear hlk
  have hY := hH.drewN nq
  have hKY : Kept (fun b => b = T ∨ none = some b ∨ ov.ownBlock = some b) w (V.drewN nq) := hK1.drewN nq
  have hbY : base ≤ (V.drewN nq).heap.size := hb1
  clear hH hK1 hb1 t0 c0
  generalize V.drewN nq = Y at hY hKY hbY ⊢
  obtain ⟨w2, hup, t2, c2, c5, m2, o2, hg2⟩ := half_put hY hks hn hCM hMT
  have y0 : Y.cell? ⟨T, 0, none⟩ = some (.map (some M)) := by rw [cell_of_row _ _ _ _ _ _ hY.t]; rfl
  have y1 := hY.c0
  have z0 : w2.cell? ⟨T, 0, none⟩ = some (.map (some M)) := by rw [cell_of_row _ _ _ _ _ _ t2]; rfl
  have z1 : w2.cell? ⟨T, 1, none⟩ = some ov := by rw [cell_of_row _ _ _ _ _ _ t2]; rfl
  obtain ⟨g, cap, w4, happ, o4, hg4, hat4, hlt4⟩ := appended (w2.alloc (.cells #[.pointer (some ⟨C, 0, none⟩)] 30)) ov 0 xs base (ownsRow_kept o2 ((Kept.refl (fun _ => False) _).alloc _) (fun _ _ h => h)) (by omega) (.pointer (some ⟨C, 0, none⟩)) rfl w2.heap.size
    (by rw [cell_of_row _ _ _ _ _ _ (heap_alloc_new w2 _)]; rfl) (by have := hg2.size; simp; omega) 24
  have hk4 : Kept (fun b => ov.ownBlock = some b) w2 w4 := ((Kept.refl _ w2).alloc _).grown hg4 (fun k e _ => e)
  have t4 : w4.heap[T]? = some (.cells #[.map (some M), ov, .int .i64 sz] 26 (0, 0)) := (hk4.block T (Array.getElem?_eq_some_iff.1 t2).1 hoT).trans t2
  have c54 : w4.cell? ⟨C, 5, none⟩ = some (.int .i64 size) := hk4.cell c5 hoC
  have m4 : w4.ownsMap Yba.prog 9 ptrElem M (0 + 1) ((DataW.map []).put (.string ks.data.toList) (.lit (.int .u64 (C : Int)))) := by
    refine (m2.alloc _).kept hg4 (fun e => ?_)
    obtain ⟨es, cl, hm, _⟩ := m2
    rcases o2.2 with ⟨hv, _⟩ | ⟨g', cap', cur, hv, _, hh, _⟩
    · rw [hv] at e; cases e
    · rw [hv] at e
      cases e
      rw [hm] at hh
      cases hh
  have z4 : w4.cell? ⟨T, 1, none⟩ = some ov := by rw [cell_of_row _ _ _ _ _ _ t4]; rfl
  have f4 : w4.frozen? ⟨T, 1, none⟩ = false := frozen_of_row _ _ _ _ _ t4
  go_region_held3 (fun w' => w'.cell? ⟨T, 0, none⟩ = some (.map (some M)) ∧ w'.cell? ⟨C, 0, none⟩ = some (.string ks)) (go_keep) (fail)
  go_wp2_with (at_builtin; refine wpList_append_run rfl _ _ _ rfl _ _ _ w4 rfl rfl happ ?_)
  have t5 := heap_setCell_same w4 T 1 _ 26 (.slice (some ⟨g, 0, none⟩) (0 + 1) cap) t4
  have c55 : (w4.setCell ⟨T, 1, none⟩ (.slice (some ⟨g, 0, none⟩) (0 + 1) cap)).cell? ⟨C, 5, none⟩ = some (.int .i64 size) := ((Kept.refl (fun b => b = T) w4).setCell rfl _).cell c54 hCT
  have hfin := fun sz' => added_of (C := C) (sz' := sz') (.inr hMw) hKY hg2 hk4 (by have := (Array.getElem?_eq_some_iff.1 hTw.out).1; exact this) hMT hoT (hat4.elim .inl (fun e => .inr (by rw [e]; simp))) t4 m4 o4 rfl
  generalize (w4.setCell ⟨T, 1, none⟩ (.slice (some ⟨g, 0, none⟩) (0 + 1) cap)) = Z at t5 c55 hfin ⊢
  have z2 : Z.cell? ⟨T, 2, none⟩ = some (.int .i64 sz) := by rw [cell_of_row _ _ _ _ _ _ t5]; rfl
  have f2 : Z.frozen? ⟨T, 2, none⟩ = false := frozen_of_row _ _ _ _ _ t5
  clear hup happ y0 y1 z0 z1 z4 f4 c2 c5 c54 t4 m4 o4 hg2 hk4 hKY hY m2 o2 t2 hat4 hlt4 hg4 t5 hbY hMw
  have hfin' : ∀ sz', Hid (Added w (Z.setCell ⟨T, 2, none⟩ (.int .i64 sz')) T C none ov 0 xs (.map []) ks sz' base M (.slice (some ⟨g, 0, none⟩) (0 + 1) cap)) := hfin
  clear hfin
  go_region
  go_wp2
  go_ret
  refine ⟨M, .slice (some ⟨g, 0, none⟩) (0 + 1) cap, rfl, ?_⟩
  first
  | exact (hfin' _).out.drew
  | (rw [Int.sub_zero]; exact (hfin' (wrap64 (sz + wrap64 size))).out.drew)
end Go.Proofs.Ybulkouy.Kt
