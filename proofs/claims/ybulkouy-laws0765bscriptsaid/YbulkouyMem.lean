import Derived.Test.YbulkouyAdd
namespace Go.Proofs.Ybulkouy.Kt
open Go.ChangeShapes Go.WideShapes Go.ChangeAt Go.RowKit
open Go.WideMaps Go.WideElems Go.Maps

/-- the keys -/
def keyS (q : Nat) : ByteArray := if q = 0 then ⟨#[97]⟩ else if q = 1 then ⟨#[98]⟩ else if q = 2 then ⟨#[97, 98]⟩ else ⟨#[]⟩
def keyL (q : Nat) : Lit := .string (keyS q).data.toList

theorem keyS_le (q : Nat) : (keyS q).size ≤ maxLen := by
  unfold keyS
  repeat' split
  all_goals decide

theorem key (q : Nat) (w : World) : Calls Yba.prog 4 #[.int .i64 (q : Int)] w fun e w' => e = .returned (.string (keyS q)) ∧ w' = w := by
  unfold keyS
  by_cases h0 : q = 0
  · subst h0
    go_enter Yba.func4, Yba.ntmps4
    go_wp2
    go_ret
    exact ⟨rfl, rfl⟩
  by_cases h1 : q = 1
  · subst h1
    go_enter Yba.func4, Yba.ntmps4
    go_wp2
    go_ret
    exact ⟨rfl, rfl⟩
  by_cases h2 : q = 2
  · subst h2
    go_enter Yba.func4, Yba.ntmps4
    go_wp2
    go_ret
    exact ⟨rfl, rfl⟩
  rw [if_neg h0, if_neg h1, if_neg h2]
  have g0 : ((q : Int) == 0) = false := beq_eq_false_iff_ne.2 (by omega)
  have g1 : ((q : Int) == 1) = false := beq_eq_false_iff_ne.2 (by omega)
  have g2 : ((q : Int) == 2) = false := beq_eq_false_iff_ne.2 (by omega)
  go_enter Yba.func4, Yba.ntmps4
  go_wp2
  go_ret
  exact ⟨rfl, rfl⟩

theorem keyL_inj {p q : Nat} (hp : p < 4) (hq : q < 4) (h : keyL p = keyL q) : p = q := by
  have e : (keyS p).data.toList = (keyS q).data.toList := by
    unfold keyL at h
    injection h
  match p, q, hp, hq with
  | 0, 0, _, _ => rfl
  | 1, 1, _, _ => rfl
  | 2, 2, _, _ => rfl
  | 3, 3, _, _ => rfl
  | 0, 1, _, _ | 0, 2, _, _ | 0, 3, _, _ | 1, 0, _, _ | 1, 2, _, _ | 1, 3, _, _ | 2, 0, _, _ | 2, 1, _, _ | 2, 3, _, _ | 3, 0, _, _ | 3, 1, _, _ | 3, 2, _, _ => simp [keyS] at e

def ptr (b : Nat) : Value := .pointer (some ⟨b, 0, none⟩)
def ptrs (C : Nat → Nat) (k : Nat) : List Value := (List.range k).map fun j => ptr (C j)
theorem ptrs_succ (C : Nat → Nat) (k : Nat) : ptrs C (k + 1) = ptrs C k ++ [ptr (C k)] := by simp [ptrs, List.range_succ]
theorem ptrs_congr {C C' : Nat → Nat} {k : Nat} (h : ∀ j, j < k → C j = C' j) : ptrs C k = ptrs C' k := by
  unfold ptrs
  exact List.map_congr_left fun j hj => by rw [h j (List.mem_range.1 hj)]
theorem ptrs_get {C : Nat → Nat} {k j : Nat} (h : j < k) : (ptrs C k)[j]? = some (ptr (C j)) := by simp [ptrs, h]

def lrow (lst : Nat → Int) : Array Value := #[.int .i64 (lst 0), .int .i64 (lst 1), .int .i64 (lst 2), .int .i64 (lst 3)]

theorem lrow_get (lst : Nat → Int) {q : Nat} (h : q < 4) : (lrow lst)[q]? = some (.int .i64 (lst q)) := by
  match q, h with
  | 0, _ => rfl
  | 1, _ => rfl
  | 2, _ => rfl
  | 3, _ => rfl

theorem lrow_set (lst : Nat → Int) {q : Nat} (h : q < 4) (v : Int) : (lrow lst).setIfInBounds q (.int .i64 v) = lrow (fun p => if p = q then v else lst p) := by
  match q, h with
  | 0, _ => rfl
  | 1, _ => rfl
  | 2, _ => rfl
  | 3, _ => rfl

/-- the table's map: nil, or a map of the call's own -/
def MapIs (w : World) (mo : Option Nat) (nd : Nat) (D : DataW Unit) : Prop :=
  (mo = none ∧ nd = 0 ∧ D = .map []) ∨ ∃ M, mo = some M ∧ w.ownsMap Yba.prog 9 ptrElem M nd D

/-- the law's memory -/
structure Mem (w wr : World) (T : Nat) (mo : Option Nat) (ov mv : Value) (C : Nat → Nat) (lst : Nat → Int) (D : DataW Unit) (tsz : Int) (sz : Nat → Int) (nd ko km kc : Nat) : Prop where
  bel : Below T w wr
  t : wr.heap[T]? = some (.cells #[.map mo, ov, .int .i64 tsz] 26 (0, 0))
  l : wr.heap[T + 2]? = some (.cells (lrow lst) 27 (0, 0))
  m : MapIs wr mo nd D
  mge : ∀ M, mo = some M → T ≤ M
  o : wr.ownsRow T 30 1 ov ko (ptrs C ko)
  md : wr.ownsRow T 30 1 mv km (ptrs C km)
  c : ∀ j, j < kc → ∃ cc : Array Value, wr.heap[C j]? = some (.cells cc 38 (0, 0)) ∧ cc[5]? = some (.int .i64 (sz j))
  sep : ∀ g, ov.ownBlock = some g → mv.ownBlock ≠ some g

theorem own_cells {w : World} {base : Nat} {e : TypeId} {v : Value} {n : Nat} {xs : List Value} (h : w.ownsRow base e 1 v n xs) {g : Nat} (hg : v.ownBlock = some g) : base ≤ g ∧ ∃ cur, w.heap[g]? = some (.cells cur e (0, 0)) := by
  rcases h.2 with ⟨hv, _⟩ | ⟨g', cap, cur, hv, hb, hh, _⟩
  · rw [hv] at hg; cases hg
  · rw [hv] at hg; cases hg; exact ⟨hb, cur, hh⟩

theorem own_ne {w : World} {base : Nat} {e : TypeId} {v : Value} {n : Nat} {xs : List Value} (h : w.ownsRow base e 1 v n xs) {b : Nat} {cc : Array Value} {t : TypeId} {fr : Nat × Nat} (hb : w.heap[b]? = some (.cells cc t fr)) (hne : t ≠ e) : v.ownBlock ≠ some b := fun hg => by
  obtain ⟨_, cur, hh⟩ := own_cells h hg
  rw [hb] at hh
  injection hh with hh
  injection hh with _ h2
  exact hne h2

theorem map_ne {w : World} {mo : Option Nat} {nd : Nat} {D : DataW Unit} (h : MapIs w mo nd D) {b : Nat} {cc : Array Value} {t : TypeId} {fr : Nat × Nat} (hb : w.heap[b]? = some (.cells cc t fr)) : mo ≠ some b := fun e => by
  rcases h with ⟨h, _⟩ | ⟨M, h, es, cl, hm, _⟩
  · rw [h] at e; cases e
  · rw [h] at e
    cases e
    rw [hb] at hm
    cases hm

/-- a step that turns nothing that was there -/
theorem Mem.kept {w wr V : World} {T : Nat} {mo : Option Nat} {ov mv : Value} {C : Nat → Nat} {lst : Nat → Int} {D : DataW Unit} {tsz : Int} {sz : Nat → Int} {nd ko km kc : Nat}
    (h : Mem w wr T mo ov mv C lst D tsz sz nd ko km kc) (hk : Kept (fun _ => False) wr V) : Mem w V T mo ov mv C lst D tsz sz nd ko km kc := by
  have hlt := (Array.getElem?_eq_some_iff.1 h.t).1
  refine ⟨h.bel.trans (hk.below (by omega) (fun i hi => hi.elim)), ?_, ?_, ?_, h.mge, ownsRow_kept h.o hk (fun _ _ x => x), ownsRow_kept h.md hk (fun _ _ x => x), fun j hj => ?_, h.sep⟩
  · exact (hk.block T hlt (fun x => x)).trans h.t
  · exact (hk.block _ (Array.getElem?_eq_some_iff.1 h.l).1 (fun x => x)).trans h.l
  · rcases h.m with h | ⟨M, h1, es, cl, hm, r⟩
    · exact .inl h
    · exact .inr ⟨M, h1, es, cl, (hk.block M (Array.getElem?_eq_some_iff.1 hm).1 (fun x => x)).trans hm, r⟩
  · obtain ⟨cc, h1, h2⟩ := h.c j hj
    exact ⟨cc, (hk.block _ (Array.getElem?_eq_some_iff.1 h1).1 (fun x => x)).trans h1, h2⟩

/-- a new kept change -/
theorem Mem.newC {w wr : World} {T : Nat} {mo : Option Nat} {ov mv : Value} {C : Nat → Nat} {lst : Nat → Int} {D : DataW Unit} {tsz : Int} {sz : Nat → Int} {nd k : Nat}
    (h : Mem w wr T mo ov mv C lst D tsz sz nd k k k) (cc : Array Value) (hcc : cc[5]? = some (.int .i64 (sz k))) :
    Mem w (wr.alloc (.cells cc 38)).drew T mo ov mv (fun j => if j = k then wr.heap.size else C j) lst D tsz sz nd k k (k + 1) := by
  have h' := h.kept (((Kept.refl (fun _ => False) wr).alloc (.cells cc 38)).drew)
  have e : ptrs C k = ptrs (fun j => if j = k then wr.heap.size else C j) k := ptrs_congr fun j hj => by rw [if_neg (by omega)]
  refine ⟨h'.bel, h'.t, h'.l, h'.m, h'.mge, e ▸ h'.o, e ▸ h'.md, fun j hj => ?_, h'.sep⟩
  by_cases ej : j = k
  · subst ej
    rw [if_pos rfl]
    exact ⟨cc, heap_alloc_new wr _, hcc⟩
  · rw [if_neg ej]
    exact h'.c j (by omega)

/-- add, on the law's memory -/
theorem add {w V : World} {T : Nat} {mo : Option Nat} {ov mv : Value} {C : Nat → Nat} {lst : Nat → Int} {D : DataW Unit} {tsz : Int} {sz : Nat → Int} {nd k : Nat}
    (h : Mem w V T mo ov mv C lst D tsz sz nd k k (k + 1)) (hT : w.heap.size = T) (hk : k < 1024) (hnd : nd = k) (q : Nat) (rep : Int)
    (hc0 : V.cell? ⟨C k, 0, none⟩ = some (.string (keyS q)))
    (hold : (D.atKey (keyL q) .nil = .nil ∧ rep = 0) ∨ ∃ j : Nat, j < k ∧ D.atKey (keyL q) .nil = .lit (.int .u64 (C j : Int)) ∧ rep = sz j) :
    Calls Yba.prog 5 #[.pointer (some ⟨T, 0, none⟩), .pointer (some ⟨C k, 0, none⟩)] V fun e w1 => ∃ M' ov', e = .returned (.int .i64 rep) ∧
      Mem w w1 T (some M') ov' mv C lst (D.put (keyL q) (.lit (.int .u64 (C k : Int)))) (wrap64 (tsz + wrap64 (sz k - rep))) sz (k + 1) (k + 1) k (k + 1) := by
  subst hnd
  obtain ⟨cc, hC, hC5⟩ := h.c nd (by omega)
  have hc5 : V.cell? ⟨C nd, 5, none⟩ = some (.int .i64 (sz nd)) := by rw [cell_of_row _ _ _ _ _ _ hC]; exact hC5
  have hCT : C nd ≠ T := fun e => by
    rw [e, h.t] at hC
    injection hC with hC
    injection hC with _ h2
    cases h2
  have hoT := own_ne h.o h.t (by decide)
  have hoC := own_ne h.o hC (by decide)
  have hbT : T ≤ V.heap.size := by have := (Array.getElem?_eq_some_iff.1 h.t).1; omega
  have main : Calls Yba.prog 5 #[.pointer (some ⟨T, 0, none⟩), .pointer (some ⟨C nd, 0, none⟩)] V fun e w' => ∃ M' ov', e = .returned (.int .i64 rep) ∧ Added V w' T (C nd) mo ov nd (ptrs C nd) D (keyS q) (wrap64 (tsz + wrap64 (sz nd - rep))) T M' ov' := by
    rcases h.m with ⟨rfl, h0, rfl⟩ | ⟨M, rfl, hm⟩
    · have hr : rep = 0 := by
        rcases hold with ⟨_, h⟩ | ⟨j, hj, _⟩
        · exact h
        · omega
      have ho := h.o
      subst hr
      rw [h0] at hC hc5 hc0 hCT hoC ho ⊢
      exact add_first V T (C 0) ov tsz (sz 0) (keyS q) (ptrs C 0) T h.t hc0 hc5 ho (keyS_le q) hCT hoT hoC hbT
    · have hMC : C nd ≠ M := fun e => map_ne h.m hC (by rw [e])
      have hMT : M ≠ T := fun e => map_ne h.m h.t (by rw [e])
      refine add_made V T (C nd) M ov tsz (sz nd) rep (keyS q) nd (ptrs C nd) D T ⟨h.t, hc0, hc5, hm, h.o, ?_⟩ (keyS_le q) hk hCT hMC hMT hoT hoC hbT
      rcases hold with h1 | ⟨j, hj, h1, h2⟩
      · exact .inl h1
      · obtain ⟨cj, hj1, hj2⟩ := h.c j (by omega)
        exact .inr ⟨C j, h1, by rw [cell_of_row _ _ _ _ _ _ hj1, h2]; exact hj2⟩
  refine main.mono ?_
  rintro e w1 ⟨M', ov', rfl, hA⟩
  refine ⟨M', ov', rfl, ?_⟩
  have hS : ∀ b, (b = T ∨ mo = some b ∨ ov.ownBlock = some b) → T ≤ b := fun b hb => by
    rcases hb with rfl | hb | hb
    · exact Nat.le_refl _
    · exact h.mge b hb
    · exact (own_cells h.o hb).1
  refine ⟨h.bel.trans (hA.kept.below hbT hS), hA.t, ?_, .inr ⟨M', rfl, hA.m⟩, fun M e => ?_, ?_, ownsRow_kept h.md hA.kept (fun g hg hb => ?_), fun j hj => ?_, fun g hg hg' => ?_⟩
  · rw [hA.kept.block (T + 2) (Array.getElem?_eq_some_iff.1 h.l).1 (fun hb => ?_)]
    · exact h.l
    rcases hb with hb | hb | hb
    · omega
    · exact map_ne h.m h.l hb
    · exact own_ne h.o h.l (by decide) hb
  · cases e
    rcases hA.mat with h1 | h1
    · exact h.mge _ h1
    · omega
  · rw [ptrs_succ]; exact hA.o
  · rcases hb with hb | hb | hb
    · subst hb; exact own_ne h.md h.t (by decide) hg
    · obtain ⟨_, cur, hh⟩ := own_cells h.md hg
      exact map_ne h.m hh hb
    · exact h.sep g hb hg
  · obtain ⟨cj, hj1, hj2⟩ := h.c j hj
    refine ⟨cj, ?_, hj2⟩
    rw [hA.kept.block (C j) (Array.getElem?_eq_some_iff.1 hj1).1 (fun hb => ?_)]
    · exact hj1
    rcases hb with hb | hb | hb
    · rw [hb, h.t] at hj1
      injection hj1 with hj1
      injection hj1 with _ h2
      cases h2
    · exact map_ne h.m hj1 hb
    · exact own_ne h.o hj1 (by decide) hb
  · rcases hA.oat g hg with h1 | h1
    · exact h.sep g h1 hg'
    · obtain ⟨_, cur, hh⟩ := own_cells h.md hg'
      have := (Array.getElem?_eq_some_iff.1 hh).1
      omega

/-- the append onto made -/
theorem Mem.made {w wr : World} {T : Nat} {mo : Option Nat} {ov mv : Value} {C : Nat → Nat} {lst : Nat → Int} {D : DataW Unit} {tsz : Int} {sz : Nat → Int} {nd ko k kc : Nat}
    (h : Mem w wr T mo ov mv C lst D tsz sz nd ko k kc) (hk : k < 1024) :
    ∃ mv' w2, (Builtin.append_ #[24, 24] 24 #[mv, .slice (some ⟨wr.heap.size, 0, none⟩) 1 1]).run Yba.prog (wr.alloc (.cells #[ptr (C k)] 30)) = .ok mv' w2 ∧ Mem w w2 T mo ov mv' C lst D tsz sz nd ko (k + 1) kc := by
  have h' := h.kept ((Kept.refl (fun _ => False) wr).alloc (.cells #[ptr (C k)] 30))
  have hbT : T ≤ (wr.alloc (.cells #[ptr (C k)] 30)).heap.size := by have := (Array.getElem?_eq_some_iff.1 h'.t).1; omega
  obtain ⟨g, cap, w2, hrun, o2, hg2, hat, hlt⟩ := appended (wr.alloc (.cells #[ptr (C k)] 30)) mv k (ptrs C k) T h'.md (by omega) (ptr (C k)) rfl wr.heap.size (by rw [cell_of_row _ _ _ _ _ _ (heap_alloc_new wr _)]; rfl) hbT 24
  have hk2 : Kept (fun b => mv.ownBlock = some b) (wr.alloc (.cells #[ptr (C k)] 30)) w2 := (Kept.refl _ _).grown hg2 (fun k e _ => e)
  refine ⟨_, w2, hrun, ?_⟩
  refine ⟨h'.bel.trans (hk2.below hbT (fun b hb => (own_cells h'.md hb).1)), ?_, ?_, ?_, h.mge, ownsRow_kept h'.o hk2 (fun g hg hb => h'.sep g hg hb), by rw [ptrs_succ]; exact o2, fun j hj => ?_, fun g' hg' hm => ?_⟩
  · exact (hk2.block T (Array.getElem?_eq_some_iff.1 h'.t).1 (own_ne h'.md h'.t (by decide))).trans h'.t
  · exact (hk2.block _ (Array.getElem?_eq_some_iff.1 h'.l).1 (own_ne h'.md h'.l (by decide))).trans h'.l
  · rcases h'.m with h1 | ⟨M, h1, es, cl, hm, r⟩
    · exact .inl h1
    · refine .inr ⟨M, h1, es, cl, (hk2.block M (Array.getElem?_eq_some_iff.1 hm).1 (fun hb => ?_)).trans hm, r⟩
      obtain ⟨_, cur, hh⟩ := own_cells h'.md hb
      exact map_ne h'.m hh h1
  · obtain ⟨cc, h1, h2⟩ := h'.c j hj
    exact ⟨cc, (hk2.block _ (Array.getElem?_eq_some_iff.1 h1).1 (own_ne h'.md h1 (by decide))).trans h1, h2⟩
  · cases hm
    rcases hat with hat | hat
    · exact h'.sep _ hg' hat
    · obtain ⟨_, cur, hh⟩ := own_cells h'.o hg'
      have hlt' : g < (wr.alloc (.cells #[ptr (C k)] 30)).heap.size := (Array.getElem?_eq_some_iff.1 hh).1
      omega

/-- last[q] = v -/
theorem Mem.last {w wr : World} {T : Nat} {mo : Option Nat} {ov mv : Value} {C : Nat → Nat} {lst : Nat → Int} {D : DataW Unit} {tsz : Int} {sz : Nat → Int} {nd ko km kc : Nat}
    (h : Mem w wr T mo ov mv C lst D tsz sz nd ko km kc) {q : Nat} (hq : q < 4) (v : Int) :
    Mem w (wr.setCell ⟨T + 2, q, none⟩ (.int .i64 v)) T mo ov mv C (fun p => if p = q then v else lst p) D tsz sz nd ko km kc := by
  have hk : Kept (fun b => b = T + 2) wr (wr.setCell ⟨T + 2, q, none⟩ (.int .i64 v)) := (Kept.refl (fun b => b = T + 2) wr).setCell rfl _
  have hl := (Array.getElem?_eq_some_iff.1 h.l).1
  refine ⟨h.bel.setCell (by show T ≤ T + 2; omega) _, ?_, ?_, ?_, h.mge, ownsRow_kept h.o hk (fun g hg e => ?_), ownsRow_kept h.md hk (fun g hg e => ?_), fun j hj => ?_, h.sep⟩
  · exact (hk.block T (Array.getElem?_eq_some_iff.1 h.t).1 (by omega)).trans h.t
  · rw [heap_setCell_same _ _ _ _ _ _ h.l, lrow_set lst hq]
  · rcases h.m with h1 | ⟨M, h1, es, cl, hm, r⟩
    · exact .inl h1
    · refine .inr ⟨M, h1, es, cl, (hk.block M (Array.getElem?_eq_some_iff.1 hm).1 (fun e => ?_)).trans hm, r⟩
      exact map_ne h.m h.l (by rw [h1, e])
  · subst e; exact own_ne h.o h.l (by decide) hg
  · subst e; exact own_ne h.md h.l (by decide) hg
  · obtain ⟨cc, h1, h2⟩ := h.c j hj
    refine ⟨cc, (hk.block _ (Array.getElem?_eq_some_iff.1 h1).1 (fun e => ?_)).trans h1, h2⟩
    rw [e, h.l] at h1
    injection h1 with h1
    injection h1 with _ h2
    cases h2
end Go.Proofs.Ybulkouy.Kt
