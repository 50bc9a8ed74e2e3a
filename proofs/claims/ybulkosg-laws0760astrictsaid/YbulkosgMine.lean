import Derived.Test.YbulkosgRows
import Derived.WalkKit
import Derived.ProofKit
import Derived.Deep.WholeRow
import Derived.Great.BuildSlice
import Derived.Deep.QuietTactic
import Derived.BigQuiet
namespace Go.Proofs.Ybulkosg.Mine
open Go.ChangeShapes Go.WideShapes Go.ChangeAt Go.RowKit

/-- the 36 cells of a candidate -/
def cand (af : Bool) (noted hops seq idb : Int) : Array Value :=
  #[.int .u8 idb, .int .u8 0, .int .u8 0, .int .u8 0, .int .u8 0, .int .u8 0, .int .u8 0, .int .u8 0,
    .int .u8 0, .int .u8 0, .int .u8 0, .int .u8 0, .int .u8 0, .int .u8 0, .int .u8 0, .int .u8 0,
    .int .u8 0, .int .u8 0, .int .u8 0, .int .u8 0, .int .u8 0, .int .u8 0, .int .u8 0, .int .u8 0,
    .int .u8 0, .int .u8 0, .int .u8 0, .int .u8 0, .int .u8 0, .int .u8 0, .int .u8 0, .int .u8 0,
    .int .i64 hops, .int .u64 seq, .bool af, .int .u64 noted]

theorem cand_one (af : Bool) (noted hops seq idb : Int) : (cand af noted hops seq idb).all (·.oneCell') = true := by
  simp [cand, Value.oneCell']

/-- what the walk needs of a candidate's cells -/
structure IsCand (cs : Array Value) (af : Bool) (noted hops : Int) : Prop where
  size : cs.size = 36
  one : cs.all (·.oneCell') = true
  hops : cs[32]? = some (.int .i64 hops)
  afresh : cs[34]? = some (.bool af)
  noted : cs[35]? = some (.int .u64 noted)

theorem cand_is (af : Bool) (noted hops seq idb : Int) : IsCand (cand af noted hops seq idb) af noted hops :=
  ⟨rfl, cand_one .., rfl, rfl, rfl⟩

theorem info28 : (Yba.prog.info? 28).map (·.size) = some 36 := by kernel_rfl
theorem info24 : (Yba.prog.info? 24).map (·.size) = some 32 := by kernel_rfl

theorem grown_setRow {W w' : World} (h : Grown W w') (g : Nat) (hg : W.heap.size ≤ g) (cs : Array Value) (t : TypeId) (old : Array Value) (ho : w'.heap[g]? = some (.cells old t (0, 0))) : Grown W (w'.setRow g cs) := by
  refine ⟨⟨h.1.1, h.1.2.1, fun i hi => ?_⟩, fun a => ?_, ?_⟩
  · have := h.1.2.2 i hi
    rwa [setRow_other w' g i cs (by omega)]
  · rw [← h.2.1 a]
    by_cases e : a.block = g
    · simp only [World.frozen?, e, ho, setRow_heap w' g old cs t (0, 0) ho]
    · simp only [World.frozen?, setRow_other w' g a.block cs e]
  · rw [size_setRow]; exact h.2.2

set_option maxRecDepth 100000 in
theorem mk (af : Bool) (noted hops seq idb : Int) (w : World) :
    Calls Yba.prog 5 #[.bool af, .int .u64 noted, .int .i64 hops, .int .u64 seq, .int .u8 idb] w fun e w' => ∃ cs, IsCand cs af noted hops ∧ e = .returned (.agg cs) ∧ Grown w w' := by
  go_enter Yba.func5, Yba.ntmps5
  go_wp2_with (first
    | (refine wpList_load_row rfl 24 _ rfl _ rfl 24 _ (0,0) _ (heap_alloc2_new _ _ _) Yba.underlying23 rfl (by kernel_rfl) ?_)
    | (refine wpList_store_rowTo rfl 28 _ _ rfl rfl _ (cand af noted hops seq idb) rfl rfl 28 _ (heap_alloc2_old _ _ _) info28 rfl (cand_one ..) ?_))
  refine bodyPost_ret (v := .agg (cand af noted hops seq idb)) ?_ rfl ⟨_, cand_is .., rfl, ?_⟩
  · exact results_cell_row (fn := Yba.f5) (p := 10) (ty := 28) rfl _ _ w.heap.size 28 (cand af noted hops seq idb) (0, 0) _ rfl (setRow_heap _ _ _ _ _ _ (heap_alloc2_old _ _ _)) Yba.underlying28 rfl info28
  · exact grown_setRow (((Grown.refl _).alloc _ _).alloc _ _) _ (Nat.le_refl _) _ _ _ (heap_alloc2_old _ _ _)

def bef (a a' : Bool) (n n' h h' : Int) : Bool :=
  if a != a' then a else if a then decide (n < n') else decide (h < h')

set_option maxRecDepth 100000 in
theorem before (a a' : Bool) (n n' h h' : Int) (cs ds : Array Value) (hcs : IsCand cs a n h) (hds : IsCand ds a' n' h') (w : World) :
    Calls Yba.prog 6 #[.agg cs, .agg ds] w fun e w' => e = .returned (.bool (bef a a' n n' h h')) ∧ Grown w w' := by
  obtain ⟨c1, c2, c3, c4, c5⟩ := hcs
  obtain ⟨d1, d2, d3, d4, d5⟩ := hds
  clear c1 c2 d1 d2
  unfold bef
  cases a <;> cases a'
  all_goals
    go_enter Yba.func6, Yba.ntmps6
    go_wp2
    go_ret
    exact ⟨by simp, ((Grown.refl _).alloc _ _).alloc _ _⟩

theorem gtrans {A B C : World} (h : Grown A B) (k : Grown B C) : Grown A C :=
  ⟨World.keptBut_trans h.1 k.1, fun a => (k.2.1 a).trans (h.2.1 a), Nat.le_trans h.2.2 k.2.2⟩

theorem gblock {A B : World} (h : Grown A B) {i : Nat} {c : Array Value} {t : TypeId} {fr : Nat × Nat} (hi : A.heap[i]? = some (.cells c t fr)) : B.heap[i]? = some (.cells c t fr) := by
  have hlt : i < A.heap.size := (Array.getElem?_eq_some_iff.1 hi).1
  have k := h.1.2.2 i hlt
  rw [hi] at k
  cases hb : B.heap[i]? with
  | none => rw [hb] at k; simp at k
  | some o =>
    rw [hb] at k
    cases o with
    | cells c' t' fr' =>
      obtain ⟨rfl, rfl, _, h4⟩ := k
      have : c' = c := Array.ext_getElem? (fun j => h4 j (fun f => f))
      rw [this]
    | map es cl => simp at k
    | _ => simp at k

theorem heap_old {w : World} {i : Nat} {x : Obj} (h : w.heap[i]? = some x) (o : Obj) : (w.alloc o).heap[i]? = some x := by
  have hlt : i < w.heap.size := (Array.getElem?_eq_some_iff.1 h).1
  show (w.heap.push o)[i]? = some x
  rw [Array.getElem?_push, if_neg (Nat.ne_of_lt hlt), h]

/-- a whole value into the block that was made last -/
theorem wpList_store_new {P : Program} {ops : Array Oper} {rest : List Oper} {o : Oper} {a : Act} {w : World} {Q : Exit → Act → World → Prop} (hgd : o.guard = none) (ty : TypeId) (x y : Operand) (ho : o.op = .store ty x y)
    (hd : o.dst = none) (hx : a.eval x = .pointer (some ⟨w.heap.size, 0, none⟩)) (cells : Array Value) (hy : a.eval y = .agg cells)
    (t : TypeId) (old : Array Value) (hi : (P.info? ty).map (·.size) = some cells.size)
    (hold : old.size = cells.size) (h1 : cells.all (·.oneCell') = true)
    (h : wpList P ops Q rest a (w.alloc (.cells cells t))) : wpList P ops Q (o :: rest) a (w.alloc (.cells old t)) :=
  wpList_store_rowTo hgd ty x y ho hd w.heap.size cells hx hy t old (heap_alloc_last w _) hi hold h1 (by rw [World.setRow_alloc_new]; exact h)

/-- a whole value out of a block, at a guarded operation that is wanted -/
theorem wpList_load_guarded {P : Program} {ops : Array Oper} {rest : List Oper} {o : Oper} {a : Act} {w : World} {Q : Exit → Act → World → Prop} (ty : TypeId) (x : Operand) (ho : o.op = .load ty x) (hw : Region.wanted o (yielded ops a.tmps) = true)
    (g : Nat) (hx : a.eval x = .pointer (some ⟨g, 0, none⟩)) (t : TypeId) (cs : Array Value) (fr : Nat × Nat) (d : TypeDesc) (hg : w.heap[g]? = some (.cells cs t fr))
    (hu : P.underlying ty = some d) (hd : (match d with | .struct _ | .array _ _ => true | _ => false) = true) (hi : (P.info? ty).map (·.size) = some cs.size)
    (h : wpList P ops Q rest (a.put o.dst (.agg cs)) w) : wpList P ops Q (o :: rest) a w :=
  wpList_step fun _ hK => by rw [if_pos hw]; exact wp_load_row ty x ho g hx t cs fr d hg hu hd hi (hK _ _ h)

end Go.Proofs.Ybulkosg.Mine
