import Derived.Test.YbulkouyRows
import Derived.WalkKit
import Derived.ProofKit
import Derived.LaidEql
import Derived.Laws.Rows
import Derived.Maps.Own
import Derived.Maps.OwnSet
import Derived.Maps.Views
import Derived.Deep.AppendLies
import Derived.Carry
import Derived.WalkSmall
namespace Go.Proofs.Ybulkouy.Kt
open Go.ChangeShapes Go.WideShapes Go.ChangeAt Go.RowKit
open Go.WideMaps Go.WideElems Go.Maps

/-- w' is w but for the blocks in S and new ones -/
structure Kept (S : Nat → Prop) (w w' : World) : Prop where
  os : w'.os = w.os
  tape : w'.tape = w.tape
  output : w'.output = w.output
  size : w.heap.size ≤ w'.heap.size
  block : ∀ k, k < w.heap.size → ¬ S k → w'.heap[k]? = w.heap[k]?

theorem Kept.refl (S : Nat → Prop) (w : World) : Kept S w w := ⟨rfl, rfl, rfl, Nat.le_refl _, fun _ _ _ => rfl⟩
theorem Kept.trans {S : Nat → Prop} {a b c : World} (h : Kept S a b) (k : Kept S b c) : Kept S a c :=
  ⟨k.os.trans h.os, k.tape.trans h.tape, k.output.trans h.output, Nat.le_trans h.size k.size, fun i hi hs => (k.block i (Nat.lt_of_lt_of_le hi h.size) hs).trans (h.block i hi hs)⟩
/-- the later step may turn what was new -/
theorem Kept.andThen {S S' : Nat → Prop} {a b c : World} (h : Kept S a b) (k : Kept S' b c) (hs : ∀ i, i < a.heap.size → S' i → S i) : Kept S a c :=
  ⟨k.os.trans h.os, k.tape.trans h.tape, k.output.trans h.output, Nat.le_trans h.size k.size, fun i hi hn => (k.block i (Nat.lt_of_lt_of_le hi h.size) (fun x => hn (hs i hi x))).trans (h.block i hi hn)⟩
theorem Kept.alloc {S : Nat → Prop} {a w : World} (h : Kept S a w) (o : Obj) : Kept S a (w.alloc o) :=
  h.trans ⟨rfl, rfl, rfl, by simp, fun k hk _ => Below.heap_alloc _ _ _ hk⟩
theorem Kept.drewN {S : Nat → Prop} {a w : World} (h : Kept S a w) (n : Nat) : Kept S a (w.drewN n) := ⟨h.os, h.tape, h.output, h.size, h.block⟩
theorem Kept.drew {S : Nat → Prop} {a w : World} (h : Kept S a w) : Kept S a w.drew := ⟨h.os, h.tape, h.output, h.size, h.block⟩
theorem Kept.setCell {S : Nat → Prop} {a w : World} (h : Kept S a w) {p : Addr} (hp : S p.block) (u : Value) : Kept S a (w.setCell p u) :=
  h.trans ⟨rfl, rfl, rfl, by simp [World.setCell], fun k _ hs => Below.heap_setCell _ _ _ _ (fun e => hs (e ▸ hp))⟩
theorem Kept.setNew {S : Nat → Prop} {a w : World} (h : Kept S a w) {p : Addr} (hp : a.heap.size ≤ p.block) (u : Value) : Kept S a (w.setCell p u) :=
  ⟨h.os, h.tape, h.output, by simpa [World.setCell] using h.size, fun k hk hs => (Below.heap_setCell _ _ _ _ (by omega)).trans (h.block k hk hs)⟩
theorem Kept.grown {S : Nat → Prop} {a w w' : World} {row : Option Nat} (h : Kept S a w) (hg : w.grownBy w' row) (hr : ∀ k, row = some k → k < a.heap.size → S k) : Kept S a w' :=
  ⟨hg.os.trans h.os, hg.tape.trans h.tape, hg.output.trans h.output, Nat.le_trans h.size hg.size, fun k hk hs => (hg.block k (Nat.lt_of_lt_of_le hk h.size) (fun e => hs (hr k e.symm hk))).trans (h.block k hk hs)⟩
theorem Kept.cell {S : Nat → Prop} {w w' : World} (h : Kept S w w') {b o : Nat} {v : Value} (hc : w.cell? ⟨b, o, none⟩ = some v) (hs : ¬ S b) : w'.cell? ⟨b, o, none⟩ = some v :=
  (World.cell?_of_block (w := w) (h.block b (block_lt_of_cell hc) hs)).trans hc
theorem Kept.frozen {S : Nat → Prop} {w w' : World} (h : Kept S w w') {b o : Nat} (hb : b < w.heap.size) (hs : ¬ S b) : w'.frozen? ⟨b, o, none⟩ = w.frozen? ⟨b, o, none⟩ :=
  World.frozen?_of_block (w := w) (h.block b hb hs)
theorem Kept.mono {S S' : Nat → Prop} {a b : World} (h : Kept S a b) (hs : ∀ i, i < a.heap.size → S i → S' i) : Kept S' a b :=
  ⟨h.os, h.tape, h.output, h.size, fun i hi hn => h.block i hi (fun x => hn (hs i hi x))⟩
theorem Kept.below {S : Nat → Prop} {a b : World} (h : Kept S a b) {B : Nat} (hB : B ≤ a.heap.size) (hs : ∀ i, S i → B ≤ i) : Below B a b :=
  ⟨h.os, h.tape, h.output, h.size, fun k hk => h.block k (by omega) (fun x => by have := hs k x; omega)⟩

/-- a slice of the call's own stays what it is -/
theorem ownsRow_kept {S : Nat → Prop} {w w' : World} {base : Nat} {e : TypeId} {size : Nat} {v : Value} {n : Nat} {xs : List Value} (h : w.ownsRow base e size v n xs) (hk : Kept S w w') (hs : ∀ g, v.ownBlock = some g → ¬ S g) : w'.ownsRow base e size v n xs := by
  obtain ⟨h1, h2⟩ := h
  refine ⟨h1, ?_⟩
  rcases h2 with h2 | ⟨g, cap, cur, hv, hg, hh, r⟩
  · exact Or.inl h2
  · refine Or.inr ⟨g, cap, cur, hv, hg, ?_, r⟩
    rw [hk.block g (Array.getElem?_eq_some_iff.1 hh).1 (hs g (by rw [hv]; rfl))]; exact hh

theorem ownsRow_cell {w : World} {base : Nat} {e : TypeId} {g n cap : Nat} {xs : List Value} (h : w.ownsRow base e 1 (.slice (some ⟨g, 0, none⟩) n cap) n xs) {j : Nat} (hj : j < n) : w.cell? ⟨g, j, none⟩ = xs[j]? := by
  rcases h.2 with ⟨h0, _⟩ | ⟨g', cap', cur, hv, _, hh, _, _, hc, ht⟩
  · cases h0
  · simp at hv
    obtain ⟨rfl, rfl⟩ := hv
    rw [cell_of_row _ _ _ _ _ _ hh, ← ht]
    simp [hj]

/-- how a pointer among the map's elements reads: its block's number -/
def ptrElem (v : Value) : Option (DataW Unit × List MemPlace) :=
  match v with
  | .pointer none => some (.nil, [])
  | .pointer (some ⟨b, 0, none⟩) => some (.lit (.int .u64 (b : Int)), [])
  | _ => none

theorem ptrElem_nil {v : Value} {ps : List MemPlace} (h : ptrElem v = some (.nil, ps)) : v = .pointer none := by
  unfold ptrElem at h
  split at h
  · rfl
  · simp at h
  · cases h
theorem ptrElem_at {v : Value} {b : Nat} {ps : List MemPlace} (h : ptrElem v = some (.lit (.int .u64 (b : Int)), ps)) : v = .pointer (some ⟨b, 0, none⟩) := by
  unfold ptrElem at h
  split at h
  · simp at h
  · simp at h
    obtain ⟨h, _⟩ := h
    have := Int.ofNat.inj h
    rw [this]
  · cases h

theorem law : Keyed Yba.prog 9 := string_keyed Yba.underlying9
theorem zero30 (w : World) : (zeroValue 30).run Yba.prog w = .ok (.pointer none) w := by kernel_rfl

/-- the map of the table: nil and empty, or of the call's own -/
def MapSt (w : World) (mo : Option Nat) (n : Nat) (D : DataW Unit) : Prop :=
  (mo = none ∧ D = .map []) ∨ ∃ M, mo = some M ∧ w.ownsMap Yba.prog 9 ptrElem M n D

theorem info30' : (Yba.prog.info? 30).map (fun i => (i.zero, i.bytes, i.size)) = some (some (.pointer none), 8, 1) := by kernel_rfl
theorem info_of {P : Program} {t : TypeId} {z : Value} {b s : Nat} (h : (P.info? t).map (fun i => (i.zero, i.bytes, i.size)) = some (some z, b, s)) : ∃ i, P.info? t = some i ∧ i.zero = some z ∧ i.bytes = b ∧ i.size = s := by
  cases hq : P.info? t with
  | none => rw [hq] at h; simp at h
  | some i => rw [hq] at h; simp at h; exact ⟨i, rfl, h.1, h.2.1, h.2.2⟩

/-- append of one pointer onto a slice of the call's own, the new element laid in block N -/
theorem appended (w : World) (v : Value) (n : Nat) (xs : List Value) (base : Nat) (hown : w.ownsRow base 30 1 v n xs) (hn : n ≤ 1024) (x : Value) (hx : x.oneCell' = true) (N : Nat) (hN : w.cell? ⟨N, 0, none⟩ = some x) (hb : base ≤ w.heap.size) (ty : TypeId) :
    ∃ g cap w', (Builtin.append_ #[24, 24] ty #[v, .slice (some ⟨N, 0, none⟩) 1 1]).run Yba.prog w = .ok (.slice (some ⟨g, 0, none⟩) (n + 1) cap) w' ∧
      w'.ownsRow base 30 1 (.slice (some ⟨g, 0, none⟩) (n + 1) cap) (n + 1) (xs ++ [x]) ∧ w.grownBy w' v.ownBlock ∧ (v.ownBlock = some g ∨ g = w.heap.size) ∧ g < w'.heap.size := by
  obtain ⟨i, hi, hz, hbt, hs⟩ := info_of info30'
  exact run_append_lies (P := Yba.prog) w 24 ty base 30 i _ 1 8 Yba.underlying24 hi hz hs hbt rfl (by omega) v n xs hown ⟨N, 0, none⟩ 1 1 [x] rfl
    (fun j u hu => by
      match j, hu with
      | 0, hu => simp at hu; subst hu; simpa [Addr.add] using hN)
    (fun u hu => by simp at hu; subst hu; exact hx) (by omega) (by unfold maxLen; omega) (by omega) hb _ rfl

/-- an append whose run is known, at a plain region's list -/
theorem wpList_append_run {P : Program} {w : World} {ops : Array Oper} {rest : List Oper} {o : Oper} {a : Act} {Q : Exit → Act → World → Prop} (hgd : o.guard = none) (s x : Operand) (t : TypeId)
    (ho : o.op = .call { callee := .builtin .append, args := #[s, x], argTypes := #[t, t] }) (v xv nv : Value) (w' : World) (hs : a.eval s = v) (hx : a.eval x = xv)
    (hrun : (Builtin.append_ #[t, t] o.type #[v, xv]).run P w = .ok nv w') (h : wpList P ops Q rest (a.put o.dst nv) w') : wpList P ops Q (o :: rest) a w :=
  wpList_plain hgd fun _ hK => by
    unfold Oper.wp execOp
    simp only [ho, resolve, invoke, builtin, Sem.run_bind, Sem.run_pure, Result.andThen_ok, List.map_toArray, List.map_cons, List.map_nil, hs, hx, hrun]
    exact hK _ _ h
end Go.Proofs.Ybulkouy.Kt
