import Derived.Test.YbulkouyFmtRows
import Derived.WalkKit
import Derived.ProofKit
import Derived.Deep.AppendLies
import Derived.Carry
namespace Go.Proofs.YbulkouyFmt.Clk
open Go.ChangeShapes Go.WideShapes Go.ChangeAt Go.RowKit

theorem info25' : (Ybaf.prog.info? 25).map (fun i => (i.zero, i.bytes, i.size)) = some (some (.int .u64 0), 8, 1) := by kernel_rfl
theorem info_of {P : Program} {t : TypeId} {z : Value} {b s : Nat} (h : (P.info? t).map (fun i => (i.zero, i.bytes, i.size)) = some (some z, b, s)) : ∃ i, P.info? t = some i ∧ i.zero = some z ∧ i.bytes = b ∧ i.size = s := by
  cases hq : P.info? t with
  | none => rw [hq] at h; simp at h
  | some i => rw [hq] at h; simp at h; exact ⟨i, rfl, h.1, h.2.1, h.2.2⟩

/-- an append whose run is known, at a plain region's list -/
theorem wpList_append_run {P : Program} {w : World} {ops : Array Oper} {rest : List Oper} {o : Oper} {a : Act} {Q : Exit → Act → World → Prop} (hgd : o.guard = none) (s x : Operand) (t : TypeId)
    (ho : o.op = .call { callee := .builtin .append, args := #[s, x], argTypes := #[t, t] }) (v xv nv : Value) (w' : World) (hs : a.eval s = v) (hx : a.eval x = xv)
    (hrun : (Builtin.append_ #[t, t] o.type #[v, xv]).run P w = .ok nv w') (h : wpList P ops Q rest (a.put o.dst nv) w') : wpList P ops Q (o :: rest) a w :=
  wpList_plain hgd fun _ hK => by
    unfold Oper.wp execOp
    simp only [ho, resolve, invoke, builtin, Sem.run_bind, Sem.run_pure, Result.andThen_ok, List.map_toArray, List.map_cons, List.map_nil, hs, hx, hrun]
    exact hK _ _ h

theorem makeClock (w : World) (n : Nat) (h : n ≤ 1024) : (Instr.makeSlice 24 (.int .i64 0) (.int .i64 n)).run Ybaf.prog w = .ok (.slice (some ⟨w.heap.size, 0, none⟩) 0 n) (w.alloc (.cells (madeCells #[.int .u64 0] n) 25)) := by
  obtain ⟨i, hi, hz, hb, hs⟩ := info_of info25'
  have := run_make (P := Ybaf.prog) w 24 25 i _ Ybaf.underlying24 hi hz .i64 .i64 0 n (by omega) (by omega) (by rw [hb]; omega) (by omega)
  rw [this, hs]
  simp [Value.cells]

/-- the append of cloneClock -/
theorem copied (w : World) (b off n cap : Nat) (z : Nat → Int) (h0 : 0 < n) (hn : n ≤ 1024) (hb : b < w.heap.size) (hc : ∀ j, j < n → w.cell? ⟨b, off + j, none⟩ = some (.int .u64 (z j))) :
    ∃ g cap' w', (Builtin.append_ #[24, 24] 24 #[.slice (some ⟨w.heap.size, 0, none⟩) 0 n, .slice (some ⟨b, off, none⟩) n cap]).run Ybaf.prog (w.alloc (.cells (madeCells #[.int .u64 0] n) 25)) = .ok (.slice (some ⟨g, 0, none⟩) n cap') w' ∧ Below w.heap.size w w' := by
  obtain ⟨i, hi, hz, hbt, hs⟩ := info_of info25'
  have hown : (w.alloc (.cells (madeCells #[.int .u64 0] n) 25)).ownsRow w.heap.size 25 1 (.slice (some ⟨w.heap.size, 0, none⟩) 0 n) 0 [] :=
    ⟨rfl, .inr ⟨w.heap.size, n, _, rfl, Nat.le_refl _, heap_alloc_new w _, Nat.zero_le _, by unfold maxLen; omega, (size_madeCells #[.int .u64 0] n).trans (Nat.mul_one n).symm, rfl⟩⟩
  obtain ⟨g, cap', w', hrun, _, hg, _, _⟩ := run_append_lies (P := Ybaf.prog) (w.alloc (.cells (madeCells #[.int .u64 0] n) 25)) 24 24 w.heap.size 25 i _ 1 8 Ybaf.underlying24 hi hz hs hbt rfl (by omega) _ 0 [] hown
    ⟨b, off, none⟩ n cap ((List.range n).map fun j => .int .u64 (z j)) (by simp)
    (fun j u hu => by
      rw [List.getElem?_map] at hu
      obtain ⟨x, hx, rfl⟩ := Option.map_eq_some_iff.1 hu
      obtain ⟨hj, hxj⟩ := List.getElem?_eq_some_iff.1 hx
      simp at hxj hj
      subst hxj
      rw [add_plain, World.cell?_alloc_past _ _ _ hb]
      exact hc j hj)
    (fun u hu => by
      obtain ⟨x, _, rfl⟩ := List.mem_map.1 hu
      rfl)
    h0 (by unfold maxLen; omega) (by omega) (by simp) _ rfl
  rw [Nat.zero_add] at hrun
  refine ⟨g, cap', w', hrun, ?_⟩
  exact ((Below.refl _ w).alloc (Nat.le_refl _) _).grown hg (by simp) (fun k e => by cases e; exact Nat.le_refl _)

theorem clone (w : World) (b off n cap : Nat) (z : Nat → Int) (h0 : 0 < n) (hn : n ≤ 1024) (hb : b < w.heap.size) (hc : ∀ j, j < n → w.cell? ⟨b, off + j, none⟩ = some (.int .u64 (z j))) :
    Calls Ybaf.prog 6 #[.slice (some ⟨b, off, none⟩) n cap] w fun e w' => ∃ g cap', e = .returned (.slice (some ⟨g, 0, none⟩) n cap') ∧ Below w.heap.size w w' := by
  obtain ⟨g, cap', w2, hrun, hbel⟩ := copied w b off n cap z h0 hn hb hc
  have hmk := fun w => makeClock w n hn
  clear hc
  go_enter Ybaf.func6, Ybaf.ntmps6
  go_wp2_with (at_builtin; refine wpList_append_run rfl _ _ _ rfl _ _ _ w2 rfl rfl hrun ?_)
  go_ret
  exact ⟨g, cap', rfl, hbel⟩

theorem check (w : World) (s : ByteArray) (o : Int) (p p' : Option Addr) (n cap cap' : Nat) (h0 : 0 ≤ o) (h1 : o < n) :
    Calls Ybaf.prog 5 #[.string s, .int .i64 o, .slice p n cap, .slice p' n cap'] w fun e w' => e = .returned (.tuple #[]) ∧ w' = w := by
  have g1 : ((n : Int) != (n : Int)) = false := by simp
  have g2 : decide (o < 0) = false := by simp; omega
  have g3 : decide ((n : Int) ≤ o) = false := by simp; omega
  go_enter Ybaf.func5, Ybaf.ntmps5
  go_wp2
  go_end0
  exact ⟨rfl, rfl⟩

theorem walk (w : World) (b off n cap : Nat) (z : Nat → Int) (h0 : 0 < n) (hn : n ≤ 1024) (hb : b < w.heap.size) (hc : ∀ j, j < n → w.cell? ⟨b, off + j, none⟩ = some (.int .u64 (z j))) :
    Calls Ybaf.prog 4 #[.slice (some ⟨b, off, none⟩) n cap] w fun e w' => e = .returned (.bool true) ∧ Below w.heap.size w w' := by
  have g1 : decide ((1024 : Int) < (n : Int)) = false := by simp; omega
  have g2 : ((n : Int) == 0) = false := beq_eq_false_iff_ne.2 (by omega)
  have hcl := clone w b off n cap z h0 hn hb hc
  have Hcl : Hid (Calls Ybaf.prog 6 #[.slice (some ⟨b, off, none⟩) n cap] w fun e w' => ∃ g cap', e = .returned (.slice (some ⟨g, 0, none⟩) n cap') ∧ Below w.heap.size w w') := hcl
  clear hc hcl
  go_enter Ybaf.func4, Ybaf.ntmps4
  go_wp2_with fail
  refine Hcl.out.mono ?_
  rintro e w1 ⟨g, cap', rfl, hbel⟩
  go_wp2_with fail
  refine (check _ _ _ _ _ _ _ _ (by omega) (by omega)).mono ?_
  rintro e w2 ⟨rfl, rfl⟩
  go_wp2_with fail
  refine (check _ _ _ _ _ _ _ _ (by omega) (by omega)).mono ?_
  rintro e w3 ⟨rfl, rfl⟩
  go_wp2_with fail
  go_ret
  exact ⟨rfl, hbel⟩

theorem walk_none (w : World) (a : Option Addr) (cap : Nat) :
    Calls Ybaf.prog 4 #[.slice a 0 cap] w fun e w' => e = .returned (.bool true) ∧ Below w.heap.size w w' := by
  go_enter Ybaf.func4, Ybaf.ntmps4
  go_wp2
  go_ret
  exact ⟨rfl, Below.refl _ _⟩

theorem walk_many (w : World) (a : Option Addr) (n cap : Nat) (h : 1024 < n) :
    Calls Ybaf.prog 4 #[.slice a n cap] w fun e w' => e = .returned (.bool true) ∧ Below w.heap.size w w' := by
  have g1 : decide ((1024 : Int) < (n : Int)) = true := by simp; omega
  go_enter Ybaf.func4, Ybaf.ntmps4
  go_wp2
  go_ret
  exact ⟨rfl, Below.refl _ _⟩
end Go.Proofs.YbulkouyFmt.Clk
