import Derived.Test.YbulkosuDoorRows
import Derived.WalkKit
import Derived.ProofKit
import Derived.Deep.RegionHeld3
import Derived.Deep.QuietTactic
import Derived.BigQuiet
namespace Go.Proofs.YbulkosuDoor.Fns
open Go.ChangeShapes Go.WideShapes Go.ChangeAt Go.RowKit

/-- what zzs0761btext gives -/
def textF (sym : Int) (raw : ByteArray) : ByteArray :=
  if sym % 8 = 0 then ⟨#[43]⟩ else if sym % 8 = 1 then ⟨#[45]⟩ else if sym % 8 = 2 then ⟨#[42]⟩ else if sym % 8 = 3 then ⟨#[40]⟩ else if sym % 8 = 4 then ⟨#[41]⟩ else if sym % 8 = 5 then ⟨#[120]⟩ else raw

theorem text (sym : Int) (raw : ByteArray) (h0 : 0 ≤ sym) (h1 : sym ≤ 255) (w : World) :
    Calls Ybad.prog 4 #[.int .u8 sym, .string raw] w fun e w' => e = .returned (.string (textF sym raw)) ∧ w' = w := by
  have hc : sym % 8 = 0 ∨ sym % 8 = 1 ∨ sym % 8 = 2 ∨ sym % 8 = 3 ∨ sym % 8 = 4 ∨ sym % 8 = 5 ∨ (6 ≤ sym % 8 ∧ sym % 8 ≤ 7) := by omega
  rcases hc with h | h | h | h | h | h | h
  all_goals
    go_enter Ybad.func4, Ybad.ntmps4
    go_wp2
    go_ret
    refine ⟨?_, rfl⟩
  all_goals first | (simp [textF, h]; done) | (simp [textF, show ¬ sym % 8 = 0 by omega, show ¬ sym % 8 = 1 by omega, show ¬ sym % 8 = 2 by omega, show ¬ sym % 8 = 3 by omega, show ¬ sym % 8 = 4 by omega, show ¬ sym % 8 = 5 by omega]; done)

/-- what zzs0761bop gives -/
def opF (s : ByteArray) : Int := if (s.toList == [43]) then 4 else if (s.toList == [45]) then 5 else if (s.toList == [42]) then 6 else 0

theorem bop (s : ByteArray) (w : World) :
    Calls Ybad.prog 6 #[.string s] w fun e w' => e = .returned (.int .i64 (opF s)) ∧ w' = w := by
  unfold opF
  cases h1 : (s.toList == [43])
  · cases h2 : (s.toList == [45])
    · cases h3 : (s.toList == [42])
      all_goals
        go_enter Ybad.func6, Ybad.ntmps6
        go_wp2
        go_ret
        exact ⟨rfl, rfl⟩
    · go_enter Ybad.func6, Ybad.ntmps6
      go_wp2
      go_ret
      exact ⟨rfl, rfl⟩
  · go_enter Ybad.func6, Ybad.ntmps6
    go_wp2
    go_ret
    exact ⟨rfl, rfl⟩

/-- one of the first m is k -/
def hit (ops : Nat → Int) (k : Int) (m : Nat) : Bool := (List.range m).any fun j => ops j == k

theorem hit_succ (ops : Nat → Int) (k : Int) (m : Nat) : hit ops k (m + 1) = (hit ops k m || (ops m == k)) := by
  simp [hit, List.range_succ, List.any_append]

theorem hit_true (ops : Nat → Int) (k : Int) (i m : Nat) (h : i < m) (e : ops i = k) : hit ops k m = true := by
  simp only [hit, List.any_eq_true, List.mem_range]
  exact ⟨i, h, by simp [e]⟩

/-- the step that operator gives -/
def gotF (ops : Nat → Int) (k : Int) (m : Nat) : Int := if hit ops k m then k else 0

/-- what the walks ask of the parser's memory -/
structure Lies (w : World) (Pb T K n m pos : Nat) (kind : Nat → Int) (txt : Nat → ByteArray) (ops : Nat → Int) : Prop where
  toks : w.cell? ⟨Pb, 0, none⟩ = some (.slice (some ⟨T, 0, none⟩) n n)
  pos : w.cell? ⟨Pb, 1, none⟩ = some (.int .i64 pos)
  kind : ∀ j, j < n → w.cell? ⟨T, j * 2, none⟩ = some (.int .i64 (kind j))
  txt : ∀ j, j < n → w.cell? ⟨T, j * 2 + 1, none⟩ = some (.string (txt j))
  ops : ∀ j, j < m → w.cell? ⟨K, j, none⟩ = some (.int .i64 (ops j))

set_option maxRecDepth 100000 in
theorem operator_end (Pb T K n m : Nat) (kind : Nat → Int) (txt : Nat → ByteArray) (ops : Nat → Int) (w : World) (h : Lies w Pb T K n m n kind txt ops) :
    Calls Ybad.prog 5 #[.pointer (some ⟨Pb, 0, none⟩), .slice (some ⟨K, 0, none⟩) m m] w fun e w' => (∃ nq, w' = w.drewN nq) ∧ e = .returned (.tuple #[.int .i64 0, .bool false]) := by
  obtain ⟨h1, h2, h3, h4, h5⟩ := h
  have g1 : ((n : Int) == (n : Int)) = true := by simp
  go_enter Ybad.func5, Ybad.ntmps5
  go_wp2
  go_quiet (fail)
  go_wp2
  go_ret2
  exact ⟨⟨_, rfl⟩, rfl⟩

set_option maxRecDepth 100000 in
theorem operator_other (Pb T K n m pos : Nat) (kind : Nat → Int) (txt : Nat → ByteArray) (ops : Nat → Int) (w : World) (hp : pos < n) (h : Lies w Pb T K n m pos kind txt ops) (hk : kind pos ≠ 3) :
    Calls Ybad.prog 5 #[.pointer (some ⟨Pb, 0, none⟩), .slice (some ⟨K, 0, none⟩) m m] w fun e w' => (∃ nq, w' = w.drewN nq) ∧ e = .returned (.tuple #[.int .i64 0, .bool false]) := by
  obtain ⟨h1, h2, h3, h4, h5⟩ := h
  have g1 : ((pos : Int) == (n : Int)) = false := beq_eq_false_iff_ne.2 (by omega)
  have b0 : (0 : Int) ≤ (pos : Int) := by omega
  have b1 : (pos : Int) < (n : Int) := by omega
  have k1 := h3 pos hp
  have g2 : (kind pos == 3) = false := beq_eq_false_iff_ne.2 hk
  clear h3 h4 h5
  go_enter Ybad.func5, Ybad.ntmps5
  go_wp2
  go_quiet (fail)
  go_wp2
  go_ret2
  exact ⟨⟨_, rfl⟩, rfl⟩

set_option maxRecDepth 100000 in
theorem operator_sym (Pb T K n m pos bm : Nat) (kind : Nat → Int) (txt : Nat → ByteArray) (ops : Nat → Int) (w : World) (hm : m ≤ 1024) (hp : pos < n) (h : Lies w Pb T K n m pos kind txt ops) (hk : kind pos = 3)
    (hg : w.cell? ⟨0, 0, none⟩ = some (.map (some bm))) (k : Int)
    (hl : ∀ nq, (Instr.lookup 44 (.map (some bm)) (.string (txt pos)) false).run Ybad.prog (w.drewN nq) = .ok (.int .i64 k) (w.drewN nq)) :
    Calls Ybad.prog 5 #[.pointer (some ⟨Pb, 0, none⟩), .slice (some ⟨K, 0, none⟩) m m] w fun e w' => (∃ nq, w' = w.drewN nq) ∧ e = .returned (.tuple #[.int .i64 (gotF ops k m), .bool (hit ops k m)]) := by
  obtain ⟨h1, h2, h3, h4, h5⟩ := h
  have g1 : ((pos : Int) == (n : Int)) = false := beq_eq_false_iff_ne.2 (by omega)
  have b0 : (0 : Int) ≤ (pos : Int) := by omega
  have b1 : (pos : Int) < (n : Int) := by omega
  have k1 := h3 pos hp
  rw [hk] at k1
  have k2 := h4 pos hp
  have H5 : Hid (∀ j, j < m → w.cell? ⟨K, j, none⟩ = some (.int .i64 (ops j))) := h5
  clear h3 h4 h5 hk
  go_enter Ybad.func5, Ybad.ntmps5
  go_wp2
  go_quiet (fail)
  go_wp2
  go_quiet (fail)
  go_wp2
  go_loop [48] (fun i => ∃ j : Nat, j ≤ m ∧ i = .int .i64 j ∧ hit ops k j = false) (fun i => m - (intOf i).toNat)
  case atStart => exact ⟨0, Nat.zero_le _, rfl, rfl⟩
  case round =>
    obtain ⟨j, hj, rfl, hno⟩ := hrel
    have Hno : Hid (hit ops k j = false) := hno
    clear hno
    by_cases hlt : j < m
    · have hc := H5.out j hlt
      by_cases he : ops j = k
      · have hf : hit ops k m = true := hit_true ops k j m hlt he
        have Hf : Hid (hit ops k m = true) := hf
        clear hf
        have e1 : (k == ops j) = true := beq_iff_eq.2 he.symm
        clear he
        go_wp2
        go_ret2
        have hgot : gotF ops k m = k := by simp [gotF, Hf.out]
        rw [hgot, Hf.out]
        exact ⟨⟨_, rfl⟩, rfl⟩
      · have e1 : (k == ops j) = false := beq_eq_false_iff_ne.2 (fun h => he h.symm)
        have Hs : Hid (hit ops k (j + 1) = false) := by
          show hit ops k (j + 1) = false
          rw [hit_succ, Hno.out, beq_eq_false_iff_ne.2 he]; rfl
        clear he
        go_wp2
        go_round
        case rel => exact ⟨j + 1, by omega, by go_num, Hs.out⟩
        case measure => simp [intOf]; omega
    · have : j = m := by omega
      subst this
      go_wp2
      go_ret2
      have hgot : gotF ops k j = 0 := by simp [gotF, Hno.out]
      rw [hgot, Hno.out]
      exact ⟨⟨_, rfl⟩, rfl⟩
end Go.Proofs.YbulkosuDoor.Fns
