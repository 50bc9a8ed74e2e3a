import Derived.Test.YbulkosuRows
import Derived.LaidEql
import Derived.WalkKit
namespace Go.Proofs.Ybulkosu.Ptr
open Go

section
variable {P : Program} (w : World)
theorem run_equal_same {t te : TypeId} {j : TypeInfo} (a : Addr) (hp : P.underlying t = some (.pointer te)) (hte : P.info? te = some j) :
    (Op.equal t (.pointer (some a)) (.pointer (some a))).run P w = .ok true w := by
  have h : ∀ d : Nat, (Op.equalIn (d + 1) t (.pointer (some a)) (.pointer (some a))).run P w = .ok true w := fun d => by
    simp [Op.equalIn, run_underlying hp, sizeOf, typeInfo, hte, run_sameAddr_same]
  exact h 9999
theorem run_equal_other {t te : TypeId} {j : TypeInfo} {a b : Addr} {ca cb : Array Value} {ta tb : TypeId} (hp : P.underlying t = some (.pointer te)) (hte : P.info? te = some j) (hsz : j.size ≠ 0)
    (hne : a ≠ b) (ha : w.heap[a.block]? = some (.cells ca ta (0, 0))) (hb : w.heap[b.block]? = some (.cells cb tb (0, 0))) :
    (Op.equal t (.pointer (some a)) (.pointer (some b))).run P w = .ok false w := by
  have h : ∀ d : Nat, (Op.equalIn (d + 1) t (.pointer (some a)) (.pointer (some b))).run P w = .ok false w := fun d => by
    simp [Op.equalIn, run_underlying hp, sizeOf, typeInfo, hte, hsz, run_sameAddr_other w hne ha hb]
  exact h 9999
end

theorem size_of {P : Program} {t : TypeId} {n : Nat} (h : (P.info? t).map (·.size) = some n) : ∃ j, P.info? t = some j ∧ j.size = n := by
  cases hq : P.info? t with
  | none => rw [hq] at h; simp at h
  | some i => rw [hq] at h; simp at h; exact ⟨i, rfl, h⟩
theorem i34 : (Yba.prog.info? 34).map (·.size) = some 21 := by kernel_rfl
theorem i41 : (Yba.prog.info? 41).map (·.size) = some 16 := by kernel_rfl

theorem eql23 (w : World) (a : Addr) : (binOp .eql 23 (.pointer (some a)) (.pointer (some a))).run Yba.prog w = .ok (.bool true) w := by
  obtain ⟨j, hj, _⟩ := size_of i34
  simp only [binOp]
  simp [run_equal_same w a Yba.underlying23 hj]
theorem neq23 (w : World) (a : Addr) : (binOp .neq 23 (.pointer (some a)) (.pointer (some a))).run Yba.prog w = .ok (.bool false) w := by
  obtain ⟨j, hj, _⟩ := size_of i34
  simp only [binOp]
  simp [run_equal_same w a Yba.underlying23 hj]
theorem neq28 (w : World) (a : Addr) : (binOp .neq 28 (.pointer (some a)) (.pointer (some a))).run Yba.prog w = .ok (.bool false) w := by
  obtain ⟨j, hj, _⟩ := size_of i41
  simp only [binOp]
  simp [run_equal_same w a Yba.underlying28 hj]
theorem eql23_other (w : World) {a b : Addr} {ca cb : Array Value} {ta tb : TypeId} (hne : a ≠ b) (ha : w.heap[a.block]? = some (.cells ca ta (0, 0))) (hb : w.heap[b.block]? = some (.cells cb tb (0, 0))) :
    (binOp .eql 23 (.pointer (some a)) (.pointer (some b))).run Yba.prog w = .ok (.bool false) w := by
  obtain ⟨j, hj, hs⟩ := size_of i34
  simp only [binOp]
  simp [run_equal_other w Yba.underlying23 hj (by omega) hne ha hb]
end Go.Proofs.Ybulkosu.Ptr
