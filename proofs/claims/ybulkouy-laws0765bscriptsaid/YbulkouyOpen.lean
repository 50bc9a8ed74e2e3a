import Derived.Deep.Slices
import Derived.OpenShut
namespace Go.Proofs.Ybulkouy.Opn
open Go Go.ChangeShapes Go.WideShapes Go.Deep

section
variable {H : Type} {enc : TypeId × Value → H} {P : Program} {w : World} {spare : Nat → Bool} {held : Bool}

/-- A slice of structs that is not empty: where it lies, and each element's cells with the readings of its fields. -/
theorem open_structs {t e : TypeId} {fs : Array Field} {fuel len cap : Nat} {a : Option Addr} {x : DataW H × List MemPlace} (ht : P.underlying t = some (.slice e)) (he : P.underlying e = some (.struct fs)) (ce : 0 < P.cellsOf e)
    (h : DataW.trod enc P w 0 spare held fuel t [.slice a len cap] = some x) (hlen : 0 < len) :
    ∃ b off, a = some ⟨b, off, none⟩ ∧ b < w.heap.size ∧ ∀ i, i < len → ∃ (cs : List Value) (n : Nat) (xs : List (DataW H × List MemPlace)), cs.length = P.cellsOf e ∧ (∀ j, j < P.cellsOf e → w.cell? ⟨b, off + i * P.cellsOf e + j, none⟩ = cs[j]?) ∧
      xs.length = fs.size ∧ ∀ (j : Nat) (f : Field), fs[j]? = some f → DataW.trod enc P w 0 spare held n f.type ((cs.drop f.offset).take (P.cellsOf f.type)) = xs[j]? := by
  rcases open_slice ht h with ⟨h0, _⟩ | ⟨a', len', cap', m, n, D, Pl, hcs, _, hl, _, hm, _, hx⟩
  · simp at h0; omega
  simp at hcs
  obtain ⟨rfl, rfl, rfl⟩ := hcs
  have hlm : len ≤ m := by rw [hm]; split <;> omega
  obtain ⟨b, off, spot⟩ := a'
  have first : ∃ v, w.cell? ((⟨b, off, spot⟩ : Addr).add 0) = some v := by
    obtain ⟨cs', h1, _⟩ := hx 0 (by omega)
    obtain ⟨_, hl1, hc1⟩ := World.cells?_some h1
    have := hc1 0 ce
    rw [Nat.zero_mul, add_add] at this
    exact ⟨cs'[0], by rw [this]; exact List.getElem?_eq_getElem (by omega)⟩
  obtain ⟨v, hv⟩ := first
  have hspot : spot = none := by simpa [Addr.add] using World.cell?_spot hv
  subst hspot
  have hb : b < w.heap.size := by
    have := block_lt_of_cell hv
    simpa [Addr.add] using this
  refine ⟨b, off, rfl, hb, fun i hi => ?_⟩
  obtain ⟨cs', h1, h2⟩ := hx i (by omega)
  obtain ⟨_, hl1, hc1⟩ := World.cells?_some h1
  obtain ⟨xs, k, _, _, _, hxl, hf⟩ := DataW.trod_struct he h2
  refine ⟨cs', k, xs, hl1, fun j hj => ?_, hxl, hf⟩
  have := hc1 j hj
  rw [add_add, add_plain] at this
  rw [Nat.add_assoc]
  exact this
end
end Go.Proofs.Ybulkouy.Opn
