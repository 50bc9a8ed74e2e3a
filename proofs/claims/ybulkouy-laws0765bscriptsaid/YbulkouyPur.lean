import Derived.Test.YbulkouyMem
namespace Go.Proofs.Ybulkouy.Kt
open Go.ChangeShapes Go.WideShapes Go.ChangeAt Go.RowKit
open Go.WideMaps Go.WideElems Go.Maps

def smTo (f : Nat → Int) : Nat → Int
  | 0 => 0
  | n + 1 => smTo f n + f n
def cntTo (f : Nat → Nat) : Nat → Nat
  | 0 => 0
  | n + 1 => cntTo f n + f n
/-- the size under key q: 0 where there is none -/
def valF (lst : Nat → Int) (sz : Nat → Int) (q : Nat) : Int := if 0 ≤ lst q then sz (lst q).toNat else 0
def oneF (lst : Nat → Int) (q : Nat) : Nat := if 0 ≤ lst q then 1 else 0
def atF (C : Nat → Nat) (v : Int) : DataW Unit := if 0 ≤ v then .lit (.int .u64 (C v.toNat : Int)) else .nil

theorem wrap_add (a b : Int) : wrap64 (wrap64 a + b) = wrap64 (a + b) := by unfold wrap64; omega
theorem wrap_two (a b : Int) : wrap64 (wrap64 a + wrap64 b) = wrap64 (a + b) := by unfold wrap64; omega

structure Pur (k : Nat) (sz : Nat → Int) (C : Nat → Nat) (lst : Nat → Int) (D : DataW Unit) (tsz : Int) : Prop where
  tidy : Tidy D
  lst_ : ∀ q, q < 4 → lst q = -1 ∨ ∃ j : Nat, j < k ∧ lst q = (j : Int)
  at_ : ∀ q, q < 4 → D.atKey (keyL q) .nil = atF C (lst q)
  has_ : ∀ q, q < 4 → Maps.has D (keyL q) = decide (0 ≤ lst q)
  size_ : Maps.size D = cntTo (oneF lst) 4
  tsz_ : tsz = wrap64 (smTo (valF lst sz) 4)

theorem pur_start (sz : Nat → Int) (C : Nat → Nat) : Pur 0 sz C (fun _ => -1) (.map []) 0 := by
  refine ⟨tidy_empty, fun q _ => .inl rfl, fun q _ => ?_, fun q _ => ?_, ?_, ?_⟩
  · simp [atF, DataW.atKey]
  · simp [Maps.has]
  · simp [Maps.size, cntTo, oneF]
  · simp [smTo, valF, wrap64]

theorem pur_step {k : Nat} {sz : Nat → Int} {C : Nat → Nat} {lst : Nat → Int} {D : DataW Unit} {tsz : Int} (h : Pur k sz C lst D tsz) {C' : Nat → Nat} (hC : ∀ j, j < k → C' j = C j) {q : Nat} (hq : q < 4) :
    Pur (k + 1) sz C' (fun p => if p = q then (k : Int) else lst p) (D.put (keyL q) (.lit (.int .u64 (C' k : Int)))) (wrap64 (tsz + wrap64 (sz k - valF lst sz q))) := by
  have hne : ∀ p, p < 4 → p ≠ q → keyL p ≠ keyL q := fun p hp hpq e => hpq (keyL_inj hp hq e)
  have hk : WideAt.IsKeyLit (keyL q) := trivial
  refine ⟨h.tidy.put hk _, fun p hp => ?_, fun p hp => ?_, fun p hp => ?_, ?_, ?_⟩
  · by_cases e : p = q
    · rw [if_pos e]; exact .inr ⟨k, by omega, rfl⟩
    · rw [if_neg e]
      rcases h.lst_ p hp with h1 | ⟨j, hj, h1⟩
      · exact .inl h1
      · exact .inr ⟨j, by omega, h1⟩
  · by_cases e : p = q
    · subst e
      rw [if_pos rfl, atKey_put_same h.tidy.isMap hk]
      simp [atF]
    · rw [if_neg e, atKey_put_other (hne p hp e), h.at_ p hp]
      unfold atF
      rcases h.lst_ p hp with h1 | ⟨j, hj, h1⟩
      · simp [h1]
      · simp [h1, hC j hj]
  · by_cases e : p = q
    · subst e
      rw [if_pos rfl, has_put_same h.tidy.isMap hk]
      simp
    · rw [if_neg e, has_put_other (hne p hp e), h.has_ p hp]
  · rw [size_put h.tidy, h.has_ q hq, h.size_]
    match q, hq with
    | 0, _ => by_cases h0 : 0 ≤ lst 0 <;> simp [cntTo, oneF, h0] <;> omega
    | 1, _ => by_cases h0 : 0 ≤ lst 1 <;> simp [cntTo, oneF, h0] <;> omega
    | 2, _ => by_cases h0 : 0 ≤ lst 2 <;> simp [cntTo, oneF, h0] <;> omega
    | 3, _ => by_cases h0 : 0 ≤ lst 3 <;> simp [cntTo, oneF, h0]
  · rw [h.tsz_, wrap_two]
    congr 1
    have hv : ∀ p, valF (fun p => if p = q then (k : Int) else lst p) sz p = if p = q then sz k else valF lst sz p := fun p => by
      by_cases e : p = q <;> simp [valF, e]
    match q, hq with
    | 0, _ => simp [smTo, hv]; omega
    | 1, _ => simp [smTo, hv]; omega
    | 2, _ => simp [smTo, hv]; omega
    | 3, _ => simp [smTo, hv]; omega

/-- the look-up with ok, on the law's memory -/
theorem look_ok {w : World} {mo : Option Nat} {nd k : Nat} {D : DataW Unit} {sz : Nat → Int} {C : Nat → Nat} {lst : Nat → Int} {tsz : Int} (hm : MapIs w mo nd D) (hp : Pur k sz C lst D tsz) {q : Nat} (hq : q < 4) :
    (lst q = -1 → (Instr.lookup 23 (.map mo) (.string (keyS q)) true).run Yba.prog w = .ok (.tuple #[.pointer none, .bool false]) w) ∧
    ∀ j : Nat, lst q = (j : Int) → (Instr.lookup 23 (.map mo) (.string (keyS q)) true).run Yba.prog w = .ok (.tuple #[.pointer (some ⟨C j, 0, none⟩), .bool true]) w := by
  have hat := hp.at_ q hq
  have hhas := hp.has_ q hq
  rcases hm with ⟨rfl, _, rfl⟩ | ⟨M, rfl, hm⟩
  · have hr := Maps.look_nil (w := w) (P := Yba.prog) true law Yba.underlying23 (zero30 w) (keyOf_string_mk Yba.underlying9 (keyS_le q))
    refine ⟨fun _ => hr, fun j e => ?_⟩
    rw [e] at hhas
    simp [Maps.has] at hhas
  · obtain ⟨v, ps, hrun, hv⟩ := hm.look_ok law Yba.underlying23 (zero30 w) (zd := .nil) (zp := []) rfl (keyOf_string_mk Yba.underlying9 (keyS_le q))
    have hat' : D.atKey (.string (keyS q).data.toList) .nil = atF C (lst q) := hat
    have hhas' : Maps.has D (.string (keyS q).data.toList) = decide (0 ≤ lst q) := hhas
    rw [hat'] at hv
    rw [hhas'] at hrun
    refine ⟨fun e => ?_, fun j e => ?_⟩
    · rw [e] at hv hrun
      have ev : v = .pointer none := ptrElem_nil (ps := ps) (by simpa [atF] using hv)
      rw [hrun, ev]
      rfl
    · rw [e] at hv hrun
      have ev : v = .pointer (some ⟨C j, 0, none⟩) := ptrElem_at (b := C j) (ps := ps) (by simpa [atF] using hv)
      rw [hrun, ev]
      simp

theorem len_ok {w : World} {mo : Option Nat} {nd : Nat} {D : DataW Unit} (hm : MapIs w mo nd D) (ty : TypeId) : (Builtin.len_ #[23] ty #[.map mo]).run Yba.prog w = .ok (.int .i64 (Maps.size D)) w := by
  rcases hm with ⟨rfl, _, rfl⟩ | ⟨M, rfl, hm⟩
  · exact Maps.len_nil Yba.underlying23 ty
  · exact hm.len Yba.underlying23 ty
end Go.Proofs.Ybulkouy.Kt
