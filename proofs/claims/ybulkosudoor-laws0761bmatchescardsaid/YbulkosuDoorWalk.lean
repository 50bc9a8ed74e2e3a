import Derived.Test.YbulkosuDoorFns
import Derived.Laws.Rows
import Derived.WalkSmall
namespace Go.Proofs.YbulkosuDoor.Fns
open Go.ChangeShapes Go.WideShapes Go.ChangeAt Go.RowKit

/-- what came in: the tokens' data -/
structure Toks (w : World) (a : Option Addr) (n : Nat) (kd sy : Nat → Int) (tx : Nat → ByteArray) : Prop where
  at_ : 0 < n → ∃ b off, a = some ⟨b, off, none⟩ ∧ b < w.heap.size ∧ ∀ i, i < n → w.cell? ⟨b, off + i * 3, none⟩ = some (.int .u8 (kd i)) ∧ w.cell? ⟨b, off + i * 3 + 1, none⟩ = some (.int .u8 (sy i)) ∧ w.cell? ⟨b, off + i * 3 + 2, none⟩ = some (.string (tx i))
  kd : ∀ i, i < n → 0 ≤ kd i ∧ kd i ≤ 255
  sy : ∀ i, i < n → 0 ≤ sy i ∧ sy i ≤ 255
  tx : ∀ i, i < n → (tx i).size ≤ maxLen

theorem textF_le (sym : Int) (raw : ByteArray) (h : raw.size ≤ maxLen) : (textF sym raw).size ≤ maxLen := by
  unfold textF
  repeat' split
  all_goals first | exact h | decide

/-- what came in: the steps' numbers -/
structure Ops (w : World) (a : Option Addr) (m : Nat) (op : Nat → Int) : Prop where
  at_ : 0 < m → ∃ b off, a = some ⟨b, off, none⟩ ∧ b < w.heap.size ∧ ∀ i, i < m → w.cell? ⟨b, off + i, none⟩ = some (.int .i64 (op i))

theorem info31' : (Ybad.prog.info? 31).map (fun i => (i.zero, i.bytes, i.size)) = some (some (.agg #[.int .i64 0, .string ⟨#[]⟩]), 24, 2) := by kernel_rfl
theorem info33' : (Ybad.prog.info? 33).map (fun i => (i.zero, i.bytes, i.size)) = some (some (.int .i64 0), 8, 1) := by kernel_rfl
theorem info_of {P : Program} {t : TypeId} {z : Value} {b s : Nat} (h : (P.info? t).map (fun i => (i.zero, i.bytes, i.size)) = some (some z, b, s)) : ∃ i, P.info? t = some i ∧ i.zero = some z ∧ i.bytes = b ∧ i.size = s := by
  cases hq : P.info? t with
  | none => rw [hq] at h; simp at h
  | some i => rw [hq] at h; simp at h; exact ⟨i, rfl, h.1, h.2.1, h.2.2⟩

theorem makeToks (w : World) (n : Nat) (h : n ≤ 1024) : (Instr.makeSlice 25 (.int .i64 n) (.int .i64 n)).run Ybad.prog w = .ok (.slice (some ⟨w.heap.size, 0, none⟩) n n) (w.alloc (.cells (madeCells #[.int .i64 0, .string ⟨#[]⟩] (n * 2)) 31)) := by
  obtain ⟨i, hi, hz, hb, hs⟩ := info_of info31'
  have := run_make (P := Ybad.prog) w 25 31 i _ Ybad.underlying25 hi hz .i64 .i64 n n (by omega) (Int.le_refl _) (by rw [hb]; omega) (by omega)
  rw [this, hs]
  simp [Value.cells]

theorem makeKinds (w : World) (n : Nat) (h : n ≤ 1024) : (Instr.makeSlice 32 (.int .i64 n) (.int .i64 n)).run Ybad.prog w = .ok (.slice (some ⟨w.heap.size, 0, none⟩) n n) (w.alloc (.cells (madeCells #[.int .i64 0] n) 33)) := by
  obtain ⟨i, hi, hz, hb, hs⟩ := info_of info33'
  have := run_make (P := Ybad.prog) w 32 33 i _ Ybad.underlying32 hi hz .i64 .i64 n n (by omega) (Int.le_refl _) (by rw [hb]; omega) (by omega)
  rw [this, hs]
  simp [Value.cells]

/-- the tokens' row of the call's own, filled up to k -/
def TokRow (wr : World) (T n k : Nat) (kd sy : Nat → Int) (tx : Nat → ByteArray) : Prop :=
  ∃ cs : Array Value, wr.heap[T]? = some (.cells cs 31 (0, 0)) ∧ cs.size = n * 2 ∧ ∀ j, j < k → cs[j * 2]? = some (.int .i64 (kd j % 4)) ∧ cs[j * 2 + 1]? = some (.string (textF (sy j) (tx j)))

theorem row_cell {w : World} {g j : Nat} {cs : Array Value} {t : TypeId} {fr : Nat × Nat} (hr : w.heap[g]? = some (.cells cs t fr)) (h : j < cs.size) : ∃ v, w.cell? ⟨g, j, none⟩ = some v :=
  ⟨cs[j], by rw [cell_of_row w _ _ cs t fr hr]; exact Array.getElem?_eq_getElem h⟩

theorem tokRow_step {wr : World} {T n k : Nat} {kd sy : Nat → Int} {tx : Nat → ByteArray} {cs : Array Value} (hr : wr.heap[T]? = some (.cells cs 31 (0, 0))) (hcs : cs.size = n * 2)
    (hold : ∀ j, j < k → cs[j * 2]? = some (.int .i64 (kd j % 4)) ∧ cs[j * 2 + 1]? = some (.string (textF (sy j) (tx j)))) (hk : k < n) :
    TokRow ((wr.setCell ⟨T, k * 2, none⟩ (.int .i64 (kd k % 4))).setCell ⟨T, k * 2 + 1, none⟩ (.string (textF (sy k) (tx k)))).drew T n (k + 1) kd sy tx := by
  refine ⟨_, heap_setCell_same _ T (k * 2 + 1) _ 31 _ (heap_setCell_same wr T (k * 2) cs 31 _ hr), by simp [hcs], fun j hj => ?_⟩
  by_cases e : j = k
  · subst e
    have a1 : j * 2 < cs.size := by omega
    have a2 : j * 2 + 1 < cs.size := by omega
    simp [a1, a2]
  · obtain ⟨h1, h2⟩ := hold j (by omega)
    have e1 : ¬ k * 2 + 1 = j * 2 := by omega
    have e2 : ¬ k * 2 = j * 2 := by omega
    have e3 : ¬ k * 2 + 1 = j * 2 + 1 := by omega
    have e4 : ¬ k * 2 = j * 2 + 1 := by omega
    constructor
    · rw [Array.getElem?_setIfInBounds, if_neg e1, Array.getElem?_setIfInBounds, if_neg e2, h1]
    · rw [Array.getElem?_setIfInBounds, if_neg e3, Array.getElem?_setIfInBounds, if_neg e4, h2]

/-- the steps' row of the call's own, filled up to k -/
def KindRow (wr : World) (K m k : Nat) (op : Nat → Int) : Prop :=
  ∃ cs : Array Value, wr.heap[K]? = some (.cells cs 33 (0, 0)) ∧ cs.size = m ∧ ∀ j, j < k → cs[j]? = some (.int .i64 (op j))

theorem kindRow_step {wr : World} {K m k : Nat} {op : Nat → Int} {cs : Array Value} (hr : wr.heap[K]? = some (.cells cs 33 (0, 0))) (hcs : cs.size = m)
    (hold : ∀ j, j < k → cs[j]? = some (.int .i64 (op j))) (hk : k < m) : KindRow (wr.setCell ⟨K, k, none⟩ (.int .i64 (op k))) K m (k + 1) op := by
  refine ⟨_, heap_setCell_same wr K k cs 33 _ hr, by simp [hcs], fun j hj => ?_⟩
  by_cases e : j = k
  · subst e
    have a1 : j < cs.size := by omega
    simp [a1]
  · rw [Array.getElem?_setIfInBounds, if_neg (by omega), hold j (by omega)]

theorem lies_of {wr : World} {P T K n m st : Nat} {kd sy : Nat → Int} {tx : Nat → ByteArray} {op : Nat → Int} (hP : wr.heap.size = P) (h1 : TokRow wr T n n kd sy tx) (h2 : KindRow wr K m m op) :
    Lies (wr.alloc (.cells #[.slice (some ⟨T, 0, none⟩) n n, .int .i64 (st : Int), .map none, .int .i64 0, .slice none 0 0] 39)) P T K n m st (fun i => kd i % 4) (fun i => textF (sy i) (tx i)) op := by
  subst hP
  obtain ⟨cs, hr, _, hc⟩ := h1
  obtain ⟨ds, hs, _, hd⟩ := h2
  have lt1 : T < wr.heap.size := (Array.getElem?_eq_some_iff.1 hr).1
  have lt2 : K < wr.heap.size := (Array.getElem?_eq_some_iff.1 hs).1
  have o1 := (Below.heap_alloc wr (.cells #[.slice (some ⟨T, 0, none⟩) n n, .int .i64 (st : Int), .map none, .int .i64 0, .slice none 0 0] 39) T lt1).trans hr
  have o2 := (Below.heap_alloc wr (.cells #[.slice (some ⟨T, 0, none⟩) n n, .int .i64 (st : Int), .map none, .int .i64 0, .slice none 0 0] 39) K lt2).trans hs
  have o3 := heap_alloc_new wr (.cells #[.slice (some ⟨T, 0, none⟩) n n, .int .i64 (st : Int), .map none, .int .i64 0, .slice none 0 0] 39)
  exact ⟨by rw [cell_of_row _ _ _ _ _ _ o3]; rfl, by rw [cell_of_row _ _ _ _ _ _ o3]; rfl, fun j hj => by rw [cell_of_row _ _ _ _ _ _ o1]; exact (hc j hj).1,
    fun j hj => by rw [cell_of_row _ _ _ _ _ _ o1]; exact (hc j hj).2, fun j hj => by rw [cell_of_row _ _ _ _ _ _ o2]; exact hd j hj⟩

theorem tokRow_below {w w' : World} {T n k B : Nat} {kd sy : Nat → Int} {tx : Nat → ByteArray} (h : Below B w w') (hT : T < B) (r : TokRow w T n k kd sy tx) : TokRow w' T n k kd sy tx := by
  obtain ⟨cs, hr, hc⟩ := r
  exact ⟨cs, (h.block T hT).trans hr, hc⟩

theorem start_of (pos : Int) (n : Nat) (hn : n ≤ 1024) : ∃ st : Nat, st ≤ n ∧ wrap64 (pos % ((n : Int) + 1)) = (st : Int) := by
  have h1 := Int.emod_nonneg pos (show (n : Int) + 1 ≠ 0 by omega)
  have h2 := Int.emod_lt_of_pos pos (show (0 : Int) < (n : Int) + 1 by omega)
  refine ⟨(pos % ((n : Int) + 1)).toNat, by omega, ?_⟩
  unfold wrap64
  omega

set_option maxRecDepth 100000 in
set_option maxHeartbeats 1000000 in
theorem law_walk (a0 : Option Addr) (n cap0 : Nat) (kd sy : Nat → Int) (tx : Nat → ByteArray) (pos : Int) (p0 : 0 ≤ pos) (p1 : pos < 18446744073709551616) (a2 : Option Addr) (m cap2 : Nat) (op : Nat → Int) (w : World)
    (hT : Toks w a0 n kd sy tx) (hO : Ops w a2 m op) (hn : n ≤ 1024) (hm : m ≤ 1024)
    (bm : Nat) (hg0 : 0 < w.heap.size) (hg : w.cell? ⟨0, 0, none⟩ = some (.map (some bm)))
    (hl : Hid (∀ w' s, s.size ≤ maxLen → Below w.heap.size w w' → (Instr.lookup 44 (.map (some bm)) (.string s) false).run Ybad.prog w' = .ok (.int .i64 (opF s)) w')) :
    Calls Ybad.prog 3 #[.slice a0 n cap0, .int .u64 pos, .slice a2 m cap2] w fun e w' => e = .returned (.bool true) ∧ Below w.heap.size w w' := by
  have g1 : decide ((1024 : Int) < (n : Int)) = false := by simp; omega
  have g2 : decide ((1024 : Int) < (m : Int)) = false := by simp; omega
  have hmk := fun w => makeToks w n hn
  go_enter Ybad.func3, Ybad.ntmps3
  go_wp2
  go_loopw [8] (fun i wr => ∃ k : Nat, k ≤ n ∧ i = .int .i64 k ∧ Below w.heap.size w wr ∧ wr.heap.size = w.heap.size + 1 ∧ TokRow wr w.heap.size n k kd sy tx) (fun i _ => n - (intOf i).toNat)
  case atStart => exact ⟨0, Nat.zero_le _, rfl, (Below.refl _ _).alloc (Nat.le_refl _) _, by simp, _, heap_alloc_new w _, size_madeCells _ _, fun j hj => by omega⟩
  case round =>
    obtain ⟨k, hk, rfl, hb, hsz, hrow⟩ := hrel
    by_cases hlt : k < n
    · obtain ⟨b, off, rfl, hbl, hcell⟩ := hT.at_ (by omega)
      obtain ⟨t0, t1, t2⟩ := hcell k hlt
      obtain ⟨k0, k1⟩ := hT.kd k hlt
      obtain ⟨s0, s1⟩ := hT.sy k hlt
      obtain ⟨cs, hr, hcs, hold⟩ := hrow
      rw [← hb.cell (p := ⟨b, _, none⟩) hbl] at t0 t1 t2
      obtain ⟨v0, c0⟩ := row_cell hr (show k * 2 < cs.size by omega)
      obtain ⟨v1, c1⟩ := row_cell hr (show k * 2 + 1 < cs.size by omega)
      have f0 : wr.frozen? ⟨w.heap.size, k * 2, none⟩ = false := frozen_of_row wr _ _ cs 31 hr
      have f1 : wr.frozen? ⟨w.heap.size, k * 2 + 1, none⟩ = false := frozen_of_row wr _ _ cs 31 hr
      have b0 : (0 : Int) ≤ (k : Int) := by omega
      have b1 : (k : Int) < (n : Int) := by omega
      have w4 : IntKind.i64.wrap ((kd k).tmod 4) = kd k % 4 := by rw [Int.tmod_eq_emod_of_nonneg k0, IntKind.wrap_i64]; omega
      have n0 : ∀ x y : Nat, (⟨w.heap.size, x, none⟩ : Addr) ≠ ⟨b, y, none⟩ := fun x y e => by injection e with e1; omega
      have e0 : ∀ v v' y u, wr.cell? ⟨b, y, none⟩ = some u → ((wr.setCell ⟨w.heap.size, k * 2, none⟩ v).setCell ⟨w.heap.size, k * 2 + 1, none⟩ v').cell? ⟨b, y, none⟩ = some u := fun v v' y u h => by
        rw [World.cell?_setCell_other _ _ _ _ (n0 _ _), World.cell?_setCell_other _ _ _ _ (n0 _ _)]; exact h
      have u0 := fun v v' => e0 v v' _ _ t0
      have u1 := fun v v' => e0 v v' _ _ t1
      have u2 := fun v v' => e0 v v' _ _ t2
      clear e0 n0
      have Hr : Hid (wr.heap[w.heap.size]? = some (.cells cs 31 (0, 0))) := hr
      have Hcs : Hid (cs.size = n * 2) := hcs
      have Hold : Hid (∀ j, j < k → cs[j * 2]? = some (.int .i64 (kd j % 4)) ∧ cs[j * 2 + 1]? = some (.string (textF (sy j) (tx j)))) := hold
      have Hsz : Hid (wr.heap.size = w.heap.size + 1) := hsz
      clear hr hcs hold hsz hT hcell hmk
      go_wp2_with fail
      go_region_held3 (fun w' => w'.cell? ⟨b, off + k * 3, none⟩ = some (.int .u8 (kd k)) ∧ w'.cell? ⟨b, off + k * 3 + 1, none⟩ = some (.int .u8 (sy k)) ∧ w'.cell? ⟨b, off + k * 3 + 2, none⟩ = some (.string (tx k)))
        (go_keep)
        ((go_at_call 4; refine (text _ _ s0 s1 _).mono ?_; rintro e w' ⟨rfl, rfl⟩))
      go_wp2
      go_roundw
      case rel => exact ⟨k + 1, by omega, by go_num, ((hb.setCell (Nat.le_refl _) _).setCell (Nat.le_refl _) _).drew, by simpa using Hsz.out, tokRow_step Hr.out Hcs.out Hold.out hlt⟩
      case measure => simp [intOf]; omega
    · have hkn : k = n := by omega
      subst hkn
      have hmk2 := fun w => makeKinds w m hm
      have hT' := hT
      clear hmk hT
      obtain ⟨wa, hwa⟩ : ∃ x, x = wr := ⟨_, rfl⟩
      subst hwa
      go_wp2_with fail
      go_loopw [10] (fun i ws => ∃ j : Nat, j ≤ m ∧ i = .int .i64 j ∧ Below (w.heap.size + 1) wa ws ∧ ws.heap.size = w.heap.size + 2 ∧ KindRow ws (w.heap.size + 1) m j op) (fun i _ => m - (intOf i).toNat)
      case atStart => exact ⟨0, Nat.zero_le _, rfl, (Below.refl _ _).alloc (by omega) _, by simp; omega, _, by rw [← hsz]; exact heap_alloc_new wa _, size_madeCells _ _, fun j hj => by omega⟩
      case round =>
        obtain ⟨j, hj, rfl, hb2, hsz2, hrow2⟩ := hrel
        by_cases hlt2 : j < m
        · obtain ⟨b, off, rfl, hbl, hcell⟩ := hO.at_ (by omega)
          have t0 := hcell j hlt2
          obtain ⟨cs, hr, hcs, hold⟩ := hrow2
          rw [← hb.cell (p := ⟨b, _, none⟩) hbl, ← hb2.cell (p := ⟨b, _, none⟩) (Nat.lt_succ_of_lt hbl)] at t0
          obtain ⟨v0, c0⟩ := row_cell hr (show j < cs.size by omega)
          have f0 : wr.frozen? ⟨w.heap.size + 1, j, none⟩ = false := frozen_of_row wr _ _ cs 33 hr
          have b0 : (0 : Int) ≤ (j : Int) := by omega
          have b1 : (j : Int) < (m : Int) := by omega
          have Hr : Hid (wr.heap[w.heap.size + 1]? = some (.cells cs 33 (0, 0))) := hr
          have Hcs : Hid (cs.size = m) := hcs
          have Hold : Hid (∀ i, i < j → cs[i]? = some (.int .i64 (op i))) := hold
          clear hr hcs hold hO hcell hmk2
          go_wp2
          go_roundw
          case rel => exact ⟨j + 1, by omega, by go_num, hb2.setCell (Nat.le_refl _) _, by simpa using hsz2, kindRow_step Hr.out Hcs.out Hold.out hlt2⟩
          case measure => simp [intOf]; omega
        · have hjm : j = m := by omega
          subst hjm
          clear hmk2 hO
          obtain ⟨st, hst, hwst⟩ := start_of pos k hn
          have Hst : Hid (wrap64 (pos % ((k : Int) + 1)) = (st : Int)) := hwst
          clear hwst
          go_wp2_with fail
          rw [Hst.out]
          have hL := lies_of (st := st) hsz2 (tokRow_below hb2 (Nat.lt_succ_self _) hrow) hrow2
          have hBX : Below w.heap.size w (wr.alloc (.cells #[.slice (some ⟨w.heap.size, 0, none⟩) k k, .int .i64 (st : Int), .map none, .int .i64 0, .slice none 0 0] 39)) :=
            (hb.trans (hb2.mono (Nat.le_succ _))).alloc (by omega) _
          generalize (wr.alloc (.cells #[.slice (some ⟨w.heap.size, 0, none⟩) k k, .int .i64 (st : Int), .map none, .int .i64 0, .slice none 0 0] 39)) = X at hL hBX ⊢
          have hgX : X.cell? ⟨0, 0, none⟩ = some (.map (some bm)) := by rw [hBX.cell (p := ⟨0, 0, none⟩) hg0]; exact hg
          clear Hst hb hb2 hsz hsz2 hrow hrow2 hg hg0
          have l1 := hL.toks
          have l2 := hL.pos
          by_cases hend : st = k
          · subst hend
            have d1 : decide ((st : Int) < (st : Int)) = false := by simp
            refine (operator_end _ _ _ _ _ _ _ _ X hL).mono ?_
            rintro e w' ⟨⟨nq, rfl⟩, rfl⟩
            clear hL hgX
            go_wp2
            go_ret
            exact ⟨by simp, below_drewN hBX _⟩
          have hlt3 : st < k := by omega
          have d1 : decide ((st : Int) < (k : Int)) = true := by simp; omega
          have b0 : (0 : Int) ≤ (st : Int) := by omega
          have b1 : (st : Int) < (k : Int) := by omega
          have l3 := hL.kind st hlt3
          have l4 := hL.txt st hlt3
          by_cases hk3 : kd st % 4 = 3
          · have d2 : (kd st % 4 == 3) = true := beq_iff_eq.2 hk3
            refine (operator_sym _ _ _ _ _ _ bm _ _ _ X hm hlt3 hL hk3 hgX _ (fun nq => hl.out _ _ (textF_le _ _ (hT'.tx st hlt3)) (below_drewN hBX nq))).mono ?_
            rintro e w' ⟨⟨nq, rfl⟩, rfl⟩
            have H5 : Hid (∀ i, i < j → X.cell? ⟨w.heap.size + 1, i, none⟩ = some (.int .i64 (op i))) := hL.ops
            clear hL hgX hk3
            go_wp2_with (go_at_call 6; refine (bop _ _).mono ?_; rintro e w' ⟨rfl, rfl⟩)
            generalize hkk : opF (textF (sy st) (tx st)) = kk
            clear hkk
            go_loop [15, 16, 18] (fun a b i => ∃ q : Nat, q ≤ j ∧ i = .int .i64 q ∧ a = .int .i64 0 ∧ b = .bool false ∧ hit op kk q = false) (fun _ _ i => j - (intOf i).toNat)
            case atStart => exact ⟨0, Nat.zero_le _, rfl, rfl, rfl, rfl⟩
            case round =>
              obtain ⟨q, hq, rfl, rfl, rfl, hno⟩ := hrel
              have Hno : Hid (hit op kk q = false) := hno
              clear hno
              by_cases hlq : q < j
              · have hc := H5.out q hlq
                by_cases he : op q = kk
                · have hf : hit op kk j = true := hit_true op kk q j hlq he
                  have hgot : gotF op kk j = kk := by simp [gotF, hf]
                  have e1 : (op q == kk) = true := beq_iff_eq.2 he
                  clear he
                  go_wp2
                  go_ret
                  exact ⟨by simp, below_drewN hBX _⟩
                · have e1 : (op q == kk) = false := beq_eq_false_iff_ne.2 he
                  have Hs : Hid (hit op kk (q + 1) = false) := by
                    show hit op kk (q + 1) = false
                    rw [hit_succ, Hno.out, e1]; rfl
                  clear he
                  go_wp2
                  go_round
                  case rel => exact ⟨q + 1, by omega, by go_num, rfl, rfl, Hs.out⟩
                  case measure => simp [intOf]; omega
              · have hqj : q = j := by omega
                subst hqj
                have hf : hit op kk q = false := Hno.out
                have hgot : gotF op kk q = 0 := by simp [gotF, hf]
                go_wp2
                go_ret
                exact ⟨by simp, below_drewN hBX _⟩
          · have d2 : (kd st % 4 == 3) = false := beq_eq_false_iff_ne.2 hk3
            refine (operator_other _ _ _ _ _ _ _ _ _ X hlt3 hL hk3).mono ?_
            rintro e w' ⟨⟨nq, rfl⟩, rfl⟩
            clear hL hgX hk3
            go_wp2
            go_ret
            exact ⟨by simp, below_drewN hBX _⟩
end Go.Proofs.YbulkosuDoor.Fns
