import Derived.Test.YbulkosuChoose
namespace Go.Proofs.Ybulkosu.Choose
open Go.ChangeShapes Go.WideShapes Go.ChangeAt Go.RowKit
open Go.Proofs.Ybulkosu.Txn

/-- the slice of transactions at block K -/
structure Row (w : World) (K n : Nat) (B : Nat → Nat) (X : Nat → Tx) : Prop where
  cell : ∀ j, j < n → w.cell? ⟨K, j, none⟩ = some (.pointer (some ⟨B j, 0, none⟩))
  lies : ∀ j, j < n → Lies w (B j) (X j)

theorem Row.drewN {w : World} {K n : Nat} {B : Nat → Nat} {X : Nat → Tx} (h : Row w K n B X) (m : Nat) : Row (w.drewN m) K n B X := ⟨h.cell, fun j hj => (h.lies j hj).drewN m⟩

set_option maxRecDepth 100000 in
set_option maxHeartbeats 1000000 in
theorem choose (p : Int) (w : World) (K n : Nat) (B : Nat → Nat) (X : Nat → Tx) (hn : n + 1 ≤ 1024) (hX : ∀ j, j < n + 1 → (X j).2.2.2 ≤ 255) (hR : Row w K (n + 1) B X) :
    Calls Yba.prog 9 #[.int .i64 p, .slice (some ⟨K, 0, none⟩) (n + 1) (n + 1)] w fun e w' => (∃ v, v < n + 1 ∧ e = .returned (.pointer (some ⟨B v, 0, none⟩)) ∧ ∀ j, j < n + 1 → bef p (X j) (X v) = false) ∧ ∃ nq, w' = w.drewN nq := by
  have c0 := hR.cell 0 (by omega)
  have b0 : (0 : Int) < (n : Int) + 1 := by omega
  have b1 : (1 : Int) ≤ (n : Int) + 1 := by omega
  by_cases h1 : n = 0
  · subst h1
    go_enter Yba.func9, Yba.ntmps9
    go_wp2
    go_loop [5, 14] (fun a i => a = .pointer (some ⟨B 0, 0, none⟩) ∧ i = .int .i64 0) (fun _ _ => 0)
    case atStart => exact ⟨rfl, rfl⟩
    case round =>
      obtain ⟨rfl, rfl⟩ := hrel
      go_wp2
      go_ret
      exact ⟨⟨rfl, bef_irrefl _ _⟩, 0, rfl⟩
  · go_enter Yba.func9, Yba.ntmps9
    go_wp2
    go_loopw [5, 14] (fun a i wr => ∃ q v : Nat, q ≤ n ∧ v < q + 1 ∧ i = .int .i64 (q : Int) ∧ a = .pointer (some ⟨B v, 0, none⟩) ∧ (∀ j, j < q + 1 → bef p (X j) (X v) = false) ∧ ∃ nq, wr = w.drewN nq) (fun _ i _ => n - (intOf i).toNat)
    case atStart => exact ⟨0, 0, by omega, by omega, rfl, rfl, fun j hj => by obtain rfl : j = 0 := by omega
                                                                              exact bef_irrefl _ _, 0, rfl⟩
    case round =>
      obtain ⟨q, v, hq, hv, rfl, rfl, hmin, nq, rfl⟩ := hrel
      have Hmin : Hid (∀ j, j < q + 1 → bef p (X j) (X v) = false) := hmin
      clear hmin
      by_cases hlt : q < n
      · have c1 := hR.cell (q + 1) (by omega)
        have c2 : w.cell? ⟨K, 1 + q, none⟩ = some (.pointer (some ⟨B (q + 1), 0, none⟩)) := by rw [Nat.add_comm]; exact c1
        have b2 : (0 : Int) ≤ (q : Int) := by omega
        have b3 : (q : Int) < (n : Int) := by omega
        go_wp2_with fail
        refine (before p _ _ _ _ _ (hX _ (by omega)) (hX v (by omega)) ((hR.lies (q + 1) (by omega)).drewN nq) ((hR.lies v (by omega)).drewN nq)).mono ?_
        rintro e w1 ⟨rfl, nq2, rfl⟩
        cases hb : bef p (X (q + 1)) (X v)
        · have Hb : Hid (bef p (X (q + 1)) (X v) = false) := hb
          clear hb
          go_wp2
          go_roundw
          case rel =>
            refine ⟨q + 1, v, by omega, by omega, by go_num, rfl, fun j hj => ?_, _, rfl⟩
            by_cases e : j = q + 1
            · subst e; exact Hb.out
            · exact Hmin.out j (by omega)
          case measure => simp [intOf]; omega
        · have Hb : Hid (bef p (X (q + 1)) (X v) = true) := hb
          clear hb
          go_wp2
          go_roundw
          case rel =>
            refine ⟨q + 1, q + 1, by omega, by omega, by go_num, rfl, fun j hj => ?_, _, rfl⟩
            by_cases e : j = q + 1
            · subst e; exact bef_irrefl _ _
            · exact bef_trans Hb.out (Hmin.out j (by omega))
          case measure => simp [intOf]; omega
      · obtain rfl : q = n := by omega
        go_wp2
        go_ret
        exact ⟨⟨v, by omega, rfl, Hmin.out⟩, _, rfl⟩

/-- what came in -/
structure Ds (w : World) (a : Option Addr) (n : Nat) (age ex : Nat → Int) (vict : Nat → Bool) (lk : Nat → Int) : Prop where
  at_ : 0 < n → ∃ b off, a = some ⟨b, off, none⟩ ∧ b < w.heap.size ∧ ∀ i, i < n → w.cell? ⟨b, off + i * 4, none⟩ = some (.int .i64 (age i)) ∧ w.cell? ⟨b, off + i * 4 + 1, none⟩ = some (.int .i64 (ex i)) ∧
    w.cell? ⟨b, off + i * 4 + 2, none⟩ = some (.bool (vict i)) ∧ w.cell? ⟨b, off + i * 4 + 3, none⟩ = some (.int .u8 (lk i))
  lk : ∀ i, i < n → 0 ≤ lk i ∧ lk i ≤ 255

theorem info23' : (Yba.prog.info? 23).map (fun i => (i.zero, i.bytes, i.size)) = some (some (.pointer none), 8, 1) := by kernel_rfl
theorem info_of {P : Program} {t : TypeId} {z : Value} {b s : Nat} (h : (P.info? t).map (fun i => (i.zero, i.bytes, i.size)) = some (some z, b, s)) : ∃ i, P.info? t = some i ∧ i.zero = some z ∧ i.bytes = b ∧ i.size = s := by
  cases hq : P.info? t with
  | none => rw [hq] at h; simp at h
  | some i => rw [hq] at h; simp at h; exact ⟨i, rfl, h.1, h.2.1, h.2.2⟩
theorem makeTxns (w : World) (n : Nat) (h : n ≤ 1024) : (Instr.makeSlice 30 (.int .i64 n) (.int .i64 n)).run Yba.prog w = .ok (.slice (some ⟨w.heap.size, 0, none⟩) n n) (w.alloc (.cells (madeCells #[.pointer none] n) 23)) := by
  obtain ⟨i, hi, hz, hb, hs⟩ := info_of info23'
  have := run_make (P := Yba.prog) w 30 23 i _ Yba.underlying30 hi hz .i64 .i64 n n (by omega) (Int.le_refl _) (by rw [hb]; omega) (by omega)
  rw [this, hs]
  simp [Value.cells]

/-- k transactions are built -/
structure Built (w wr : World) (K n k : Nat) (B : Nat → Nat) (X : Nat → Tx) : Prop where
  bel : Below K w wr
  row : ∃ cs : Array Value, wr.heap[K]? = some (.cells cs 23 (0, 0)) ∧ cs.size = n ∧ ∀ j, j < k → cs[j]? = some (.pointer (some ⟨B j, 0, none⟩))
  lies : ∀ j, j < k → Lies wr (B j) (X j)
  ne : ∀ j, j < k → K < B j

theorem Lies.setCell {w : World} {B : Nat} {x : Tx} (h : Lies w B x) {K o : Nat} (hne : K ≠ B) (v : Value) : Lies (w.setCell ⟨K, o, none⟩ v) B x := by
  obtain ⟨⟨h1, ⟨a, h2⟩, h3, h4⟩, c, t, hr⟩ := h
  have ne : ∀ y, (⟨K, o, none⟩ : Addr) ≠ ⟨B, y, none⟩ := fun y e => by injection e; exact hne ‹_›
  refine ⟨⟨?_, ⟨a, ?_⟩, ?_, ?_⟩, c, t, ?_⟩
  · rw [World.cell?_setCell_other _ _ _ _ (ne _)]; exact h1
  · rw [World.cell?_setCell_other _ _ _ _ (ne _)]; exact h2
  · rw [World.cell?_setCell_other _ _ _ _ (ne _)]; exact h3
  · rw [World.cell?_setCell_other _ _ _ _ (ne _)]; exact h4
  · rw [Below.heap_setCell _ _ _ _ (fun e => hne e.symm)]; exact hr

theorem built_step {w wr w1 : World} {K n k : Nat} {B : Nat → Nat} {X : Nat → Tx} (h : Built w wr K n k B X) (hk : k < n) (hb : Below wr.heap.size wr w1) (b : Nat) (hl : Lies w1 b (X k)) (hle : wr.heap.size ≤ b) :
    Built w (w1.setCell ⟨K, k, none⟩ (.pointer (some ⟨b, 0, none⟩))) K n (k + 1) (fun j => if j = k then b else B j) X := by
  obtain ⟨cs, hr, hc, ho⟩ := h.row
  have hK : K < wr.heap.size := (Array.getElem?_eq_some_iff.1 hr).1
  refine ⟨(h.bel.trans (hb.mono (by omega))).setCell (Nat.le_refl K) _, ?_, fun j hj => ?_, fun j hj => ?_⟩
  · refine ⟨_, heap_setCell_same _ K k cs 23 _ ((hb.block K hK).trans hr), by simp [hc], fun j hj => ?_⟩
    by_cases e : j = k
    · subst e
      have a1 : j < cs.size := by omega
      simp [a1]
    · rw [Array.getElem?_setIfInBounds, if_neg (fun x => e x.symm), ho j (by omega), if_neg e]
  · by_cases e : j = k
    · subst e
      rw [if_pos rfl]
      exact hl.setCell (by omega) _
    · rw [if_neg e]
      exact ((h.lies j (by omega)).below hb (h.lies j (by omega)).lt).setCell (by have := h.ne j (by omega); omega) _
  · by_cases e : j = k
    · subst e; rw [if_pos rfl]; omega
    · rw [if_neg e]; exact h.ne j (by omega)

theorem choose' (p : Int) (w : World) (K n : Nat) (B : Nat → Nat) (X : Nat → Tx) (h0 : 0 < n) (hn : n ≤ 1024) (hX : ∀ j, j < n → (X j).2.2.2 ≤ 255) (hR : Row w K n B X) :
    Calls Yba.prog 9 #[.int .i64 p, .slice (some ⟨K, 0, none⟩) n n] w fun e w' => (∃ v, v < n ∧ e = .returned (.pointer (some ⟨B v, 0, none⟩)) ∧ ∀ j, j < n → bef p (X j) (X v) = false) ∧ ∃ nq, w' = w.drewN nq := by
  obtain ⟨m, rfl⟩ : ∃ m, n = m + 1 := ⟨n - 1, by omega⟩
  exact choose p w K m B X hn hX hR

set_option maxRecDepth 100000 in
set_option maxHeartbeats 1000000 in
theorem law_walk (s : Int) (s0 : 0 ≤ s) (s1 : s ≤ 255) (a : Option Addr) (n cap : Nat) (age ex : Nat → Int) (vict : Nat → Bool) (lk : Nat → Int) (w : World) (hD : Ds w a n age ex vict lk) (h0 : 0 < n) (hn : n ≤ 1024) :
    Calls Yba.prog 5 #[.int .u8 s, .slice a n cap] w fun e w' => e = .returned (.bool true) ∧ Below w.heap.size w w' := by
  have g0 : ((n : Int) == 0) = false := beq_eq_false_iff_ne.2 (by omega)
  have g1 : decide ((1024 : Int) < (n : Int)) = false := by simp; omega
  have hmk := fun w => makeTxns w n hn
  have hs : IntKind.i64.wrap s = s := by rw [IntKind.wrap_i64]; omega
  have hX : ∀ j, j < n → ((fun i => ((age i, ex i, vict i, (lk i).toNat) : Tx)) j).2.2.2 ≤ 255 := fun j hj => by have := hD.lk j hj; simp; omega
  have HX := hX
  obtain ⟨X, eX⟩ : ∃ X : Nat → Tx, X = fun i => (age i, ex i, vict i, (lk i).toNat) := ⟨_, rfl⟩
  rw [← eX] at hX
  have Hx : Hid (X = fun i => (age i, ex i, vict i, (lk i).toNat)) := eX
  have HX : Hid (∀ j, j < n → (X j).2.2.2 ≤ 255) := hX
  clear eX hX
  go_enter Yba.func5, Yba.ntmps5
  go_wp2
  go_loopw [7] (fun i wr => ∃ (k : Nat) (B : Nat → Nat), k ≤ n ∧ i = .int .i64 (k : Int) ∧ Built w wr w.heap.size n k B X) (fun i _ => n - (intOf i).toNat)
  case atStart => exact ⟨0, fun _ => 0, Nat.zero_le _, rfl, ⟨(Below.refl _ _).alloc (Nat.le_refl _) _, ⟨_, heap_alloc_new w _, size_madeCells _ _, fun j hj => by omega⟩, fun j hj => by omega, fun j hj => by omega⟩⟩
  case round =>
    obtain ⟨k, B, hk, rfl, hB⟩ := hrel
    by_cases hlt : k < n
    · obtain ⟨b, off, rfl, hbl, hcell⟩ := hD.at_ h0
      obtain ⟨t0, t1, t2, t3⟩ := hcell k hlt
      rw [← hB.bel.cell (p := ⟨b, _, none⟩) hbl] at t0 t1 t2 t3
      obtain ⟨l0, l1⟩ := hD.lk k hlt
      obtain ⟨cs, hr, hcs, _⟩ := hB.row
      obtain ⟨v0, c0⟩ : ∃ v, wr.cell? ⟨w.heap.size, k, none⟩ = some v := ⟨cs[k], by rw [cell_of_row _ _ _ _ _ _ hr]; exact Array.getElem?_eq_getElem (by omega)⟩
      have f0 : wr.frozen? ⟨w.heap.size, k, none⟩ = false := frozen_of_row _ _ _ _ _ hr
      have hK : w.heap.size < wr.heap.size := (Array.getElem?_eq_some_iff.1 hr).1
      have b0 : (0 : Int) ≤ (k : Int) := by omega
      have b1 : (k : Int) < (n : Int) := by omega
      clear hr hcs hmk hcell hD
      go_wp2_with fail
      refine (build2 _ _ _ _ l0 l1 _).mono ?_
      rintro e w1 ⟨b', rfl, hl, hb, hle⟩
      have c1 : w1.cell? ⟨w.heap.size, k, none⟩ = some v0 := by rw [hb.cell (p := ⟨w.heap.size, k, none⟩) hK]; exact c0
      have f1 : w1.frozen? ⟨w.heap.size, k, none⟩ = false := by rw [hb.frozen (p := ⟨w.heap.size, k, none⟩) hK]; exact f0
      have hl' : Lies w1 b' (X k) := by rw [Hx.out]; exact hl
      clear hl c0 f0
      go_wp2
      go_roundw
      case rel => exact ⟨k + 1, _, by omega, by go_num, built_step hB hlt hb b' hl' hle⟩
      case measure => simp [intOf]; omega
    · obtain rfl : k = n := by omega
      obtain ⟨cs, hr, hcs, ho⟩ := hB.row
      have hR : Row wr w.heap.size k B X := ⟨fun j hj => by rw [cell_of_row _ _ _ _ _ _ hr]; exact ho j hj, hB.lies⟩
      have hBel := hB.bel
      clear hr hcs ho hmk hD hB Hx
      generalize hp : s % 5 = p
      have Hp : Hid (s % 5 = p) := hp
      clear hp
      go_wp2_with fail
      refine (choose' p _ _ _ _ _ h0 hn HX.out hR).mono ?_
      rintro e w1 ⟨⟨v, hv, rfl, hmin⟩, nq, rfl⟩
      have Hmin : Hid (∀ j, j < k → bef p (X j) (X v) = false) := hmin
      clear hmin
      go_wp2_with fail
      go_loop [9, 10] (fun f i => ∃ (q : Nat) (g : Bool), q ≤ k ∧ i = .int .i64 (q : Int) ∧ f = .bool g ∧ (v < q → g = true)) (fun _ i => k - (intOf i).toNat)
      case atStart => exact ⟨0, false, Nat.zero_le _, rfl, rfl, fun h => by omega⟩
      case round =>
        obtain ⟨q, g, hq, rfl, rfl, hg⟩ := hrel
        have Hg : Hid (v < q → g = true) := hg
        clear hg
        by_cases hlq : q < k
        · have c1 := hR.cell q hlq
          have b2 : (0 : Int) ≤ (q : Int) := by omega
          have b3 : (q : Int) < (k : Int) := by omega
          by_cases e : B q = B v
          · have e1 : (binOp .eql 23 (.pointer (some ⟨B q, 0, none⟩)) (.pointer (some ⟨B v, 0, none⟩))).run Yba.prog (wr.drewN nq) = .ok (.bool true) (wr.drewN nq) := by rw [e]; exact Ptr.eql23 _ _
            clear e
            go_wp2
            go_round
            case rel => exact ⟨q + 1, true, by omega, by go_num, rfl, fun _ => rfl⟩
            case measure => simp [intOf]; omega
          · have e1 : (binOp .eql 23 (.pointer (some ⟨B q, 0, none⟩)) (.pointer (some ⟨B v, 0, none⟩))).run Yba.prog (wr.drewN nq) = .ok (.bool false) (wr.drewN nq) := by
              obtain ⟨ca, ta, ha⟩ := (hR.lies q hlq).row
              obtain ⟨cb, tb, hb⟩ := (hR.lies v hv).row
              exact Ptr.eql23_other _ (fun x => by injection x; exact e ‹_›) ha hb
            have hne : v ≠ q := fun x => e (by rw [x])
            clear e
            go_wp2
            go_round
            case rel => exact ⟨q + 1, g, by omega, by go_num, rfl, fun h => Hg.out (by omega)⟩
            case measure => simp [intOf]; omega
        · obtain rfl : q = k := by omega
          obtain rfl : g = true := Hg.out hv
          clear Hg
          obtain ⟨wa, hwa⟩ : ∃ x, x = wr := ⟨_, rfl⟩
          subst hwa
          have av := (hR.lies v hv).at_.age
          go_wp2_with fail
          refine (crank p _ _ _ (HX.out v hv) ((hR.lies v hv).drewN nq)).mono ?_
          rintro e w1 ⟨rfl, rfl⟩
          go_wp2_with fail
          go_loopw [12] (fun i wz => ∃ (z nz : Nat), z ≤ q ∧ i = .int .i64 (z : Int) ∧ wz = wa.drewN nz) (fun i _ => q - (intOf i).toNat)
          case atStart => exact ⟨0, nq, Nat.zero_le _, rfl, rfl⟩
          case round =>
            obtain ⟨z, nz, hz, rfl, rfl⟩ := hrel
            by_cases hlz : z < q
            · have c1 := hR.cell z hlz
              have az := (hR.lies z hlz).at_.age
              have b2 : (0 : Int) ≤ (z : Int) := by omega
              have b3 : (z : Int) < (q : Int) := by omega
              have hm := Hmin.out z hlz
              simp only [bef, Bool.or_eq_false_iff, Bool.and_eq_false_iff, decide_eq_false_iff_not] at hm
              have d1 : decide (rk p (X z) < rk p (X v)) = false := by simpa using hm.1
              go_wp2_with fail
              refine (crank p _ _ _ (HX.out z hlz) ((hR.lies z hlz).drewN nz)).mono ?_
              rintro e w1 ⟨rfl, rfl⟩
              by_cases he : rk p (X z) = rk p (X v)
              · have d2 : (rk p (X z) == rk p (X v)) = true := by simpa using he
                have d3 : decide ((X v).1 < (X z).1) = false := by
                  rcases hm.2 with h | h
                  · exact absurd he h
                  · simpa using h
                clear hm he
                go_wp2_with fail
                go_quiet (fail)
                go_wp2
                go_roundw
                case rel => exact ⟨z + 1, _, by omega, by go_num, rfl⟩
                case measure => simp [intOf]; omega
              · have d2 : (rk p (X z) == rk p (X v)) = false := by simpa using he
                clear hm he
                go_wp2_with fail
                go_quiet (fail)
                go_wp2
                go_roundw
                case rel => exact ⟨z + 1, _, by omega, by go_num, rfl⟩
                case measure => simp [intOf]; omega
            · obtain rfl : z = q := by omega
              go_wp2
              go_ret
              exact ⟨rfl, below_drewN hBel _⟩
end Go.Proofs.Ybulkosu.Choose
