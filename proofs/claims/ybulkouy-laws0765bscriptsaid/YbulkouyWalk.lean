import Derived.Test.YbulkouyPur
namespace Go.Proofs.Ybulkouy.Kt
open Go.ChangeShapes Go.WideShapes Go.ChangeAt Go.RowKit
open Go.WideMaps Go.WideElems Go.Maps

/-- what came in -/
structure Ops (w : World) (a : Option Addr) (n : Nat) (kd : Nat → Int) (sz : Nat → Int) : Prop where
  at_ : 0 < n → ∃ b off, a = some ⟨b, off, none⟩ ∧ b < w.heap.size ∧ ∀ i, i < n → w.cell? ⟨b, off + i * 2, none⟩ = some (.int .u8 (kd i)) ∧ w.cell? ⟨b, off + i * 2 + 1, none⟩ = some (.int .i64 (sz i))
  kd_ : ∀ i, i < n → 0 ≤ kd i ∧ kd i ≤ 255

theorem makeMade (w : World) (n : Nat) (h : n ≤ 1024) : (Instr.makeSlice 24 (.int .i64 0) (.int .i64 n)).run Yba.prog w = .ok (.slice (some ⟨w.heap.size, 0, none⟩) 0 n) (w.alloc (.cells (madeCells #[.pointer none] n) 30)) := by
  obtain ⟨i, hi, hz, hb, hs⟩ := info_of info30'
  have := run_make (P := Yba.prog) w 24 30 i _ Yba.underlying24 hi hz .i64 .i64 0 n (by omega) (by omega) (by rw [hb]; omega) (by omega)
  rw [this, hs]
  simp [Value.cells]

theorem neq30 (w : World) (a : Addr) : (binOp .neq 30 (.pointer (some a)) (.pointer (some a))).run Yba.prog w = .ok (.bool false) w := by
  have hj : (Yba.prog.info? 38).isSome = true := by kernel_rfl
  obtain ⟨j, hj⟩ := Option.isSome_iff_exists.1 hj
  have h : ∀ d : Nat, (Op.equalIn (d + 1) 30 (.pointer (some a)) (.pointer (some a))).run Yba.prog w = .ok true w := fun d => by
    simp [Op.equalIn, run_underlying Yba.underlying30, sizeOf, typeInfo, hj, run_sameAddr_same]
  have e : (Op.equal 30 (.pointer (some a)) (.pointer (some a))).run Yba.prog w = .ok true w := h 9999
  simp only [binOp]
  simp [e]

attribute [local go_sem] neq30

theorem mem_start (w : World) (n : Nat) (hn : n ≤ 1024) (sz : Nat → Int) :
    Mem w (((w.alloc (.cells #[.map none, .slice none 0 0, .int .i64 0] 26)).alloc (.cells (madeCells #[.pointer none] n) 30)).alloc (.cells #[.int .i64 (-1), .int .i64 (-1), .int .i64 (-1), .int .i64 (-1)] 27)) w.heap.size none (.slice none 0 0) (.slice (some ⟨w.heap.size + 1, 0, none⟩) 0 n) (fun _ => 0) (fun _ => -1) (.map []) 0 sz 0 0 0 0 := by
  have e1 : (w.alloc (.cells #[.map none, .slice none 0 0, .int .i64 0] 26)).heap.size = w.heap.size + 1 := by simp
  have e2 : ((w.alloc (.cells #[.map none, .slice none 0 0, .int .i64 0] 26)).alloc (.cells (madeCells #[.pointer none] n) 30)).heap.size = w.heap.size + 2 := by simp
  have h1 := heap_alloc_new (w.alloc (.cells #[.map none, .slice none 0 0, .int .i64 0] 26)) (.cells (madeCells #[.pointer none] n) 30)
  have h2 := heap_alloc_new ((w.alloc (.cells #[.map none, .slice none 0 0, .int .i64 0] 26)).alloc (.cells (madeCells #[.pointer none] n) 30)) (.cells #[.int .i64 (-1), .int .i64 (-1), .int .i64 (-1), .int .i64 (-1)] 27)
  rw [e1] at h1
  rw [e2] at h2
  refine ⟨(((Below.refl _ _).alloc (Nat.le_refl _) _).alloc (by omega) _).alloc (by omega) _, ?_, h2, .inl ⟨rfl, rfl, rfl⟩, (fun M e => by cases e), ⟨rfl, .inl ⟨rfl, rfl⟩⟩, ⟨rfl, .inr ⟨w.heap.size + 1, n, _, rfl, by omega, ?_, Nat.zero_le _, by unfold maxLen; omega, (size_madeCells #[.pointer none] n).trans (Nat.mul_one n).symm, rfl⟩⟩, (fun j hj => by omega), (fun g hg => by cases hg)⟩
  · rw [Below.heap_alloc _ _ _ (by omega), Below.heap_alloc _ _ _ (by omega)]; exact heap_alloc_new w _
  · rw [Below.heap_alloc _ _ _ (by omega)]; exact h1

/-- a new kept change, its name given -/
theorem newC {w wr : World} {T : Nat} {mo : Option Nat} {ov mv : Value} {C : Nat → Nat} {lst : Nat → Int} {D : DataW Unit} {tsz : Int} {sz : Nat → Int} {nd k : Nat}
    (h : Mem w wr T mo ov mv C lst D tsz sz nd k k k) (cc : Array Value) (hcc : cc[5]? = some (.int .i64 (sz k))) (ks : ByteArray) (hc0 : cc[0]? = some (.string ks)) :
    ∃ C' : Nat → Nat, C' k = wr.heap.size ∧ (∀ j, j < k → C' j = C j) ∧ Mem w (wr.alloc (.cells cc 38)).drew T mo ov mv C' lst D tsz sz nd k k (k + 1) ∧ (wr.alloc (.cells cc 38)).drew.cell? ⟨C' k, 0, none⟩ = some (.string ks) := by
  refine ⟨fun j => if j = k then wr.heap.size else C j, if_pos rfl, fun j hj => if_neg (by omega), h.newC cc hcc, ?_⟩
  show (wr.alloc (.cells cc 38)).cell? ⟨if k = k then wr.heap.size else C k, 0, none⟩ = _
  rw [if_pos rfl, cell_of_row _ _ _ _ _ _ (heap_alloc_new wr _)]; exact hc0

theorem cnt_le (lst : Nat → Int) : ∀ y, cntTo (oneF lst) y ≤ y
  | 0 => Nat.le_refl _
  | y + 1 => by
    have := cnt_le lst y
    have h1 : oneF lst y ≤ 1 := by unfold oneF; split <;> omega
    simp only [cntTo]
    omega

theorem own_form {w : World} {base : Nat} {e : TypeId} {v : Value} {n : Nat} {xs : List Value} (h : w.ownsRow base e 1 v n xs) : ∃ p cap, v = .slice p n cap ∧ (0 < n → ∃ g, p = some ⟨g, 0, none⟩) := by
  rcases h.2 with ⟨hv, h0⟩ | ⟨g, cap, cur, hv, _⟩
  · subst h0; exact ⟨none, 0, hv, fun h => by omega⟩
  · exact ⟨some ⟨g, 0, none⟩, cap, hv, fun _ => ⟨g, rfl⟩⟩

set_option maxRecDepth 100000 in
set_option maxHeartbeats 2000000 in
theorem law_walk (a : Option Addr) (n cap : Nat) (kd sz : Nat → Int) (w : World) (hO : Ops w a n kd sz) (hn : n ≤ 1024) :
    Calls Yba.prog 3 #[.slice a n cap] w fun e w' => e = .returned (.bool true) ∧ Below w.heap.size w w' := by
  have g1 : decide ((1024 : Int) < (n : Int)) = false := by simp; omega
  have hmk := fun w => makeMade w n hn
  go_enter Yba.func3, Yba.ntmps3
  go_wp2
  go_loopw [4, 6] (fun m i wr => ∃ (k : Nat) (mo : Option Nat) (ov mv : Value) (C : Nat → Nat) (lst : Nat → Int) (D : DataW Unit) (tsz : Int), k ≤ n ∧ i = .int .i64 (k : Int) ∧ m = mv ∧ Mem w wr w.heap.size mo ov mv C lst D tsz sz k k k k ∧ Pur k sz C lst D tsz) (fun _ i _ => n - (intOf i).toNat)
  case atStart => exact ⟨0, none, _, _, _, _, _, _, Nat.zero_le _, rfl, rfl, mem_start w n hn sz, pur_start sz _⟩
  case round =>
    obtain ⟨k, mo, ov, mv, C, lst, D, tsz, hk, rfl, rfl, hM, hP⟩ := hrel
    by_cases hlt : k < n
    · obtain ⟨b, off, rfl, hbl, hcell⟩ := hO.at_ (by omega)
      obtain ⟨t0, t1⟩ := hcell k hlt
      rw [← hM.bel.cell (p := ⟨b, _, none⟩) hbl] at t0 t1
      obtain ⟨k0, k1⟩ := hO.kd_ k hlt
      obtain ⟨q, hq, wq⟩ : ∃ q : Nat, q < 4 ∧ kd k % 4 = (q : Int) := ⟨(kd k % 4).toNat, by omega, by omega⟩
      have b0 : (0 : Int) ≤ (k : Int) := by omega
      have b1 : (k : Int) < (n : Int) := by omega
      have n0 := World.new_ne wr ⟨b, off + k * 2, none⟩ t0
      have n1 := World.new_ne wr ⟨b, off + k * 2 + 1, none⟩ t1
      clear hcell hO hmk
      go_wp2_with fail
      go_region_held3 (fun w' => w'.cell? ⟨b, off + k * 2 + 1, none⟩ = some (.int .i64 (sz k))) (go_keep)
        ((go_at_call 4; refine (key q _).mono ?_; rintro e w' ⟨rfl, rfl⟩))
      obtain ⟨C', hCk, hCl, hV, hc0⟩ := newC hM #[.string (keyS q), .int .u64 0, .int .i64 0, .pointer none, .slice none 0 0, .int .i64 (sz k)] rfl (keyS q) rfl
      rw [← hCk]
      generalize (wr.alloc (.cells #[.string (keyS q), .int .u64 0, .int .i64 0, .pointer none, .slice none 0 0, .int .i64 (sz k)] 38)).drew = V at hV hc0 ⊢
      have l1 : V.cell? ⟨w.heap.size + 1 + 1, q, none⟩ = some (.int .i64 (lst q)) := by rw [cell_of_row _ _ _ _ _ _ hV.l]; exact lrow_get lst hq
      have q0 : (0 : Int) ≤ (q : Int) := by omega
      have q1 : (q : Int) < 4 := by omega
      have hk10 : k < 1024 := by omega
      have HCl : Hid (∀ j, j < k → C' j = C j) := hCl
      clear hCl
      clear t0 t1 n0 n1 hM hCk
      rcases hP.lst_ q hq with hl | ⟨j, hj, hl⟩
      · have hat : D.atKey (keyL q) .nil = .nil := by rw [hP.at_ q hq, hl]; rfl
        have hv : valF lst sz q = 0 := by simp [valF, hl]
        have Hl : Hid (lst q = -1) := hl
        rw [hl] at l1
        clear hl
        go_wp2_with fail
        refine (add hV rfl hk10 rfl q (valF lst sz q) hc0 (.inl ⟨hat, hv⟩)).mono ?_
        rintro e w1 ⟨M', ov', rfl, hM1⟩
        obtain ⟨mv', w2, happ, hM2⟩ := hM1.made hk10
        unfold ptr at happ
        have l2 : w2.cell? ⟨w.heap.size + 1 + 1, q, none⟩ = some (.int .i64 (lst q)) := by rw [cell_of_row _ _ _ _ _ _ hM2.l]; exact lrow_get lst hq
        have f2 : w2.frozen? ⟨w.heap.size + 1 + 1, q, none⟩ = false := frozen_of_row _ _ _ _ _ hM2.l
        have e0 : ((0 : Int) != 0) = false := by decide
        clear hV hc0 l1 hat
        go_wp2_with (at_builtin; refine wpList_append_run rfl _ _ _ rfl _ _ _ w2 rfl rfl happ ?_)
        go_roundw
        case rel => exact ⟨k + 1, some M', ov', mv', C', _, _, _, by omega, by go_num, rfl, hM2.last hq (k : Int), pur_step hP HCl.out hq⟩
        case measure => simp [intOf]; omega
      · have hat : D.atKey (keyL q) .nil = .lit (.int .u64 (C' j : Int)) := by rw [hP.at_ q hq, hl, HCl.out j hj]; simp [atF]
        have hv : valF lst sz q = sz j := by simp [valF, hl]
        rw [hl] at l1
        obtain ⟨g, cp, rfl, _, _⟩ := hV.md.form (by omega)
        have m1 : V.cell? ⟨g, j, none⟩ = some (.pointer (some ⟨C' j, 0, none⟩)) := by rw [ownsRow_cell hV.md hj, ptrs_get hj]; rfl
        obtain ⟨cj, hj1, hj2⟩ := hV.c j (by omega)
        have m2 : V.cell? ⟨C' j, 5, none⟩ = some (.int .i64 (sz j)) := by rw [cell_of_row _ _ _ _ _ _ hj1]; exact hj2
        have j0 : (0 : Int) ≤ (j : Int) := by omega
        have j1 : (j : Int) < (k : Int) := by omega
        clear hj1 hj2
        have Hl : Hid (lst q = (j : Int)) := hl
        clear hl
        go_wp2_with fail
        refine (add hV rfl hk10 rfl q (valF lst sz q) hc0 (.inr ⟨j, hj, hat, hv⟩)).mono ?_
        rintro e w1 ⟨M', ov', rfl, hM1⟩
        obtain ⟨mv', w2, happ, hM2⟩ := hM1.made hk10
        unfold ptr at happ
        have l2 : w2.cell? ⟨w.heap.size + 1 + 1, q, none⟩ = some (.int .i64 (lst q)) := by rw [cell_of_row _ _ _ _ _ _ hM2.l]; exact lrow_get lst hq
        have f2 : w2.frozen? ⟨w.heap.size + 1 + 1, q, none⟩ = false := frozen_of_row _ _ _ _ _ hM2.l
        have e0 : (sz j != sz j) = false := by simp
        clear hV hc0 l1 hat m1 m2
        go_wp2_with (at_builtin; refine wpList_append_run rfl _ _ _ rfl _ _ _ w2 rfl rfl happ ?_)
        go_roundw
        case rel => exact ⟨k + 1, some M', ov', mv', C', _, _, _, by omega, by go_num, rfl, hM2.last hq (k : Int), pur_step hP HCl.out hq⟩
        case measure => simp [intOf]; omega
    · obtain rfl : k = n := by omega
      obtain ⟨po, co, rfl, hpo⟩ := own_form hM.o
      obtain ⟨pm, cm, rfl, hpm⟩ := own_form hM.md
      have t1 : wr.cell? ⟨w.heap.size, 1, none⟩ = some (.slice po k co) := by rw [cell_of_row _ _ _ _ _ _ hM.t]; rfl
      have e0 : ((k : Int) != (k : Int)) = false := by simp
      clear hmk hO
      go_wp2_with fail
      obtain ⟨wa, hwa⟩ : ∃ x, x = wr := ⟨_, rfl⟩
      subst hwa
      go_loopw [10] (fun i wz => ∃ (z nz : Nat), z ≤ k ∧ i = .int .i64 (z : Int) ∧ wz = wa.drewN nz) (fun i _ => k - (intOf i).toNat)
      case atStart => exact ⟨0, 0, Nat.zero_le _, rfl, rfl⟩
      case round =>
        obtain ⟨z, nz, hz, rfl, rfl⟩ := hrel
        by_cases hlz : z < k
        · obtain ⟨go, rfl⟩ := hpo (by omega)
          obtain ⟨gm, rfl⟩ := hpm (by omega)
          have m1 : wa.cell? ⟨go, z, none⟩ = some (.pointer (some ⟨C z, 0, none⟩)) := by rw [ownsRow_cell hM.o hlz, ptrs_get hlz]; rfl
          have m2 : wa.cell? ⟨gm, z, none⟩ = some (.pointer (some ⟨C z, 0, none⟩)) := by rw [ownsRow_cell hM.md hlz, ptrs_get hlz]; rfl
          have b2 : (0 : Int) ≤ (z : Int) := by omega
          have b3 : (z : Int) < (k : Int) := by omega
          go_wp2_with fail
          go_quiet (fail)
          go_wp2
          go_roundw
          case rel => exact ⟨z + 1, _, by omega, by go_num, rfl⟩
          case measure => simp [intOf]; omega
        · obtain rfl : z = k := by omega
          have t0 : wa.cell? ⟨w.heap.size, 0, none⟩ = some (.map mo) := by rw [cell_of_row _ _ _ _ _ _ hM.t]; rfl
          go_wp2_with fail
          go_loopw [11, 12, 13] (fun a d i wz => ∃ (y ny : Nat), y ≤ 4 ∧ i = .int .i64 (y : Int) ∧ a = .int .i64 (wrap64 (smTo (valF lst sz) y)) ∧ d = .int .i64 (cntTo (oneF lst) y : Int) ∧ wz = wa.drewN ny) (fun _ _ i _ => 4 - (intOf i).toNat)
          case atStart => exact ⟨0, nz, by omega, rfl, by simp [smTo, wrap64], rfl, rfl⟩
          case round =>
            obtain ⟨y, ny, hy, rfl, rfl, rfl, rfl⟩ := hrel
            by_cases hly : y < 4
            · have y0 : (0 : Int) ≤ (y : Int) := by omega
              have y1 : (y : Int) < 4 := by omega
              have l1 : wa.cell? ⟨w.heap.size + 1 + 1, y, none⟩ = some (.int .i64 (lst y)) := by rw [cell_of_row _ _ _ _ _ _ hM.l]; exact lrow_get lst hly
              have hlk := fun nq => look_ok (w := wa.drewN nq) (mo := mo) (nd := z) hM.m hP hly
              have Hlk : Hid (∀ nq, (lst y = -1 → (Instr.lookup 23 (.map mo) (.string (keyS y)) true).run Yba.prog (wa.drewN nq) = .ok (.tuple #[.pointer none, .bool false]) (wa.drewN nq)) ∧
                ∀ j : Nat, lst y = (j : Int) → (Instr.lookup 23 (.map mo) (.string (keyS y)) true).run Yba.prog (wa.drewN nq) = .ok (.tuple #[.pointer (some ⟨C j, 0, none⟩), .bool true]) (wa.drewN nq)) := hlk
              clear hlk
              rcases hP.lst_ y hly with hl | ⟨j, hj, hl⟩
              · have hrun := fun nq => (Hlk.out nq).1 hl
                have hs1 : Hid (smTo (valF lst sz) (y + 1) = smTo (valF lst sz) y) := by show _ = _; simp [smTo, valF, hl]
                have hc1 : Hid (cntTo (oneF lst) (y + 1) = cntTo (oneF lst) y) := by show _ = _; simp [cntTo, oneF, hl]
                rw [hl] at l1
                clear hl Hlk
                go_wp2_with fail
                go_quiet ((go_at_call 4; exact (key y _).mono (fun e w' h => ⟨h.1, _, h.2⟩)))
                go_wp2
                go_roundw
                case rel => exact ⟨y + 1, _, by omega, by go_num, by rw [hs1.out], by rw [hc1.out], rfl⟩
                case measure => simp [intOf]; omega
              · have hrun := fun nq => (Hlk.out nq).2 j hl
                have hs1 : Hid (smTo (valF lst sz) (y + 1) = smTo (valF lst sz) y + sz j) := by show _ = _; simp [smTo, valF, hl]
                have hc1 : Hid (cntTo (oneF lst) (y + 1) = cntTo (oneF lst) y + 1) := by show _ = _; simp [cntTo, oneF, hl]
                have hcle : cntTo (oneF lst) y ≤ 4 := by have := cnt_le lst y; omega
                rw [hl] at l1
                obtain ⟨gm, rfl⟩ := hpm (by omega)
                have m2 : wa.cell? ⟨gm, j, none⟩ = some (.pointer (some ⟨C j, 0, none⟩)) := by rw [ownsRow_cell hM.md hj, ptrs_get hj]; rfl
                obtain ⟨cj, hj1, hj2⟩ := hM.c j hj
                have m3 : wa.cell? ⟨C j, 5, none⟩ = some (.int .i64 (sz j)) := by rw [cell_of_row _ _ _ _ _ _ hj1]; exact hj2
                have j0 : (0 : Int) ≤ (j : Int) := by omega
                have j1 : (j : Int) < (z : Int) := by omega
                clear hl Hlk hj1 hj2
                go_wp2_with fail
                go_quiet ((go_at_call 4; exact (key y _).mono (fun e w' h => ⟨h.1, _, h.2⟩)))
                go_wp2
                go_roundw
                case rel => exact ⟨y + 1, _, by omega, by go_num, by rw [hs1.out, wrap_add], by rw [hc1.out]; go_num, rfl⟩
                case measure => simp [intOf]; omega
            · obtain rfl : y = 4 := by omega
              have hlen := fun nq => len_ok (w := wa.drewN nq) (mo := mo) (nd := z) (D := D) hM.m 3
              have t2 : wa.cell? ⟨w.heap.size, 2, none⟩ = some (.int .i64 tsz) := by rw [cell_of_row _ _ _ _ _ _ hM.t]; rfl
              rw [hP.tsz_] at t2
              rw [hP.size_] at hlen
              have e1 : ((cntTo (oneF lst) 4 : Int) == (cntTo (oneF lst) 4 : Int)) = true := by simp
              have e2 : (wrap64 (smTo (valF lst sz) 4) == wrap64 (smTo (valF lst sz) 4)) = true := by simp
              go_wp2
              go_ret
              exact ⟨by simp, below_drewN hM.bel _⟩
end Go.Proofs.Ybulkouy.Kt
