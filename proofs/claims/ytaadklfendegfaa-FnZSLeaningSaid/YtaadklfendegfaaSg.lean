/- The walk of SampleGridWithTransform. -/
import Derived.Test.YtaadklfendegfaaNi
import Derived.Test.YtaadklfendegfaaTp
import Derived.Test.YtaadklfendegfaaXm
namespace Go.Proofs.Ytaadklfendegfaa
open Go.RowKit

theorem Try.info25 : (Try.prog.info? 25).map (fun i => (i.zero, i.size, i.bytes)) = some (some (.float .f64 0), 1, 8) := by kernel_rfl

/-- two numbers a point -/
def ptsL (f g : Nat → Nat) (n : Nat) : List Nat := (List.range (2 * n)).map fun j => if j % 2 = 0 then f (j / 2) else g (j / 2)
theorem ptsL_at (f g : Nat → Nat) (n j : Nat) (h : j < 2 * n) : (ptsL f g n).getD j 0 = if j % 2 = 0 then f (j / 2) else g (j / 2) := by
  unfold ptsL
  rw [List.getD_eq_getElem?_getD, List.getElem?_map, List.getElem?_range h]
  rfl
theorem ptsL_even (f g : Nat → Nat) (n k : Nat) (h : k < n) : (ptsL f g n).getD (2 * k) 0 = f k := by
  rw [ptsL_at _ _ _ _ (by omega), if_pos (by omega)]; congr 1; omega
theorem ptsL_odd (f g : Nat → Nat) (n k : Nat) (h : k < n) : (ptsL f g n).getD (2 * k + 1) 0 = g k := by
  rw [ptsL_at _ _ _ _ (by omega), if_neg (by omega)]; congr 1; omega
theorem pairs_of {P : Nat → Nat → Nat → Prop} (m : Nat) (h : ∀ k, k < m → ∃ x y, P k x y) : ∃ f g : Nat → Nat, ∀ k, k < m → P k (f k) (g k) := by
  classical
  refine ⟨fun k => if hk : k < m then Classical.choose (h k hk) else 0, fun k => if hk : k < m then Classical.choose (Classical.choose_spec (h k hk)) else 0, fun k hk => ?_⟩
  simp only [dif_pos hk]
  exact Classical.choose_spec (Classical.choose_spec (h k hk))

theorem nudge_in2 (pm gm W H g n cap x0 y0 x1 y1 : Nat) (px py qx qy : Int) (B : Nat → Nat → Bool) (w : World) (hbm : BM w pm gm W H B) (hn : 1 ≤ n) (hn2 : n ≤ 1000)
    (c0 : w.cell? ⟨g, 0, none⟩ = some (fv x0)) (c1 : w.cell? ⟨g, 1, none⟩ = some (fv y0)) (c2 : w.cell? ⟨g, 2 * (n - 1), none⟩ = some (fv x1)) (c3 : w.cell? ⟨g, 2 * (n - 1) + 1, none⟩ = some (fv y1))
    (hx : floatToIntVal .f64 x0 .i64 = some px) (hy : floatToIntVal .f64 y0 .i64 = some py) (hx1 : floatToIntVal .f64 x1 .i64 = some qx) (hy1 : floatToIntVal .f64 y1 .i64 = some qy)
    (h1 : 0 ≤ px ∧ px < (W : Int)) (h2 : 0 ≤ py ∧ py < (H : Int)) (h3 : 0 ≤ qx ∧ qx < (W : Int)) (h4 : 0 ≤ qy ∧ qy < (H : Int)) :
    Calls Try.prog 89 #[.pointer (some ⟨pm, 0, none⟩), .slice (some ⟨g, 0, none⟩) (2 * n) cap] w fun e w' => e = .returned .nilIface ∧ w = w' := by
  obtain ⟨m, rfl⟩ : ∃ m, n = m + 1 := ⟨n - 1, by omega⟩
  rw [show 2 * (m + 1) = 2 * m + 2 by omega]
  rw [show m + 1 - 1 = m by omega] at c2 c3
  exact nudge_in pm gm W H g m cap x0 y0 x1 y1 px py qx qy B w hbm (by omega) c0 c1 c2 c3 hx hy hx1 hy1 h1 h2 h3 h4

/-- what the transform makes of the middles of a row -/
theorem tp_row (p : M9) (b G W k : Nat) (f : Nat → Nat) (X Y : Nat → Nat) (w : World) (hW : W ≤ 1000) (hbG : b < G) (hp : w.heap[b]? = some (.cells p.cells 102)) (hrow : w.rowIs G 25 (2 * W) (fun j => fv (f j)))
    (hf0 : ∀ i, i < W → f (2 * i) = hf i ∧ f (2 * i + 1) = hf k) (hT : ∀ i, i < W → TPtR p (hf i) (hf k) (X i) (Y i)) :
    Calls Try.prog 31 #[.pointer (some ⟨b, 0, none⟩), .slice (some ⟨G, 0, none⟩) (2 * W) (2 * W)] w fun e w' => e = .returned (.tuple #[]) ∧ Only G w w' ∧ w'.rowIs G 25 (2 * W) (fun j => fv ((ptsL X Y W).getD j 0)) := by
  obtain ⟨cur, h1, h2, h3⟩ := hrow
  refine (tp_calls p b G W (2 * W) (ptsL hf (fun _ => hf k) W) (ptsL X Y W) w cur 25 (by omega) (Nat.le_refl _) hbG hp h1 (fun j hj => ?_) (fun i hi => ?_)).mono ?_
  · rw [h3 j hj, ptsL_at _ _ _ _ hj]
    show some (fv (f j)) = _
    have := hf0 (j / 2) (by omega)
    by_cases e : j % 2 = 0
    · rw [if_pos e]
      have e2 : 2 * (j / 2) = j := by omega
      rw [e2] at this; rw [this.1]
    · rw [if_neg e]
      have e2 : 2 * (j / 2) + 1 = j := by omega
      rw [e2] at this; rw [this.2]
  · rw [ptsL_even _ _ _ _ hi, ptsL_odd _ _ _ _ hi, ptsL_even _ _ _ _ hi, ptsL_odd _ _ _ _ hi]; exact hT i hi
  · rintro e w' ⟨h4, h5, cur', h6, h7, h8⟩
    exact ⟨h4, h5, cur', h6, by omega, h8⟩

set_option maxRecDepth 100000 in
set_option maxHeartbeats 4000000 in
theorem sgt_in (pm gm IW IH W H b : Nat) (B : Nat → Nat → Bool) (p : M9) (PX PY : Nat → Nat → Nat) (w : World) (hbm : BM w pm gm IW IH B) (hp : w.heap[b]? = some (.cells p.cells 102)) (hW0 : 1 ≤ W) (hW : W ≤ 15) (hH0 : 1 ≤ H) (hH : H ≤ 15) (hIW : IW ≤ 10000) (hIH : IH ≤ 10000)
    (hT : ∀ i j, i < W → j < H → ∃ x' y', TPtR p (hf i) (hf j) x' y' ∧ floatToIntVal .f64 x' .i64 = some (PX i j : Int) ∧ floatToIntVal .f64 y' .i64 = some (PY i j : Int)) (hin : ∀ i j, i < W → j < H → PX i j < IW ∧ PY i j < IH) :
    Calls Try.prog 87 #[.agg #[], .pointer (some ⟨pm, 0, none⟩), .int .i64 (W : Int), .int .i64 (H : Int), .pointer (some ⟨b, 0, none⟩)] w fun e w' =>
      ∃ pn gn, e = .returned (.tuple #[.pointer (some ⟨pn, 0, none⟩), .nilIface]) ∧ BM w' pn gn W H (fun x y => B (PX x y) (PY x y)) ∧ w.heap.size ≤ pn ∧ w.heap.size ≤ gn ∧ Below w.heap.size w w' := by
  have HBM := Lib.hid hbm
  have HP := Lib.hid hp
  have HT := Lib.hid hT
  have HIn := Lib.hid hin
  have hbl : b < w.heap.size := (Array.getElem?_eq_some_iff.1 hp).1
  have hmk := fun (w : World) => run_make_row' (P := Try.prog) 72 25 (.float .f64 0) 8 Try.underlying72 Try.info25 rfl .i64 .i64 (2 * W) (by omega) (by omega) w
  simp only [Int.natCast_mul, Int.cast_ofNat_Int] at hmk
  clear hbm hp hT hin
  have I0 : ¬ (W : Int) ≤ 0 := by omega
  have I1 : ¬ (H : Int) ≤ 0 := by omega
  have I2 : ¬ W = 0 := by omega
  have I3 : ¬ H = 0 := by omega
  go_enter Try.func87, Try.ntmps87
  go_wp2_with (fail)
  refine (newbm_calls W H _ (by omega) (by omega) (by omega) (by omega)).mono ?_
  rintro e w1 ⟨pn, gn, rfl, hbn, hpn, hgn, hb1⟩
  simp only [blk_size] at hpn hgn
  have hbw : Below w.heap.size w w1 := ((Below.refl _ _).alloc (Nat.le_refl _) _).trans (hb1.mono (by simp only [blk_size]; omega))
  have hl1 := hbn.lt
  have HBn := Lib.hid hbn
  have HBw := Lib.hid hbw
  have hs1 := hbw.size
  clear hbn hb1 hbw
  go_wp2
  have hrow0 := World.rowIs_made w1 (.float .f64 0) (2 * W) 25
  have hbn2 : BM (w1.alloc (.cells (madeCells #[.float .f64 0] (2 * W)) 25)) pn gn W H (fun _ _ => false) := HBn.out.below ((Below.refl _ _).alloc (Nat.le_refl _) _)
  have hb2 : Below w.heap.size w (w1.alloc (.cells (madeCells #[.float .f64 0] (2 * W)) 25)) := HBw.out.alloc hs1 _
  generalize w1.alloc (.cells (madeCells #[.float .f64 0] (2 * W)) 25) = w2 at *
  generalize w1.heap.size = G at *
  have HRow0 := Lib.hid hrow0
  have HBn2 := Lib.hid hbn2
  have HB2 := Lib.hid hb2
  clear hrow0 hbn2 hb2 HBn HBw
  go_loopw [15, 16, 17, 18, 19, 20, 21, 22] (fun y _ _ _ _ _ _ _ wr => ∃ k : Nat, k ≤ H ∧ y = .int .i64 (k : Int) ∧ Hid (∃ f : Nat → Nat, wr.rowIs G 25 (2 * W) (fun j => fv (f j))) ∧ Hid (BM wr pn gn W H (fun x y => if y < k then B (PX x y) (PY x y) else false)) ∧ Hid (Below w.heap.size w wr)) (fun y _ _ _ _ _ _ _ _ => H - (intOf y).toNat)
  case atStart => exact ⟨0, by omega, rfl, ⟨fun _ => 0, HRow0.out⟩, HBn2.out.congr fun x y _ _ => by simp, HB2⟩
  case round =>
    obtain ⟨wo, rfl⟩ : ∃ wo : World, wo = wr := ⟨_, rfl⟩
    obtain ⟨k, hk, rfl, HRow, HBk, HBo⟩ := hrel
    by_cases hlt : k < H
    · obtain ⟨X, Y, hXY⟩ := pairs_of W (fun i hi => HT.out i k hi hlt)
      have HXY := Lib.hid hXY
      have hfk := (hf_spec k (by omega)).1
      have R0 := fun t w => run_float_arith (P := Try.prog) w .add t .f64 (ofI (k : Int)) fHalf (hf k) hfk
      have J0 : (k : Int) < (H : Int) := by omega
      clear hXY hfk
      go_wp2
      clear R0
      go_loopw [18] (fun x wr => ∃ j : Nat, j ≤ W ∧ x = .int .i64 ((2 * j : Nat) : Int) ∧ Hid (Only G wo wr) ∧ Hid (∃ f : Nat → Nat, wr.rowIs G 25 (2 * W) (fun j => fv (f j)) ∧ ∀ i, i < j → f (2 * i) = hf i ∧ f (2 * i + 1) = hf k)) (fun x _ => 2 * W - (intOf x).toNat)
      case atStart => exact ⟨0, by omega, rfl, Only.refl _ _, by obtain ⟨f, hf⟩ := HRow.out; exact ⟨f, hf, by omega⟩⟩
      case round =>
        obtain ⟨j, hj, rfl, HO, HF⟩ := hrel
        by_cases hlt2 : j < W
        · obtain ⟨f, hrow, hff⟩ := HF.out
          have X0 := hrow.cell (i := 2 * j) (by omega)
          have X1 := hrow.cell (i := 2 * j + 1) (by omega)
          have F0 := hrow.frozen (2 * j)
          have F1 := hrow.frozen (2 * j + 1)
          have hfj := (hf_spec j (by omega)).1
          have R1 := fun t w => run_float_arith (P := Try.prog) w .add t .f64 (ofI (j : Int)) fHalf (hf j) hfj
          have K1 : 2 * (j : Int) < 2 * (W : Int) := by omega
          have K2 : 0 ≤ 2 * (j : Int) := by omega
          have K3 : 2 * (j : Int) + 1 < 2 * (W : Int) := by omega
          have K4 : 0 ≤ 2 * (j : Int) + 1 := by omega
          have Q1 : (2 * (j : Int)).tdiv 2 = (j : Int) := by rw [Int.tdiv_eq_ediv_of_nonneg (by omega)]; omega
          have Q2 : 2 * (j : Int) / 2 = (j : Int) := by omega
          have W2 : (2 * (j : Int) + 1).toNat = 2 * j + 1 := by omega
          have hff' := Lib.hid hff
          have HR := Lib.hid hrow
          clear hrow hff hfj
          go_wp2
          go_roundw
          case rel => exact ⟨j + 1, by omega, by go_num, (HO.out.setCell rfl _).setCell rfl _, fun x => if x = 2 * j + 1 then hf k else if x = 2 * j then hf j else f x, ((HR.out.set (2 * j) (fv (hf j))).set (2 * j + 1) (fv (hf k))).congr fun x hx => by
              by_cases e1 : x = 2 * j + 1
              · simp [e1]
              · by_cases e2 : x = 2 * j
                · simp [e2]
                · simp [e1, e2], fun i hi => by
              by_cases e : i = j
              · subst e; simp
              · have := hff'.out i (by omega)
                refine ⟨?_, ?_⟩ <;> dsimp only <;> rw [if_neg (by omega), if_neg (by omega)]
                · exact this.1
                · exact this.2⟩
          case measure => simp [intOf]; omega
        · obtain rfl : j = W := by omega
          obtain ⟨f, hrow, hff⟩ := HF.out
          have hBr : Below w.heap.size w wr := HBo.out.trans (HO.out.below (by omega))
          have HTp := Lib.hid (tp_row p b G j k f X Y wr (by omega) (by omega) ((hBr.block b hbl).trans HP.out) hrow hff (fun i hi => (HXY.out i hi).1))
          have HBr := Lib.hid hBr
          clear hrow hff hBr HF
          go_wp2_with (go_at_call 31; refine HTp.out.mono ?_)
          rintro e w4 ⟨rfl, ho4, hrow4⟩
          have hB4 : Below w.heap.size w w4 := HBr.out.trans (ho4.below (by omega))
          have hbm4 : BM w4 pm gm IW IH B := (HBM.out.below hB4)
          have hk4 : BM w4 pn gn j H (fun x y => if y < k then B (PX x y) (PY x y) else false) := HBk.out.of_blocks ((HO.out.trans ho4).block pn (by omega)) ((HO.out.trans ho4).block gn (by omega))
          have hcell : ∀ i, i < j → w4.cell? ⟨G, 2 * i, none⟩ = some (fv (X i)) ∧ w4.cell? ⟨G, 2 * i + 1, none⟩ = some (fv (Y i)) := fun i hi => by
            have h1 := hrow4.cell (i := 2 * i) (by omega)
            have h2 := hrow4.cell (i := 2 * i + 1) (by omega)
            rw [ptsL_even _ _ _ _ hi] at h1
            rw [ptsL_odd _ _ _ _ hi] at h2
            exact ⟨h1, h2⟩
          have i0 := HIn.out 0 k (by omega) hlt
          have i1 := HIn.out (j - 1) k (by omega) hlt
          have HN := Lib.hid (nudge_in2 pm gm IW IH G j (2 * j) (X 0) (Y 0) (X (j - 1)) (Y (j - 1)) _ _ _ _ B w4 hbm4 hW0 (by omega) (hcell 0 (by omega)).1 (hcell 0 (by omega)).2 (hcell (j - 1) (by omega)).1 (hcell (j - 1) (by omega)).2
            (HXY.out 0 (by omega)).2.1 (HXY.out 0 (by omega)).2.2 (HXY.out (j - 1) (by omega)).2.1 (HXY.out (j - 1) (by omega)).2.2 (by omega) (by omega) (by omega) (by omega))
          have HB4 := Lib.hid hB4
          have HK4 := Lib.hid hk4
          have HRow4 := Lib.hid hrow4
          clear hB4 hbm4 hk4 hcell hrow4 ho4 i0 i1
          go_wp2_with (go_at_call 89; refine HN.out.mono ?_; rintro e w' ⟨rfl, rfl⟩)
          go_loopw [20, 21, 22] (fun x _ _ wr => ∃ i : Nat, i ≤ j ∧ x = .int .i64 ((2 * i : Nat) : Int) ∧ Hid (wr.rowIs G 25 (2 * j) (fun i => fv ((ptsL X Y j).getD i 0))) ∧ Hid (BM wr pn gn j H (fun x y => if y < k ∨ (y = k ∧ x < i) then B (PX x y) (PY x y) else false)) ∧ Hid (Below w.heap.size w wr)) (fun x _ _ _ => 2 * j - (intOf x).toNat)
          case atStart => exact ⟨0, by omega, rfl, HRow4, HK4.out.congr fun x y _ _ => by simp, HB4⟩
          case round =>
            obtain ⟨i, hi, rfl, HRi, HBi, HBei⟩ := hrel
            by_cases hlt3 : i < j
            · obtain ⟨_, tx, ty⟩ := HXY.out i hlt3
              have hin1 := HIn.out i k hlt3 hlt
              obtain ⟨px, hpx⟩ : ∃ px, px = PX i k := ⟨_, rfl⟩
              obtain ⟨py, hpy⟩ : ∃ py, py = PY i k := ⟨_, rfl⟩
              rw [← hpx] at tx hin1
              rw [← hpy] at ty hin1
              have HE := Lib.hid (And.intro hpx hpy)
              clear hpx hpy
              have X0 := HRi.out.cell (i := 2 * i) (by omega)
              have X1 := HRi.out.cell (i := 2 * i + 1) (by omega)
              rw [ptsL_even _ _ _ _ hlt3] at X0
              rw [ptsL_odd _ _ _ _ hlt3] at X1
              have hc1 := fun (w : World) => run_convert_float_int (P := Try.prog) (w := w) 25 3 .f64 .i64 (X i) _ (by kernel_rfl) (by kernel_rfl) tx
              have hc2 := fun (w : World) => run_convert_float_int (P := Try.prog) (w := w) 25 3 .f64 .i64 (Y i) _ (by kernel_rfl) (by kernel_rfl) ty
              have HBMi := Lib.hid (HBM.out.below HBei.out)
              have K1 : 2 * (i : Int) < 2 * (j : Int) := by omega
              have K2 : 0 ≤ 2 * (i : Int) := by omega
              have K3 : 2 * (i : Int) + 1 < 2 * (j : Int) := by omega
              have K4 : 0 ≤ 2 * (i : Int) + 1 := by omega
              have Q1 : (2 * (i : Int)).tdiv 2 = (i : Int) := by rw [Int.tdiv_eq_ediv_of_nonneg (by omega)]; omega
              have Q2 : 2 * (i : Int) / 2 = (i : Int) := by omega
              have W2 : (2 * (i : Int) + 1).toNat = 2 * i + 1 := by omega
              have D1 : decide (IW ≤ px) = false := by simp; omega
              have D2 : decide (IH ≤ py) = false := by simp; omega
              have D3 : ¬ IW ≤ px := by omega
              have D4 : ¬ IH ≤ py := by omega
              have H52 := get_calls pm gm IW IH px py B wr HBMi.out hin1.1 hin1.2 (by omega) (by omega)
              clear tx ty hin1
              cases hB : B px py <;> rw [hB] at H52
              · have HBf := Lib.hid hB
                clear hB
                go_wp2_with (first | (go_at_call 51; refine (bmw_calls pm gm IW IH B _ HBMi.out).mono ?_; rintro e w' ⟨rfl, rfl⟩) | (go_at_call 50; refine (bmh_calls pm gm IW IH B _ HBMi.out).mono ?_; rintro e w' ⟨rfl, rfl⟩) | (go_at_call 52; refine H52.mono ?_; rintro e w' ⟨rfl, rfl⟩))
                go_roundw
                case rel => exact ⟨i + 1, by omega, by go_num, HRi, HBi.out.congr fun x y hx hy => by
                  obtain ⟨e1, e2⟩ := HE.out
                  by_cases e : x = i ∧ y = k
                  · obtain ⟨rfl, rfl⟩ := e
                    rw [if_neg (by omega), if_pos (by omega), ← e1, ← e2]; exact HBf.out.symm
                  · by_cases e2 : y < k ∨ y = k ∧ x < i
                    · rw [if_pos e2, if_pos (by omega)]
                    · rw [if_neg e2, if_neg (by omega)], HBei⟩
                case measure => simp [intOf]; omega
              · have HBf := Lib.hid hB
                clear hB
                have HSet := Lib.hid (set_calls pn gn j H i k _ wr HBi.out hlt3 hlt (by omega) (by omega))
                go_wp2_with (first | (go_at_call 51; refine (bmw_calls pm gm IW IH B _ HBMi.out).mono ?_; rintro e w' ⟨rfl, rfl⟩) | (go_at_call 50; refine (bmh_calls pm gm IW IH B _ HBMi.out).mono ?_; rintro e w' ⟨rfl, rfl⟩) | (go_at_call 52; refine H52.mono ?_; rintro e w' ⟨rfl, rfl⟩) | (go_at_call 48; refine HSet.out.mono ?_))
                rintro e w6 ⟨rfl, hbm6, ho6⟩
                have HBM6 := Lib.hid hbm6
                have HR6 : Hid (w6.rowIs G 25 (2 * j) (fun i => fv ((ptsL X Y j).getD i 0))) := HRi.out.of_block (ho6.block G (by omega))
                have HB6 : Hid (Below w.heap.size w w6) := HBei.out.trans (ho6.below (by omega))
                clear hbm6 ho6 HSet
                go_wp2
                go_roundw
                case rel => exact ⟨i + 1, by omega, by go_num, HR6, HBM6.out.congr fun x y hx hy => by
                  obtain ⟨e1, e2⟩ := HE.out
                  by_cases e : x = i ∧ y = k
                  · obtain ⟨rfl, rfl⟩ := e
                    rw [if_pos ⟨rfl, rfl⟩, if_pos (by omega), ← e1, ← e2]; exact HBf.out.symm
                  · rw [if_neg e]
                    by_cases e2 : y < k ∨ y = k ∧ x < i
                    · rw [if_pos e2, if_pos (by omega)]
                    · rw [if_neg e2, if_neg (by omega)], HB6⟩
                case measure => simp [intOf]; omega
            · obtain rfl : i = j := by omega
              have K1 : ¬ 2 * (i : Int) < 2 * (i : Int) := by omega
              go_wp2
              go_roundw
              case rel => exact ⟨k + 1, by omega, by go_num, ⟨_, HRi.out⟩, HBi.out.congr fun x y hx _ => by
                by_cases e2 : y < k ∨ y = k ∧ x < i
                · rw [if_pos e2, if_pos (by omega)]
                · rw [if_neg e2, if_neg (by omega)], HBei⟩
              case measure => simp [intOf]; omega
    · obtain rfl : k = H := by omega
      go_wp2
      go_ret2
      exact ⟨pn, gn, rfl, HBk.out.congr fun x y _ hy => by rw [if_pos hy], by omega, by omega, HBo.out⟩

end Go.Proofs.Ytaadklfendegfaa
