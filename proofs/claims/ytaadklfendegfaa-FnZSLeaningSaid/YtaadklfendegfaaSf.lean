/- The walk of SampleGridWithTransform where the first point lies beyond the picture. -/
import Derived.Test.YtaadklfendegfaaSg
namespace Go.Proofs.Ytaadklfendegfaa
open Go.RowKit

set_option maxRecDepth 100000 in
set_option maxHeartbeats 4000000 in
theorem sgt_far (pm gm IW IH W H b : Nat) (B : Nat → Nat → Bool) (p : M9) (w : World) (hbm : BM w pm gm IW IH B) (hp : w.heap[b]? = some (.cells p.cells 102)) (hW0 : 1 ≤ W) (hW : W ≤ 15) (hH0 : 1 ≤ H) (hH : H ≤ 15) (hIW : IW ≤ 10000)
    (hT : ∀ i, i < W → ∃ x' y', TPtR p (hf i) (hf 0) x' y' ∧ ∃ px py : Int, floatToIntVal .f64 x' .i64 = some px ∧ floatToIntVal .f64 y' .i64 = some py ∧ (IW : Int) < px) :
    Calls Try.prog 87 #[.agg #[], .pointer (some ⟨pm, 0, none⟩), .int .i64 (W : Int), .int .i64 (H : Int), .pointer (some ⟨b, 0, none⟩)] w fun e w' =>
      ∃ x, e = .returned (.tuple #[.pointer none, .iface 179 x]) ∧ Below w.heap.size w w' := by
  have HBM := Lib.hid hbm
  have HP := Lib.hid hp
  have HT := Lib.hid hT
  have hbl : b < w.heap.size := (Array.getElem?_eq_some_iff.1 hp).1
  have hmk := fun (w : World) => run_make_row' (P := Try.prog) 72 25 (.float .f64 0) 8 Try.underlying72 Try.info25 rfl .i64 .i64 (2 * W) (by omega) (by omega) w
  simp only [Int.natCast_mul, Int.cast_ofNat_Int] at hmk
  clear hbm hp hT
  have I0 : ¬ (W : Int) ≤ 0 := by omega
  have I1 : ¬ (H : Int) ≤ 0 := by omega
  have I2 : ¬ W = 0 := by omega
  have I3 : ¬ H = 0 := by omega
  go_enter Try.func87, Try.ntmps87
  go_wp2_with (fail)
  refine (newbm_calls W H _ (by omega) (by omega) (by omega) (by omega)).mono ?_
  rintro e w1 ⟨pn, gn, rfl, hbn, hpn, hgn, hb1⟩
  simp only [blk_size] at hpn hgn
  have hbw : Below w.heap.size w w1 := ((Below.refl _ _).alloc (Nat.le_refl _) _).trans (hb1.mono (by simp only [blk_size]; omega))
  have hl1 := hbn.lt
  have HBn := Lib.hid hbn
  have HBw := Lib.hid hbw
  have hs1 := hbw.size
  clear hbn hb1 hbw
  go_wp2
  have hrow0 := World.rowIs_made w1 (.float .f64 0) (2 * W) 25
  have hbn2 : BM (w1.alloc (.cells (madeCells #[.float .f64 0] (2 * W)) 25)) pn gn W H (fun _ _ => false) := HBn.out.below ((Below.refl _ _).alloc (Nat.le_refl _) _)
  have hb2 : Below w.heap.size w (w1.alloc (.cells (madeCells #[.float .f64 0] (2 * W)) 25)) := HBw.out.alloc hs1 _
  generalize w1.alloc (.cells (madeCells #[.float .f64 0] (2 * W)) 25) = w2 at *
  generalize w1.heap.size = G at *
  have HRow0 := Lib.hid hrow0
  have HBn2 := Lib.hid hbn2
  have HB2 := Lib.hid hb2
  clear hrow0 hbn2 hb2 HBn HBw
  obtain ⟨X, Y, hXY⟩ := pairs_of W (fun i hi => HT.out i hi)
  have HXY := Lib.hid hXY
  have hfk := (hf_spec 0 (by omega)).1
  have R0 := fun t w => run_float_arith (P := Try.prog) w .add t .f64 (ofI 0) fHalf (hf 0) hfk
  have J0 : (0 : Int) < (H : Int) := by omega
  clear hXY hfk
  refine wp_loop_rounds 1 ?_
  rw [rounds_succ]
  go_wp2
  clear R0
  go_loopw [18] (fun x wr => ∃ j : Nat, j ≤ W ∧ x = .int .i64 ((2 * j : Nat) : Int) ∧ Hid (Only G w2 wr) ∧ Hid (∃ f : Nat → Nat, wr.rowIs G 25 (2 * W) (fun j => fv (f j)) ∧ ∀ i, i < j → f (2 * i) = hf i ∧ f (2 * i + 1) = hf 0)) (fun x _ => 2 * W - (intOf x).toNat)
  case atStart => exact ⟨0, by omega, rfl, Only.refl _ _, fun _ => 0, HRow0.out, by omega⟩
  case round =>
    obtain ⟨j, hj, rfl, HO, HF⟩ := hrel
    by_cases hlt2 : j < W
    · obtain ⟨f, hrow, hff⟩ := HF.out
      have X0 := hrow.cell (i := 2 * j) (by omega)
      have X1 := hrow.cell (i := 2 * j + 1) (by omega)
      have F0 := hrow.frozen (2 * j)
      have F1 := hrow.frozen (2 * j + 1)
      have hfj := (hf_spec j (by omega)).1
      have R1 := fun t w => run_float_arith (P := Try.prog) w .add t .f64 (ofI (j : Int)) fHalf (hf j) hfj
      have K1 : 2 * (j : Int) < 2 * (W : Int) := by omega
      have K2 : 0 ≤ 2 * (j : Int) := by omega
      have K3 : 2 * (j : Int) + 1 < 2 * (W : Int) := by omega
      have K4 : 0 ≤ 2 * (j : Int) + 1 := by omega
      have Q1 : (2 * (j : Int)).tdiv 2 = (j : Int) := by rw [Int.tdiv_eq_ediv_of_nonneg (by omega)]; omega
      have Q2 : 2 * (j : Int) / 2 = (j : Int) := by omega
      have W2 : (2 * (j : Int) + 1).toNat = 2 * j + 1 := by omega
      have hff' := Lib.hid hff
      have HR := Lib.hid hrow
      clear hrow hff hfj
      go_wp2
      go_roundw
      case rel => exact ⟨j + 1, by omega, by go_num, (HO.out.setCell rfl _).setCell rfl _, fun x => if x = 2 * j + 1 then hf 0 else if x = 2 * j then hf j else f x, ((HR.out.set (2 * j) (fv (hf j))).set (2 * j + 1) (fv (hf 0))).congr fun x hx => by
          by_cases e1 : x = 2 * j + 1
          · simp [e1]
          · by_cases e2 : x = 2 * j
            · simp [e2]
            · simp [e1, e2], fun i hi => by
          by_cases e : i = j
          · subst e; simp
          · have := hff'.out i (by omega)
            refine ⟨?_, ?_⟩ <;> dsimp only <;> rw [if_neg (by omega), if_neg (by omega)]
            · exact this.1
            · exact this.2⟩
      case measure => simp [intOf]; omega
    · obtain rfl : j = W := by omega
      obtain ⟨f, hrow, hff⟩ := HF.out
      have hBr : Below w.heap.size w wr := HB2.out.trans (HO.out.below (by omega))
      have HTp := Lib.hid (tp_row p b G j 0 f X Y wr (by omega) (by omega) ((hBr.block b hbl).trans HP.out) hrow hff (fun i hi => (HXY.out i hi).1))
      have HBr := Lib.hid hBr
      clear hrow hff hBr HF
      go_wp2_with (go_at_call 31; refine HTp.out.mono ?_)
      rintro e w4 ⟨rfl, ho4, hrow4⟩
      have hB4 : Below w.heap.size w w4 := HBr.out.trans (ho4.below (by omega))
      have hbm4 : BM w4 pm gm IW IH B := (HBM.out.below hB4)
      have h1 := hrow4.cell (i := 2 * 0) (by omega)
      have h2 := hrow4.cell (i := 2 * 0 + 1) (by omega)
      rw [ptsL_even _ _ _ _ (by omega)] at h1
      rw [ptsL_odd _ _ _ _ (by omega)] at h2
      obtain ⟨_, px, py, f1, f2, f3⟩ := HXY.out 0 (by omega)
      have HN := Lib.hid (nudge_far pm gm IW IH G j (2 * j) (X 0) (Y 0) px py B w4 hbm4 hW0 (by omega) (by omega) h1 h2 f1 f2 f3)
      have HB4 := Lib.hid hB4
      clear hB4 hbm4 hrow4 ho4 h1 h2 f1 f2 f3
      go_wp2_with (go_at_call 89; refine HN.out.mono ?_)
      rintro e w5 ⟨x5, rfl, hb5⟩
      have HB5 : Hid (Below w.heap.size w w5) := HB4.out.trans (hb5.mono HB4.out.size)
      clear hb5
      go_wp2_with (go_at_call 90; refine (wrapnf_calls _ _ _).mono ?_)
      rintro e w6 ⟨x6, rfl, hb6⟩
      have HB6 : Hid (Below w.heap.size w w6) := HB5.out.trans (hb6.mono HB5.out.size)
      clear hb6
      go_wp2
      go_ret2
      exact ⟨_, rfl, HB6.out⟩

end Go.Proofs.Ytaadklfendegfaa
