/- The walk of ZXSample. -/
import Derived.Test.YtaadklfendegfaaSh
import Derived.Test.YtaadklfendegfaaMx
import Derived.Test.YtaadklfendegfaaRo
import Derived.Test.YtaadklfendegfaaCi
import Derived.Deep.RegionHeld3
namespace Go.Proofs.Ytaadklfendegfaa
open Go.RowKit

set_option maxRecDepth 100000 in
set_option maxHeartbeats 4000000 in
theorem sample_in (rv : Value) (IW IH W H : Nat) (F : Nat → Nat → Bool) (q p : Q8) (a o b r : M9) (PX PY : Nat → Nat → Nat) (w : World) (h1 : S2QR q a) (h2 : AdjR a o) (h3 : S2QR p b) (h4 : TimesR b o r) (hg : Grid w rv IH IW F) (hW0 : 1 ≤ W) (hW : W ≤ 15) (hH0 : 1 ≤ H) (hH : H ≤ 15) (hIW0 : 1 ≤ IW) (hIW : IW ≤ 10000) (hIH0 : 1 ≤ IH) (hIH : IH ≤ 10000)
    (hT : ∀ i j, i < W → j < H → ∃ x' y', TPtR r (hf i) (hf j) x' y' ∧ floatToIntVal .f64 x' .i64 = some (PX i j : Int) ∧ floatToIntVal .f64 y' .i64 = some (PY i j : Int)) (hin : ∀ i j, i < W → j < H → PX i j < IW ∧ PY i j < IH) :
    Calls Try.prog 19 #[rv, .int .i64 (W : Int), .int .i64 (H : Int), .agg q.vals, .agg p.vals] w fun e w' => ∃ v, e = .returned (.tuple #[v, .bool true]) ∧ GridO w.heap.size w' v H W (fun y x => F (PY x y) (PX x y)) ∧ Below w.heap.size w w' := by
  have HG := Lib.hid hg
  have HS := fun (pm gm : Nat) (w1 : World) (hbm : BM w1 pm gm IW IH (fun x y => F y x)) => sg_in pm gm IW IH W H _ q p a o b r PX PY w1 h1 h2 h3 h4 hbm hW0 hW hH0 hH hIW hIH hT hin
  have D1 : decide ((1000 : Int) < (W : Int)) = false := by simp; omega
  have D2 : decide ((1000 : Int) < (H : Int)) = false := by simp; omega
  have D3 : ¬ 1000 < W := by omega
  have D4 : ¬ 1000 < H := by omega
  clear hg h1 h2 h3 h4 hT hin
  unfold sgArgs at HS
  unfold Q8.vals
  go_enter_defers Try.func19, Try.ntmps19
  go_wp2_with (fail)
  refine (matrix_calls rv IW IH F _ (HG.out.below ((((Below.refl _ _).alloc (Nat.le_refl _) _).alloc (by simp) _).alloc (by simp; omega) _)) hIW0 hIH0 hIW hIH).mono ?_
  rintro e w1 ⟨pm, gm, rfl, hbm, hpm, hgm, hb1⟩
  have hb0 : Below w.heap.size w (((w.alloc (.cells #[fv q.x0, fv q.y0, fv q.x1, fv q.y1, fv q.x2, fv q.y2, fv q.x3, fv q.y3] 27)).alloc (.cells #[fv p.x0, fv p.y0, fv p.x1, fv p.y1, fv p.x2, fv p.y2, fv p.x3, fv p.y3] 27)).alloc (.cells #[.bool false] 4)) := (((Below.refl _ _).alloc (Nat.le_refl _) _).alloc (by simp) _).alloc (by simp; omega) _
  have hok : w1.heap[w.heap.size + 1 + 1]? = some (.cells #[.bool false] 4) := by
    rw [hb1.block _ (by simp only [blk_size]; omega)]; exact blk_new' _ _ _ (by simp only [blk_size])
  have hqa : w1.heap[w.heap.size]? = some (.cells #[fv q.x0, fv q.y0, fv q.x1, fv q.y1, fv q.x2, fv q.y2, fv q.x3, fv q.y3] 27) := by
    rw [hb1.block _ (by simp only [blk_size]; omega)]; simp only [blk_if, blk_size]; rw [if_neg (by omega), if_neg (by omega)]; simp
  have hpa : w1.heap[w.heap.size + 1]? = some (.cells #[fv p.x0, fv p.y0, fv p.x1, fv p.y1, fv p.x2, fv p.y2, fv p.x3, fv p.y3] 27) := by
    rw [hb1.block _ (by simp only [blk_size]; omega)]; simp only [blk_if, blk_size]; simp
  have cq0 : w1.cell? ⟨w.heap.size, 0, none⟩ = some (fv q.x0) := cell_at_cells hqa (by rfl)
  have cq1 : w1.cell? ⟨w.heap.size, 1, none⟩ = some (fv q.y0) := cell_at_cells hqa (by rfl)
  have cq2 : w1.cell? ⟨w.heap.size, 2, none⟩ = some (fv q.x1) := cell_at_cells hqa (by rfl)
  have cq3 : w1.cell? ⟨w.heap.size, 3, none⟩ = some (fv q.y1) := cell_at_cells hqa (by rfl)
  have cq4 : w1.cell? ⟨w.heap.size, 4, none⟩ = some (fv q.x2) := cell_at_cells hqa (by rfl)
  have cq5 : w1.cell? ⟨w.heap.size, 5, none⟩ = some (fv q.y2) := cell_at_cells hqa (by rfl)
  have cq6 : w1.cell? ⟨w.heap.size, 6, none⟩ = some (fv q.x3) := cell_at_cells hqa (by rfl)
  have cq7 : w1.cell? ⟨w.heap.size, 7, none⟩ = some (fv q.y3) := cell_at_cells hqa (by rfl)
  have cp0 : w1.cell? ⟨w.heap.size + 1, 0, none⟩ = some (fv p.x0) := cell_at_cells hpa (by rfl)
  have cp1 : w1.cell? ⟨w.heap.size + 1, 1, none⟩ = some (fv p.y0) := cell_at_cells hpa (by rfl)
  have cp2 : w1.cell? ⟨w.heap.size + 1, 2, none⟩ = some (fv p.x1) := cell_at_cells hpa (by rfl)
  have cp3 : w1.cell? ⟨w.heap.size + 1, 3, none⟩ = some (fv p.y1) := cell_at_cells hpa (by rfl)
  have cp4 : w1.cell? ⟨w.heap.size + 1, 4, none⟩ = some (fv p.x2) := cell_at_cells hpa (by rfl)
  have cp5 : w1.cell? ⟨w.heap.size + 1, 5, none⟩ = some (fv p.y2) := cell_at_cells hpa (by rfl)
  have cp6 : w1.cell? ⟨w.heap.size + 1, 6, none⟩ = some (fv p.x3) := cell_at_cells hpa (by rfl)
  have cp7 : w1.cell? ⟨w.heap.size + 1, 7, none⟩ = some (fv p.y3) := cell_at_cells hpa (by rfl)
  have hs1 := hb1.size
  simp only [blk_size] at hs1
  have hbw : Below w.heap.size w w1 := hb0.trans (hb1.mono (by simp only [blk_size]; omega))
  have HCall := Lib.hid (HS pm gm w1.drew (hbm.below ((Below.refl _ _).drew)))
  have HOk := Lib.hid hok
  have HBw := Lib.hid hbw
  clear hok hb1 hb0 hbw hqa hpa HS hbm
  have m1 := meth_sample
  generalize q.x0 = qx0 at *
  generalize q.y0 = qy0 at *
  generalize q.x1 = qx1 at *
  generalize q.y1 = qy1 at *
  generalize q.x2 = qx2 at *
  generalize q.y2 = qy2 at *
  generalize q.x3 = qx3 at *
  generalize q.y3 = qy3 at *
  generalize p.x0 = px0 at *
  generalize p.y0 = py0 at *
  generalize p.x1 = px1 at *
  generalize p.y1 = py1 at *
  generalize p.x2 = px2 at *
  generalize p.y2 = py2 at *
  generalize p.x3 = px3 at *
  generalize p.y3 = py3 at *
  go_wp2
  go_region_held3 (fun w' => w'.cell? ⟨w.heap.size, 0, none⟩ = some (fv qx0) ∧ w'.cell? ⟨w.heap.size, 1, none⟩ = some (fv qy0) ∧ w'.cell? ⟨w.heap.size, 2, none⟩ = some (fv qx1) ∧ w'.cell? ⟨w.heap.size, 3, none⟩ = some (fv qy1) ∧ w'.cell? ⟨w.heap.size, 4, none⟩ = some (fv qx2) ∧ w'.cell? ⟨w.heap.size, 5, none⟩ = some (fv qy2) ∧ w'.cell? ⟨w.heap.size, 6, none⟩ = some (fv qx3) ∧ w'.cell? ⟨w.heap.size, 7, none⟩ = some (fv qy3) ∧ w'.cell? ⟨w.heap.size + 1, 0, none⟩ = some (fv px0) ∧ w'.cell? ⟨w.heap.size + 1, 1, none⟩ = some (fv py0) ∧ w'.cell? ⟨w.heap.size + 1, 2, none⟩ = some (fv px1) ∧ w'.cell? ⟨w.heap.size + 1, 3, none⟩ = some (fv py1) ∧ w'.cell? ⟨w.heap.size + 1, 4, none⟩ = some (fv px2) ∧ w'.cell? ⟨w.heap.size + 1, 5, none⟩ = some (fv py2) ∧ w'.cell? ⟨w.heap.size + 1, 6, none⟩ = some (fv px3) ∧ w'.cell? ⟨w.heap.size + 1, 7, none⟩ = some (fv py3)) (first | exact ⟨cq0, cq1, cq2, cq3, cq4, cq5, cq6, cq7, cp0, cp1, cp2, cp3, cp4, cp5, cp6, cp7⟩ | exact ⟨(hb2'.cell (by show w.heap.size < w1.heap.size; omega)).trans cq0, (hb2'.cell (by show w.heap.size < w1.heap.size; omega)).trans cq1, (hb2'.cell (by show w.heap.size < w1.heap.size; omega)).trans cq2, (hb2'.cell (by show w.heap.size < w1.heap.size; omega)).trans cq3, (hb2'.cell (by show w.heap.size < w1.heap.size; omega)).trans cq4, (hb2'.cell (by show w.heap.size < w1.heap.size; omega)).trans cq5, (hb2'.cell (by show w.heap.size < w1.heap.size; omega)).trans cq6, (hb2'.cell (by show w.heap.size < w1.heap.size; omega)).trans cq7, (hb2'.cell (by show w.heap.size + 1 < w1.heap.size; omega)).trans cp0, (hb2'.cell (by show w.heap.size + 1 < w1.heap.size; omega)).trans cp1, (hb2'.cell (by show w.heap.size + 1 < w1.heap.size; omega)).trans cp2, (hb2'.cell (by show w.heap.size + 1 < w1.heap.size; omega)).trans cp3, (hb2'.cell (by show w.heap.size + 1 < w1.heap.size; omega)).trans cp4, (hb2'.cell (by show w.heap.size + 1 < w1.heap.size; omega)).trans cp5, (hb2'.cell (by show w.heap.size + 1 < w1.heap.size; omega)).trans cp6, (hb2'.cell (by show w.heap.size + 1 < w1.heap.size; omega)).trans cp7⟩) ((first | (go_at_call 34; refine (getsampler_calls _).mono ?_; rintro e w' ⟨rfl, rfl⟩) | (go_at_call 86; refine HCall.out.mono ?_; rintro e w2 ⟨pn, gn, rfl, hbn, hpn, hgn, hb2'⟩)))
  have hb2 : Below w1.heap.size w1 w2 := ((Below.refl _ _).drew).trans hb2'
  clear hb2'
  have hok2 : w2.heap[w.heap.size + 1 + 1]? = some (.cells #[.bool false] 4) := (hb2.block _ (by omega)).trans HOk.out
  have hs2 := hb2.size
  have HOk2 := Lib.hid hok2
  have HB2 := Lib.hid hb2
  have HBN := Lib.hid hbn
  clear hbn hb2 hok2 HCall
  go_wp2_with (go_at_call 35; refine (rows_calls pn gn W H _ _ HBN.out hW0 hH0 (by omega) (by omega)).mono ?_)
  rintro e w3 ⟨v, rfl, hgrid, hb3⟩
  have hok3 : w3.heap[w.heap.size + 1 + 1]? = some (.cells #[.bool false] 4) := (hb3.block _ (by omega)).trans HOk2.out
  have D0 : w3.cell? ⟨w.heap.size + 1 + 1, 0, none⟩ = some (.bool false) := cell_at_cells hok3 rfl
  have F0 : w3.frozen? ⟨w.heap.size + 1 + 1, 0, none⟩ = false := by simp [World.frozen?, hok3]
  have HGrid := Lib.hid hgrid
  have HB3 := Lib.hid hb3
  have HOk3 := Lib.hid hok3
  clear hgrid hb3 hok3
  go_wp2
  refine leaves_cons (f := 32) (args := #[.pointer (some ⟨w.heap.size + 1 + 1, 0, none⟩)]) (by simp) (by simp [go_sem]) ?_
  refine (caught_idle2 ⟨w.heap.size + 1 + 1, 0, none⟩ _).mono ?_
  rintro e u' w'' ⟨rfl, rfl, rfl⟩
  have hcell : (w3.setCell ⟨w.heap.size + 1 + 1, 0, none⟩ (.bool true)).cell? ⟨w.heap.size + 1 + 1, 0, none⟩ = some (.bool true) := cell_at_cells (heap_setCell_at (.bool true) HOk3.out) rfl
  refine ⟨.tuple #[v, .bool true], ?_, v, rfl, ?_, ?_⟩
  · simp [results, Try.results19, go_sem, hcell]
  · exact (HGrid.out.mono (by omega)).setCell (base := w.heap.size + 1 + 1 + 1) (a := ⟨w.heap.size + 1 + 1, 0, none⟩) (by show w.heap.size + 1 + 1 < w.heap.size + 1 + 1 + 1; omega) _ |>.mono (by omega)
  · exact ((HBw.out.trans (HB2.out.mono (by omega))).trans (HB3.out.mono (by omega))).setCell (p := ⟨w.heap.size + 1 + 1, 0, none⟩) (by show w.heap.size ≤ w.heap.size + 1 + 1; omega) _

end Go.Proofs.Ytaadklfendegfaa
