/- The walk of checkAndNudgePoints where the first point and the last lie in the picture. -/
import Derived.Test.YtaadklfendegfaaNg
namespace Go.Proofs.Ytaadklfendegfaa
open Go.RowKit

set_option maxRecDepth 100000 in
set_option maxHeartbeats 4000000 in
theorem nudge_in (pm gm W H g m cap x0 y0 x1 y1 : Nat) (px py qx qy : Int) (B : Nat → Nat → Bool) (w : World) (hbm : BM w pm gm W H B) (hm2 : m ≤ 100000)
    (c0 : w.cell? ⟨g, 0, none⟩ = some (fv x0)) (c1 : w.cell? ⟨g, 1, none⟩ = some (fv y0)) (c2 : w.cell? ⟨g, 2 * m, none⟩ = some (fv x1)) (c3 : w.cell? ⟨g, 2 * m + 1, none⟩ = some (fv y1))
    (hx : floatToIntVal .f64 x0 .i64 = some px) (hy : floatToIntVal .f64 y0 .i64 = some py) (hx1 : floatToIntVal .f64 x1 .i64 = some qx) (hy1 : floatToIntVal .f64 y1 .i64 = some qy)
    (h1 : 0 ≤ px ∧ px < (W : Int)) (h2 : 0 ≤ py ∧ py < (H : Int)) (h3 : 0 ≤ qx ∧ qx < (W : Int)) (h4 : 0 ≤ qy ∧ qy < (H : Int)) :
    Calls Try.prog 89 #[.pointer (some ⟨pm, 0, none⟩), .slice (some ⟨g, 0, none⟩) (2 * m + 2) cap] w fun e w' => e = .returned .nilIface ∧ w = w' := by
  have hmk0 := fun (w : World) => run_convert_float_int (P := Try.prog) (w := w) 25 3 .f64 .i64 x0 px (by kernel_rfl) (by kernel_rfl) hx
  have hmk1 := fun (w : World) => run_convert_float_int (P := Try.prog) (w := w) 25 3 .f64 .i64 y0 py (by kernel_rfl) (by kernel_rfl) hy
  have hmk2 := fun (w : World) => run_convert_float_int (P := Try.prog) (w := w) 25 3 .f64 .i64 x1 qx (by kernel_rfl) (by kernel_rfl) hx1
  have hmk3 := fun (w : World) => run_convert_float_int (P := Try.prog) (w := w) 25 3 .f64 .i64 y1 qy (by kernel_rfl) (by kernel_rfl) hy1
  obtain ⟨a1, a2⟩ := h1
  obtain ⟨a3, a4⟩ := h2
  obtain ⟨a5, a6⟩ := h3
  obtain ⟨a7, a8⟩ := h4
  have epx1 : (px == -1) = false := by simp; omega
  have epx2 : (px == (W : Int)) = false := by simp; omega
  have npx1 : ¬ px < -1 := by omega
  have npx2 : ¬ (W : Int) < px := by omega
  have epy1 : (py == -1) = false := by simp; omega
  have epy2 : (py == (H : Int)) = false := by simp; omega
  have npy1 : ¬ py < -1 := by omega
  have npy2 : ¬ (H : Int) < py := by omega
  have eqx1 : (qx == -1) = false := by simp; omega
  have eqx2 : (qx == (W : Int)) = false := by simp; omega
  have nqx1 : ¬ qx < -1 := by omega
  have nqx2 : ¬ (W : Int) < qx := by omega
  have eqy1 : (qy == -1) = false := by simp; omega
  have eqy2 : (qy == (H : Int)) = false := by simp; omega
  have nqy1 : ¬ qy < -1 := by omega
  have nqy2 : ¬ (H : Int) < qy := by omega
  have HBM := Lib.hid hbm
  clear hbm hx hy hx1 hy1
  go_enter Try.func89, Try.ntmps89
  go_wp2_with (first | (go_at_call 51; refine (bmw_calls pm gm W H B _ HBM.out).mono ?_; rintro e w' ⟨rfl, rfl⟩) | (go_at_call 50; refine (bmh_calls pm gm W H B _ HBM.out).mono ?_; rintro e w' ⟨rfl, rfl⟩))
  refine wp_loop_rounds 2 ?_
  rw [rounds_succ]
  go_wp2
  rw [rounds_succ]
  go_wp2
  all_goals
    refine wp_loop_rounds 2 ?_
    rw [rounds_succ]
    go_wp2
    all_goals
      rw [rounds_succ]
      go_wp2
    all_goals
      go_ret
      exact ⟨rfl, rfl⟩

end Go.Proofs.Ytaadklfendegfaa
