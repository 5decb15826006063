/- The walk of checkAndNudgePoints where the first point lies beyond the picture. -/
import Derived.Test.YtaadklfendegfaaGi
import Derived.Test.YtaadklfendegfaaBm
import Derived.Laws.FloatArith
namespace Go.Proofs.Ytaadklfendegfaa
open Go.RowKit

set_option maxRecDepth 100000 in
set_option maxHeartbeats 4000000 in
theorem nudge_far (pm gm W H g m cap x0 y0 : Nat) (px py : Int) (B : Nat → Nat → Bool) (w : World) (hbm : BM w pm gm W H B) (hm : 1 ≤ m) (hm2 : m ≤ 100000) (hW : W ≤ 100000)
    (c0 : w.cell? ⟨g, 0, none⟩ = some (fv x0)) (c1 : w.cell? ⟨g, 1, none⟩ = some (fv y0)) (hx : floatToIntVal .f64 x0 .i64 = some px) (hy : floatToIntVal .f64 y0 .i64 = some py) (hfar : (W : Int) < px) :
    Calls Try.prog 89 #[.pointer (some ⟨pm, 0, none⟩), .slice (some ⟨g, 0, none⟩) (2 * m) cap] w fun e w' => ∃ x, e = .returned (.iface 179 x) ∧ Below w.heap.size w w' := by
  have hmk0 := fun (w : World) => run_convert_float_int (P := Try.prog) (w := w) 25 3 .f64 .i64 x0 px (by kernel_rfl) (by kernel_rfl) hx
  have hmk1 := fun (w : World) => run_convert_float_int (P := Try.prog) (w := w) 25 3 .f64 .i64 y0 py (by kernel_rfl) (by kernel_rfl) hy
  have HBM := Lib.hid hbm
  have I0 : (0 : Int) < 2 * (m : Int) - 1 := by omega
  have I1 : (0 : Int) < 2 * (m : Int) := by omega
  have I2 : (1 : Int) < 2 * (m : Int) := by omega
  have I3 : ¬ px < -1 := by omega
  clear hbm hx hy
  go_enter Try.func89, Try.ntmps89
  go_wp2_with (first | (go_at_call 51; refine (bmw_calls pm gm W H B _ HBM.out).mono ?_; rintro e w' ⟨rfl, rfl⟩) | (go_at_call 50; refine (bmh_calls pm gm W H B _ HBM.out).mono ?_; rintro e w' ⟨rfl, rfl⟩))
  refine wp_loop_rounds 1 ?_
  rw [rounds_succ]
  go_wp2_with (go_at_call 88; refine (newnf_calls _ _).mono ?_)
  rintro e w1 ⟨x, rfl, hb⟩
  have HB : Hid (Below w.heap.size w w1) := ((Below.refl _ _).alloc (Nat.le_refl _) _).trans (hb.mono (by simp))
  clear hb
  go_wp2
  go_ret
  exact ⟨_, rfl, HB.out⟩

end Go.Proofs.Ytaadklfendegfaa
