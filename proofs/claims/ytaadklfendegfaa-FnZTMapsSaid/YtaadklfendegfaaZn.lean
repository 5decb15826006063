/- The walk of ztNear. -/
import Derived.Test.YtaadklfendegfaaAb
import Derived.Test.YtaadklfendegfaaCell
import Derived.Lib.Hide
import Derived.Deep.QuietTactic
import Derived.BigQuiet
import Derived.IntWalk
namespace Go.Proofs.Ytaadklfendegfaa
open Go.RowKit

set_option maxRecDepth 100000 in
set_option maxHeartbeats 1000000 in
theorem near_calls (ba bb n ca cb : Nat) (xs ys : List Nat) (w : World) (hn : n ≤ 1000000) (c1 c2 : Array Value) (E1 E2 : TypeId) (h1 : w.heap[ba]? = some (.cells c1 E1)) (h2 : w.heap[bb]? = some (.cells c2 E2))
    (hx : ∀ j, j < 2 * n → c1[j]? = some (fv (xs.getD j 0))) (hy : ∀ j, j < 2 * n → c2[j]? = some (fv (ys.getD j 0))) (h : ∀ j, j < 2 * n → NearR (xs.getD j 0) (ys.getD j 0)) :
    Calls Try.prog 14 #[.slice (some ⟨ba, 0, none⟩) n ca, .slice (some ⟨bb, 0, none⟩) n cb] w fun e w' => e = .returned (.bool true) ∧ ∃ m, w' = w.drewN m := by
  go_enter Try.func14, Try.ntmps14
  go_wp2
  go_loopw [13, 5] (fun i _ wr => ∃ k : Nat, k ≤ n ∧ i = .int .i64 (k : Int) ∧ ∃ m, wr = w.drewN m) (fun i _ _ => n - (intOf i).toNat)
  case atStart => exact ⟨0, Nat.zero_le _, rfl, 0, rfl⟩
  case round =>
    obtain ⟨k, hk, rfl, m, hm⟩ := hrel
    have h1' : wr.heap[ba]? = some (.cells c1 E1) := by rw [hm]; exact h1
    have h2' : wr.heap[bb]? = some (.cells c2 E2) := by rw [hm]; exact h2
    have HM := Lib.hid hm
    clear hm
    by_cases hlt : k < n
    · have X0 : wr.cell? ⟨ba, k * 2, none⟩ = some (fv (xs.getD (2 * k) 0)) := cell_at_cells h1' (by rw [Nat.mul_comm]; exact hx _ (by omega))
      have X1 : wr.cell? ⟨ba, k * 2 + 1, none⟩ = some (fv (xs.getD (2 * k + 1) 0)) := cell_at_cells h1' (by rw [Nat.mul_comm]; exact hx _ (by omega))
      have Y0 : wr.cell? ⟨bb, k * 2, none⟩ = some (fv (ys.getD (2 * k) 0)) := cell_at_cells h2' (by rw [Nat.mul_comm]; exact hy _ (by omega))
      have Y1 : wr.cell? ⟨bb, k * 2 + 1, none⟩ = some (fv (ys.getD (2 * k + 1) 0)) := cell_at_cells h2' (by rw [Nat.mul_comm]; exact hy _ (by omega))
      obtain ⟨d0, a0, b0, t0⟩ := h (2 * k) (by omega)
      obtain ⟨d1, a1, b1, t1⟩ := h (2 * k + 1) (by omega)
      clear hx hy h h1 h2 h1' h2'
      generalize xs.getD (2 * k) 0 = x0 at *
      generalize xs.getD (2 * k + 1) 0 = x1 at *
      generalize ys.getD (2 * k) 0 = y0 at *
      generalize ys.getD (2 * k + 1) 0 = y1 at *
      have A0 := fun t w => run_float_arith (P := Try.prog) w .sub t .f64 x0 y0 d0 a0
      have A1 := fun t w => run_float_arith (P := Try.prog) w .sub t .f64 x1 y1 d1 a1
      have C0 := Lib.hid b0
      have C1 := Lib.hid b1
      clear a0 a1 b0 b1
      go_wp2
      go_quiet ((first | (go_at_call 29; exact Calls.quiet_of_same ((abs_calls d0 _ C0.out).mono fun _ _ h => ⟨h.1, h.2.symm⟩)) | (go_at_call 29; exact Calls.quiet_of_same ((abs_calls d1 _ C1.out).mono fun _ _ h => ⟨h.1, h.2.symm⟩))))
      go_wp2
      go_roundw
      case rel => exact ⟨k + 1, by omega, by go_num, m + nq, by rw [HM.out, World.drewN_drewN]⟩
      case measure => simp [intOf]; omega
    · obtain rfl : k = n := by omega
      go_wp2
      go_ret
      exact ⟨rfl, m, HM.out⟩

end Go.Proofs.Ytaadklfendegfaa
