/- The walk of ztQuad. -/
import Derived.Test.YtaadklfendegfaaChecked
import Derived.Test.YtaadklfendegfaaFast
import Derived.Test.YtaadklfendegfaaPt
import Derived.Test.YtaadklfendegfaaCell
import Derived.WalkKit
import Derived.Lib.Hide
import Derived.WalkSpells
import Derived.WalkLawsBesides
namespace Go.Proofs.Ytaadklfendegfaa
open Go.RowKit

theorem below3 (w : World) (o1 o2 o3 : Obj) : Below w.heap.size w (((w.alloc o1).alloc o2).alloc o3) :=
  (((Below.refl _ _).alloc (Nat.le_refl _) _).alloc (by simp) _).alloc (by simp; omega) _

set_option maxRecDepth 100000 in
set_option maxHeartbeats 1000000 in
theorem quad_calls (b0 b1 b2 b3 b4 b5 b6 b7 : Int) (q : Q8) (w : World) (h : QuadR b0 b1 b2 b3 b4 b5 b6 b7 q) :
    Calls Try.prog 10 #[.agg #[.int .i8 b0, .int .i8 b1, .int .i8 b2, .int .i8 b3, .int .i8 b4, .int .i8 b5, .int .i8 b6, .int .i8 b7]] w fun e w' => e = .returned (.agg q.vals) ∧ Below w.heap.size w w' := by
  obtain ⟨x0, y0, x1, y1, x2, y2, x3, y3⟩ := q
  obtain ⟨⟨t0, d0, a0⟩, ⟨t1, d1, a1⟩, ⟨t2, d2, a2⟩, ⟨t3, d3, a3⟩, ⟨t4, d4, a4⟩, ⟨t5, d5, a5⟩, ⟨t6, d6, a6⟩, ⟨t7, d7, a7⟩⟩ := h
  dsimp only at *
  have D0 := fun t w => run_float_arith (P := Try.prog) w .quo t .f64 (ofI b0) f8 t0 d0
  have A0 := fun t w => run_float_arith (P := Try.prog) w .add t .f64 f50 t0 x0 a0
  have D1 := fun t w => run_float_arith (P := Try.prog) w .quo t .f64 (ofI b1) f8 t1 d1
  have A1 := fun t w => run_float_arith (P := Try.prog) w .add t .f64 f50 t1 y0 a1
  have D2 := fun t w => run_float_arith (P := Try.prog) w .quo t .f64 (ofI b2) f8 t2 d2
  have A2 := fun t w => run_float_arith (P := Try.prog) w .add t .f64 f150 t2 x1 a2
  have D3 := fun t w => run_float_arith (P := Try.prog) w .quo t .f64 (ofI b3) f8 t3 d3
  have A3 := fun t w => run_float_arith (P := Try.prog) w .add t .f64 f50 t3 y1 a3
  have D4 := fun t w => run_float_arith (P := Try.prog) w .quo t .f64 (ofI b4) f8 t4 d4
  have A4 := fun t w => run_float_arith (P := Try.prog) w .add t .f64 f150 t4 x2 a4
  have D5 := fun t w => run_float_arith (P := Try.prog) w .quo t .f64 (ofI b5) f8 t5 d5
  have A5 := fun t w => run_float_arith (P := Try.prog) w .add t .f64 f150 t5 y2 a5
  have D6 := fun t w => run_float_arith (P := Try.prog) w .quo t .f64 (ofI b6) f8 t6 d6
  have A6 := fun t w => run_float_arith (P := Try.prog) w .add t .f64 f50 t6 x3 a6
  have D7 := fun t w => run_float_arith (P := Try.prog) w .quo t .f64 (ofI b7) f8 t7 d7
  have A7 := fun t w => run_float_arith (P := Try.prog) w .add t .f64 f150 t7 y3 a7
  clear d0 a0 d1 a1 d2 a2 d3 a3 d4 a4 d5 a5 d6 a6 d7 a7
  have K0 : IntKind.i64.wrap 0 = 0 := by decide
  have K1 : IntKind.i64.wrap 1 = 1 := by decide
  have K2 : IntKind.i64.wrap 2 = 2 := by decide
  have K3 : IntKind.i64.wrap 3 = 3 := by decide
  have K4 : IntKind.i64.wrap 4 = 4 := by decide
  have K5 : IntKind.i64.wrap 5 = 5 := by decide
  have K6 : IntKind.i64.wrap 6 = 6 := by decide
  have K7 : IntKind.i64.wrap 7 = 7 := by decide
  unfold Q8.vals
  go_enter Try.func10, Try.ntmps10
  go_wp2
  refine wp_loop_rounds 5 ?_
  rw [rounds_succ]
  go_wp2
  refine wp_region_fast 13 13 (by kernel_rfl) (by kernel_rfl) (fun ops K hK => ?_)
  simp only [List.append_eq, List.cons_append, List.nil_append, List.take_succ_cons, List.take_zero]
  repeat still_step
  refine wpStill_nil (hK _ ?_)
  clear hK
  simp only [List.append_eq, List.cons_append, List.nil_append, List.drop_succ_cons, List.drop_zero]
  go_wp2
  refine wp_region_fast 26 14 (by kernel_rfl) (by kernel_rfl) (fun ops K hK => ?_)
  simp only [List.append_eq, List.cons_append, List.nil_append, List.take_succ_cons, List.take_zero]
  repeat still_step
  refine wpStill_nil (hK _ ?_)
  clear hK
  simp only [List.append_eq, List.cons_append, List.nil_append, List.drop_succ_cons, List.drop_zero]
  go_wp2
  rw [rounds_succ]
  go_wp2
  refine wp_region_fast 13 13 (by kernel_rfl) (by kernel_rfl) (fun ops K hK => ?_)
  simp only [List.append_eq, List.cons_append, List.nil_append, List.take_succ_cons, List.take_zero]
  repeat still_step
  refine wpStill_nil (hK _ ?_)
  clear hK
  simp only [List.append_eq, List.cons_append, List.nil_append, List.drop_succ_cons, List.drop_zero]
  go_wp2
  refine wp_region_fast 26 14 (by kernel_rfl) (by kernel_rfl) (fun ops K hK => ?_)
  simp only [List.append_eq, List.cons_append, List.nil_append, List.take_succ_cons, List.take_zero]
  repeat still_step
  refine wpStill_nil (hK _ ?_)
  clear hK
  simp only [List.append_eq, List.cons_append, List.nil_append, List.drop_succ_cons, List.drop_zero]
  go_wp2
  rw [rounds_succ]
  go_wp2
  refine wp_region_fast 13 13 (by kernel_rfl) (by kernel_rfl) (fun ops K hK => ?_)
  simp only [List.append_eq, List.cons_append, List.nil_append, List.take_succ_cons, List.take_zero]
  repeat still_step
  refine wpStill_nil (hK _ ?_)
  clear hK
  simp only [List.append_eq, List.cons_append, List.nil_append, List.drop_succ_cons, List.drop_zero]
  go_wp2
  refine wp_region_fast 26 14 (by kernel_rfl) (by kernel_rfl) (fun ops K hK => ?_)
  simp only [List.append_eq, List.cons_append, List.nil_append, List.take_succ_cons, List.take_zero]
  repeat still_step
  refine wpStill_nil (hK _ ?_)
  clear hK
  simp only [List.append_eq, List.cons_append, List.nil_append, List.drop_succ_cons, List.drop_zero]
  go_wp2
  rw [rounds_succ]
  go_wp2
  refine wp_region_fast 13 13 (by kernel_rfl) (by kernel_rfl) (fun ops K hK => ?_)
  simp only [List.append_eq, List.cons_append, List.nil_append, List.take_succ_cons, List.take_zero]
  repeat still_step
  refine wpStill_nil (hK _ ?_)
  clear hK
  simp only [List.append_eq, List.cons_append, List.nil_append, List.drop_succ_cons, List.drop_zero]
  go_wp2
  refine wp_region_fast 26 14 (by kernel_rfl) (by kernel_rfl) (fun ops K hK => ?_)
  simp only [List.append_eq, List.cons_append, List.nil_append, List.take_succ_cons, List.take_zero]
  repeat still_step
  refine wpStill_nil (hK _ ?_)
  clear hK
  simp only [List.append_eq, List.cons_append, List.nil_append, List.drop_succ_cons, List.drop_zero]
  go_wp2
  rw [rounds_succ]
  go_wp2
  refine bodyPost_ret (v := .agg #[fv x0, fv y0, fv x1, fv y1, fv x2, fv y2, fv x3, fv y3]) (by simp [results, Try.results10, go_sem]) rfl ⟨rfl, ?_⟩
  repeat (refine Below.drew ?_)
  exact below3 _ _ _ _
end Go.Proofs.Ytaadklfendegfaa
