/- The walks of the perspective transform's methods: adj. -/
import Derived.Test.YtaadklfendegfaaChecked
import Derived.Test.YtaadklfendegfaaFast
import Derived.Test.YtaadklfendegfaaPt
import Derived.Test.YtaadklfendegfaaCell
import Derived.WalkKit
import Derived.WalkSpells
import Derived.WalkLawsBesides
namespace Go.Proofs.Ytaadklfendegfaa
open Go.RowKit

set_option maxRecDepth 100000 in
set_option maxHeartbeats 1000000 in
/-- buildAdjoint -/
theorem adj_calls (a o : M9) (b : Nat) (w : World) (hc : w.heap[b]? = some (.cells a.cells 102)) (h : AdjR a o) :
    Calls Try.prog 59 #[.pointer (some ⟨b, 0, none⟩)] w fun e w' => e = .returned (.pointer (some ⟨w.heap.size, 0, none⟩)) ∧ (w.alloc (.cells o.cells 102)).drew = w' := by
  obtain ⟨a11, a21, a31, a12, a22, a32, a13, a23, a33⟩ := a
  obtain ⟨o0, o1, o2, o3, o4, o5, o6, o7, o8⟩ := o
  obtain ⟨⟨p0, q0, m0, n0, s0⟩, ⟨p1, q1, m1, n1, s1⟩, ⟨p2, q2, m2, n2, s2⟩, ⟨p3, q3, m3, n3, s3⟩, ⟨p4, q4, m4, n4, s4⟩, ⟨p5, q5, m5, n5, s5⟩, ⟨p6, q6, m6, n6, s6⟩, ⟨p7, q7, m7, n7, s7⟩, ⟨p8, q8, m8, n8, s8⟩⟩ := h
  dsimp only at *
  have c0 : w.cell? ⟨b, 0, none⟩ = some (fv a11) := cell_at_cells hc (by rfl)
  have c1 : w.cell? ⟨b, 1, none⟩ = some (fv a21) := cell_at_cells hc (by rfl)
  have c2 : w.cell? ⟨b, 2, none⟩ = some (fv a31) := cell_at_cells hc (by rfl)
  have c3 : w.cell? ⟨b, 3, none⟩ = some (fv a12) := cell_at_cells hc (by rfl)
  have c4 : w.cell? ⟨b, 4, none⟩ = some (fv a22) := cell_at_cells hc (by rfl)
  have c5 : w.cell? ⟨b, 5, none⟩ = some (fv a32) := cell_at_cells hc (by rfl)
  have c6 : w.cell? ⟨b, 6, none⟩ = some (fv a13) := cell_at_cells hc (by rfl)
  have c7 : w.cell? ⟨b, 7, none⟩ = some (fv a23) := cell_at_cells hc (by rfl)
  have c8 : w.cell? ⟨b, 8, none⟩ = some (fv a33) := cell_at_cells hc (by rfl)
  clear hc
  unfold M9.cells
  have R1 := fun t w => run_float_arith (P := Try.prog) w .mul t .f64 a22 a33 p0 m0
  have R2 := fun t w => run_float_arith (P := Try.prog) w .mul t .f64 a23 a32 q0 n0
  have R3 := fun t w => run_float_arith (P := Try.prog) w .sub t .f64 p0 q0 o0 s0
  have R4 := fun t w => run_float_arith (P := Try.prog) w .mul t .f64 a23 a31 p1 m1
  have R5 := fun t w => run_float_arith (P := Try.prog) w .mul t .f64 a21 a33 q1 n1
  have R6 := fun t w => run_float_arith (P := Try.prog) w .sub t .f64 p1 q1 o1 s1
  have R7 := fun t w => run_float_arith (P := Try.prog) w .mul t .f64 a21 a32 p2 m2
  have R8 := fun t w => run_float_arith (P := Try.prog) w .mul t .f64 a22 a31 q2 n2
  have R9 := fun t w => run_float_arith (P := Try.prog) w .sub t .f64 p2 q2 o2 s2
  have R10 := fun t w => run_float_arith (P := Try.prog) w .mul t .f64 a13 a32 p3 m3
  have R11 := fun t w => run_float_arith (P := Try.prog) w .mul t .f64 a12 a33 q3 n3
  have R12 := fun t w => run_float_arith (P := Try.prog) w .sub t .f64 p3 q3 o3 s3
  have R13 := fun t w => run_float_arith (P := Try.prog) w .mul t .f64 a11 a33 p4 m4
  have R14 := fun t w => run_float_arith (P := Try.prog) w .mul t .f64 a13 a31 q4 n4
  have R15 := fun t w => run_float_arith (P := Try.prog) w .sub t .f64 p4 q4 o4 s4
  have R16 := fun t w => run_float_arith (P := Try.prog) w .mul t .f64 a12 a31 p5 m5
  have R17 := fun t w => run_float_arith (P := Try.prog) w .mul t .f64 a11 a32 q5 n5
  have R18 := fun t w => run_float_arith (P := Try.prog) w .sub t .f64 p5 q5 o5 s5
  have R19 := fun t w => run_float_arith (P := Try.prog) w .mul t .f64 a12 a23 p6 m6
  have R20 := fun t w => run_float_arith (P := Try.prog) w .mul t .f64 a13 a22 q6 n6
  have R21 := fun t w => run_float_arith (P := Try.prog) w .sub t .f64 p6 q6 o6 s6
  have R22 := fun t w => run_float_arith (P := Try.prog) w .mul t .f64 a13 a21 p7 m7
  have R23 := fun t w => run_float_arith (P := Try.prog) w .mul t .f64 a11 a23 q7 n7
  have R24 := fun t w => run_float_arith (P := Try.prog) w .sub t .f64 p7 q7 o7 s7
  have R25 := fun t w => run_float_arith (P := Try.prog) w .mul t .f64 a11 a22 p8 m8
  have R26 := fun t w => run_float_arith (P := Try.prog) w .mul t .f64 a12 a21 q8 n8
  have R27 := fun t w => run_float_arith (P := Try.prog) w .sub t .f64 p8 q8 o8 s8
  clear m0 n0 s0 m1 n1 s1 m2 n2 s2 m3 n3 s3 m4 n4 s4 m5 n5 s5 m6 n6 s6 m7 n7 s7 m8 n8 s8
  go_enter Try.func59, Try.ntmps59
  go_wp2
  refine wp_region_fast 3 172 (by kernel_rfl) (by kernel_rfl) (fun ops K hK => ?_)
  simp only [List.append_eq, List.cons_append, List.nil_append, List.take_succ_cons, List.take_zero]
  repeat still_step
  refine wpStill_nil (hK _ ?_)
  clear hK
  simp only [List.append_eq, List.cons_append, List.nil_append, List.drop_succ_cons, List.drop_zero]
  generalize hw2 : w.drew = w2
  go_wp2
  go_ret
  subst hw2
  exact ⟨rfl, rfl⟩

end Go.Proofs.Ytaadklfendegfaa
