/- The walks of the perspective transform's methods: times. -/
import Derived.Test.YtaadklfendegfaaChecked
import Derived.Test.YtaadklfendegfaaFast
import Derived.Test.YtaadklfendegfaaPt
import Derived.Test.YtaadklfendegfaaCell
import Derived.WalkKit
import Derived.WalkSpells
import Derived.WalkLawsBesides
namespace Go.Proofs.Ytaadklfendegfaa
open Go.RowKit

set_option maxRecDepth 100000 in
set_option maxHeartbeats 2000000 in
/-- times -/
theorem times_calls (p o r : M9) (b1 b2 : Nat) (w : World) (hc : w.heap[b1]? = some (.cells p.cells 102)) (hd : w.heap[b2]? = some (.cells o.cells 102)) (h : TimesR p o r) :
    Calls Try.prog 46 #[.pointer (some ⟨b1, 0, none⟩), .pointer (some ⟨b2, 0, none⟩)] w fun e w' => e = .returned (.pointer (some ⟨w.heap.size, 0, none⟩)) ∧ (w.alloc (.cells r.cells 102)).drew = w' := by
  obtain ⟨pa11, pa21, pa31, pa12, pa22, pa32, pa13, pa23, pa33⟩ := p
  obtain ⟨oa11, oa21, oa31, oa12, oa22, oa32, oa13, oa23, oa33⟩ := o
  obtain ⟨r0, r1, r2, r3, r4, r5, r6, r7, r8⟩ := r
  obtain ⟨⟨x0, y0, u0, v0, h0, i0, j0, k0, l0⟩, ⟨x1, y1, u1, v1, h1, i1, j1, k1, l1⟩, ⟨x2, y2, u2, v2, h2, i2, j2, k2, l2⟩, ⟨x3, y3, u3, v3, h3, i3, j3, k3, l3⟩, ⟨x4, y4, u4, v4, h4, i4, j4, k4, l4⟩, ⟨x5, y5, u5, v5, h5, i5, j5, k5, l5⟩, ⟨x6, y6, u6, v6, h6, i6, j6, k6, l6⟩, ⟨x7, y7, u7, v7, h7, i7, j7, k7, l7⟩, ⟨x8, y8, u8, v8, h8, i8, j8, k8, l8⟩⟩ := h
  dsimp only at *
  have c0 : w.cell? ⟨b1, 0, none⟩ = some (fv pa11) := cell_at_cells hc (by rfl)
  have c1 : w.cell? ⟨b1, 1, none⟩ = some (fv pa21) := cell_at_cells hc (by rfl)
  have c2 : w.cell? ⟨b1, 2, none⟩ = some (fv pa31) := cell_at_cells hc (by rfl)
  have c3 : w.cell? ⟨b1, 3, none⟩ = some (fv pa12) := cell_at_cells hc (by rfl)
  have c4 : w.cell? ⟨b1, 4, none⟩ = some (fv pa22) := cell_at_cells hc (by rfl)
  have c5 : w.cell? ⟨b1, 5, none⟩ = some (fv pa32) := cell_at_cells hc (by rfl)
  have c6 : w.cell? ⟨b1, 6, none⟩ = some (fv pa13) := cell_at_cells hc (by rfl)
  have c7 : w.cell? ⟨b1, 7, none⟩ = some (fv pa23) := cell_at_cells hc (by rfl)
  have c8 : w.cell? ⟨b1, 8, none⟩ = some (fv pa33) := cell_at_cells hc (by rfl)
  have d0 : w.cell? ⟨b2, 0, none⟩ = some (fv oa11) := cell_at_cells hd (by rfl)
  have d1 : w.cell? ⟨b2, 1, none⟩ = some (fv oa21) := cell_at_cells hd (by rfl)
  have d2 : w.cell? ⟨b2, 2, none⟩ = some (fv oa31) := cell_at_cells hd (by rfl)
  have d3 : w.cell? ⟨b2, 3, none⟩ = some (fv oa12) := cell_at_cells hd (by rfl)
  have d4 : w.cell? ⟨b2, 4, none⟩ = some (fv oa22) := cell_at_cells hd (by rfl)
  have d5 : w.cell? ⟨b2, 5, none⟩ = some (fv oa32) := cell_at_cells hd (by rfl)
  have d6 : w.cell? ⟨b2, 6, none⟩ = some (fv oa13) := cell_at_cells hd (by rfl)
  have d7 : w.cell? ⟨b2, 7, none⟩ = some (fv oa23) := cell_at_cells hd (by rfl)
  have d8 : w.cell? ⟨b2, 8, none⟩ = some (fv oa33) := cell_at_cells hd (by rfl)
  clear hc hd
  unfold M9.cells
  have R1 := fun t w => run_float_arith (P := Try.prog) w .mul t .f64 pa11 oa11 x0 h0
  have R2 := fun t w => run_float_arith (P := Try.prog) w .mul t .f64 pa21 oa12 y0 i0
  have R3 := fun t w => run_float_arith (P := Try.prog) w .add t .f64 x0 y0 u0 j0
  have R4 := fun t w => run_float_arith (P := Try.prog) w .mul t .f64 pa31 oa13 v0 k0
  have R5 := fun t w => run_float_arith (P := Try.prog) w .add t .f64 u0 v0 r0 l0
  have R6 := fun t w => run_float_arith (P := Try.prog) w .mul t .f64 pa11 oa21 x1 h1
  have R7 := fun t w => run_float_arith (P := Try.prog) w .mul t .f64 pa21 oa22 y1 i1
  have R8 := fun t w => run_float_arith (P := Try.prog) w .add t .f64 x1 y1 u1 j1
  have R9 := fun t w => run_float_arith (P := Try.prog) w .mul t .f64 pa31 oa23 v1 k1
  have R10 := fun t w => run_float_arith (P := Try.prog) w .add t .f64 u1 v1 r1 l1
  have R11 := fun t w => run_float_arith (P := Try.prog) w .mul t .f64 pa11 oa31 x2 h2
  have R12 := fun t w => run_float_arith (P := Try.prog) w .mul t .f64 pa21 oa32 y2 i2
  have R13 := fun t w => run_float_arith (P := Try.prog) w .add t .f64 x2 y2 u2 j2
  have R14 := fun t w => run_float_arith (P := Try.prog) w .mul t .f64 pa31 oa33 v2 k2
  have R15 := fun t w => run_float_arith (P := Try.prog) w .add t .f64 u2 v2 r2 l2
  have R16 := fun t w => run_float_arith (P := Try.prog) w .mul t .f64 pa12 oa11 x3 h3
  have R17 := fun t w => run_float_arith (P := Try.prog) w .mul t .f64 pa22 oa12 y3 i3
  have R18 := fun t w => run_float_arith (P := Try.prog) w .add t .f64 x3 y3 u3 j3
  have R19 := fun t w => run_float_arith (P := Try.prog) w .mul t .f64 pa32 oa13 v3 k3
  have R20 := fun t w => run_float_arith (P := Try.prog) w .add t .f64 u3 v3 r3 l3
  have R21 := fun t w => run_float_arith (P := Try.prog) w .mul t .f64 pa12 oa21 x4 h4
  have R22 := fun t w => run_float_arith (P := Try.prog) w .mul t .f64 pa22 oa22 y4 i4
  have R23 := fun t w => run_float_arith (P := Try.prog) w .add t .f64 x4 y4 u4 j4
  have R24 := fun t w => run_float_arith (P := Try.prog) w .mul t .f64 pa32 oa23 v4 k4
  have R25 := fun t w => run_float_arith (P := Try.prog) w .add t .f64 u4 v4 r4 l4
  have R26 := fun t w => run_float_arith (P := Try.prog) w .mul t .f64 pa12 oa31 x5 h5
  have R27 := fun t w => run_float_arith (P := Try.prog) w .mul t .f64 pa22 oa32 y5 i5
  have R28 := fun t w => run_float_arith (P := Try.prog) w .add t .f64 x5 y5 u5 j5
  have R29 := fun t w => run_float_arith (P := Try.prog) w .mul t .f64 pa32 oa33 v5 k5
  have R30 := fun t w => run_float_arith (P := Try.prog) w .add t .f64 u5 v5 r5 l5
  have R31 := fun t w => run_float_arith (P := Try.prog) w .mul t .f64 pa13 oa11 x6 h6
  have R32 := fun t w => run_float_arith (P := Try.prog) w .mul t .f64 pa23 oa12 y6 i6
  have R33 := fun t w => run_float_arith (P := Try.prog) w .add t .f64 x6 y6 u6 j6
  have R34 := fun t w => run_float_arith (P := Try.prog) w .mul t .f64 pa33 oa13 v6 k6
  have R35 := fun t w => run_float_arith (P := Try.prog) w .add t .f64 u6 v6 r6 l6
  have R36 := fun t w => run_float_arith (P := Try.prog) w .mul t .f64 pa13 oa21 x7 h7
  have R37 := fun t w => run_float_arith (P := Try.prog) w .mul t .f64 pa23 oa22 y7 i7
  have R38 := fun t w => run_float_arith (P := Try.prog) w .add t .f64 x7 y7 u7 j7
  have R39 := fun t w => run_float_arith (P := Try.prog) w .mul t .f64 pa33 oa23 v7 k7
  have R40 := fun t w => run_float_arith (P := Try.prog) w .add t .f64 u7 v7 r7 l7
  have R41 := fun t w => run_float_arith (P := Try.prog) w .mul t .f64 pa13 oa31 x8 h8
  have R42 := fun t w => run_float_arith (P := Try.prog) w .mul t .f64 pa23 oa32 y8 i8
  have R43 := fun t w => run_float_arith (P := Try.prog) w .add t .f64 x8 y8 u8 j8
  have R44 := fun t w => run_float_arith (P := Try.prog) w .mul t .f64 pa33 oa33 v8 k8
  have R45 := fun t w => run_float_arith (P := Try.prog) w .add t .f64 u8 v8 r8 l8
  clear h0 i0 j0 k0 l0 h1 i1 j1 k1 l1 h2 i2 j2 k2 l2 h3 i3 j3 k3 l3 h4 i4 j4 k4 l4 h5 i5 j5 k5 l5 h6 i6 j6 k6 l6 h7 i7 j7 k7 l7 h8 i8 j8 k8 l8
  go_enter Try.func46, Try.ntmps46
  go_wp2
  refine wp_region_fast 5 262 (by kernel_rfl) (by kernel_rfl) (fun ops K hK => ?_)
  simp only [List.append_eq, List.cons_append, List.nil_append, List.take_succ_cons, List.take_zero]
  repeat still_step
  refine wpStill_nil (hK _ ?_)
  clear hK
  simp only [List.append_eq, List.cons_append, List.nil_append, List.drop_succ_cons, List.drop_zero]
  generalize hw2 : w.drew = w2
  go_wp2
  go_ret
  subst hw2
  exact ⟨rfl, rfl⟩

end Go.Proofs.Ytaadklfendegfaa
