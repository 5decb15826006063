/- The walks of SquareToQuadrilateral, QuadrilateralToSquare, QuadrilateralToQuadrilateral. -/
import Derived.Test.YtaadklfendegfaaChecked
import Derived.Test.YtaadklfendegfaaFast
import Derived.Test.YtaadklfendegfaaPt
import Derived.WalkKit
import Derived.WalkSpells
import Derived.WalkLawsBesides
namespace Go.Proofs.Ytaadklfendegfaa
open Go.RowKit

set_option maxRecDepth 100000 in
set_option maxHeartbeats 1000000 in
theorem s2q_aff (q : Q8) (a : M9) (dx3 dy3 : Nat) (w : World) (hx : AltR q.x0 q.x1 q.x2 q.x3 dx3) (hy : AltR q.y0 q.y1 q.y2 q.y3 dy3) (hdx : feq dx3 f0 = true) (hdy : feq dy3 f0 = true) (h : AffR q a) :
    Calls Try.prog 45 #[fv q.x0, fv q.y0, fv q.x1, fv q.y1, fv q.x2, fv q.y2, fv q.x3, fv q.y3] w fun e w' => e = .returned (.pointer (some ⟨w.heap.size, 0, none⟩)) ∧ w.alloc (.cells a.cells 102) = w' := by
  obtain ⟨x0, y0, x1, y1, x2, y2, x3, y3⟩ := q
  obtain ⟨a11, a21, a31, a12, a22, a32, a13, a23, a33⟩ := a
  obtain ⟨t0, u0, e0, f0, g0⟩ := hx
  obtain ⟨t1, u1, e1, f1, g1⟩ := hy
  obtain ⟨A1, A2, A3, A4, A5, A6, A7, A8, A9⟩ := h
  dsimp only at *
  replace A3 := A3.symm
  replace A6 := A6.symm
  subst A3 A6 A7 A8 A9
  unfold M9.cells
  have R1 := fun t w => run_float_arith (P := Try.prog) w .sub t .f64 x0 x1 t0 e0
  have R2 := fun t w => run_float_arith (P := Try.prog) w .add t .f64 t0 x2 u0 f0
  have R3 := fun t w => run_float_arith (P := Try.prog) w .sub t .f64 u0 x3 dx3 g0
  have R4 := fun t w => run_float_arith (P := Try.prog) w .sub t .f64 y0 y1 t1 e1
  have R5 := fun t w => run_float_arith (P := Try.prog) w .add t .f64 t1 y2 u1 f1
  have R6 := fun t w => run_float_arith (P := Try.prog) w .sub t .f64 u1 y3 dy3 g1
  have R7 := fun t w => run_float_arith (P := Try.prog) w .sub t .f64 x1 x0 a11 A1
  have R8 := fun t w => run_float_arith (P := Try.prog) w .sub t .f64 x2 x1 a21 A2
  have R9 := fun t w => run_float_arith (P := Try.prog) w .sub t .f64 y1 y0 a12 A4
  have R10 := fun t w => run_float_arith (P := Try.prog) w .sub t .f64 y2 y1 a22 A5
  clear e0 f0 g0 e1 f1 g1 A1 A2 A4 A5
  go_enter Try.func45, Try.ntmps45
  go_wp2
  go_ret
  exact ⟨rfl, rfl⟩

set_option maxRecDepth 100000 in
set_option maxHeartbeats 1000000 in
theorem s2q_px (q : Q8) (a : M9) (dx3 dy3 : Nat) (w : World) (hx : AltR q.x0 q.x1 q.x2 q.x3 dx3) (hy : AltR q.y0 q.y1 q.y2 q.y3 dy3) (hdx : feq dx3 f0 = false) (h : PersR q dx3 dy3 a) :
    Calls Try.prog 45 #[fv q.x0, fv q.y0, fv q.x1, fv q.y1, fv q.x2, fv q.y2, fv q.x3, fv q.y3] w fun e w' => e = .returned (.pointer (some ⟨w.heap.size, 0, none⟩)) ∧ w.alloc (.cells a.cells 102) = w' := by
  obtain ⟨x0, y0, x1, y1, x2, y2, x3, y3⟩ := q
  obtain ⟨a11, a21, a31, a12, a22, a32, a13, a23, a33⟩ := a
  obtain ⟨t0, u0, e0, f0, g0⟩ := hx
  obtain ⟨t1, u1, e1, f1, g1⟩ := hy
  obtain ⟨dx1, dx2, dy1, dy2, den, nu1, nu2, B1, B2, B3, B4, ⟨p0, q0, m0, n0, s0⟩, ⟨p1, q1, m1, n1, s1⟩, C1, ⟨p2, q2, m2, n2, s2⟩, C2, ⟨v0, w0, o0, r0, z0⟩, ⟨v1, w1, o1, r1, z1⟩, A3, ⟨v2, w2, o2, r2, z2⟩, ⟨v3, w3, o3, r3, z3⟩, A6, A9⟩ := h
  dsimp only at *
  replace A3 := A3.symm
  replace A6 := A6.symm
  subst A3 A6 A9
  unfold M9.cells
  have R1 := fun t w => run_float_arith (P := Try.prog) w .sub t .f64 x0 x1 t0 e0
  have R2 := fun t w => run_float_arith (P := Try.prog) w .add t .f64 t0 x2 u0 f0
  have R3 := fun t w => run_float_arith (P := Try.prog) w .sub t .f64 u0 x3 dx3 g0
  have R4 := fun t w => run_float_arith (P := Try.prog) w .sub t .f64 y0 y1 t1 e1
  have R5 := fun t w => run_float_arith (P := Try.prog) w .add t .f64 t1 y2 u1 f1
  have R6 := fun t w => run_float_arith (P := Try.prog) w .sub t .f64 u1 y3 dy3 g1
  have R7 := fun t w => run_float_arith (P := Try.prog) w .sub t .f64 x1 x2 dx1 B1
  have R8 := fun t w => run_float_arith (P := Try.prog) w .sub t .f64 x3 x2 dx2 B2
  have R9 := fun t w => run_float_arith (P := Try.prog) w .sub t .f64 y1 y2 dy1 B3
  have R10 := fun t w => run_float_arith (P := Try.prog) w .sub t .f64 y3 y2 dy2 B4
  have R11 := fun t w => run_float_arith (P := Try.prog) w .mul t .f64 dx1 dy2 p0 m0
  have R12 := fun t w => run_float_arith (P := Try.prog) w .mul t .f64 dx2 dy1 q0 n0
  have R13 := fun t w => run_float_arith (P := Try.prog) w .sub t .f64 p0 q0 den s0
  have R14 := fun t w => run_float_arith (P := Try.prog) w .mul t .f64 dx3 dy2 p1 m1
  have R15 := fun t w => run_float_arith (P := Try.prog) w .mul t .f64 dx2 dy3 q1 n1
  have R16 := fun t w => run_float_arith (P := Try.prog) w .sub t .f64 p1 q1 nu1 s1
  have R17 := fun t w => run_float_arith (P := Try.prog) w .quo t .f64 nu1 den a13 C1
  have R18 := fun t w => run_float_arith (P := Try.prog) w .mul t .f64 dx1 dy3 p2 m2
  have R19 := fun t w => run_float_arith (P := Try.prog) w .mul t .f64 dx3 dy1 q2 n2
  have R20 := fun t w => run_float_arith (P := Try.prog) w .sub t .f64 p2 q2 nu2 s2
  have R21 := fun t w => run_float_arith (P := Try.prog) w .quo t .f64 nu2 den a23 C2
  have R22 := fun t w => run_float_arith (P := Try.prog) w .sub t .f64 x1 x0 v0 o0
  have R23 := fun t w => run_float_arith (P := Try.prog) w .mul t .f64 a13 x1 w0 r0
  have R24 := fun t w => run_float_arith (P := Try.prog) w .add t .f64 v0 w0 a11 z0
  have R25 := fun t w => run_float_arith (P := Try.prog) w .sub t .f64 x3 x0 v1 o1
  have R26 := fun t w => run_float_arith (P := Try.prog) w .mul t .f64 a23 x3 w1 r1
  have R27 := fun t w => run_float_arith (P := Try.prog) w .add t .f64 v1 w1 a21 z1
  have R28 := fun t w => run_float_arith (P := Try.prog) w .sub t .f64 y1 y0 v2 o2
  have R29 := fun t w => run_float_arith (P := Try.prog) w .mul t .f64 a13 y1 w2 r2
  have R30 := fun t w => run_float_arith (P := Try.prog) w .add t .f64 v2 w2 a12 z2
  have R31 := fun t w => run_float_arith (P := Try.prog) w .sub t .f64 y3 y0 v3 o3
  have R32 := fun t w => run_float_arith (P := Try.prog) w .mul t .f64 a23 y3 w3 r3
  have R33 := fun t w => run_float_arith (P := Try.prog) w .add t .f64 v3 w3 a22 z3
  clear e0 f0 g0 e1 f1 g1 B1 B2 B3 B4 m0 n0 s0 m1 n1 s1 C1 m2 n2 s2 C2 o0 r0 z0 o1 r1 z1 o2 r2 z2 o3 r3 z3
  go_enter Try.func45, Try.ntmps45
  go_wp2
  go_ret
  exact ⟨rfl, rfl⟩

set_option maxRecDepth 100000 in
set_option maxHeartbeats 1000000 in
theorem s2q_py (q : Q8) (a : M9) (dx3 dy3 : Nat) (w : World) (hx : AltR q.x0 q.x1 q.x2 q.x3 dx3) (hy : AltR q.y0 q.y1 q.y2 q.y3 dy3) (hdx : feq dx3 f0 = true) (hdy : feq dy3 f0 = false) (h : PersR q dx3 dy3 a) :
    Calls Try.prog 45 #[fv q.x0, fv q.y0, fv q.x1, fv q.y1, fv q.x2, fv q.y2, fv q.x3, fv q.y3] w fun e w' => e = .returned (.pointer (some ⟨w.heap.size, 0, none⟩)) ∧ w.alloc (.cells a.cells 102) = w' := by
  obtain ⟨x0, y0, x1, y1, x2, y2, x3, y3⟩ := q
  obtain ⟨a11, a21, a31, a12, a22, a32, a13, a23, a33⟩ := a
  obtain ⟨t0, u0, e0, f0, g0⟩ := hx
  obtain ⟨t1, u1, e1, f1, g1⟩ := hy
  obtain ⟨dx1, dx2, dy1, dy2, den, nu1, nu2, B1, B2, B3, B4, ⟨p0, q0, m0, n0, s0⟩, ⟨p1, q1, m1, n1, s1⟩, C1, ⟨p2, q2, m2, n2, s2⟩, C2, ⟨v0, w0, o0, r0, z0⟩, ⟨v1, w1, o1, r1, z1⟩, A3, ⟨v2, w2, o2, r2, z2⟩, ⟨v3, w3, o3, r3, z3⟩, A6, A9⟩ := h
  dsimp only at *
  replace A3 := A3.symm
  replace A6 := A6.symm
  subst A3 A6 A9
  unfold M9.cells
  have R1 := fun t w => run_float_arith (P := Try.prog) w .sub t .f64 x0 x1 t0 e0
  have R2 := fun t w => run_float_arith (P := Try.prog) w .add t .f64 t0 x2 u0 f0
  have R3 := fun t w => run_float_arith (P := Try.prog) w .sub t .f64 u0 x3 dx3 g0
  have R4 := fun t w => run_float_arith (P := Try.prog) w .sub t .f64 y0 y1 t1 e1
  have R5 := fun t w => run_float_arith (P := Try.prog) w .add t .f64 t1 y2 u1 f1
  have R6 := fun t w => run_float_arith (P := Try.prog) w .sub t .f64 u1 y3 dy3 g1
  have R7 := fun t w => run_float_arith (P := Try.prog) w .sub t .f64 x1 x2 dx1 B1
  have R8 := fun t w => run_float_arith (P := Try.prog) w .sub t .f64 x3 x2 dx2 B2
  have R9 := fun t w => run_float_arith (P := Try.prog) w .sub t .f64 y1 y2 dy1 B3
  have R10 := fun t w => run_float_arith (P := Try.prog) w .sub t .f64 y3 y2 dy2 B4
  have R11 := fun t w => run_float_arith (P := Try.prog) w .mul t .f64 dx1 dy2 p0 m0
  have R12 := fun t w => run_float_arith (P := Try.prog) w .mul t .f64 dx2 dy1 q0 n0
  have R13 := fun t w => run_float_arith (P := Try.prog) w .sub t .f64 p0 q0 den s0
  have R14 := fun t w => run_float_arith (P := Try.prog) w .mul t .f64 dx3 dy2 p1 m1
  have R15 := fun t w => run_float_arith (P := Try.prog) w .mul t .f64 dx2 dy3 q1 n1
  have R16 := fun t w => run_float_arith (P := Try.prog) w .sub t .f64 p1 q1 nu1 s1
  have R17 := fun t w => run_float_arith (P := Try.prog) w .quo t .f64 nu1 den a13 C1
  have R18 := fun t w => run_float_arith (P := Try.prog) w .mul t .f64 dx1 dy3 p2 m2
  have R19 := fun t w => run_float_arith (P := Try.prog) w .mul t .f64 dx3 dy1 q2 n2
  have R20 := fun t w => run_float_arith (P := Try.prog) w .sub t .f64 p2 q2 nu2 s2
  have R21 := fun t w => run_float_arith (P := Try.prog) w .quo t .f64 nu2 den a23 C2
  have R22 := fun t w => run_float_arith (P := Try.prog) w .sub t .f64 x1 x0 v0 o0
  have R23 := fun t w => run_float_arith (P := Try.prog) w .mul t .f64 a13 x1 w0 r0
  have R24 := fun t w => run_float_arith (P := Try.prog) w .add t .f64 v0 w0 a11 z0
  have R25 := fun t w => run_float_arith (P := Try.prog) w .sub t .f64 x3 x0 v1 o1
  have R26 := fun t w => run_float_arith (P := Try.prog) w .mul t .f64 a23 x3 w1 r1
  have R27 := fun t w => run_float_arith (P := Try.prog) w .add t .f64 v1 w1 a21 z1
  have R28 := fun t w => run_float_arith (P := Try.prog) w .sub t .f64 y1 y0 v2 o2
  have R29 := fun t w => run_float_arith (P := Try.prog) w .mul t .f64 a13 y1 w2 r2
  have R30 := fun t w => run_float_arith (P := Try.prog) w .add t .f64 v2 w2 a12 z2
  have R31 := fun t w => run_float_arith (P := Try.prog) w .sub t .f64 y3 y0 v3 o3
  have R32 := fun t w => run_float_arith (P := Try.prog) w .mul t .f64 a23 y3 w3 r3
  have R33 := fun t w => run_float_arith (P := Try.prog) w .add t .f64 v3 w3 a22 z3
  clear e0 f0 g0 e1 f1 g1 B1 B2 B3 B4 m0 n0 s0 m1 n1 s1 C1 m2 n2 s2 C2 o0 r0 z0 o1 r1 z1 o2 r2 z2 o3 r3 z3
  go_enter Try.func45, Try.ntmps45
  go_wp2
  go_ret
  exact ⟨rfl, rfl⟩

/-- SquareToQuadrilateral -/
theorem s2q_calls (q : Q8) (a : M9) (w : World) (h : S2QR q a) :
    Calls Try.prog 45 #[fv q.x0, fv q.y0, fv q.x1, fv q.y1, fv q.x2, fv q.y2, fv q.x3, fv q.y3] w fun e w' => e = .returned (.pointer (some ⟨w.heap.size, 0, none⟩)) ∧ w.alloc (.cells a.cells 102) = w' := by
  obtain ⟨dx3, dy3, hx, hy, h⟩ := h
  rcases h with ⟨h1, h2, h3⟩ | ⟨h1 | ⟨h1, h2⟩, h3⟩
  · exact s2q_aff q a dx3 dy3 w hx hy h1 h2 h3
  · exact s2q_px q a dx3 dy3 w hx hy h1 h3
  · exact s2q_py q a dx3 dy3 w hx hy h1 h2 h3


end Go.Proofs.Ytaadklfendegfaa
