/- The map that takes a quadrilateral's corners to another's, and lines to lines: plain rational numbers. -/
import Derived.Test.YtaadklfendegfaaGeo
namespace Geo

structure Quad where
  (x0 y0 x1 y1 x2 y2 x3 y3 : Rat)

def Quad.d012 (q : Quad) : Rat := tri q.x0 q.y0 q.x1 q.y1 q.x2 q.y2
def Quad.d023 (q : Quad) : Rat := tri q.x0 q.y0 q.x2 q.y2 q.x3 q.y3
def Quad.d013 (q : Quad) : Rat := tri q.x0 q.y0 q.x1 q.y1 q.x3 q.y3
def Quad.d123 (q : Quad) : Rat := tri q.x1 q.y1 q.x2 q.y2 q.x3 q.y3

/-- a quadrilateral with the ratios of its triangles, and what is known of them -/
structure QF (q : Quad) (a1 a3 : Rat) : Prop where
  h1 : a1 * q.d123 = q.d023
  h3 : a3 * q.d123 = q.d012
  pos : 0 < q.d123

theorem QF.h2 {q : Quad} {a1 a3 : Rat} (h : QF q a1 a3) : (a1 + a3 - 1) * q.d123 = q.d013 := by
  have h1 := h.h1
  have h3 := h.h3
  unfold Quad.d123 Quad.d023 Quad.d013 Quad.d012 tri at *
  grind

theorem cancel {a b c : Rat} (hc : 0 < c) (h : a * c = b * c) : a = b := by
  have : (a - b) * c = 0 := by grind
  rcases Rat.mul_eq_zero.1 this with h | h <;> grind

theorem QF.mx {q : Quad} {a1 a3 : Rat} (h : QF q a1 a3) : a1 * q.x1 + a3 * q.x3 - q.x0 = (a1 + a3 - 1) * q.x2 := by
  apply cancel h.pos
  have e1 : (a1 * q.x1 + a3 * q.x3 - q.x0) * q.d123 = (a1 * q.d123) * q.x1 + (a3 * q.d123) * q.x3 - q.x0 * q.d123 := by grind
  have e2 : (a1 + a3 - 1) * q.x2 * q.d123 = ((a1 * q.d123) + (a3 * q.d123) - q.d123) * q.x2 := by grind
  rw [e1, e2, h.h1, h.h3]
  unfold Quad.d123 Quad.d023 Quad.d012 tri
  grind
theorem QF.my {q : Quad} {a1 a3 : Rat} (h : QF q a1 a3) : a1 * q.y1 + a3 * q.y3 - q.y0 = (a1 + a3 - 1) * q.y2 := by
  apply cancel h.pos
  have e1 : (a1 * q.y1 + a3 * q.y3 - q.y0) * q.d123 = (a1 * q.d123) * q.y1 + (a3 * q.d123) * q.y3 - q.y0 * q.d123 := by grind
  have e2 : (a1 + a3 - 1) * q.y2 * q.d123 = ((a1 * q.d123) + (a3 * q.d123) - q.d123) * q.y2 := by grind
  rw [e1, e2, h.h1, h.h3]
  unfold Quad.d123 Quad.d023 Quad.d012 tri
  grind

-- the square's way to the quadrilateral
def A11 (q : Quad) (a1 : Rat) : Rat := a1 * q.x1 - q.x0
def A21 (q : Quad) (a3 : Rat) : Rat := a3 * q.x3 - q.x0
def A12 (q : Quad) (a1 : Rat) : Rat := a1 * q.y1 - q.y0
def A22 (q : Quad) (a3 : Rat) : Rat := a3 * q.y3 - q.y0
-- the way back
def O11 (q : Quad) (_a1 a3 : Rat) : Rat := a3 * (q.y3 - q.y0)
def O21 (q : Quad) (_a1 a3 : Rat) : Rat := a3 * (q.x0 - q.x3)
def O31 (q : Quad) (_a1 a3 : Rat) : Rat := a3 * (q.x3 * q.y0 - q.y3 * q.x0)
def O12 (q : Quad) (a1 _a3 : Rat) : Rat := a1 * (q.y0 - q.y1)
def O22 (q : Quad) (a1 _a3 : Rat) : Rat := a1 * (q.x1 - q.x0)
def O32 (q : Quad) (a1 _a3 : Rat) : Rat := a1 * (q.y1 * q.x0 - q.x1 * q.y0)
def O13 (q : Quad) (a1 a3 : Rat) : Rat := A12 q a1 * (a3 - 1) - (a1 - 1) * A22 q a3
def O23 (q : Quad) (a1 a3 : Rat) : Rat := (a1 - 1) * A21 q a3 - A11 q a1 * (a3 - 1)
def O33 (q : Quad) (a1 a3 : Rat) : Rat := A11 q a1 * A22 q a3 - A12 q a1 * A21 q a3

def XX (q : Quad) (a1 a3 x y : Rat) : Rat := O11 q a1 a3 * x + O21 q a1 a3 * y + O31 q a1 a3
def YY (q : Quad) (a1 a3 x y : Rat) : Rat := O12 q a1 a3 * x + O22 q a1 a3 * y + O32 q a1 a3
def WW (q : Quad) (a1 a3 x y : Rat) : Rat := O13 q a1 a3 * x + O23 q a1 a3 * y + O33 q a1 a3

section
variable {q : Quad} {a1 a3 : Rat}
theorem XX0 : XX q a1 a3 q.x0 q.y0 = 0 := by unfold XX O11 O21 O31; grind
theorem YY0 : YY q a1 a3 q.x0 q.y0 = 0 := by unfold YY O12 O22 O32; grind
theorem WW0 : WW q a1 a3 q.x0 q.y0 = a1 * a3 * q.d013 := by unfold WW O13 O23 O33 A11 A12 A21 A22 Quad.d013 tri; grind
theorem XX1 : XX q a1 a3 q.x1 q.y1 = a3 * q.d013 := by unfold XX O11 O21 O31 Quad.d013 tri; grind
theorem YY1 : YY q a1 a3 q.x1 q.y1 = 0 := by unfold YY O12 O22 O32; grind
theorem WW1 : WW q a1 a3 q.x1 q.y1 = a3 * q.d013 := by unfold WW O13 O23 O33 A11 A12 A21 A22 Quad.d013 tri; grind
theorem XX3 : XX q a1 a3 q.x3 q.y3 = 0 := by unfold XX O11 O21 O31; grind
theorem YY3 : YY q a1 a3 q.x3 q.y3 = a1 * q.d013 := by unfold YY O12 O22 O32 Quad.d013 tri; grind
theorem WW3 : WW q a1 a3 q.x3 q.y3 = a1 * q.d013 := by unfold WW O13 O23 O33 A11 A12 A21 A22 Quad.d013 tri; grind
theorem YY2 : YY q a1 a3 q.x2 q.y2 = a1 * q.d012 := by unfold YY O12 O22 O32 Quad.d012 tri; grind
theorem XX2 (h : QF q a1 a3) : XX q a1 a3 q.x2 q.y2 = a1 * q.d012 := by
  have e : XX q a1 a3 q.x2 q.y2 = a3 * q.d023 := by unfold XX O11 O21 O31 Quad.d023 tri; grind
  rw [e, ← h.h1, ← h.h3]; grind
theorem WW2 (h : QF q a1 a3) : WW q a1 a3 q.x2 q.y2 = a1 * q.d012 := by
  have e : WW q a1 a3 q.x2 q.y2 = - (a1 * a3 * q.d123) + a1 * q.d012 + a3 * q.d023 := by unfold WW O13 O23 O33 A11 A12 A21 A22 Quad.d012 Quad.d023 Quad.d123 tri; grind
  rw [e, ← h.h1, ← h.h3]; grind
end

-- the whole map's nine numbers
def H11 (q p : Quad) (a1 a3 b1 b3 : Rat) : Rat := A11 p b1 * O11 q a1 a3 + A21 p b3 * O12 q a1 a3 + p.x0 * O13 q a1 a3
def H21 (q p : Quad) (a1 a3 b1 b3 : Rat) : Rat := A11 p b1 * O21 q a1 a3 + A21 p b3 * O22 q a1 a3 + p.x0 * O23 q a1 a3
def H31 (q p : Quad) (a1 a3 b1 b3 : Rat) : Rat := A11 p b1 * O31 q a1 a3 + A21 p b3 * O32 q a1 a3 + p.x0 * O33 q a1 a3
def H12 (q p : Quad) (a1 a3 b1 b3 : Rat) : Rat := A12 p b1 * O11 q a1 a3 + A22 p b3 * O12 q a1 a3 + p.y0 * O13 q a1 a3
def H22 (q p : Quad) (a1 a3 b1 b3 : Rat) : Rat := A12 p b1 * O21 q a1 a3 + A22 p b3 * O22 q a1 a3 + p.y0 * O23 q a1 a3
def H32 (q p : Quad) (a1 a3 b1 b3 : Rat) : Rat := A12 p b1 * O31 q a1 a3 + A22 p b3 * O32 q a1 a3 + p.y0 * O33 q a1 a3
def H13 (q : Quad) (a1 a3 b1 b3 : Rat) : Rat := (b1 - 1) * O11 q a1 a3 + (b3 - 1) * O12 q a1 a3 + 1 * O13 q a1 a3
def H23 (q : Quad) (a1 a3 b1 b3 : Rat) : Rat := (b1 - 1) * O21 q a1 a3 + (b3 - 1) * O22 q a1 a3 + 1 * O23 q a1 a3
def H33 (q : Quad) (a1 a3 b1 b3 : Rat) : Rat := (b1 - 1) * O31 q a1 a3 + (b3 - 1) * O32 q a1 a3 + 1 * O33 q a1 a3

def NX (q p : Quad) (a1 a3 b1 b3 x y : Rat) : Rat := H11 q p a1 a3 b1 b3 * x + H21 q p a1 a3 b1 b3 * y + H31 q p a1 a3 b1 b3
def NY (q p : Quad) (a1 a3 b1 b3 x y : Rat) : Rat := H12 q p a1 a3 b1 b3 * x + H22 q p a1 a3 b1 b3 * y + H32 q p a1 a3 b1 b3
def DD (q : Quad) (a1 a3 b1 b3 x y : Rat) : Rat := H13 q a1 a3 b1 b3 * x + H23 q a1 a3 b1 b3 * y + H33 q a1 a3 b1 b3

section
variable {q p : Quad} {a1 a3 b1 b3 : Rat}
theorem NX_eq (x y : Rat) : NX q p a1 a3 b1 b3 x y = A11 p b1 * XX q a1 a3 x y + A21 p b3 * YY q a1 a3 x y + p.x0 * WW q a1 a3 x y := by unfold NX H11 H21 H31 XX YY WW; grind
theorem NY_eq (x y : Rat) : NY q p a1 a3 b1 b3 x y = A12 p b1 * XX q a1 a3 x y + A22 p b3 * YY q a1 a3 x y + p.y0 * WW q a1 a3 x y := by unfold NY H12 H22 H32 XX YY WW; grind
theorem DD_eq (x y : Rat) : DD q a1 a3 b1 b3 x y = (b1 - 1) * XX q a1 a3 x y + (b3 - 1) * YY q a1 a3 x y + WW q a1 a3 x y := by unfold DD H13 H23 H33 XX YY WW; grind

/-- the weights at the corners -/
def ta0 (q : Quad) (a1 a3 _b1 _b3 : Rat) : Rat := a1 * a3 * q.d013
def ta1 (q : Quad) (_a1 a3 b1 _b3 : Rat) : Rat := a3 * q.d013 * b1
def ta2 (q : Quad) (a1 _a3 b1 b3 : Rat) : Rat := a1 * q.d012 * (b1 + b3 - 1)
def ta3 (q : Quad) (a1 _a3 _b1 b3 : Rat) : Rat := a1 * q.d013 * b3

theorem DD0 : DD q a1 a3 b1 b3 q.x0 q.y0 = ta0 q a1 a3 b1 b3 := by rw [DD_eq, XX0, YY0, WW0]; unfold ta0; grind
theorem DD1 : DD q a1 a3 b1 b3 q.x1 q.y1 = ta1 q a1 a3 b1 b3 := by rw [DD_eq, XX1, YY1, WW1]; unfold ta1; grind
theorem DD2 (h : QF q a1 a3) : DD q a1 a3 b1 b3 q.x2 q.y2 = ta2 q a1 a3 b1 b3 := by rw [DD_eq, XX2 h, YY2, WW2 h]; unfold ta2; grind
theorem DD3 : DD q a1 a3 b1 b3 q.x3 q.y3 = ta3 q a1 a3 b1 b3 := by rw [DD_eq, XX3, YY3, WW3]; unfold ta3; grind
theorem NX0 : NX q p a1 a3 b1 b3 q.x0 q.y0 = ta0 q a1 a3 b1 b3 * p.x0 := by rw [NX_eq, XX0, YY0, WW0]; unfold ta0; grind
theorem NX1 : NX q p a1 a3 b1 b3 q.x1 q.y1 = ta1 q a1 a3 b1 b3 * p.x1 := by rw [NX_eq, XX1, YY1, WW1]; unfold ta1 A11; grind
theorem NX2 (h : QF q a1 a3) (k : QF p b1 b3) : NX q p a1 a3 b1 b3 q.x2 q.y2 = ta2 q a1 a3 b1 b3 * p.x2 := by
  rw [NX_eq, XX2 h, YY2, WW2 h]; unfold ta2 A11 A21
  have := k.mx
  generalize a1 * q.d012 = t
  have e : (b1 * p.x1 - p.x0) * t + (b3 * p.x3 - p.x0) * t + p.x0 * t = (b1 * p.x1 + b3 * p.x3 - p.x0) * t := by grind
  rw [e, this]; grind
theorem NX3 : NX q p a1 a3 b1 b3 q.x3 q.y3 = ta3 q a1 a3 b1 b3 * p.x3 := by rw [NX_eq, XX3, YY3, WW3]; unfold ta3 A21; grind
theorem NY0 : NY q p a1 a3 b1 b3 q.x0 q.y0 = ta0 q a1 a3 b1 b3 * p.y0 := by rw [NY_eq, XX0, YY0, WW0]; unfold ta0; grind
theorem NY1 : NY q p a1 a3 b1 b3 q.x1 q.y1 = ta1 q a1 a3 b1 b3 * p.y1 := by rw [NY_eq, XX1, YY1, WW1]; unfold ta1 A12; grind
theorem NY2 (h : QF q a1 a3) (k : QF p b1 b3) : NY q p a1 a3 b1 b3 q.x2 q.y2 = ta2 q a1 a3 b1 b3 * p.y2 := by
  rw [NY_eq, XX2 h, YY2, WW2 h]; unfold ta2 A12 A22
  have := k.my
  generalize a1 * q.d012 = t
  have e : (b1 * p.y1 - p.y0) * t + (b3 * p.y3 - p.y0) * t + p.y0 * t = (b1 * p.y1 + b3 * p.y3 - p.y0) * t := by grind
  rw [e, this]; grind
theorem NY3 : NY q p a1 a3 b1 b3 q.x3 q.y3 = ta3 q a1 a3 b1 b3 * p.y3 := by rw [NY_eq, XX3, YY3, WW3]; unfold ta3 A22; grind
end

end Geo
