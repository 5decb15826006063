/- How great the pivots of the elimination are at least: plain rational numbers. -/
import Derived.Test.YtaadklfendegfaaPm
namespace Geo

/-- four points about their middle, a corner in each quarter -/
structure Cen (c : Quad) : Prop where
  x0 : -76 ≤ c.x0 ∧ c.x0 ≤ -24
  x1 : 24 ≤ c.x1 ∧ c.x1 ≤ 76
  x2 : 24 ≤ c.x2 ∧ c.x2 ≤ 76
  x3 : -76 ≤ c.x3 ∧ c.x3 ≤ -24
  y0 : -76 ≤ c.y0 ∧ c.y0 ≤ -24
  y1 : -76 ≤ c.y1 ∧ c.y1 ≤ -24
  y2 : 24 ≤ c.y2 ∧ c.y2 ≤ 76
  y3 : 24 ≤ c.y3 ∧ c.y3 ≤ 76
  sx : c.x0 + c.x1 + c.x2 + c.x3 = 0
  sy : c.y0 + c.y1 + c.y2 + c.y3 = 0

/-- at least so far from nothing -/
def Far (b e : Rat) : Prop := b ≤ e ∨ e ≤ -b
def One4 (b e0 e1 e2 e3 : Rat) : Prop := Far b e0 ∨ Far b e1 ∨ Far b e2 ∨ Far b e3

theorem far1 {c : Quad} (h : Cen c) (a : Rat) : One4 24 (a * c.x0 + c.y0) (a * c.x1 + c.y1) (a * c.x2 + c.y2) (a * c.x3 + c.y3) := by
  by_cases ha : 0 ≤ a
  · right; right; left; left
    have := Rat.mul_nonneg ha (show 0 ≤ c.x2 by have := h.x2.1; grind)
    have := h.y2.1; grind
  · right; right; right; left
    have := Rat.mul_nonneg (show 0 ≤ -a by grind) (show 0 ≤ -c.x3 by have := h.x3.2; grind)
    have := h.y3.1; grind

theorem far2 {c : Quad} (h : Cen c) (a b : Rat) : One4 1 (a * c.x0 + b * c.y0 + 1) (a * c.x1 + b * c.y1 + 1) (a * c.x2 + b * c.y2 + 1) (a * c.x3 + b * c.y3 + 1) := by
  have e1 : a * c.x0 + a * c.x1 + a * c.x2 + a * c.x3 = 0 := by have := h.sx; grind
  have e2 : b * c.y0 + b * c.y1 + b * c.y2 + b * c.y3 = 0 := by have := h.sy; grind
  unfold One4 Far
  generalize a * c.x0 = p0 at *
  generalize a * c.x1 = p1 at *
  generalize a * c.x2 = p2 at *
  generalize a * c.x3 = p3 at *
  generalize b * c.y0 = q0 at *
  generalize b * c.y1 = q1 at *
  generalize b * c.y2 = q2 at *
  generalize b * c.y3 = q3 at *
  grind

/-- the four triangles, as weights: their signs by turns -/
structure Ks (c : Quad) (k0 k1 k2 k3 : Rat) : Prop where
  e0 : k0 = c.d123
  e1 : k1 = c.d023
  e2 : k2 = c.d013
  e3 : k3 = c.d012
  p0 : 3500 ≤ k0
  p1 : 3500 ≤ k1
  p2 : 3500 ≤ k2
  p3 : 3500 ≤ k3

section
variable {c : Quad} {k0 k1 k2 k3 : Rat}
theorem Ks.sum (h : Ks c k0 k1 k2 k3) : k0 - k1 + k2 - k3 = 0 := by
  rw [h.e0, h.e1, h.e2, h.e3]; unfold Quad.d123 Quad.d023 Quad.d013 Quad.d012 tri; grind
theorem Ks.mx (h : Ks c k0 k1 k2 k3) : k0 * c.x0 - k1 * c.x1 + k2 * c.x2 - k3 * c.x3 = 0 := by
  rw [h.e0, h.e1, h.e2, h.e3]; unfold Quad.d123 Quad.d023 Quad.d013 Quad.d012 tri; grind
theorem Ks.my (h : Ks c k0 k1 k2 k3) : k0 * c.y0 - k1 * c.y1 + k2 * c.y2 - k3 * c.y3 = 0 := by
  rw [h.e0, h.e1, h.e2, h.e3]; unfold Quad.d123 Quad.d023 Quad.d013 Quad.d012 tri; grind

/-- what the weights leave of four affine numbers less given ones -/
theorem Ks.left (h : Ks c k0 k1 k2 k3) (a b f g0 g1 g2 g3 : Rat) :
    k0 * (a * c.x0 + b * c.y0 + f - g0) - k1 * (a * c.x1 + b * c.y1 + f - g1) + k2 * (a * c.x2 + b * c.y2 + f - g2) - k3 * (a * c.x3 + b * c.y3 + f - g3) = -(k0 * g0 - k1 * g1 + k2 * g2 - k3 * g3) := by
  have e := h.sum
  have ex := h.mx
  have ey := h.my
  have h1 : k0 * (a * c.x0 + b * c.y0 + f - g0) - k1 * (a * c.x1 + b * c.y1 + f - g1) + k2 * (a * c.x2 + b * c.y2 + f - g2) - k3 * (a * c.x3 + b * c.y3 + f - g3) =
      a * (k0 * c.x0 - k1 * c.x1 + k2 * c.x2 - k3 * c.x3) + b * (k0 * c.y0 - k1 * c.y1 + k2 * c.y2 - k3 * c.y3) + f * (k0 - k1 + k2 - k3) - (k0 * g0 - k1 * g1 + k2 * g2 - k3 * g3) := by grind
  rw [h1, ex, ey, e]; grind

/-- four small numbers make a small sum -/
theorem small_sum {B e0 e1 e2 e3 : Rat} (hk : 0 < k0 ∧ 0 < k1 ∧ 0 < k2 ∧ 0 < k3) (h : ¬ One4 B e0 e1 e2 e3) : k0 * e0 - k1 * e1 + k2 * e2 - k3 * e3 < B * (k0 + k1 + k2 + k3) ∧ -(B * (k0 + k1 + k2 + k3)) < k0 * e0 - k1 * e1 + k2 * e2 - k3 * e3 := by
  obtain ⟨p0, p1, p2, p3⟩ := hk
  unfold One4 Far at h
  have a0 := Rat.mul_lt_mul_of_pos_left (show e0 < B by grind) p0
  have b0 := Rat.mul_lt_mul_of_pos_left (show -B < e0 by grind) p0
  have a1 := Rat.mul_lt_mul_of_pos_left (show e1 < B by grind) p1
  have b1 := Rat.mul_lt_mul_of_pos_left (show -B < e1 by grind) p1
  have a2 := Rat.mul_lt_mul_of_pos_left (show e2 < B by grind) p2
  have b2 := Rat.mul_lt_mul_of_pos_left (show -B < e2 by grind) p2
  have a3 := Rat.mul_lt_mul_of_pos_left (show e3 < B by grind) p3
  have b3 := Rat.mul_lt_mul_of_pos_left (show -B < e3 by grind) p3
  constructor <;> grind
end

end Geo
