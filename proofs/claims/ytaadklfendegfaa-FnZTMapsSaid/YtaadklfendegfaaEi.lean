/- An affine function that is small at the corners has small slopes. Plain rational numbers. -/
import Derived.Test.YtaadklfendegfaaEh
namespace Geo

theorem lean_abs {a b X Y t : Rat} (hX : 132 ≤ X) (hY : -68 ≤ Y ∧ Y ≤ 68) (h : a * X + b * Y ≤ t ∧ -t ≤ a * X + b * Y) :
    ∀ A B : Rat, (A = a ∨ A = -a) → 0 ≤ A → (B = b ∨ B = -b) → 0 ≤ B → 132 * A ≤ t + 68 * B := by
  intro A B hA hA0 hB hB0
  have h1 := Rat.mul_nonneg hA0 (show 0 ≤ X - 132 by grind)
  have h2 := Rat.mul_nonneg hB0 (show 0 ≤ 68 - Y by grind)
  have h3 := Rat.mul_nonneg hB0 (show 0 ≤ Y + 68 by grind)
  rcases hA with rfl | rfl <;> rcases hB with rfl | rfl <;> grind

theorem slope_small {a b X Y X' Y' t : Rat} (hX : 132 ≤ X) (hY : -68 ≤ Y ∧ Y ≤ 68) (hY' : 132 ≤ Y') (hX' : -68 ≤ X' ∧ X' ≤ 68) (h : a * X + b * Y ≤ 4 * t ∧ -(4 * t) ≤ a * X + b * Y) (h' : a * X' + b * Y' ≤ 4 * t ∧ -(4 * t) ≤ a * X' + b * Y') :
    (16 * a ≤ t ∧ -t ≤ 16 * a) ∧ (16 * b ≤ t ∧ -t ≤ 16 * b) := by
  have g1 := lean_abs hX hY h
  have g2 := lean_abs (a := b) (b := a) (t := 4 * t) hY' hX' ⟨by rw [Rat.add_comm]; exact h'.1, by rw [Rat.add_comm]; exact h'.2⟩
  obtain ⟨A, hA, hA0⟩ : ∃ A, (A = a ∨ A = -a) ∧ 0 ≤ A := by
    by_cases h : 0 ≤ a
    · exact ⟨a, Or.inl rfl, h⟩
    · exact ⟨-a, Or.inr rfl, by grind⟩
  obtain ⟨B, hB, hB0⟩ : ∃ B, (B = b ∨ B = -b) ∧ 0 ≤ B := by
    by_cases h : 0 ≤ b
    · exact ⟨b, Or.inl rfl, h⟩
    · exact ⟨-b, Or.inr rfl, by grind⟩
  have k1 := g1 A B hA hA0 hB hB0
  have k2 := g2 B A hB hB0 hA hA0
  clear g1 g2 h h'
  rcases hA with rfl | rfl <;> rcases hB with rfl | rfl <;> refine ⟨⟨?_, ?_⟩, ?_, ?_⟩ <;> grind

end Geo

namespace Go.Proofs.Ytaadklfendegfaa
open Go Fl Geo

/-- small at the four corners: small slopes, small in the middle -/
theorem affine_small {q : Q8} {Q : Quad} {a1 a3 : Rat} (h : QZ q Q a1 a3) {a b f t : Rat}
    (h0 : a * Q.cen.x0 + b * Q.cen.y0 + f ≤ t ∧ -t ≤ a * Q.cen.x0 + b * Q.cen.y0 + f) (h1 : a * Q.cen.x1 + b * Q.cen.y1 + f ≤ t ∧ -t ≤ a * Q.cen.x1 + b * Q.cen.y1 + f)
    (h2 : a * Q.cen.x2 + b * Q.cen.y2 + f ≤ t ∧ -t ≤ a * Q.cen.x2 + b * Q.cen.y2 + f) (h3 : a * Q.cen.x3 + b * Q.cen.y3 + f ≤ t ∧ -t ≤ a * Q.cen.x3 + b * Q.cen.y3 + f) :
    (16 * a ≤ t ∧ -t ≤ 16 * a) ∧ (16 * b ≤ t ∧ -t ≤ 16 * b) ∧ f ≤ t ∧ -t ≤ f := by
  have i0 := h.ix0
  have i1 := h.ix1
  have i2 := h.ix2
  have i3 := h.ix3
  have j0 := h.iy0
  have j1 := h.iy1
  have j2 := h.iy2
  have j3 := h.iy3
  have hc := cen_of h
  have sx := hc.sx
  have sy := hc.sy
  unfold In at *
  have d1 : Q.cen.x1 + Q.cen.x2 - Q.cen.x0 - Q.cen.x3 = Q.x1 + Q.x2 - Q.x0 - Q.x3 := by unfold Quad.cen; grind
  have d2 : Q.cen.y1 + Q.cen.y2 - Q.cen.y0 - Q.cen.y3 = Q.y1 + Q.y2 - Q.y0 - Q.y3 := by unfold Quad.cen; grind
  have d3 : Q.cen.x2 + Q.cen.x3 - Q.cen.x0 - Q.cen.x1 = Q.x2 + Q.x3 - Q.x0 - Q.x1 := by unfold Quad.cen; grind
  have d4 : Q.cen.y2 + Q.cen.y3 - Q.cen.y0 - Q.cen.y1 = Q.y2 + Q.y3 - Q.y0 - Q.y1 := by unfold Quad.cen; grind
  have e1 : a * (Q.cen.x1 + Q.cen.x2 - Q.cen.x0 - Q.cen.x3) + b * (Q.cen.y1 + Q.cen.y2 - Q.cen.y0 - Q.cen.y3) = (a * Q.cen.x1 + b * Q.cen.y1 + f) + (a * Q.cen.x2 + b * Q.cen.y2 + f) - (a * Q.cen.x0 + b * Q.cen.y0 + f) - (a * Q.cen.x3 + b * Q.cen.y3 + f) := by grind
  have e2 : a * (Q.cen.x2 + Q.cen.x3 - Q.cen.x0 - Q.cen.x1) + b * (Q.cen.y2 + Q.cen.y3 - Q.cen.y0 - Q.cen.y1) = (a * Q.cen.x2 + b * Q.cen.y2 + f) + (a * Q.cen.x3 + b * Q.cen.y3 + f) - (a * Q.cen.x0 + b * Q.cen.y0 + f) - (a * Q.cen.x1 + b * Q.cen.y1 + f) := by grind
  have e3 : 4 * f = (a * Q.cen.x0 + b * Q.cen.y0 + f) + (a * Q.cen.x1 + b * Q.cen.y1 + f) + (a * Q.cen.x2 + b * Q.cen.y2 + f) + (a * Q.cen.x3 + b * Q.cen.y3 + f) := by
    have g1 : a * Q.cen.x0 + a * Q.cen.x1 + a * Q.cen.x2 + a * Q.cen.x3 = 0 := by grind
    have g2 : b * Q.cen.y0 + b * Q.cen.y1 + b * Q.cen.y2 + b * Q.cen.y3 = 0 := by grind
    grind
  generalize a * Q.cen.x0 + b * Q.cen.y0 + f = r0 at *
  generalize a * Q.cen.x1 + b * Q.cen.y1 + f = r1 at *
  generalize a * Q.cen.x2 + b * Q.cen.y2 + f = r2 at *
  generalize a * Q.cen.x3 + b * Q.cen.y3 + f = r3 at *
  have s := slope_small (a := a) (b := b) (X := Q.cen.x1 + Q.cen.x2 - Q.cen.x0 - Q.cen.x3) (Y := Q.cen.y1 + Q.cen.y2 - Q.cen.y0 - Q.cen.y3) (X' := Q.cen.x2 + Q.cen.x3 - Q.cen.x0 - Q.cen.x1) (Y' := Q.cen.y2 + Q.cen.y3 - Q.cen.y0 - Q.cen.y1) (t := t)
    (by rw [d1]; grind) (by rw [d2]; constructor <;> grind) (by rw [d4]; grind) (by rw [d3]; constructor <;> grind) (by rw [e1]; constructor <;> grind) (by rw [e2]; constructor <;> grind)
  exact ⟨s.1, s.2, by grind, by grind⟩

end Go.Proofs.Ytaadklfendegfaa
