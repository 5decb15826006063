/- Quadrilaterals near the square: about their middle, their triangles by pairs. -/
import Derived.Test.YtaadklfendegfaaPq
import Derived.Test.YtaadklfendegfaaEg
namespace Geo
section
variable {a b c d e f g h : Rat}
theorem pr01 (hi : In8 a b c d e f g h) : 231/250 ≤ t123 a b c d e f g h + t023 a b c d e f g h := by
  have := comb_pos 0 1 0 1 (-231/250) (by decide +kernel) hi
  unfold comb at this; grind
theorem pr03 (hi : In8 a b c d e f g h) : 231/250 ≤ t123 a b c d e f g h + t012 a b c d e f g h := by
  have := comb_pos 1 0 0 1 (-231/250) (by decide +kernel) hi
  unfold comb at this; grind
theorem pr12 (hi : In8 a b c d e f g h) : 231/250 ≤ t023 a b c d e f g h + t013 a b c d e f g h := by
  have := comb_pos 0 1 1 0 (-231/250) (by decide +kernel) hi
  unfold comb at this; grind
theorem pr23 (hi : In8 a b c d e f g h) : 231/250 ≤ t013 a b c d e f g h + t012 a b c d e f g h := by
  have := comb_pos 1 0 1 0 (-231/250) (by decide +kernel) hi
  unfold comb at this; grind
theorem pr02 (hi : In8 a b c d e f g h) : 231/250 ≤ t123 a b c d e f g h + t013 a b c d e f g h := by
  have := comb_pos 0 0 1 1 (-231/250) (by decide +kernel) hi
  unfold comb at this; grind
end

/-- a quadrilateral about its middle -/
def Quad.mx (q : Quad) : Rat := (q.x0 + q.x1 + q.x2 + q.x3) / 4
def Quad.my (q : Quad) : Rat := (q.y0 + q.y1 + q.y2 + q.y3) / 4
def Quad.cen (q : Quad) : Quad := ⟨q.x0 - q.mx, q.y0 - q.my, q.x1 - q.mx, q.y1 - q.my, q.x2 - q.mx, q.y2 - q.my, q.x3 - q.mx, q.y3 - q.my⟩
end Geo

namespace Go.Proofs.Ytaadklfendegfaa
open Go Fl Geo

theorem cen_of {q : Q8} {Q : Quad} {a1 a3 : Rat} (h : QZ q Q a1 a3) : Cen Q.cen := by
  have i0 := h.ix0
  have i1 := h.ix1
  have i2 := h.ix2
  have i3 := h.ix3
  have j0 := h.iy0
  have j1 := h.iy1
  have j2 := h.iy2
  have j3 := h.iy3
  unfold In at *
  refine ⟨?_, ?_, ?_, ?_, ?_, ?_, ?_, ?_, ?_, ?_⟩ <;> unfold Quad.cen Quad.mx Quad.my <;> dsimp only <;> first | (constructor <;> grind) | grind

theorem ks_of {q : Q8} {Q : Quad} {a1 a3 : Rat} (h : QZ q Q a1 a3) : Ks Q.cen Q.d123 Q.d023 Q.d013 Q.d012 := by
  refine ⟨?_, ?_, ?_, ?_, h.i123.1, h.i023.1, h.i013.1, h.i012.1⟩
  · unfold Quad.d123 Quad.cen tri; grind
  · unfold Quad.d023 Quad.cen tri; grind
  · unfold Quad.d013 Quad.cen tri; grind
  · unfold Quad.d012 Quad.cen tri; grind

theorem quad_qw (b : Nat → Int) (hb : ∀ i, i < 8 → -128 ≤ b i ∧ b i ≤ 127) : ∃ q Q a1 a3, QuadR (b 0) (b 1) (b 2) (b 3) (b 4) (b 5) (b 6) (b 7) q ∧ QZ q Q a1 a3 ∧ Pairs Q.d123 Q.d023 Q.d013 Q.d012 := by
  obtain ⟨z0, c0, d0⟩ := corn_ex f50_ex (by decide) (b 0) (hb 0 (by decide)).1 (hb 0 (by decide)).2
  obtain ⟨z1, c1, d1⟩ := corn_ex f50_ex (by decide) (b 1) (hb 1 (by decide)).1 (hb 1 (by decide)).2
  obtain ⟨z2, c2, d2⟩ := corn_ex f150_ex (by decide) (b 2) (hb 2 (by decide)).1 (hb 2 (by decide)).2
  obtain ⟨z3, c3, d3⟩ := corn_ex f50_ex (by decide) (b 3) (hb 3 (by decide)).1 (hb 3 (by decide)).2
  obtain ⟨z4, c4, d4⟩ := corn_ex f150_ex (by decide) (b 4) (hb 4 (by decide)).1 (hb 4 (by decide)).2
  obtain ⟨z5, c5, d5⟩ := corn_ex f150_ex (by decide) (b 5) (hb 5 (by decide)).1 (hb 5 (by decide)).2
  obtain ⟨z6, c6, d6⟩ := corn_ex f50_ex (by decide) (b 6) (hb 6 (by decide)).1 (hb 6 (by decide)).2
  obtain ⟨z7, c7, d7⟩ := corn_ex f150_ex (by decide) (b 7) (hb 7 (by decide)).1 (hb 7 (by decide)).2
  have hi : In8 ((b 0 : Rat) / 800) ((b 1 : Rat) / 800) ((b 2 : Rat) / 800) ((b 3 : Rat) / 800) ((b 4 : Rat) / 800) ((b 5 : Rat) / 800) ((b 6 : Rat) / 800) ((b 7 : Rat) / 800) :=
    ⟨small8 _ (hb 0 (by decide)).1 (hb 0 (by decide)).2, small8 _ (hb 1 (by decide)).1 (hb 1 (by decide)).2, small8 _ (hb 2 (by decide)).1 (hb 2 (by decide)).2, small8 _ (hb 3 (by decide)).1 (hb 3 (by decide)).2,
     small8 _ (hb 4 (by decide)).1 (hb 4 (by decide)).2, small8 _ (hb 5 (by decide)).1 (hb 5 (by decide)).2, small8 _ (hb 6 (by decide)).1 (hb 6 (by decide)).2, small8 _ (hb 7 (by decide)).1 (hb 7 (by decide)).2⟩
  refine ⟨⟨z0, z1, z2, z3, z4, z5, z6, z7⟩, _, _, _, ⟨c0, c1, c2, c3, c4, c5, c6, c7⟩, quad_geo hi _ rfl d0 d1 d2 d3 d4 d5 d6 d7, ?_⟩
  have p01 := pr01 hi
  have p03 := pr03 hi
  have p12 := pr12 hi
  have p23 := pr23 hi
  have p02 := pr02 hi
  generalize (b 0 : Rat) / 800 = a at *
  generalize (b 1 : Rat) / 800 = bb at *
  generalize (b 2 : Rat) / 800 = c at *
  generalize (b 3 : Rat) / 800 = d at *
  generalize (b 4 : Rat) / 800 = e at *
  generalize (b 5 : Rat) / 800 = f at *
  generalize (b 6 : Rat) / 800 = g at *
  generalize (b 7 : Rat) / 800 = h at *
  have e012 : (quadOf a bb c d e f g h).d012 = 10000 * t012 a bb c d e f g h := by unfold Quad.d012 quadOf t012 tri; grind
  have e023 : (quadOf a bb c d e f g h).d023 = 10000 * t023 a bb c d e f g h := by unfold Quad.d023 quadOf t023 tri; grind
  have e013 : (quadOf a bb c d e f g h).d013 = 10000 * t013 a bb c d e f g h := by unfold Quad.d013 quadOf t013 tri; grind
  have e123 : (quadOf a bb c d e f g h).d123 = 10000 * t123 a bb c d e f g h := by unfold Quad.d123 quadOf t123 tri; grind
  rw [e012, e023, e013, e123]
  exact ⟨by grind, by grind, by grind, by grind, by grind⟩

end Go.Proofs.Ytaadklfendegfaa
