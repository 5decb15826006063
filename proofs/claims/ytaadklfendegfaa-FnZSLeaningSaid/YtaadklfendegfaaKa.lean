/- Quadrilaterals near a square, their maps, how far a pixel strays within a module: rational numbers, and floats near them. -/
import Derived.Test.YtaadklfendegfaaFlB

/- Quadrilaterals near a square: how large their triangles are, and how they stand to each other. Plain rational numbers. -/
namespace Geo

/-- how far a corner may lie from its place, at a side of 1 -/
def rr : Rat := 1601/10000
def bx (b : Bool) : Rat := if b then rr else -rr

theorem bx_t : bx true = rr := rfl
theorem bx_f : bx false = -rr := rfl

theorem aff_pos (A B t : Rat) (h1 : 0 ≤ A + B * bx false) (h2 : 0 ≤ A + B * bx true) (hl : -rr ≤ t) (hu : t ≤ rr) : 0 ≤ A + B * t := by
  rw [bx_f] at h1
  rw [bx_t] at h2
  by_cases hB : 0 ≤ B
  · have := Rat.mul_le_mul_of_nonneg_left hl hB
    grind
  · have h3 : 0 ≤ -B := by grind
    have := Rat.mul_le_mul_of_nonneg_left hu h3
    grind

/-- what is affine in each of eight numbers is least at a corner -/
theorem multi8 (F : Rat → Rat → Rat → Rat → Rat → Rat → Rat → Rat → Rat)
    (a1 : ∀ p q r s u v w t, F t p q r s u v w = F 0 p q r s u v w + (F 1 p q r s u v w - F 0 p q r s u v w) * t)
    (a2 : ∀ p q r s u v w t, F p t q r s u v w = F p 0 q r s u v w + (F p 1 q r s u v w - F p 0 q r s u v w) * t)
    (a3 : ∀ p q r s u v w t, F p q t r s u v w = F p q 0 r s u v w + (F p q 1 r s u v w - F p q 0 r s u v w) * t)
    (a4 : ∀ p q r s u v w t, F p q r t s u v w = F p q r 0 s u v w + (F p q r 1 s u v w - F p q r 0 s u v w) * t)
    (a5 : ∀ p q r s u v w t, F p q r s t u v w = F p q r s 0 u v w + (F p q r s 1 u v w - F p q r s 0 u v w) * t)
    (a6 : ∀ p q r s u v w t, F p q r s u t v w = F p q r s u 0 v w + (F p q r s u 1 v w - F p q r s u 0 v w) * t)
    (a7 : ∀ p q r s u v w t, F p q r s u v t w = F p q r s u v 0 w + (F p q r s u v 1 w - F p q r s u v 0 w) * t)
    (a8 : ∀ p q r s u v w t, F p q r s u v w t = F p q r s u v w 0 + (F p q r s u v w 1 - F p q r s u v w 0) * t)
    (hc : ∀ b1 b2 b3 b4 b5 b6 b7 b8 : Bool, 0 ≤ F (bx b1) (bx b2) (bx b3) (bx b4) (bx b5) (bx b6) (bx b7) (bx b8))
    (d1 d2 d3 d4 d5 d6 d7 d8 : Rat) (h1 : -rr ≤ d1 ∧ d1 ≤ rr) (h2 : -rr ≤ d2 ∧ d2 ≤ rr) (h3 : -rr ≤ d3 ∧ d3 ≤ rr) (h4 : -rr ≤ d4 ∧ d4 ≤ rr) (h5 : -rr ≤ d5 ∧ d5 ≤ rr) (h6 : -rr ≤ d6 ∧ d6 ≤ rr) (h7 : -rr ≤ d7 ∧ d7 ≤ rr) (h8 : -rr ≤ d8 ∧ d8 ≤ rr) :
    0 ≤ F d1 d2 d3 d4 d5 d6 d7 d8 := by
  have s1 : ∀ b2 b3 b4 b5 b6 b7 b8 : Bool, 0 ≤ F d1 (bx b2) (bx b3) (bx b4) (bx b5) (bx b6) (bx b7) (bx b8) := by
    intro b2 b3 b4 b5 b6 b7 b8
    rw [a1]; exact aff_pos _ _ _ (by rw [← a1]; exact hc ..) (by rw [← a1]; exact hc ..) h1.1 h1.2
  have s2 : ∀ b3 b4 b5 b6 b7 b8 : Bool, 0 ≤ F d1 d2 (bx b3) (bx b4) (bx b5) (bx b6) (bx b7) (bx b8) := by
    intro b3 b4 b5 b6 b7 b8
    rw [a2]; exact aff_pos _ _ _ (by rw [← a2]; exact s1 ..) (by rw [← a2]; exact s1 ..) h2.1 h2.2
  have s3 : ∀ b4 b5 b6 b7 b8 : Bool, 0 ≤ F d1 d2 d3 (bx b4) (bx b5) (bx b6) (bx b7) (bx b8) := by
    intro b4 b5 b6 b7 b8
    rw [a3]; exact aff_pos _ _ _ (by rw [← a3]; exact s2 ..) (by rw [← a3]; exact s2 ..) h3.1 h3.2
  have s4 : ∀ b5 b6 b7 b8 : Bool, 0 ≤ F d1 d2 d3 d4 (bx b5) (bx b6) (bx b7) (bx b8) := by
    intro b5 b6 b7 b8
    rw [a4]; exact aff_pos _ _ _ (by rw [← a4]; exact s3 ..) (by rw [← a4]; exact s3 ..) h4.1 h4.2
  have s5 : ∀ b6 b7 b8 : Bool, 0 ≤ F d1 d2 d3 d4 d5 (bx b6) (bx b7) (bx b8) := by
    intro b6 b7 b8
    rw [a5]; exact aff_pos _ _ _ (by rw [← a5]; exact s4 ..) (by rw [← a5]; exact s4 ..) h5.1 h5.2
  have s6 : ∀ b7 b8 : Bool, 0 ≤ F d1 d2 d3 d4 d5 d6 (bx b7) (bx b8) := by
    intro b7 b8
    rw [a6]; exact aff_pos _ _ _ (by rw [← a6]; exact s5 ..) (by rw [← a6]; exact s5 ..) h6.1 h6.2
  have s7 : ∀ b8 : Bool, 0 ≤ F d1 d2 d3 d4 d5 d6 d7 (bx b8) := by
    intro b8
    rw [a7]; exact aff_pos _ _ _ (by rw [← a7]; exact s6 ..) (by rw [← a7]; exact s6 ..) h7.1 h7.2
  rw [a8]; exact aff_pos _ _ _ (by rw [← a8]; exact s7 _) (by rw [← a8]; exact s7 _) h8.1 h8.2

/-- twice the area of a triangle, with its sign -/
def tri (x0 y0 x1 y1 x2 y2 : Rat) : Rat := (x1 - x0) * (y2 - y0) - (x2 - x0) * (y1 - y0)

-- the four triangles of the unit square's corners, moved
def t012 (a b c d e f _g _h : Rat) : Rat := tri a b (1 + c) d (1 + e) (1 + f)
def t023 (a b _c _d e f g h : Rat) : Rat := tri a b (1 + e) (1 + f) g (1 + h)
def t013 (a b c d _e _f g h : Rat) : Rat := tri a b (1 + c) d g (1 + h)
def t123 (_a _b c d e f g h : Rat) : Rat := tri (1 + c) d (1 + e) (1 + f) g (1 + h)

/-- eight numbers within the bound -/
def In8 (a b c d e f g h : Rat) : Prop :=
  (-rr ≤ a ∧ a ≤ rr) ∧ (-rr ≤ b ∧ b ≤ rr) ∧ (-rr ≤ c ∧ c ≤ rr) ∧ (-rr ≤ d ∧ d ≤ rr) ∧ (-rr ≤ e ∧ e ≤ rr) ∧ (-rr ≤ f ∧ f ≤ rr) ∧ (-rr ≤ g ∧ g ≤ rr) ∧ (-rr ≤ h ∧ h ≤ rr)

/-- a combination of the triangles and a number -/
def comb (k0 k1 k2 k3 k : Rat) (a b c d e f g h : Rat) : Rat := k0 * t012 a b c d e f g h + k1 * t023 a b c d e f g h + k2 * t013 a b c d e f g h + k3 * t123 a b c d e f g h + k

theorem comb_pos (k0 k1 k2 k3 k : Rat) (hc : ∀ b1 b2 b3 b4 b5 b6 b7 b8 : Bool, 0 ≤ comb k0 k1 k2 k3 k (bx b1) (bx b2) (bx b3) (bx b4) (bx b5) (bx b6) (bx b7) (bx b8)) {a b c d e f g h : Rat} (hi : In8 a b c d e f g h) : 0 ≤ comb k0 k1 k2 k3 k a b c d e f g h := by
  obtain ⟨h1, h2, h3, h4, h5, h6, h7, h8⟩ := hi
  refine multi8 (comb k0 k1 k2 k3 k) ?_ ?_ ?_ ?_ ?_ ?_ ?_ ?_ hc a b c d e f g h h1 h2 h3 h4 h5 h6 h7 h8 <;>
    (intro p q r s u v w t; unfold comb t012 t023 t013 t123 tri; grind)

section
variable {a b c d e f g h : Rat}
theorem lo012 (hi : In8 a b c d e f g h) : 7/20 ≤ t012 a b c d e f g h := by
  have := comb_pos 1 0 0 0 (-7/20) (by decide +kernel) hi
  unfold comb at this; grind
theorem lo023 (hi : In8 a b c d e f g h) : 7/20 ≤ t023 a b c d e f g h := by
  have := comb_pos 0 1 0 0 (-7/20) (by decide +kernel) hi
  unfold comb at this; grind
theorem lo013 (hi : In8 a b c d e f g h) : 7/20 ≤ t013 a b c d e f g h := by
  have := comb_pos 0 0 1 0 (-7/20) (by decide +kernel) hi
  unfold comb at this; grind
theorem lo123 (hi : In8 a b c d e f g h) : 7/20 ≤ t123 a b c d e f g h := by
  have := comb_pos 0 0 0 1 (-7/20) (by decide +kernel) hi
  unfold comb at this; grind
theorem hi012 (hi : In8 a b c d e f g h) : t012 a b c d e f g h ≤ 7/4 := by
  have := comb_pos (-1) (0) (0) (0) (7/4) (by decide +kernel) hi
  unfold comb at this; grind
theorem hi023 (hi : In8 a b c d e f g h) : t023 a b c d e f g h ≤ 7/4 := by
  have := comb_pos (0) (-1) (0) (0) (7/4) (by decide +kernel) hi
  unfold comb at this; grind
theorem hi013 (hi : In8 a b c d e f g h) : t013 a b c d e f g h ≤ 7/4 := by
  have := comb_pos (0) (0) (-1) (0) (7/4) (by decide +kernel) hi
  unfold comb at this; grind
theorem hi123 (hi : In8 a b c d e f g h) : t123 a b c d e f g h ≤ 7/4 := by
  have := comb_pos (0) (0) (0) (-1) (7/4) (by decide +kernel) hi
  unfold comb at this; grind
theorem q012x023 (hi : In8 a b c d e f g h) : 21/100 * t023 a b c d e f g h ≤ t012 a b c d e f g h := by
  have := comb_pos 1 (-(21/100)) 0 0 0 (by decide +kernel) hi
  unfold comb at this; grind
theorem q012x013 (hi : In8 a b c d e f g h) : 7/20 * t013 a b c d e f g h ≤ t012 a b c d e f g h := by
  have := comb_pos 1 0 (-(7/20)) 0 0 (by decide +kernel) hi
  unfold comb at this; grind
theorem q012x123 (hi : In8 a b c d e f g h) : 7/20 * t123 a b c d e f g h ≤ t012 a b c d e f g h := by
  have := comb_pos 1 0 0 (-(7/20)) 0 (by decide +kernel) hi
  unfold comb at this; grind
theorem q023x012 (hi : In8 a b c d e f g h) : 21/100 * t012 a b c d e f g h ≤ t023 a b c d e f g h := by
  have := comb_pos (-(21/100)) 1 0 0 0 (by decide +kernel) hi
  unfold comb at this; grind
theorem q023x013 (hi : In8 a b c d e f g h) : 7/20 * t013 a b c d e f g h ≤ t023 a b c d e f g h := by
  have := comb_pos 0 1 (-(7/20)) 0 0 (by decide +kernel) hi
  unfold comb at this; grind
theorem q023x123 (hi : In8 a b c d e f g h) : 7/20 * t123 a b c d e f g h ≤ t023 a b c d e f g h := by
  have := comb_pos 0 1 0 (-(7/20)) 0 (by decide +kernel) hi
  unfold comb at this; grind
theorem q013x012 (hi : In8 a b c d e f g h) : 7/20 * t012 a b c d e f g h ≤ t013 a b c d e f g h := by
  have := comb_pos (-(7/20)) 0 1 0 0 (by decide +kernel) hi
  unfold comb at this; grind
theorem q013x023 (hi : In8 a b c d e f g h) : 7/20 * t023 a b c d e f g h ≤ t013 a b c d e f g h := by
  have := comb_pos 0 (-(7/20)) 1 0 0 (by decide +kernel) hi
  unfold comb at this; grind
theorem q013x123 (hi : In8 a b c d e f g h) : 21/100 * t123 a b c d e f g h ≤ t013 a b c d e f g h := by
  have := comb_pos 0 0 1 (-(21/100)) 0 (by decide +kernel) hi
  unfold comb at this; grind
theorem q123x012 (hi : In8 a b c d e f g h) : 7/20 * t012 a b c d e f g h ≤ t123 a b c d e f g h := by
  have := comb_pos (-(7/20)) 0 0 1 0 (by decide +kernel) hi
  unfold comb at this; grind
theorem q123x023 (hi : In8 a b c d e f g h) : 7/20 * t023 a b c d e f g h ≤ t123 a b c d e f g h := by
  have := comb_pos 0 (-(7/20)) 0 1 0 (by decide +kernel) hi
  unfold comb at this; grind
theorem q123x013 (hi : In8 a b c d e f g h) : 21/100 * t013 a b c d e f g h ≤ t123 a b c d e f g h := by
  have := comb_pos 0 0 (-(21/100)) 1 0 (by decide +kernel) hi
  unfold comb at this; grind
end

end Geo

/- The map that takes a quadrilateral's corners to another's, and lines to lines: plain rational numbers. -/
namespace Geo

structure Quad where
  (x0 y0 x1 y1 x2 y2 x3 y3 : Rat)

def Quad.d012 (q : Quad) : Rat := tri q.x0 q.y0 q.x1 q.y1 q.x2 q.y2
def Quad.d023 (q : Quad) : Rat := tri q.x0 q.y0 q.x2 q.y2 q.x3 q.y3
def Quad.d013 (q : Quad) : Rat := tri q.x0 q.y0 q.x1 q.y1 q.x3 q.y3
def Quad.d123 (q : Quad) : Rat := tri q.x1 q.y1 q.x2 q.y2 q.x3 q.y3

/-- a quadrilateral with the ratios of its triangles, and what is known of them -/
structure QF (q : Quad) (a1 a3 : Rat) : Prop where
  h1 : a1 * q.d123 = q.d023
  h3 : a3 * q.d123 = q.d012
  pos : 0 < q.d123

theorem QF.h2 {q : Quad} {a1 a3 : Rat} (h : QF q a1 a3) : (a1 + a3 - 1) * q.d123 = q.d013 := by
  have h1 := h.h1
  have h3 := h.h3
  unfold Quad.d123 Quad.d023 Quad.d013 Quad.d012 tri at *
  grind

theorem cancel {a b c : Rat} (hc : 0 < c) (h : a * c = b * c) : a = b := by
  have : (a - b) * c = 0 := by grind
  rcases Rat.mul_eq_zero.1 this with h | h <;> grind

theorem QF.mx {q : Quad} {a1 a3 : Rat} (h : QF q a1 a3) : a1 * q.x1 + a3 * q.x3 - q.x0 = (a1 + a3 - 1) * q.x2 := by
  apply cancel h.pos
  have e1 : (a1 * q.x1 + a3 * q.x3 - q.x0) * q.d123 = (a1 * q.d123) * q.x1 + (a3 * q.d123) * q.x3 - q.x0 * q.d123 := by grind
  have e2 : (a1 + a3 - 1) * q.x2 * q.d123 = ((a1 * q.d123) + (a3 * q.d123) - q.d123) * q.x2 := by grind
  rw [e1, e2, h.h1, h.h3]
  unfold Quad.d123 Quad.d023 Quad.d012 tri
  grind
theorem QF.my {q : Quad} {a1 a3 : Rat} (h : QF q a1 a3) : a1 * q.y1 + a3 * q.y3 - q.y0 = (a1 + a3 - 1) * q.y2 := by
  apply cancel h.pos
  have e1 : (a1 * q.y1 + a3 * q.y3 - q.y0) * q.d123 = (a1 * q.d123) * q.y1 + (a3 * q.d123) * q.y3 - q.y0 * q.d123 := by grind
  have e2 : (a1 + a3 - 1) * q.y2 * q.d123 = ((a1 * q.d123) + (a3 * q.d123) - q.d123) * q.y2 := by grind
  rw [e1, e2, h.h1, h.h3]
  unfold Quad.d123 Quad.d023 Quad.d012 tri
  grind

-- the square's way to the quadrilateral
def A11 (q : Quad) (a1 : Rat) : Rat := a1 * q.x1 - q.x0
def A21 (q : Quad) (a3 : Rat) : Rat := a3 * q.x3 - q.x0
def A12 (q : Quad) (a1 : Rat) : Rat := a1 * q.y1 - q.y0
def A22 (q : Quad) (a3 : Rat) : Rat := a3 * q.y3 - q.y0
-- the way back
def O11 (q : Quad) (_a1 a3 : Rat) : Rat := a3 * (q.y3 - q.y0)
def O21 (q : Quad) (_a1 a3 : Rat) : Rat := a3 * (q.x0 - q.x3)
def O31 (q : Quad) (_a1 a3 : Rat) : Rat := a3 * (q.x3 * q.y0 - q.y3 * q.x0)
def O12 (q : Quad) (a1 _a3 : Rat) : Rat := a1 * (q.y0 - q.y1)
def O22 (q : Quad) (a1 _a3 : Rat) : Rat := a1 * (q.x1 - q.x0)
def O32 (q : Quad) (a1 _a3 : Rat) : Rat := a1 * (q.y1 * q.x0 - q.x1 * q.y0)
def O13 (q : Quad) (a1 a3 : Rat) : Rat := A12 q a1 * (a3 - 1) - (a1 - 1) * A22 q a3
def O23 (q : Quad) (a1 a3 : Rat) : Rat := (a1 - 1) * A21 q a3 - A11 q a1 * (a3 - 1)
def O33 (q : Quad) (a1 a3 : Rat) : Rat := A11 q a1 * A22 q a3 - A12 q a1 * A21 q a3

def XX (q : Quad) (a1 a3 x y : Rat) : Rat := O11 q a1 a3 * x + O21 q a1 a3 * y + O31 q a1 a3
def YY (q : Quad) (a1 a3 x y : Rat) : Rat := O12 q a1 a3 * x + O22 q a1 a3 * y + O32 q a1 a3
def WW (q : Quad) (a1 a3 x y : Rat) : Rat := O13 q a1 a3 * x + O23 q a1 a3 * y + O33 q a1 a3

section
variable {q : Quad} {a1 a3 : Rat}
theorem XX0 : XX q a1 a3 q.x0 q.y0 = 0 := by unfold XX O11 O21 O31; grind
theorem YY0 : YY q a1 a3 q.x0 q.y0 = 0 := by unfold YY O12 O22 O32; grind
theorem WW0 : WW q a1 a3 q.x0 q.y0 = a1 * a3 * q.d013 := by unfold WW O13 O23 O33 A11 A12 A21 A22 Quad.d013 tri; grind
theorem XX1 : XX q a1 a3 q.x1 q.y1 = a3 * q.d013 := by unfold XX O11 O21 O31 Quad.d013 tri; grind
theorem YY1 : YY q a1 a3 q.x1 q.y1 = 0 := by unfold YY O12 O22 O32; grind
theorem WW1 : WW q a1 a3 q.x1 q.y1 = a3 * q.d013 := by unfold WW O13 O23 O33 A11 A12 A21 A22 Quad.d013 tri; grind
theorem XX3 : XX q a1 a3 q.x3 q.y3 = 0 := by unfold XX O11 O21 O31; grind
theorem YY3 : YY q a1 a3 q.x3 q.y3 = a1 * q.d013 := by unfold YY O12 O22 O32 Quad.d013 tri; grind
theorem WW3 : WW q a1 a3 q.x3 q.y3 = a1 * q.d013 := by unfold WW O13 O23 O33 A11 A12 A21 A22 Quad.d013 tri; grind
theorem YY2 : YY q a1 a3 q.x2 q.y2 = a1 * q.d012 := by unfold YY O12 O22 O32 Quad.d012 tri; grind
theorem XX2 (h : QF q a1 a3) : XX q a1 a3 q.x2 q.y2 = a1 * q.d012 := by
  have e : XX q a1 a3 q.x2 q.y2 = a3 * q.d023 := by unfold XX O11 O21 O31 Quad.d023 tri; grind
  rw [e, ← h.h1, ← h.h3]; grind
theorem WW2 (h : QF q a1 a3) : WW q a1 a3 q.x2 q.y2 = a1 * q.d012 := by
  have e : WW q a1 a3 q.x2 q.y2 = - (a1 * a3 * q.d123) + a1 * q.d012 + a3 * q.d023 := by unfold WW O13 O23 O33 A11 A12 A21 A22 Quad.d012 Quad.d023 Quad.d123 tri; grind
  rw [e, ← h.h1, ← h.h3]; grind
end

-- the whole map's nine numbers
def H11 (q p : Quad) (a1 a3 b1 b3 : Rat) : Rat := A11 p b1 * O11 q a1 a3 + A21 p b3 * O12 q a1 a3 + p.x0 * O13 q a1 a3
def H21 (q p : Quad) (a1 a3 b1 b3 : Rat) : Rat := A11 p b1 * O21 q a1 a3 + A21 p b3 * O22 q a1 a3 + p.x0 * O23 q a1 a3
def H31 (q p : Quad) (a1 a3 b1 b3 : Rat) : Rat := A11 p b1 * O31 q a1 a3 + A21 p b3 * O32 q a1 a3 + p.x0 * O33 q a1 a3
def H12 (q p : Quad) (a1 a3 b1 b3 : Rat) : Rat := A12 p b1 * O11 q a1 a3 + A22 p b3 * O12 q a1 a3 + p.y0 * O13 q a1 a3
def H22 (q p : Quad) (a1 a3 b1 b3 : Rat) : Rat := A12 p b1 * O21 q a1 a3 + A22 p b3 * O22 q a1 a3 + p.y0 * O23 q a1 a3
def H32 (q p : Quad) (a1 a3 b1 b3 : Rat) : Rat := A12 p b1 * O31 q a1 a3 + A22 p b3 * O32 q a1 a3 + p.y0 * O33 q a1 a3
def H13 (q : Quad) (a1 a3 b1 b3 : Rat) : Rat := (b1 - 1) * O11 q a1 a3 + (b3 - 1) * O12 q a1 a3 + 1 * O13 q a1 a3
def H23 (q : Quad) (a1 a3 b1 b3 : Rat) : Rat := (b1 - 1) * O21 q a1 a3 + (b3 - 1) * O22 q a1 a3 + 1 * O23 q a1 a3
def H33 (q : Quad) (a1 a3 b1 b3 : Rat) : Rat := (b1 - 1) * O31 q a1 a3 + (b3 - 1) * O32 q a1 a3 + 1 * O33 q a1 a3

def NX (q p : Quad) (a1 a3 b1 b3 x y : Rat) : Rat := H11 q p a1 a3 b1 b3 * x + H21 q p a1 a3 b1 b3 * y + H31 q p a1 a3 b1 b3
def NY (q p : Quad) (a1 a3 b1 b3 x y : Rat) : Rat := H12 q p a1 a3 b1 b3 * x + H22 q p a1 a3 b1 b3 * y + H32 q p a1 a3 b1 b3
def DD (q : Quad) (a1 a3 b1 b3 x y : Rat) : Rat := H13 q a1 a3 b1 b3 * x + H23 q a1 a3 b1 b3 * y + H33 q a1 a3 b1 b3

section
variable {q p : Quad} {a1 a3 b1 b3 : Rat}
theorem NX_eq (x y : Rat) : NX q p a1 a3 b1 b3 x y = A11 p b1 * XX q a1 a3 x y + A21 p b3 * YY q a1 a3 x y + p.x0 * WW q a1 a3 x y := by unfold NX H11 H21 H31 XX YY WW; grind
theorem NY_eq (x y : Rat) : NY q p a1 a3 b1 b3 x y = A12 p b1 * XX q a1 a3 x y + A22 p b3 * YY q a1 a3 x y + p.y0 * WW q a1 a3 x y := by unfold NY H12 H22 H32 XX YY WW; grind
theorem DD_eq (x y : Rat) : DD q a1 a3 b1 b3 x y = (b1 - 1) * XX q a1 a3 x y + (b3 - 1) * YY q a1 a3 x y + WW q a1 a3 x y := by unfold DD H13 H23 H33 XX YY WW; grind

/-- the weights at the corners -/
def ta0 (q : Quad) (a1 a3 _b1 _b3 : Rat) : Rat := a1 * a3 * q.d013
def ta1 (q : Quad) (_a1 a3 b1 _b3 : Rat) : Rat := a3 * q.d013 * b1
def ta2 (q : Quad) (a1 _a3 b1 b3 : Rat) : Rat := a1 * q.d012 * (b1 + b3 - 1)
def ta3 (q : Quad) (a1 _a3 _b1 b3 : Rat) : Rat := a1 * q.d013 * b3

theorem DD0 : DD q a1 a3 b1 b3 q.x0 q.y0 = ta0 q a1 a3 b1 b3 := by rw [DD_eq, XX0, YY0, WW0]; unfold ta0; grind
theorem DD1 : DD q a1 a3 b1 b3 q.x1 q.y1 = ta1 q a1 a3 b1 b3 := by rw [DD_eq, XX1, YY1, WW1]; unfold ta1; grind
theorem DD2 (h : QF q a1 a3) : DD q a1 a3 b1 b3 q.x2 q.y2 = ta2 q a1 a3 b1 b3 := by rw [DD_eq, XX2 h, YY2, WW2 h]; unfold ta2; grind
theorem DD3 : DD q a1 a3 b1 b3 q.x3 q.y3 = ta3 q a1 a3 b1 b3 := by rw [DD_eq, XX3, YY3, WW3]; unfold ta3; grind
theorem NX0 : NX q p a1 a3 b1 b3 q.x0 q.y0 = ta0 q a1 a3 b1 b3 * p.x0 := by rw [NX_eq, XX0, YY0, WW0]; unfold ta0; grind
theorem NX1 : NX q p a1 a3 b1 b3 q.x1 q.y1 = ta1 q a1 a3 b1 b3 * p.x1 := by rw [NX_eq, XX1, YY1, WW1]; unfold ta1 A11; grind
theorem NX2 (h : QF q a1 a3) (k : QF p b1 b3) : NX q p a1 a3 b1 b3 q.x2 q.y2 = ta2 q a1 a3 b1 b3 * p.x2 := by
  rw [NX_eq, XX2 h, YY2, WW2 h]; unfold ta2 A11 A21
  have := k.mx
  generalize a1 * q.d012 = t
  have e : (b1 * p.x1 - p.x0) * t + (b3 * p.x3 - p.x0) * t + p.x0 * t = (b1 * p.x1 + b3 * p.x3 - p.x0) * t := by grind
  rw [e, this]; grind
theorem NX3 : NX q p a1 a3 b1 b3 q.x3 q.y3 = ta3 q a1 a3 b1 b3 * p.x3 := by rw [NX_eq, XX3, YY3, WW3]; unfold ta3 A21; grind
theorem NY0 : NY q p a1 a3 b1 b3 q.x0 q.y0 = ta0 q a1 a3 b1 b3 * p.y0 := by rw [NY_eq, XX0, YY0, WW0]; unfold ta0; grind
theorem NY1 : NY q p a1 a3 b1 b3 q.x1 q.y1 = ta1 q a1 a3 b1 b3 * p.y1 := by rw [NY_eq, XX1, YY1, WW1]; unfold ta1 A12; grind
theorem NY2 (h : QF q a1 a3) (k : QF p b1 b3) : NY q p a1 a3 b1 b3 q.x2 q.y2 = ta2 q a1 a3 b1 b3 * p.y2 := by
  rw [NY_eq, XX2 h, YY2, WW2 h]; unfold ta2 A12 A22
  have := k.my
  generalize a1 * q.d012 = t
  have e : (b1 * p.y1 - p.y0) * t + (b3 * p.y3 - p.y0) * t + p.y0 * t = (b1 * p.y1 + b3 * p.y3 - p.y0) * t := by grind
  rw [e, this]; grind
theorem NY3 : NY q p a1 a3 b1 b3 q.x3 q.y3 = ta3 q a1 a3 b1 b3 * p.y3 := by rw [NY_eq, XX3, YY3, WW3]; unfold ta3 A22; grind
end

end Geo

/- The floats of the map between two quadrilaterals with corners at eighths stand near the exact numbers. -/
namespace Go.Proofs.Ytaadklfendegfaa
open Go Fl Geo

def In (v lo hi : Rat) : Prop := lo ≤ v ∧ v ≤ hi
theorem In.bd {v lo hi B : Rat} (h : In v lo hi) (h1 : -B ≤ lo) (h2 : hi ≤ B) : Bd v B := by unfold In Bd at *; grind

/-- a quadrilateral of floats with corners at eighths, near a square of a side of 100 -/
structure QZ (q : Q8) (Q : Quad) (a1 a3 : Rat) : Prop where
  x0 : Ex q.x0 Q.x0 3 1400
  y0 : Ex q.y0 Q.y0 3 1400
  x1 : Ex q.x1 Q.x1 3 1400
  y1 : Ex q.y1 Q.y1 3 1400
  x2 : Ex q.x2 Q.x2 3 1400
  y2 : Ex q.y2 Q.y2 3 1400
  x3 : Ex q.x3 Q.x3 3 1400
  y3 : Ex q.y3 Q.y3 3 1400
  F : QF Q a1 a3
  ix0 : In Q.x0 33 67
  iy0 : In Q.y0 33 67
  ix1 : In Q.x1 133 167
  iy1 : In Q.y1 33 67
  ix2 : In Q.x2 133 167
  iy2 : In Q.y2 133 167
  ix3 : In Q.x3 33 67
  iy3 : In Q.y3 133 167
  i012 : In Q.d012 3500 17500
  i023 : In Q.d023 3500 17500
  i013 : In Q.d013 3500 17500
  i123 : In Q.d123 3500 17500
  r1 : In a1 (7/20) (20/7)
  r3 : In a3 (7/20) (20/7)
  r2 : In (a1 + a3 - 1) (21/100) (100/21)
  r13 : 21/100 * a1 ≤ a3
  r31 : 21/100 * a3 ≤ a1
  u1 : 7/20 * (a1 + a3 - 1) ≤ a1
  u1' : 7/20 * a1 ≤ a1 + a3 - 1
  u3 : 7/20 * (a1 + a3 - 1) ≤ a3
  u3' : 7/20 * a3 ≤ a1 + a3 - 1

theorem mul_in {a b la ha lb hb : Rat} (h : In a la ha) (k : In b lb hb) (h0 : 0 ≤ la) (k0 : 0 ≤ lb) : In (a * b) (la * lb) (ha * hb) := by
  obtain ⟨h1, h2⟩ := h
  obtain ⟨k1, k2⟩ := k
  have p1 := Rat.mul_nonneg (a := a - la) (b := b) (by grind) (by grind)
  have p2 := Rat.mul_nonneg (a := la) (b := b - lb) h0 (by grind)
  have p3 := Rat.mul_nonneg (a := ha - a) (b := b) (by grind) (by grind)
  have p4 := Rat.mul_nonneg (a := ha) (b := hb - b) (by grind) (by grind)
  unfold In
  constructor <;> grind

section
variable {q : Q8} {Q : Quad} {a1 a3 : Rat} (h : QZ q Q a1 a3)
include h
theorem bA11 : Bd (A11 Q a1) 445 := by
  have := mul_in h.r1 h.ix1 (by decide +kernel) (by decide +kernel)
  have := h.ix0
  unfold A11 Bd In at *; constructor <;> grind
theorem bA22 : Bd (A22 Q a3) 445 := by
  have := mul_in h.r3 h.iy3 (by decide +kernel) (by decide +kernel)
  have := h.iy0
  unfold A22 Bd In at *; constructor <;> grind
theorem bA21 : Bd (A21 Q a3) 159 := by
  have := mul_in h.r3 h.ix3 (by decide +kernel) (by decide +kernel)
  have := h.ix0
  unfold A21 Bd In at *; constructor <;> grind
theorem bA12 : Bd (A12 Q a1) 159 := by
  have := mul_in h.r1 h.iy1 (by decide +kernel) (by decide +kernel)
  have := h.iy0
  unfold A12 Bd In at *; constructor <;> grind
theorem bA13 : Bd (a1 - 1) (13/7) := by
  have := h.r1
  unfold Bd In at *; constructor <;> grind
theorem bA23 : Bd (a3 - 1) (13/7) := by
  have := h.r3
  unfold Bd In at *; constructor <;> grind
theorem bO11 : Bd (O11 Q a1 a3) 383 := by
  have := Bd.mul (h.r3.bd (B := 20/7) (by decide +kernel) (by decide +kernel)) (show Bd (Q.y3 - Q.y0) 134 by have := h.iy3; have := h.iy0; unfold In Bd at *; constructor <;> grind)
  unfold O11; exact this.mono (by decide +kernel)
theorem bO22 : Bd (O22 Q a1 a3) 383 := by
  have := Bd.mul (h.r1.bd (B := 20/7) (by decide +kernel) (by decide +kernel)) (show Bd (Q.x1 - Q.x0) 134 by have := h.ix1; have := h.ix0; unfold In Bd at *; constructor <;> grind)
  unfold O22; exact this.mono (by decide +kernel)
theorem bO21 : Bd (O21 Q a1 a3) 98 := by
  have := Bd.mul (h.r3.bd (B := 20/7) (by decide +kernel) (by decide +kernel)) (show Bd (Q.x0 - Q.x3) 34 by have := h.ix3; have := h.ix0; unfold In Bd at *; constructor <;> grind)
  unfold O21; exact this.mono (by decide +kernel)
theorem bO12 : Bd (O12 Q a1 a3) 98 := by
  have := Bd.mul (h.r1.bd (B := 20/7) (by decide +kernel) (by decide +kernel)) (show Bd (Q.y0 - Q.y1) 34 by have := h.iy1; have := h.iy0; unfold In Bd at *; constructor <;> grind)
  unfold O12; exact this.mono (by decide +kernel)
theorem bO31 : Bd (O31 Q a1 a3) 29000 := by
  have m1 := mul_in h.ix3 h.iy0 (by decide +kernel) (by decide +kernel)
  have m2 := mul_in h.iy3 h.ix0 (by decide +kernel) (by decide +kernel)
  have := Bd.mul (h.r3.bd (B := 20/7) (by decide +kernel) (by decide +kernel)) (show Bd (Q.x3 * Q.y0 - Q.y3 * Q.x0) 10100 by unfold In Bd at *; constructor <;> grind)
  unfold O31; exact this.mono (by decide +kernel)
theorem bO32 : Bd (O32 Q a1 a3) 29000 := by
  have m1 := mul_in h.iy1 h.ix0 (by decide +kernel) (by decide +kernel)
  have m2 := mul_in h.ix1 h.iy0 (by decide +kernel) (by decide +kernel)
  have := Bd.mul (h.r1.bd (B := 20/7) (by decide +kernel) (by decide +kernel)) (show Bd (Q.y1 * Q.x0 - Q.x1 * Q.y0) 10100 by unfold In Bd at *; constructor <;> grind)
  unfold O32; exact this.mono (by decide +kernel)
theorem bO13 : Bd (O13 Q a1 a3) 1130 := by
  have := Bd.sub (Bd.mul (bA12 h) (bA23 h)) (Bd.mul (bA13 h) (bA22 h))
  unfold O13; exact this.mono (by decide +kernel)
theorem bO23 : Bd (O23 Q a1 a3) 1130 := by
  have := Bd.sub (Bd.mul (bA13 h) (bA21 h)) (Bd.mul (bA11 h) (bA23 h))
  unfold O23; exact this.mono (by decide +kernel)
theorem bO33 : Bd (O33 Q a1 a3) 230000 := by
  have := Bd.sub (Bd.mul (bA11 h) (bA22 h)) (Bd.mul (bA12 h) (bA21 h))
  unfold O33; exact this.mono (by decide +kernel)
end

/-- how near the nine numbers are -/
structure NearA (a : M9) (Q : Quad) (a1 a3 : Rat) : Prop where
  a11 : Ap a.a11 (A11 Q a1) (19/100000000000000 : Rat)
  a21 : Ap a.a21 (A21 Q a3) (37/500000000000000 : Rat)
  a31 : Ap a.a31 Q.x0 0
  a12 : Ap a.a12 (A12 Q a1) (37/500000000000000 : Rat)
  a22 : Ap a.a22 (A22 Q a3) (19/100000000000000 : Rat)
  a32 : Ap a.a32 Q.y0 0
  a13 : Ap a.a13 (a1 - 1) (31/50000000000000000 : Rat)
  a23 : Ap a.a23 (a3 - 1) (31/50000000000000000 : Rat)
  a33 : Ap a.a33 1 0

theorem val_f0 : Fl.fin f0 ∧ val f0 = 0 := by
  have hr : Ieee.double.read f0 = .number false 0 (-1074) := by decide
  refine ⟨⟨by decide, _, _, _, hr⟩, ?_⟩
  unfold val; rw [hr]; unfold dval
  have z : ((0:Nat) : Rat) = 0 := rfl
  show sg false * ((0:Nat) : Rat) * (2:Rat) ^ (-1074:Int) = 0
  rw [z]; generalize (2:Rat) ^ (-1074:Int) = t; grind
theorem val_f1 : Fl.fin f1 ∧ val f1 = 1 := by
  have hr : Ieee.double.read f1 = .number false 4503599627370496 (-52) := by decide
  refine ⟨⟨by decide, _, _, _, hr⟩, ?_⟩
  unfold val; rw [hr]
  show sg false * ((4503599627370496:Nat) : Rat) * (2:Rat) ^ (-52:Int) = 1
  decide +kernel

theorem feq_iff {x y : Nat} (hx : Fl.fin x) (hy : Fl.fin y) : feq x y = true ↔ val x = val y := by
  obtain ⟨h1, h2, h3⟩ := order_val hx hy
  have e : feq x y = (Ieee.double.order x y == some .eq) := rfl
  rw [e]
  constructor
  · intro h
    apply Classical.byContradiction; intro hc
    have : val x < val y ∨ val y < val x := by grind
    rcases this with g | g
    · rw [h1 g] at h; cases h
    · rw [h3 g] at h; cases h
  · intro h; rw [h2 h]; rfl

/-- a - b of a product and a number whose first part is exact -/
theorem lean_ap {x y a xp : Nat} {X Y A : Rat} {e V W B E1 E2 : Rat} (hx : Ex x X 3 1400) (hy : Ex y Y 3 1400) (ha : Ap a A e) (hxp : Ap xp X 0) (hv : Bd A V) (hw : Bd X W) (hB : Bd ((X - Y) + A * X) B)
    (h1 : e * (W + 0) + V * 0 + (V + e) * (W + 0) * u53 + tny ≤ E1) (h2 : 0 + E1 + (B + 0 + E1) * u53 + tny ≤ E2) (h3 : (V + e) * (W + 0) ≤ 10^200) (h4 : B + 0 + E1 ≤ 10^200) :
    ∃ r, LeanR x y a xp r ∧ Ap r ((X - Y) + A * X) E2 := by
  obtain ⟨s, s1, s2⟩ := Ex.sub hx hy (by decide) (by decide)
  obtain ⟨t, t1, t2⟩ := Ap.mul ha hxp V W E1 hv hw h1 h3
  obtain ⟨r, r1, r2⟩ := Ap.add s2.ap t2 B E2 hB h2 h4
  exact ⟨r, ⟨s, t, s1, t1, r1⟩, r2⟩

theorem s2q_ap {q : Q8} {Q : Quad} {a1 a3 : Rat} (h : QZ q Q a1 a3) : ∃ a : M9, S2QR q a ∧ NearA a Q a1 a3 := by
  obtain ⟨u1, p1, k1⟩ := Ex.sub h.x0 h.x1 (by decide) (by decide)
  obtain ⟨u2, p2, k2⟩ := Ex.add k1 h.x2 (by decide) (by decide)
  obtain ⟨dx3, p3, k3⟩ := Ex.sub k2 h.x3 (by decide) (by decide)
  obtain ⟨v1, s1, l1⟩ := Ex.sub h.y0 h.y1 (by decide) (by decide)
  obtain ⟨v2, s2, l2⟩ := Ex.add l1 h.y2 (by decide) (by decide)
  obtain ⟨dy3, s3, l3⟩ := Ex.sub l2 h.y3 (by decide) (by decide)
  have hax : AltR q.x0 q.x1 q.x2 q.x3 dx3 := ⟨u1, u2, p1, p2, p3⟩
  have hay : AltR q.y0 q.y1 q.y2 q.y3 dy3 := ⟨v1, v2, s1, s2, s3⟩
  have hpos := h.F.pos
  by_cases haff : feq dx3 f0 = true ∧ feq dy3 f0 = true
  · -- the affine way
    have ex : Q.x0 - Q.x1 + Q.x2 - Q.x3 = 0 := by rw [← k3.eq, (feq_iff k3.fin val_f0.1).1 haff.1, val_f0.2]
    have ey : Q.y0 - Q.y1 + Q.y2 - Q.y3 = 0 := by rw [← l3.eq, (feq_iff l3.fin val_f0.1).1 haff.2, val_f0.2]
    have ha1 : a1 = 1 := by
      refine cancel hpos ?_
      rw [h.F.h1]; unfold Quad.d023 Quad.d123 tri
      have e1 : Q.x0 = Q.x1 - Q.x2 + Q.x3 := by grind
      have e2 : Q.y0 = Q.y1 - Q.y2 + Q.y3 := by grind
      rw [e1, e2]; grind
    have ha3 : a3 = 1 := by
      refine cancel hpos ?_
      rw [h.F.h3]; unfold Quad.d012 Quad.d123 tri
      have e1 : Q.x0 = Q.x1 - Q.x2 + Q.x3 := by grind
      have e2 : Q.y0 = Q.y1 - Q.y2 + Q.y3 := by grind
      rw [e1, e2]; grind
    obtain ⟨b11, o1, m1⟩ := Ex.sub h.x1 h.x0 (by decide) (by decide)
    obtain ⟨b21, o2, m2⟩ := Ex.sub h.x2 h.x1 (by decide) (by decide)
    obtain ⟨b12, o3, m3⟩ := Ex.sub h.y1 h.y0 (by decide) (by decide)
    obtain ⟨b22, o4, m4⟩ := Ex.sub h.y2 h.y1 (by decide) (by decide)
    refine ⟨⟨b11, b21, q.x0, b12, b22, q.y0, f0, f0, f1⟩, ⟨dx3, dy3, hax, hay, Or.inl ⟨haff.1, haff.2, o1, o2, rfl, o3, o4, rfl, rfl, rfl, rfl⟩⟩, ?_⟩
    have z0 : Ap f0 0 0 := ⟨val_f0.1, by rw [val_f0.2]; unfold Nr; grind⟩
    have z1 : Ap f1 1 0 := ⟨val_f1.1, by rw [val_f1.2]; unfold Nr; grind⟩
    exact ⟨(m1.ap.eq (by unfold A11; rw [ha1]; grind)).mono (by decide +kernel), (m2.ap.eq (by unfold A21; rw [ha3]; grind)).mono (by decide +kernel), h.x0.ap, (m3.ap.eq (by unfold A12; rw [ha1]; grind)).mono (by decide +kernel), (m4.ap.eq (by unfold A22; rw [ha3]; grind)).mono (by decide +kernel), h.y0.ap,
      (z0.eq (by rw [ha1]; grind)).mono (by decide +kernel), (z0.eq (by rw [ha3]; grind)).mono (by decide +kernel), z1⟩
  · -- the other way
    obtain ⟨dx1, c1, n1⟩ := Ex.sub h.x1 h.x2 (by decide) (by decide)
    obtain ⟨dx2, c2, n2⟩ := Ex.sub h.x3 h.x2 (by decide) (by decide)
    obtain ⟨dy1, c3, n3⟩ := Ex.sub h.y1 h.y2 (by decide) (by decide)
    obtain ⟨dy2, c4, n4⟩ := Ex.sub h.y3 h.y2 (by decide) (by decide)
    obtain ⟨w1, c5, n5⟩ := Ex.mul n1 n4 (by decide) (by decide)
    obtain ⟨w2, c6, n6⟩ := Ex.mul n2 n3 (by decide) (by decide)
    obtain ⟨den, c7, n7⟩ := Ex.sub n5 n6 (by decide) (by decide)
    obtain ⟨w3, c8, n8⟩ := Ex.mul k3 n4 (by decide) (by decide)
    obtain ⟨w4, c9, n9⟩ := Ex.mul n2 l3 (by decide) (by decide)
    obtain ⟨nu1, d1, g1⟩ := Ex.sub n8 n9 (by decide) (by decide)
    obtain ⟨w5, d2, g2⟩ := Ex.mul n1 l3 (by decide) (by decide)
    obtain ⟨w6, d3, g3⟩ := Ex.mul k3 n3 (by decide) (by decide)
    obtain ⟨nu2, d4, g4⟩ := Ex.sub g2 g3 (by decide) (by decide)
    have hden : (Q.x1 - Q.x2) * (Q.y3 - Q.y2) - (Q.x3 - Q.x2) * (Q.y1 - Q.y2) = - Q.d123 := by unfold Quad.d123 tri; grind
    have hn1 : (a1 - 1) * ((Q.x1 - Q.x2) * (Q.y3 - Q.y2) - (Q.x3 - Q.x2) * (Q.y1 - Q.y2)) = (Q.x0 - Q.x1 + Q.x2 - Q.x3) * (Q.y3 - Q.y2) - (Q.x3 - Q.x2) * (Q.y0 - Q.y1 + Q.y2 - Q.y3) := by
      rw [hden]
      have e : (a1 - 1) * -Q.d123 = Q.d123 - a1 * Q.d123 := by grind
      rw [e, h.F.h1]; unfold Quad.d123 Quad.d023 tri; grind
    have hn2 : (a3 - 1) * ((Q.x1 - Q.x2) * (Q.y3 - Q.y2) - (Q.x3 - Q.x2) * (Q.y1 - Q.y2)) = (Q.x1 - Q.x2) * (Q.y0 - Q.y1 + Q.y2 - Q.y3) - (Q.x0 - Q.x1 + Q.x2 - Q.x3) * (Q.y1 - Q.y2) := by
      rw [hden]
      have e : (a3 - 1) * -Q.d123 = Q.d123 - a3 * Q.d123 := by grind
      rw [e, h.F.h3]; unfold Quad.d123 Quad.d012 tri; grind
    have hm : 3500 ≤ (Q.x1 - Q.x2) * (Q.y3 - Q.y2) - (Q.x3 - Q.x2) * (Q.y1 - Q.y2) ∨ (Q.x1 - Q.x2) * (Q.y3 - Q.y2) - (Q.x3 - Q.x2) * (Q.y1 - Q.y2) ≤ -3500 := by
      right; rw [hden]; have := h.i123.1; grind
    obtain ⟨a13, f13, e13⟩ := Ap.div g1.ap n7.ap (a1 - 1) (13/7) 3500 0 (31/50000000000000000 : Rat) hn1 (bA13 h) hm (by decide +kernel) (by decide +kernel) (by decide +kernel) (by decide +kernel) (by decide +kernel)
    obtain ⟨a23, f23, e23⟩ := Ap.div g4.ap n7.ap (a3 - 1) (13/7) 3500 0 (31/50000000000000000 : Rat) hn2 (bA23 h) hm (by decide +kernel) (by decide +kernel) (by decide +kernel) (by decide +kernel) (by decide +kernel)
    obtain ⟨b11, f11, e11⟩ := lean_ap (e := (31/50000000000000000 : Rat)) (V := 13/7) (W := 167) (B := 445) (E1 := (7/50000000000000 : Rat)) (E2 := (19/100000000000000 : Rat)) h.x1 h.x0 e13 h.x1.ap (bA13 h) (h.ix1.bd (by decide +kernel) (by decide +kernel)) (by have := bA11 h; unfold A11 at this; have e : Q.x1 - Q.x0 + (a1 - 1) * Q.x1 = a1 * Q.x1 - Q.x0 := (by grind); rw [e]; exact this) (by decide +kernel) (by decide +kernel) (by decide +kernel) (by decide +kernel)
    obtain ⟨b21, f21, e21⟩ := lean_ap (e := (31/50000000000000000 : Rat)) (V := 13/7) (W := 67) (B := 159) (E1 := (7/125000000000000 : Rat)) (E2 := (37/500000000000000 : Rat)) h.x3 h.x0 e23 h.x3.ap (bA23 h) (h.ix3.bd (by decide +kernel) (by decide +kernel)) (by have := bA21 h; unfold A21 at this; have e : Q.x3 - Q.x0 + (a3 - 1) * Q.x3 = a3 * Q.x3 - Q.x0 := (by grind); rw [e]; exact this) (by decide +kernel) (by decide +kernel) (by decide +kernel) (by decide +kernel)
    obtain ⟨b12, f12, e12⟩ := lean_ap (e := (31/50000000000000000 : Rat)) (V := 13/7) (W := 67) (B := 159) (E1 := (7/125000000000000 : Rat)) (E2 := (37/500000000000000 : Rat)) h.y1 h.y0 e13 h.y1.ap (bA13 h) (h.iy1.bd (by decide +kernel) (by decide +kernel)) (by have := bA12 h; unfold A12 at this; have e : Q.y1 - Q.y0 + (a1 - 1) * Q.y1 = a1 * Q.y1 - Q.y0 := (by grind); rw [e]; exact this) (by decide +kernel) (by decide +kernel) (by decide +kernel) (by decide +kernel)
    obtain ⟨b22, f22, e22⟩ := lean_ap (e := (31/50000000000000000 : Rat)) (V := 13/7) (W := 167) (B := 445) (E1 := (7/50000000000000 : Rat)) (E2 := (19/100000000000000 : Rat)) h.y3 h.y0 e23 h.y3.ap (bA23 h) (h.iy3.bd (by decide +kernel) (by decide +kernel)) (by have := bA22 h; unfold A22 at this; have e : Q.y3 - Q.y0 + (a3 - 1) * Q.y3 = a3 * Q.y3 - Q.y0 := (by grind); rw [e]; exact this) (by decide +kernel) (by decide +kernel) (by decide +kernel) (by decide +kernel)
    refine ⟨⟨b11, b21, q.x0, b12, b22, q.y0, a13, a23, f1⟩, ⟨dx3, dy3, hax, hay, Or.inr ⟨?_, dx1, dx2, dy1, dy2, den, nu1, nu2, c1, c2, c3, c4, ⟨w1, w2, c5, c6, c7⟩, ⟨w3, w4, c8, c9, d1⟩, f13, ⟨w5, w6, d2, d3, d4⟩, f23, f11, f21, rfl, f12, f22, rfl, rfl⟩⟩, ?_⟩
    · cases e1 : feq dx3 f0 with
      | false => exact Or.inl rfl
      | true =>
        right
        refine ⟨rfl, ?_⟩
        cases e2 : feq dy3 f0 with
        | false => rfl
        | true => exact absurd ⟨e1, e2⟩ haff
    · have z1 : Ap f1 1 0 := ⟨val_f1.1, by rw [val_f1.2]; unfold Nr; grind⟩
      exact ⟨e11.eq (by unfold A11; grind), e21.eq (by unfold A21; grind), h.x0.ap, e12.eq (by unfold A12; grind), e22.eq (by unfold A22; grind), h.y0.ap, e13, e23, z1⟩

end Go.Proofs.Ytaadklfendegfaa

/- The adjoint and the product of two tables of nine: near the exact numbers. -/
namespace Go.Proofs.Ytaadklfendegfaa
open Go Fl Geo

theorem bx0 {q : Q8} {Q : Quad} {a1 a3 : Rat} (h : QZ q Q a1 a3) : Bd Q.x0 67 := h.ix0.bd (by decide +kernel) (by decide +kernel)
theorem by0 {q : Q8} {Q : Quad} {a1 a3 : Rat} (h : QZ q Q a1 a3) : Bd Q.y0 67 := h.iy0.bd (by decide +kernel) (by decide +kernel)

theorem adj11 {q : Q8} {Q : Quad} {a1 a3 : Rat} {a : M9} (h : QZ q Q a1 a3) (k : NearA a Q a1 a3) : ∃ z, PdR a.a22 a.a33 a.a23 a.a32 z ∧ Ap z (O11 Q a1 a3) (17/50000000000000 : Rat) := by
  have bo1 : Bd (1 : Rat) 1 := by unfold Bd; constructor <;> decide +kernel
  obtain ⟨z1, o1, A1⟩ := Ap.mul k.a22 k.a33 (445 : Rat) (1 : Rat) (3/12500000000000 : Rat) (bA22 h) bo1 (by decide +kernel) (by decide +kernel)
  have bd1 : Bd ((A22 Q a3) * (1 : Rat)) (445 : Rat) := (Bd.mul (bA22 h) bo1).mono (by decide +kernel)
  obtain ⟨z2, o2, A2⟩ := Ap.mul k.a23 k.a32 (13/7 : Rat) (67 : Rat) (7/125000000000000 : Rat) (bA23 h) (by0 h) (by decide +kernel) (by decide +kernel)
  have bd2 : Bd ((a3 - 1) * Q.y0) (871/7 : Rat) := (Bd.mul (bA23 h) (by0 h)).mono (by decide +kernel)
  have e : ((A22 Q a3) * (1 : Rat)) - ((a3 - 1) * Q.y0) = O11 Q a1 a3 := by unfold O11 A22; grind
  obtain ⟨z, o, A⟩ := Ap.sub A1 A2 (383 : Rat) (17/50000000000000 : Rat) (by rw [e]; exact bO11 h) (by decide +kernel) (by decide +kernel)
  exact ⟨z, ⟨_, _, o1, o2, o⟩, A.eq e⟩
theorem adj21 {q : Q8} {Q : Quad} {a1 a3 : Rat} {a : M9} (h : QZ q Q a1 a3) (k : NearA a Q a1 a3) : ∃ z, PdR a.a23 a.a31 a.a21 a.a33 z ∧ Ap z (O21 Q a1 a3) (1/6250000000000 : Rat) := by
  have bo1 : Bd (1 : Rat) 1 := by unfold Bd; constructor <;> decide +kernel
  obtain ⟨z1, o1, A1⟩ := Ap.mul k.a23 k.a31 (13/7 : Rat) (67 : Rat) (7/125000000000000 : Rat) (bA23 h) (bx0 h) (by decide +kernel) (by decide +kernel)
  have bd1 : Bd ((a3 - 1) * Q.x0) (871/7 : Rat) := (Bd.mul (bA23 h) (bx0 h)).mono (by decide +kernel)
  obtain ⟨z2, o2, A2⟩ := Ap.mul k.a21 k.a33 (159 : Rat) (1 : Rat) (23/250000000000000 : Rat) (bA21 h) bo1 (by decide +kernel) (by decide +kernel)
  have bd2 : Bd ((A21 Q a3) * (1 : Rat)) (159 : Rat) := (Bd.mul (bA21 h) bo1).mono (by decide +kernel)
  have e : ((a3 - 1) * Q.x0) - ((A21 Q a3) * (1 : Rat)) = O21 Q a1 a3 := by unfold O21 A21; grind
  obtain ⟨z, o, A⟩ := Ap.sub A1 A2 (98 : Rat) (1/6250000000000 : Rat) (by rw [e]; exact bO21 h) (by decide +kernel) (by decide +kernel)
  exact ⟨z, ⟨_, _, o1, o2, o⟩, A.eq e⟩
theorem adj31 {q : Q8} {Q : Quad} {a1 a3 : Rat} {a : M9} (h : QZ q Q a1 a3) (k : NearA a Q a1 a3) : ∃ z, PdR a.a21 a.a32 a.a22 a.a31 z ∧ Ap z (O31 Q a1 a3) (27/1000000000000 : Rat) := by
  have bo1 : Bd (1 : Rat) 1 := by unfold Bd; constructor <;> decide +kernel
  obtain ⟨z1, o1, A1⟩ := Ap.mul k.a21 k.a32 (159 : Rat) (67 : Rat) (31/5000000000000 : Rat) (bA21 h) (by0 h) (by decide +kernel) (by decide +kernel)
  have bd1 : Bd ((A21 Q a3) * Q.y0) (10653 : Rat) := (Bd.mul (bA21 h) (by0 h)).mono (by decide +kernel)
  obtain ⟨z2, o2, A2⟩ := Ap.mul k.a22 k.a31 (445 : Rat) (67 : Rat) (17/1000000000000 : Rat) (bA22 h) (bx0 h) (by decide +kernel) (by decide +kernel)
  have bd2 : Bd ((A22 Q a3) * Q.x0) (29815 : Rat) := (Bd.mul (bA22 h) (bx0 h)).mono (by decide +kernel)
  have e : ((A21 Q a3) * Q.y0) - ((A22 Q a3) * Q.x0) = O31 Q a1 a3 := by unfold O31 A21 A22; grind
  obtain ⟨z, o, A⟩ := Ap.sub A1 A2 (29000 : Rat) (27/1000000000000 : Rat) (by rw [e]; exact bO31 h) (by decide +kernel) (by decide +kernel)
  exact ⟨z, ⟨_, _, o1, o2, o⟩, A.eq e⟩
theorem adj12 {q : Q8} {Q : Quad} {a1 a3 : Rat} {a : M9} (h : QZ q Q a1 a3) (k : NearA a Q a1 a3) : ∃ z, PdR a.a13 a.a32 a.a12 a.a33 z ∧ Ap z (O12 Q a1 a3) (1/6250000000000 : Rat) := by
  have bo1 : Bd (1 : Rat) 1 := by unfold Bd; constructor <;> decide +kernel
  obtain ⟨z1, o1, A1⟩ := Ap.mul k.a13 k.a32 (13/7 : Rat) (67 : Rat) (7/125000000000000 : Rat) (bA13 h) (by0 h) (by decide +kernel) (by decide +kernel)
  have bd1 : Bd ((a1 - 1) * Q.y0) (871/7 : Rat) := (Bd.mul (bA13 h) (by0 h)).mono (by decide +kernel)
  obtain ⟨z2, o2, A2⟩ := Ap.mul k.a12 k.a33 (159 : Rat) (1 : Rat) (23/250000000000000 : Rat) (bA12 h) bo1 (by decide +kernel) (by decide +kernel)
  have bd2 : Bd ((A12 Q a1) * (1 : Rat)) (159 : Rat) := (Bd.mul (bA12 h) bo1).mono (by decide +kernel)
  have e : ((a1 - 1) * Q.y0) - ((A12 Q a1) * (1 : Rat)) = O12 Q a1 a3 := by unfold O12 A12; grind
  obtain ⟨z, o, A⟩ := Ap.sub A1 A2 (98 : Rat) (1/6250000000000 : Rat) (by rw [e]; exact bO12 h) (by decide +kernel) (by decide +kernel)
  exact ⟨z, ⟨_, _, o1, o2, o⟩, A.eq e⟩
theorem adj22 {q : Q8} {Q : Quad} {a1 a3 : Rat} {a : M9} (h : QZ q Q a1 a3) (k : NearA a Q a1 a3) : ∃ z, PdR a.a11 a.a33 a.a13 a.a31 z ∧ Ap z (O22 Q a1 a3) (17/50000000000000 : Rat) := by
  have bo1 : Bd (1 : Rat) 1 := by unfold Bd; constructor <;> decide +kernel
  obtain ⟨z1, o1, A1⟩ := Ap.mul k.a11 k.a33 (445 : Rat) (1 : Rat) (3/12500000000000 : Rat) (bA11 h) bo1 (by decide +kernel) (by decide +kernel)
  have bd1 : Bd ((A11 Q a1) * (1 : Rat)) (445 : Rat) := (Bd.mul (bA11 h) bo1).mono (by decide +kernel)
  obtain ⟨z2, o2, A2⟩ := Ap.mul k.a13 k.a31 (13/7 : Rat) (67 : Rat) (7/125000000000000 : Rat) (bA13 h) (bx0 h) (by decide +kernel) (by decide +kernel)
  have bd2 : Bd ((a1 - 1) * Q.x0) (871/7 : Rat) := (Bd.mul (bA13 h) (bx0 h)).mono (by decide +kernel)
  have e : ((A11 Q a1) * (1 : Rat)) - ((a1 - 1) * Q.x0) = O22 Q a1 a3 := by unfold O22 A11; grind
  obtain ⟨z, o, A⟩ := Ap.sub A1 A2 (383 : Rat) (17/50000000000000 : Rat) (by rw [e]; exact bO22 h) (by decide +kernel) (by decide +kernel)
  exact ⟨z, ⟨_, _, o1, o2, o⟩, A.eq e⟩
theorem adj32 {q : Q8} {Q : Quad} {a1 a3 : Rat} {a : M9} (h : QZ q Q a1 a3) (k : NearA a Q a1 a3) : ∃ z, PdR a.a12 a.a31 a.a11 a.a32 z ∧ Ap z (O32 Q a1 a3) (27/1000000000000 : Rat) := by
  have bo1 : Bd (1 : Rat) 1 := by unfold Bd; constructor <;> decide +kernel
  obtain ⟨z1, o1, A1⟩ := Ap.mul k.a12 k.a31 (159 : Rat) (67 : Rat) (31/5000000000000 : Rat) (bA12 h) (bx0 h) (by decide +kernel) (by decide +kernel)
  have bd1 : Bd ((A12 Q a1) * Q.x0) (10653 : Rat) := (Bd.mul (bA12 h) (bx0 h)).mono (by decide +kernel)
  obtain ⟨z2, o2, A2⟩ := Ap.mul k.a11 k.a32 (445 : Rat) (67 : Rat) (17/1000000000000 : Rat) (bA11 h) (by0 h) (by decide +kernel) (by decide +kernel)
  have bd2 : Bd ((A11 Q a1) * Q.y0) (29815 : Rat) := (Bd.mul (bA11 h) (by0 h)).mono (by decide +kernel)
  have e : ((A12 Q a1) * Q.x0) - ((A11 Q a1) * Q.y0) = O32 Q a1 a3 := by unfold O32 A12 A11; grind
  obtain ⟨z, o, A⟩ := Ap.sub A1 A2 (29000 : Rat) (27/1000000000000 : Rat) (by rw [e]; exact bO32 h) (by decide +kernel) (by decide +kernel)
  exact ⟨z, ⟨_, _, o1, o2, o⟩, A.eq e⟩
theorem adj13 {q : Q8} {Q : Quad} {a1 a3 : Rat} {a : M9} (h : QZ q Q a1 a3) (k : NearA a Q a1 a3) : ∃ z, PdR a.a12 a.a23 a.a13 a.a22 z ∧ Ap z (O13 Q a1 a3) (3/2500000000000 : Rat) := by
  have bo1 : Bd (1 : Rat) 1 := by unfold Bd; constructor <;> decide +kernel
  obtain ⟨z1, o1, A1⟩ := Ap.mul k.a12 k.a23 (159 : Rat) (13/7 : Rat) (27/100000000000000 : Rat) (bA12 h) (bA23 h) (by decide +kernel) (by decide +kernel)
  have bd1 : Bd ((A12 Q a1) * (a3 - 1)) (2067/7 : Rat) := (Bd.mul (bA12 h) (bA23 h)).mono (by decide +kernel)
  obtain ⟨z2, o2, A2⟩ := Ap.mul k.a13 k.a22 (13/7 : Rat) (445 : Rat) (73/100000000000000 : Rat) (bA13 h) (bA22 h) (by decide +kernel) (by decide +kernel)
  have bd2 : Bd ((a1 - 1) * (A22 Q a3)) (5785/7 : Rat) := (Bd.mul (bA13 h) (bA22 h)).mono (by decide +kernel)
  have e : ((A12 Q a1) * (a3 - 1)) - ((a1 - 1) * (A22 Q a3)) = O13 Q a1 a3 := by unfold O13; grind
  obtain ⟨z, o, A⟩ := Ap.sub A1 A2 (1130 : Rat) (3/2500000000000 : Rat) (by rw [e]; exact bO13 h) (by decide +kernel) (by decide +kernel)
  exact ⟨z, ⟨_, _, o1, o2, o⟩, A.eq e⟩
theorem adj23 {q : Q8} {Q : Quad} {a1 a3 : Rat} {a : M9} (h : QZ q Q a1 a3) (k : NearA a Q a1 a3) : ∃ z, PdR a.a13 a.a21 a.a11 a.a23 z ∧ Ap z (O23 Q a1 a3) (3/2500000000000 : Rat) := by
  have bo1 : Bd (1 : Rat) 1 := by unfold Bd; constructor <;> decide +kernel
  obtain ⟨z1, o1, A1⟩ := Ap.mul k.a13 k.a21 (13/7 : Rat) (159 : Rat) (27/100000000000000 : Rat) (bA13 h) (bA21 h) (by decide +kernel) (by decide +kernel)
  have bd1 : Bd ((a1 - 1) * (A21 Q a3)) (2067/7 : Rat) := (Bd.mul (bA13 h) (bA21 h)).mono (by decide +kernel)
  obtain ⟨z2, o2, A2⟩ := Ap.mul k.a11 k.a23 (445 : Rat) (13/7 : Rat) (73/100000000000000 : Rat) (bA11 h) (bA23 h) (by decide +kernel) (by decide +kernel)
  have bd2 : Bd ((A11 Q a1) * (a3 - 1)) (5785/7 : Rat) := (Bd.mul (bA11 h) (bA23 h)).mono (by decide +kernel)
  have e : ((a1 - 1) * (A21 Q a3)) - ((A11 Q a1) * (a3 - 1)) = O23 Q a1 a3 := by unfold O23; grind
  obtain ⟨z, o, A⟩ := Ap.sub A1 A2 (1130 : Rat) (3/2500000000000 : Rat) (by rw [e]; exact bO23 h) (by decide +kernel) (by decide +kernel)
  exact ⟨z, ⟨_, _, o1, o2, o⟩, A.eq e⟩
theorem adj33 {q : Q8} {Q : Quad} {a1 a3 : Rat} {a : M9} (h : QZ q Q a1 a3) (k : NearA a Q a1 a3) : ∃ z, PdR a.a11 a.a22 a.a12 a.a21 z ∧ Ap z (O33 Q a1 a3) (13/50000000000 : Rat) := by
  have bo1 : Bd (1 : Rat) 1 := by unfold Bd; constructor <;> decide +kernel
  obtain ⟨z1, o1, A1⟩ := Ap.mul k.a11 k.a22 (445 : Rat) (445 : Rat) (1/5000000000 : Rat) (bA11 h) (bA22 h) (by decide +kernel) (by decide +kernel)
  have bd1 : Bd ((A11 Q a1) * (A22 Q a3)) (198025 : Rat) := (Bd.mul (bA11 h) (bA22 h)).mono (by decide +kernel)
  obtain ⟨z2, o2, A2⟩ := Ap.mul k.a12 k.a21 (159 : Rat) (159 : Rat) (27/1000000000000 : Rat) (bA12 h) (bA21 h) (by decide +kernel) (by decide +kernel)
  have bd2 : Bd ((A12 Q a1) * (A21 Q a3)) (25281 : Rat) := (Bd.mul (bA12 h) (bA21 h)).mono (by decide +kernel)
  have e : ((A11 Q a1) * (A22 Q a3)) - ((A12 Q a1) * (A21 Q a3)) = O33 Q a1 a3 := by unfold O33; grind
  obtain ⟨z, o, A⟩ := Ap.sub A1 A2 (230000 : Rat) (13/50000000000 : Rat) (by rw [e]; exact bO33 h) (by decide +kernel) (by decide +kernel)
  exact ⟨z, ⟨_, _, o1, o2, o⟩, A.eq e⟩

structure NearO (o : M9) (Q : Quad) (a1 a3 : Rat) : Prop where
  a11 : Ap o.a11 (O11 Q a1 a3) (17/50000000000000 : Rat)
  a21 : Ap o.a21 (O21 Q a1 a3) (1/6250000000000 : Rat)
  a31 : Ap o.a31 (O31 Q a1 a3) (27/1000000000000 : Rat)
  a12 : Ap o.a12 (O12 Q a1 a3) (1/6250000000000 : Rat)
  a22 : Ap o.a22 (O22 Q a1 a3) (17/50000000000000 : Rat)
  a32 : Ap o.a32 (O32 Q a1 a3) (27/1000000000000 : Rat)
  a13 : Ap o.a13 (O13 Q a1 a3) (3/2500000000000 : Rat)
  a23 : Ap o.a23 (O23 Q a1 a3) (3/2500000000000 : Rat)
  a33 : Ap o.a33 (O33 Q a1 a3) (13/50000000000 : Rat)

theorem adj_ap {q : Q8} {Q : Quad} {a1 a3 : Rat} {a : M9} (h : QZ q Q a1 a3) (k : NearA a Q a1 a3) : ∃ o, AdjR a o ∧ NearO o Q a1 a3 := by
  obtain ⟨z11, r11, k11⟩ := adj11 h k
  obtain ⟨z21, r21, k21⟩ := adj21 h k
  obtain ⟨z31, r31, k31⟩ := adj31 h k
  obtain ⟨z12, r12, k12⟩ := adj12 h k
  obtain ⟨z22, r22, k22⟩ := adj22 h k
  obtain ⟨z32, r32, k32⟩ := adj32 h k
  obtain ⟨z13, r13, k13⟩ := adj13 h k
  obtain ⟨z23, r23, k23⟩ := adj23 h k
  obtain ⟨z33, r33, k33⟩ := adj33 h k
  exact ⟨⟨z11, z21, z31, z12, z22, z32, z13, z23, z33⟩, ⟨r11, r21, r31, r12, r22, r32, r13, r23, r33⟩, ⟨k11, k21, k31, k12, k22, k32, k13, k23, k33⟩⟩

theorem tim11 {q p : Q8} {Q P : Quad} {a1 a3 b1 b3 : Rat} {o b : M9} (h : QZ q Q a1 a3) (g : QZ p P b1 b3) (k : NearO o Q a1 a3) (j : NearA b P b1 b3) : ∃ z, DotR b.a11 o.a11 b.a21 o.a12 b.a31 o.a13 z ∧ Ap z (H11 Q P a1 a3 b1 b3) (43/100000000000 : Rat) ∧ Bd (H11 Q P a1 a3 b1 b3) (261727 : Rat) := by
  have bo1 : Bd (1 : Rat) 1 := by unfold Bd; constructor <;> decide +kernel
  obtain ⟨z1, o1, A1⟩ := Ap.mul j.a11 k.a11 (445 : Rat) (383 : Rat) (1/4000000000 : Rat) (bA11 g) (bO11 h) (by decide +kernel) (by decide +kernel)
  have bd1 : Bd ((A11 P b1) * (O11 Q a1 a3)) (170435 : Rat) := (Bd.mul (bA11 g) (bO11 h)).mono (by decide +kernel)
  obtain ⟨z2, o2, A2⟩ := Ap.mul j.a21 k.a12 (159 : Rat) (98 : Rat) (7/200000000000 : Rat) (bA21 g) (bO12 h) (by decide +kernel) (by decide +kernel)
  have bd2 : Bd ((A21 P b3) * (O12 Q a1 a3)) (15582 : Rat) := (Bd.mul (bA21 g) (bO12 h)).mono (by decide +kernel)
  obtain ⟨z3, o3, A3⟩ := Ap.add A1 A2 (186017 : Rat) (31/100000000000 : Rat) ((Bd.add bd1 bd2).mono (by decide +kernel)) (by decide +kernel) (by decide +kernel)
  have bd3 : Bd (((A11 P b1) * (O11 Q a1 a3)) + ((A21 P b3) * (O12 Q a1 a3))) (186017 : Rat) := ((Bd.add bd1 bd2).mono (by decide +kernel))
  obtain ⟨z4, o4, A4⟩ := Ap.mul j.a31 k.a13 (67 : Rat) (1130 : Rat) (89/1000000000000 : Rat) (bx0 g) (bO13 h) (by decide +kernel) (by decide +kernel)
  have bd4 : Bd (P.x0 * (O13 Q a1 a3)) (75710 : Rat) := (Bd.mul (bx0 g) (bO13 h)).mono (by decide +kernel)
  obtain ⟨z5, o5, A5⟩ := Ap.add A3 A4 (261727 : Rat) (43/100000000000 : Rat) ((Bd.add bd3 bd4).mono (by decide +kernel)) (by decide +kernel) (by decide +kernel)
  have bd5 : Bd ((((A11 P b1) * (O11 Q a1 a3)) + ((A21 P b3) * (O12 Q a1 a3))) + (P.x0 * (O13 Q a1 a3))) (261727 : Rat) := ((Bd.add bd3 bd4).mono (by decide +kernel))
  have e : ((((A11 P b1) * (O11 Q a1 a3)) + ((A21 P b3) * (O12 Q a1 a3))) + (P.x0 * (O13 Q a1 a3))) = H11 Q P a1 a3 b1 b3 := by unfold H11; rfl
  exact ⟨_, ⟨_, _, _, _, o1, o2, o3, o4, o5⟩, A5.eq e, e ▸ bd5⟩
theorem tim21 {q p : Q8} {Q P : Quad} {a1 a3 b1 b3 : Rat} {o b : M9} (h : QZ q Q a1 a3) (g : QZ p P b1 b3) (k : NearO o Q a1 a3) (j : NearA b P b1 b3) : ∃ z, DotR b.a11 o.a21 b.a21 o.a22 b.a31 o.a23 z ∧ Ap z (H21 Q P a1 a3 b1 b3) (31/100000000000 : Rat) ∧ Bd (H21 Q P a1 a3 b1 b3) (180217 : Rat) := by
  have bo1 : Bd (1 : Rat) 1 := by unfold Bd; constructor <;> decide +kernel
  obtain ⟨z1, o1, A1⟩ := Ap.mul j.a11 k.a21 (445 : Rat) (98 : Rat) (19/200000000000 : Rat) (bA11 g) (bO21 h) (by decide +kernel) (by decide +kernel)
  have bd1 : Bd ((A11 P b1) * (O21 Q a1 a3)) (43610 : Rat) := (Bd.mul (bA11 g) (bO21 h)).mono (by decide +kernel)
  obtain ⟨z2, o2, A2⟩ := Ap.mul j.a21 k.a22 (159 : Rat) (383 : Rat) (9/100000000000 : Rat) (bA21 g) (bO22 h) (by decide +kernel) (by decide +kernel)
  have bd2 : Bd ((A21 P b3) * (O22 Q a1 a3)) (60897 : Rat) := (Bd.mul (bA21 g) (bO22 h)).mono (by decide +kernel)
  obtain ⟨z3, o3, A3⟩ := Ap.add A1 A2 (104507 : Rat) (1/5000000000 : Rat) ((Bd.add bd1 bd2).mono (by decide +kernel)) (by decide +kernel) (by decide +kernel)
  have bd3 : Bd (((A11 P b1) * (O21 Q a1 a3)) + ((A21 P b3) * (O22 Q a1 a3))) (104507 : Rat) := ((Bd.add bd1 bd2).mono (by decide +kernel))
  obtain ⟨z4, o4, A4⟩ := Ap.mul j.a31 k.a23 (67 : Rat) (1130 : Rat) (89/1000000000000 : Rat) (bx0 g) (bO23 h) (by decide +kernel) (by decide +kernel)
  have bd4 : Bd (P.x0 * (O23 Q a1 a3)) (75710 : Rat) := (Bd.mul (bx0 g) (bO23 h)).mono (by decide +kernel)
  obtain ⟨z5, o5, A5⟩ := Ap.add A3 A4 (180217 : Rat) (31/100000000000 : Rat) ((Bd.add bd3 bd4).mono (by decide +kernel)) (by decide +kernel) (by decide +kernel)
  have bd5 : Bd ((((A11 P b1) * (O21 Q a1 a3)) + ((A21 P b3) * (O22 Q a1 a3))) + (P.x0 * (O23 Q a1 a3))) (180217 : Rat) := ((Bd.add bd3 bd4).mono (by decide +kernel))
  have e : ((((A11 P b1) * (O21 Q a1 a3)) + ((A21 P b3) * (O22 Q a1 a3))) + (P.x0 * (O23 Q a1 a3))) = H21 Q P a1 a3 b1 b3 := by unfold H21; rfl
  exact ⟨_, ⟨_, _, _, _, o1, o2, o3, o4, o5⟩, A5.eq e, e ▸ bd5⟩
theorem tim31 {q p : Q8} {Q P : Quad} {a1 a3 b1 b3 : Rat} {o b : M9} (h : QZ q Q a1 a3) (g : QZ p P b1 b3) (k : NearO o Q a1 a3) (j : NearA b P b1 b3) : ∃ z, DotR b.a11 o.a31 b.a21 o.a32 b.a31 o.a33 z ∧ Ap z (H31 Q P a1 a3 b1 b3) (13/250000000 : Rat) ∧ Bd (H31 Q P a1 a3 b1 b3) (32926000 : Rat) := by
  have bo1 : Bd (1 : Rat) 1 := by unfold Bd; constructor <;> decide +kernel
  obtain ⟨z1, o1, A1⟩ := Ap.mul j.a11 k.a31 (445 : Rat) (29000 : Rat) (19/1000000000 : Rat) (bA11 g) (bO31 h) (by decide +kernel) (by decide +kernel)
  have bd1 : Bd ((A11 P b1) * (O31 Q a1 a3)) (12905000 : Rat) := (Bd.mul (bA11 g) (bO31 h)).mono (by decide +kernel)
  obtain ⟨z2, o2, A2⟩ := Ap.mul j.a21 k.a32 (159 : Rat) (29000 : Rat) (7/1000000000 : Rat) (bA21 g) (bO32 h) (by decide +kernel) (by decide +kernel)
  have bd2 : Bd ((A21 P b3) * (O32 Q a1 a3)) (4611000 : Rat) := (Bd.mul (bA21 g) (bO32 h)).mono (by decide +kernel)
  obtain ⟨z3, o3, A3⟩ := Ap.add A1 A2 (17516000 : Rat) (7/250000000 : Rat) ((Bd.add bd1 bd2).mono (by decide +kernel)) (by decide +kernel) (by decide +kernel)
  have bd3 : Bd (((A11 P b1) * (O31 Q a1 a3)) + ((A21 P b3) * (O32 Q a1 a3))) (17516000 : Rat) := ((Bd.add bd1 bd2).mono (by decide +kernel))
  obtain ⟨z4, o4, A4⟩ := Ap.mul j.a31 k.a33 (67 : Rat) (230000 : Rat) (1/50000000 : Rat) (bx0 g) (bO33 h) (by decide +kernel) (by decide +kernel)
  have bd4 : Bd (P.x0 * (O33 Q a1 a3)) (15410000 : Rat) := (Bd.mul (bx0 g) (bO33 h)).mono (by decide +kernel)
  obtain ⟨z5, o5, A5⟩ := Ap.add A3 A4 (32926000 : Rat) (13/250000000 : Rat) ((Bd.add bd3 bd4).mono (by decide +kernel)) (by decide +kernel) (by decide +kernel)
  have bd5 : Bd ((((A11 P b1) * (O31 Q a1 a3)) + ((A21 P b3) * (O32 Q a1 a3))) + (P.x0 * (O33 Q a1 a3))) (32926000 : Rat) := ((Bd.add bd3 bd4).mono (by decide +kernel))
  have e : ((((A11 P b1) * (O31 Q a1 a3)) + ((A21 P b3) * (O32 Q a1 a3))) + (P.x0 * (O33 Q a1 a3))) = H31 Q P a1 a3 b1 b3 := by unfold H31; rfl
  exact ⟨_, ⟨_, _, _, _, o1, o2, o3, o4, o5⟩, A5.eq e, e ▸ bd5⟩
theorem tim12 {q p : Q8} {Q P : Quad} {a1 a3 b1 b3 : Rat} {o b : M9} (h : QZ q Q a1 a3) (g : QZ p P b1 b3) (k : NearO o Q a1 a3) (j : NearA b P b1 b3) : ∃ z, DotR b.a12 o.a11 b.a22 o.a12 b.a32 o.a13 z ∧ Ap z (H12 Q P a1 a3 b1 b3) (31/100000000000 : Rat) ∧ Bd (H12 Q P a1 a3 b1 b3) (180217 : Rat) := by
  have bo1 : Bd (1 : Rat) 1 := by unfold Bd; constructor <;> decide +kernel
  obtain ⟨z1, o1, A1⟩ := Ap.mul j.a12 k.a11 (159 : Rat) (383 : Rat) (9/100000000000 : Rat) (bA12 g) (bO11 h) (by decide +kernel) (by decide +kernel)
  have bd1 : Bd ((A12 P b1) * (O11 Q a1 a3)) (60897 : Rat) := (Bd.mul (bA12 g) (bO11 h)).mono (by decide +kernel)
  obtain ⟨z2, o2, A2⟩ := Ap.mul j.a22 k.a12 (445 : Rat) (98 : Rat) (19/200000000000 : Rat) (bA22 g) (bO12 h) (by decide +kernel) (by decide +kernel)
  have bd2 : Bd ((A22 P b3) * (O12 Q a1 a3)) (43610 : Rat) := (Bd.mul (bA22 g) (bO12 h)).mono (by decide +kernel)
  obtain ⟨z3, o3, A3⟩ := Ap.add A1 A2 (104507 : Rat) (1/5000000000 : Rat) ((Bd.add bd1 bd2).mono (by decide +kernel)) (by decide +kernel) (by decide +kernel)
  have bd3 : Bd (((A12 P b1) * (O11 Q a1 a3)) + ((A22 P b3) * (O12 Q a1 a3))) (104507 : Rat) := ((Bd.add bd1 bd2).mono (by decide +kernel))
  obtain ⟨z4, o4, A4⟩ := Ap.mul j.a32 k.a13 (67 : Rat) (1130 : Rat) (89/1000000000000 : Rat) (by0 g) (bO13 h) (by decide +kernel) (by decide +kernel)
  have bd4 : Bd (P.y0 * (O13 Q a1 a3)) (75710 : Rat) := (Bd.mul (by0 g) (bO13 h)).mono (by decide +kernel)
  obtain ⟨z5, o5, A5⟩ := Ap.add A3 A4 (180217 : Rat) (31/100000000000 : Rat) ((Bd.add bd3 bd4).mono (by decide +kernel)) (by decide +kernel) (by decide +kernel)
  have bd5 : Bd ((((A12 P b1) * (O11 Q a1 a3)) + ((A22 P b3) * (O12 Q a1 a3))) + (P.y0 * (O13 Q a1 a3))) (180217 : Rat) := ((Bd.add bd3 bd4).mono (by decide +kernel))
  have e : ((((A12 P b1) * (O11 Q a1 a3)) + ((A22 P b3) * (O12 Q a1 a3))) + (P.y0 * (O13 Q a1 a3))) = H12 Q P a1 a3 b1 b3 := by unfold H12; rfl
  exact ⟨_, ⟨_, _, _, _, o1, o2, o3, o4, o5⟩, A5.eq e, e ▸ bd5⟩
theorem tim22 {q p : Q8} {Q P : Quad} {a1 a3 b1 b3 : Rat} {o b : M9} (h : QZ q Q a1 a3) (g : QZ p P b1 b3) (k : NearO o Q a1 a3) (j : NearA b P b1 b3) : ∃ z, DotR b.a12 o.a21 b.a22 o.a22 b.a32 o.a23 z ∧ Ap z (H22 Q P a1 a3 b1 b3) (43/100000000000 : Rat) ∧ Bd (H22 Q P a1 a3 b1 b3) (261727 : Rat) := by
  have bo1 : Bd (1 : Rat) 1 := by unfold Bd; constructor <;> decide +kernel
  obtain ⟨z1, o1, A1⟩ := Ap.mul j.a12 k.a21 (159 : Rat) (98 : Rat) (7/200000000000 : Rat) (bA12 g) (bO21 h) (by decide +kernel) (by decide +kernel)
  have bd1 : Bd ((A12 P b1) * (O21 Q a1 a3)) (15582 : Rat) := (Bd.mul (bA12 g) (bO21 h)).mono (by decide +kernel)
  obtain ⟨z2, o2, A2⟩ := Ap.mul j.a22 k.a22 (445 : Rat) (383 : Rat) (1/4000000000 : Rat) (bA22 g) (bO22 h) (by decide +kernel) (by decide +kernel)
  have bd2 : Bd ((A22 P b3) * (O22 Q a1 a3)) (170435 : Rat) := (Bd.mul (bA22 g) (bO22 h)).mono (by decide +kernel)
  obtain ⟨z3, o3, A3⟩ := Ap.add A1 A2 (186017 : Rat) (31/100000000000 : Rat) ((Bd.add bd1 bd2).mono (by decide +kernel)) (by decide +kernel) (by decide +kernel)
  have bd3 : Bd (((A12 P b1) * (O21 Q a1 a3)) + ((A22 P b3) * (O22 Q a1 a3))) (186017 : Rat) := ((Bd.add bd1 bd2).mono (by decide +kernel))
  obtain ⟨z4, o4, A4⟩ := Ap.mul j.a32 k.a23 (67 : Rat) (1130 : Rat) (89/1000000000000 : Rat) (by0 g) (bO23 h) (by decide +kernel) (by decide +kernel)
  have bd4 : Bd (P.y0 * (O23 Q a1 a3)) (75710 : Rat) := (Bd.mul (by0 g) (bO23 h)).mono (by decide +kernel)
  obtain ⟨z5, o5, A5⟩ := Ap.add A3 A4 (261727 : Rat) (43/100000000000 : Rat) ((Bd.add bd3 bd4).mono (by decide +kernel)) (by decide +kernel) (by decide +kernel)
  have bd5 : Bd ((((A12 P b1) * (O21 Q a1 a3)) + ((A22 P b3) * (O22 Q a1 a3))) + (P.y0 * (O23 Q a1 a3))) (261727 : Rat) := ((Bd.add bd3 bd4).mono (by decide +kernel))
  have e : ((((A12 P b1) * (O21 Q a1 a3)) + ((A22 P b3) * (O22 Q a1 a3))) + (P.y0 * (O23 Q a1 a3))) = H22 Q P a1 a3 b1 b3 := by unfold H22; rfl
  exact ⟨_, ⟨_, _, _, _, o1, o2, o3, o4, o5⟩, A5.eq e, e ▸ bd5⟩
theorem tim32 {q p : Q8} {Q P : Quad} {a1 a3 b1 b3 : Rat} {o b : M9} (h : QZ q Q a1 a3) (g : QZ p P b1 b3) (k : NearO o Q a1 a3) (j : NearA b P b1 b3) : ∃ z, DotR b.a12 o.a31 b.a22 o.a32 b.a32 o.a33 z ∧ Ap z (H32 Q P a1 a3 b1 b3) (13/250000000 : Rat) ∧ Bd (H32 Q P a1 a3 b1 b3) (32926000 : Rat) := by
  have bo1 : Bd (1 : Rat) 1 := by unfold Bd; constructor <;> decide +kernel
  obtain ⟨z1, o1, A1⟩ := Ap.mul j.a12 k.a31 (159 : Rat) (29000 : Rat) (7/1000000000 : Rat) (bA12 g) (bO31 h) (by decide +kernel) (by decide +kernel)
  have bd1 : Bd ((A12 P b1) * (O31 Q a1 a3)) (4611000 : Rat) := (Bd.mul (bA12 g) (bO31 h)).mono (by decide +kernel)
  obtain ⟨z2, o2, A2⟩ := Ap.mul j.a22 k.a32 (445 : Rat) (29000 : Rat) (19/1000000000 : Rat) (bA22 g) (bO32 h) (by decide +kernel) (by decide +kernel)
  have bd2 : Bd ((A22 P b3) * (O32 Q a1 a3)) (12905000 : Rat) := (Bd.mul (bA22 g) (bO32 h)).mono (by decide +kernel)
  obtain ⟨z3, o3, A3⟩ := Ap.add A1 A2 (17516000 : Rat) (7/250000000 : Rat) ((Bd.add bd1 bd2).mono (by decide +kernel)) (by decide +kernel) (by decide +kernel)
  have bd3 : Bd (((A12 P b1) * (O31 Q a1 a3)) + ((A22 P b3) * (O32 Q a1 a3))) (17516000 : Rat) := ((Bd.add bd1 bd2).mono (by decide +kernel))
  obtain ⟨z4, o4, A4⟩ := Ap.mul j.a32 k.a33 (67 : Rat) (230000 : Rat) (1/50000000 : Rat) (by0 g) (bO33 h) (by decide +kernel) (by decide +kernel)
  have bd4 : Bd (P.y0 * (O33 Q a1 a3)) (15410000 : Rat) := (Bd.mul (by0 g) (bO33 h)).mono (by decide +kernel)
  obtain ⟨z5, o5, A5⟩ := Ap.add A3 A4 (32926000 : Rat) (13/250000000 : Rat) ((Bd.add bd3 bd4).mono (by decide +kernel)) (by decide +kernel) (by decide +kernel)
  have bd5 : Bd ((((A12 P b1) * (O31 Q a1 a3)) + ((A22 P b3) * (O32 Q a1 a3))) + (P.y0 * (O33 Q a1 a3))) (32926000 : Rat) := ((Bd.add bd3 bd4).mono (by decide +kernel))
  have e : ((((A12 P b1) * (O31 Q a1 a3)) + ((A22 P b3) * (O32 Q a1 a3))) + (P.y0 * (O33 Q a1 a3))) = H32 Q P a1 a3 b1 b3 := by unfold H32; rfl
  exact ⟨_, ⟨_, _, _, _, o1, o2, o3, o4, o5⟩, A5.eq e, e ▸ bd5⟩
theorem tim13 {q p : Q8} {Q P : Quad} {a1 a3 b1 b3 : Rat} {o b : M9} (h : QZ q Q a1 a3) (g : QZ p P b1 b3) (k : NearO o Q a1 a3) (j : NearA b P b1 b3) : ∃ z, DotR b.a13 o.a11 b.a23 o.a12 b.a33 o.a13 z ∧ Ap z (H13 Q a1 a3 b1 b3) (1/312500000000 : Rat) ∧ Bd (H13 Q a1 a3 b1 b3) (14163/7 : Rat) := by
  have bo1 : Bd (1 : Rat) 1 := by unfold Bd; constructor <;> decide +kernel
  obtain ⟨z1, o1, A1⟩ := Ap.mul j.a13 k.a11 (13/7 : Rat) (383 : Rat) (19/20000000000000 : Rat) (bA13 g) (bO11 h) (by decide +kernel) (by decide +kernel)
  have bd1 : Bd ((b1 - 1) * (O11 Q a1 a3)) (4979/7 : Rat) := (Bd.mul (bA13 g) (bO11 h)).mono (by decide +kernel)
  obtain ⟨z2, o2, A2⟩ := Ap.mul j.a23 k.a12 (13/7 : Rat) (98 : Rat) (19/50000000000000 : Rat) (bA23 g) (bO12 h) (by decide +kernel) (by decide +kernel)
  have bd2 : Bd ((b3 - 1) * (O12 Q a1 a3)) (182 : Rat) := (Bd.mul (bA23 g) (bO12 h)).mono (by decide +kernel)
  obtain ⟨z3, o3, A3⟩ := Ap.add A1 A2 (6253/7 : Rat) (3/2000000000000 : Rat) ((Bd.add bd1 bd2).mono (by decide +kernel)) (by decide +kernel) (by decide +kernel)
  have bd3 : Bd (((b1 - 1) * (O11 Q a1 a3)) + ((b3 - 1) * (O12 Q a1 a3))) (6253/7 : Rat) := ((Bd.add bd1 bd2).mono (by decide +kernel))
  obtain ⟨z4, o4, A4⟩ := Ap.mul j.a33 k.a13 (1 : Rat) (1130 : Rat) (7/5000000000000 : Rat) bo1 (bO13 h) (by decide +kernel) (by decide +kernel)
  have bd4 : Bd ((1 : Rat) * (O13 Q a1 a3)) (1130 : Rat) := (Bd.mul bo1 (bO13 h)).mono (by decide +kernel)
  obtain ⟨z5, o5, A5⟩ := Ap.add A3 A4 (14163/7 : Rat) (1/312500000000 : Rat) ((Bd.add bd3 bd4).mono (by decide +kernel)) (by decide +kernel) (by decide +kernel)
  have bd5 : Bd ((((b1 - 1) * (O11 Q a1 a3)) + ((b3 - 1) * (O12 Q a1 a3))) + ((1 : Rat) * (O13 Q a1 a3))) (14163/7 : Rat) := ((Bd.add bd3 bd4).mono (by decide +kernel))
  have e : ((((b1 - 1) * (O11 Q a1 a3)) + ((b3 - 1) * (O12 Q a1 a3))) + ((1 : Rat) * (O13 Q a1 a3))) = H13 Q a1 a3 b1 b3 := by unfold H13; rfl
  exact ⟨_, ⟨_, _, _, _, o1, o2, o3, o4, o5⟩, A5.eq e, e ▸ bd5⟩
theorem tim23 {q p : Q8} {Q P : Quad} {a1 a3 b1 b3 : Rat} {o b : M9} (h : QZ q Q a1 a3) (g : QZ p P b1 b3) (k : NearO o Q a1 a3) (j : NearA b P b1 b3) : ∃ z, DotR b.a13 o.a21 b.a23 o.a22 b.a33 o.a23 z ∧ Ap z (H23 Q a1 a3 b1 b3) (1/312500000000 : Rat) ∧ Bd (H23 Q a1 a3 b1 b3) (14163/7 : Rat) := by
  have bo1 : Bd (1 : Rat) 1 := by unfold Bd; constructor <;> decide +kernel
  obtain ⟨z1, o1, A1⟩ := Ap.mul j.a13 k.a21 (13/7 : Rat) (98 : Rat) (19/50000000000000 : Rat) (bA13 g) (bO21 h) (by decide +kernel) (by decide +kernel)
  have bd1 : Bd ((b1 - 1) * (O21 Q a1 a3)) (182 : Rat) := (Bd.mul (bA13 g) (bO21 h)).mono (by decide +kernel)
  obtain ⟨z2, o2, A2⟩ := Ap.mul j.a23 k.a22 (13/7 : Rat) (383 : Rat) (19/20000000000000 : Rat) (bA23 g) (bO22 h) (by decide +kernel) (by decide +kernel)
  have bd2 : Bd ((b3 - 1) * (O22 Q a1 a3)) (4979/7 : Rat) := (Bd.mul (bA23 g) (bO22 h)).mono (by decide +kernel)
  obtain ⟨z3, o3, A3⟩ := Ap.add A1 A2 (6253/7 : Rat) (3/2000000000000 : Rat) ((Bd.add bd1 bd2).mono (by decide +kernel)) (by decide +kernel) (by decide +kernel)
  have bd3 : Bd (((b1 - 1) * (O21 Q a1 a3)) + ((b3 - 1) * (O22 Q a1 a3))) (6253/7 : Rat) := ((Bd.add bd1 bd2).mono (by decide +kernel))
  obtain ⟨z4, o4, A4⟩ := Ap.mul j.a33 k.a23 (1 : Rat) (1130 : Rat) (7/5000000000000 : Rat) bo1 (bO23 h) (by decide +kernel) (by decide +kernel)
  have bd4 : Bd ((1 : Rat) * (O23 Q a1 a3)) (1130 : Rat) := (Bd.mul bo1 (bO23 h)).mono (by decide +kernel)
  obtain ⟨z5, o5, A5⟩ := Ap.add A3 A4 (14163/7 : Rat) (1/312500000000 : Rat) ((Bd.add bd3 bd4).mono (by decide +kernel)) (by decide +kernel) (by decide +kernel)
  have bd5 : Bd ((((b1 - 1) * (O21 Q a1 a3)) + ((b3 - 1) * (O22 Q a1 a3))) + ((1 : Rat) * (O23 Q a1 a3))) (14163/7 : Rat) := ((Bd.add bd3 bd4).mono (by decide +kernel))
  have e : ((((b1 - 1) * (O21 Q a1 a3)) + ((b3 - 1) * (O22 Q a1 a3))) + ((1 : Rat) * (O23 Q a1 a3))) = H23 Q a1 a3 b1 b3 := by unfold H23; rfl
  exact ⟨_, ⟨_, _, _, _, o1, o2, o3, o4, o5⟩, A5.eq e, e ▸ bd5⟩
theorem tim33 {q p : Q8} {Q P : Quad} {a1 a3 b1 b3 : Rat} {o b : M9} (h : QZ q Q a1 a3) (g : QZ p P b1 b3) (k : NearO o Q a1 a3) (j : NearA b P b1 b3) : ∃ z, DotR b.a13 o.a31 b.a23 o.a32 b.a33 o.a33 z ∧ Ap z (H33 Q a1 a3 b1 b3) (1/2000000000 : Rat) ∧ Bd (H33 Q a1 a3 b1 b3) (2364000/7 : Rat) := by
  have bo1 : Bd (1 : Rat) 1 := by unfold Bd; constructor <;> decide +kernel
  obtain ⟨z1, o1, A1⟩ := Ap.mul j.a13 k.a31 (13/7 : Rat) (29000 : Rat) (3/40000000000 : Rat) (bA13 g) (bO31 h) (by decide +kernel) (by decide +kernel)
  have bd1 : Bd ((b1 - 1) * (O31 Q a1 a3)) (377000/7 : Rat) := (Bd.mul (bA13 g) (bO31 h)).mono (by decide +kernel)
  obtain ⟨z2, o2, A2⟩ := Ap.mul j.a23 k.a32 (13/7 : Rat) (29000 : Rat) (3/40000000000 : Rat) (bA23 g) (bO32 h) (by decide +kernel) (by decide +kernel)
  have bd2 : Bd ((b3 - 1) * (O32 Q a1 a3)) (377000/7 : Rat) := (Bd.mul (bA23 g) (bO32 h)).mono (by decide +kernel)
  obtain ⟨z3, o3, A3⟩ := Ap.add A1 A2 (754000/7 : Rat) (17/100000000000 : Rat) ((Bd.add bd1 bd2).mono (by decide +kernel)) (by decide +kernel) (by decide +kernel)
  have bd3 : Bd (((b1 - 1) * (O31 Q a1 a3)) + ((b3 - 1) * (O32 Q a1 a3))) (754000/7 : Rat) := ((Bd.add bd1 bd2).mono (by decide +kernel))
  obtain ⟨z4, o4, A4⟩ := Ap.mul j.a33 k.a33 (1 : Rat) (230000 : Rat) (29/100000000000 : Rat) bo1 (bO33 h) (by decide +kernel) (by decide +kernel)
  have bd4 : Bd ((1 : Rat) * (O33 Q a1 a3)) (230000 : Rat) := (Bd.mul bo1 (bO33 h)).mono (by decide +kernel)
  obtain ⟨z5, o5, A5⟩ := Ap.add A3 A4 (2364000/7 : Rat) (1/2000000000 : Rat) ((Bd.add bd3 bd4).mono (by decide +kernel)) (by decide +kernel) (by decide +kernel)
  have bd5 : Bd ((((b1 - 1) * (O31 Q a1 a3)) + ((b3 - 1) * (O32 Q a1 a3))) + ((1 : Rat) * (O33 Q a1 a3))) (2364000/7 : Rat) := ((Bd.add bd3 bd4).mono (by decide +kernel))
  have e : ((((b1 - 1) * (O31 Q a1 a3)) + ((b3 - 1) * (O32 Q a1 a3))) + ((1 : Rat) * (O33 Q a1 a3))) = H33 Q a1 a3 b1 b3 := by unfold H33; rfl
  exact ⟨_, ⟨_, _, _, _, o1, o2, o3, o4, o5⟩, A5.eq e, e ▸ bd5⟩

structure NearH (r : M9) (Q P : Quad) (a1 a3 b1 b3 : Rat) : Prop where
  a11 : Ap r.a11 (H11 Q P a1 a3 b1 b3) (43/100000000000 : Rat)
  a21 : Ap r.a21 (H21 Q P a1 a3 b1 b3) (31/100000000000 : Rat)
  a31 : Ap r.a31 (H31 Q P a1 a3 b1 b3) (13/250000000 : Rat)
  a12 : Ap r.a12 (H12 Q P a1 a3 b1 b3) (31/100000000000 : Rat)
  a22 : Ap r.a22 (H22 Q P a1 a3 b1 b3) (43/100000000000 : Rat)
  a32 : Ap r.a32 (H32 Q P a1 a3 b1 b3) (13/250000000 : Rat)
  a13 : Ap r.a13 (H13 Q a1 a3 b1 b3) (1/312500000000 : Rat)
  a23 : Ap r.a23 (H23 Q a1 a3 b1 b3) (1/312500000000 : Rat)
  a33 : Ap r.a33 (H33 Q a1 a3 b1 b3) (1/2000000000 : Rat)
  b11 : Bd (H11 Q P a1 a3 b1 b3) (261727 : Rat)
  b21 : Bd (H21 Q P a1 a3 b1 b3) (180217 : Rat)
  b31 : Bd (H31 Q P a1 a3 b1 b3) (32926000 : Rat)
  b12 : Bd (H12 Q P a1 a3 b1 b3) (180217 : Rat)
  b22 : Bd (H22 Q P a1 a3 b1 b3) (261727 : Rat)
  b32 : Bd (H32 Q P a1 a3 b1 b3) (32926000 : Rat)
  b13 : Bd (H13 Q a1 a3 b1 b3) (14163/7 : Rat)
  b23 : Bd (H23 Q a1 a3 b1 b3) (14163/7 : Rat)
  b33 : Bd (H33 Q a1 a3 b1 b3) (2364000/7 : Rat)

theorem times_ap {q p : Q8} {Q P : Quad} {a1 a3 b1 b3 : Rat} {o b : M9} (h : QZ q Q a1 a3) (g : QZ p P b1 b3) (k : NearO o Q a1 a3) (j : NearA b P b1 b3) : ∃ r, TimesR b o r ∧ NearH r Q P a1 a3 b1 b3 := by
  obtain ⟨z11, r11, k11, l11⟩ := tim11 h g k j
  obtain ⟨z21, r21, k21, l21⟩ := tim21 h g k j
  obtain ⟨z31, r31, k31, l31⟩ := tim31 h g k j
  obtain ⟨z12, r12, k12, l12⟩ := tim12 h g k j
  obtain ⟨z22, r22, k22, l22⟩ := tim22 h g k j
  obtain ⟨z32, r32, k32, l32⟩ := tim32 h g k j
  obtain ⟨z13, r13, k13, l13⟩ := tim13 h g k j
  obtain ⟨z23, r23, k23, l23⟩ := tim23 h g k j
  obtain ⟨z33, r33, k33, l33⟩ := tim33 h g k j
  exact ⟨⟨z11, z21, z31, z12, z22, z32, z13, z23, z33⟩, ⟨r11, r21, r31, r12, r22, r32, r13, r23, r33⟩, ⟨k11, k21, k31, k12, k22, k32, k13, k23, k33, l11, l21, l31, l12, l22, l32, l13, l23, l33⟩⟩

theorem ptDD {Q P : Quad} {a1 a3 b1 b3 : Rat} {r : M9} {x y : Nat} (k : NearH r Q P a1 a3 b1 b3) (hx : Fl.fin x) (hy : Fl.fin y) (bx : Bd (val x) 168) (bY : Bd (val y) 168) : ∃ z, Dot2R r.a13 x r.a23 y r.a33 z ∧ Ap z (DD Q a1 a3 b1 b3 (val x) (val y)) (1/500000000 : Rat) := by
  obtain ⟨z1, o1, A1⟩ := Ap.mul k.a13 (Ap.self hx) (14163/7 : Rat) (168 : Rat) (29/50000000000 : Rat) k.b13 bx (by decide +kernel) (by decide +kernel)
  have bd1 : Bd ((H13 Q a1 a3 b1 b3) * (val x)) (339912 : Rat) := (Bd.mul k.b13 bx).mono (by decide +kernel)
  obtain ⟨z2, o2, A2⟩ := Ap.mul k.a23 (Ap.self hy) (14163/7 : Rat) (168 : Rat) (29/50000000000 : Rat) k.b23 bY (by decide +kernel) (by decide +kernel)
  have bd2 : Bd ((H23 Q a1 a3 b1 b3) * (val y)) (339912 : Rat) := (Bd.mul k.b23 bY).mono (by decide +kernel)
  obtain ⟨z3, o3, A3⟩ := Ap.add A1 A2 (679824 : Rat) (13/10000000000 : Rat) ((Bd.add bd1 bd2).mono (by decide +kernel)) (by decide +kernel) (by decide +kernel)
  have bd3 : Bd (((H13 Q a1 a3 b1 b3) * (val x)) + ((H23 Q a1 a3 b1 b3) * (val y))) (679824 : Rat) := ((Bd.add bd1 bd2).mono (by decide +kernel))
  obtain ⟨z4, o4, A4⟩ := Ap.add A3 k.a33 (7122768/7 : Rat) (1/500000000 : Rat) ((Bd.add bd3 k.b33).mono (by decide +kernel)) (by decide +kernel) (by decide +kernel)
  have bd4 : Bd ((((H13 Q a1 a3 b1 b3) * (val x)) + ((H23 Q a1 a3 b1 b3) * (val y))) + (H33 Q a1 a3 b1 b3)) (7122768/7 : Rat) := ((Bd.add bd3 k.b33).mono (by decide +kernel))
  have e : ((((H13 Q a1 a3 b1 b3) * (val x)) + ((H23 Q a1 a3 b1 b3) * (val y))) + (H33 Q a1 a3 b1 b3)) = DD Q a1 a3 b1 b3 (val x) (val y) := by unfold DD; rfl
  exact ⟨_, ⟨_, _, _, o1, o2, o3, o4⟩, A4.eq e⟩
theorem ptNX {Q P : Quad} {a1 a3 b1 b3 : Rat} {r : M9} {x y : Nat} (k : NearH r Q P a1 a3 b1 b3) (hx : Fl.fin x) (hy : Fl.fin y) (bx : Bd (val x) 168) (bY : Bd (val y) 168) : ∃ z, Dot2R r.a11 x r.a21 y r.a31 z ∧ Ap z (NX Q P a1 a3 b1 b3 (val x) (val y)) (11/50000000 : Rat) := by
  obtain ⟨z1, o1, A1⟩ := Ap.mul k.a11 (Ap.self hx) (261727 : Rat) (168 : Rat) (39/500000000 : Rat) k.b11 bx (by decide +kernel) (by decide +kernel)
  have bd1 : Bd ((H11 Q P a1 a3 b1 b3) * (val x)) (43970136 : Rat) := (Bd.mul k.b11 bx).mono (by decide +kernel)
  obtain ⟨z2, o2, A2⟩ := Ap.mul k.a21 (Ap.self hy) (180217 : Rat) (168 : Rat) (7/125000000 : Rat) k.b21 bY (by decide +kernel) (by decide +kernel)
  have bd2 : Bd ((H21 Q P a1 a3 b1 b3) * (val y)) (30276456 : Rat) := (Bd.mul k.b21 bY).mono (by decide +kernel)
  obtain ⟨z3, o3, A3⟩ := Ap.add A1 A2 (74246592 : Rat) (3/20000000 : Rat) ((Bd.add bd1 bd2).mono (by decide +kernel)) (by decide +kernel) (by decide +kernel)
  have bd3 : Bd (((H11 Q P a1 a3 b1 b3) * (val x)) + ((H21 Q P a1 a3 b1 b3) * (val y))) (74246592 : Rat) := ((Bd.add bd1 bd2).mono (by decide +kernel))
  obtain ⟨z4, o4, A4⟩ := Ap.add A3 k.a31 (107172592 : Rat) (11/50000000 : Rat) ((Bd.add bd3 k.b31).mono (by decide +kernel)) (by decide +kernel) (by decide +kernel)
  have bd4 : Bd ((((H11 Q P a1 a3 b1 b3) * (val x)) + ((H21 Q P a1 a3 b1 b3) * (val y))) + (H31 Q P a1 a3 b1 b3)) (107172592 : Rat) := ((Bd.add bd3 k.b31).mono (by decide +kernel))
  have e : ((((H11 Q P a1 a3 b1 b3) * (val x)) + ((H21 Q P a1 a3 b1 b3) * (val y))) + (H31 Q P a1 a3 b1 b3)) = NX Q P a1 a3 b1 b3 (val x) (val y) := by unfold NX; rfl
  exact ⟨_, ⟨_, _, _, o1, o2, o3, o4⟩, A4.eq e⟩
theorem ptNY {Q P : Quad} {a1 a3 b1 b3 : Rat} {r : M9} {x y : Nat} (k : NearH r Q P a1 a3 b1 b3) (hx : Fl.fin x) (hy : Fl.fin y) (bx : Bd (val x) 168) (bY : Bd (val y) 168) : ∃ z, Dot2R r.a12 x r.a22 y r.a32 z ∧ Ap z (NY Q P a1 a3 b1 b3 (val x) (val y)) (11/50000000 : Rat) := by
  obtain ⟨z1, o1, A1⟩ := Ap.mul k.a12 (Ap.self hx) (180217 : Rat) (168 : Rat) (7/125000000 : Rat) k.b12 bx (by decide +kernel) (by decide +kernel)
  have bd1 : Bd ((H12 Q P a1 a3 b1 b3) * (val x)) (30276456 : Rat) := (Bd.mul k.b12 bx).mono (by decide +kernel)
  obtain ⟨z2, o2, A2⟩ := Ap.mul k.a22 (Ap.self hy) (261727 : Rat) (168 : Rat) (39/500000000 : Rat) k.b22 bY (by decide +kernel) (by decide +kernel)
  have bd2 : Bd ((H22 Q P a1 a3 b1 b3) * (val y)) (43970136 : Rat) := (Bd.mul k.b22 bY).mono (by decide +kernel)
  obtain ⟨z3, o3, A3⟩ := Ap.add A1 A2 (74246592 : Rat) (3/20000000 : Rat) ((Bd.add bd1 bd2).mono (by decide +kernel)) (by decide +kernel) (by decide +kernel)
  have bd3 : Bd (((H12 Q P a1 a3 b1 b3) * (val x)) + ((H22 Q P a1 a3 b1 b3) * (val y))) (74246592 : Rat) := ((Bd.add bd1 bd2).mono (by decide +kernel))
  obtain ⟨z4, o4, A4⟩ := Ap.add A3 k.a32 (107172592 : Rat) (11/50000000 : Rat) ((Bd.add bd3 k.b32).mono (by decide +kernel)) (by decide +kernel) (by decide +kernel)
  have bd4 : Bd ((((H12 Q P a1 a3 b1 b3) * (val x)) + ((H22 Q P a1 a3 b1 b3) * (val y))) + (H32 Q P a1 a3 b1 b3)) (107172592 : Rat) := ((Bd.add bd3 k.b32).mono (by decide +kernel))
  have e : ((((H12 Q P a1 a3 b1 b3) * (val x)) + ((H22 Q P a1 a3 b1 b3) * (val y))) + (H32 Q P a1 a3 b1 b3)) = NY Q P a1 a3 b1 b3 (val x) (val y) := by unfold NY; rfl
  exact ⟨_, ⟨_, _, _, o1, o2, o3, o4⟩, A4.eq e⟩

theorem pt_ap {Q P : Quad} {a1 a3 b1 b3 : Rat} {r : M9} {x y : Nat} {s t : Rat} (k : NearH r Q P a1 a3 b1 b3) (hx : Fl.fin x) (hy : Fl.fin y) (bx : Bd (val x) 168) (bY : Bd (val y) 168)
    (hd : (427 : Rat) ≤ DD Q a1 a3 b1 b3 (val x) (val y)) (hs : s * DD Q a1 a3 b1 b3 (val x) (val y) = NX Q P a1 a3 b1 b3 (val x) (val y)) (ht : t * DD Q a1 a3 b1 b3 (val x) (val y) = NY Q P a1 a3 b1 b3 (val x) (val y)) (bs : Bd s 168) (bt : Bd t 168) :
    ∃ x' y', TPtR r x y x' y' ∧ Ap x' s (3/2000000000 : Rat) ∧ Ap y' t (3/2000000000 : Rat) := by
  obtain ⟨zd, rd, kd⟩ := ptDD k hx hy bx bY
  obtain ⟨zx, rx, kx⟩ := ptNX k hx hy bx bY
  obtain ⟨zy, ry, ky⟩ := ptNY k hx hy bx bY
  obtain ⟨x', o1, p1⟩ := Ap.div kx kd s 168 (427 : Rat) (7/5000000000 : Rat) (3/2000000000 : Rat) hs bs (Or.inl hd) (by decide +kernel) (by decide +kernel) (by decide +kernel) (by decide +kernel) (by decide +kernel)
  obtain ⟨y', o2, p2⟩ := Ap.div ky kd t 168 (427 : Rat) (7/5000000000 : Rat) (3/2000000000 : Rat) ht bt (Or.inl hd) (by decide +kernel) (by decide +kernel) (by decide +kernel) (by decide +kernel) (by decide +kernel)
  exact ⟨x', y', ⟨zd, zx, zy, rd, rx, o1, ry, o2⟩, p1, p2⟩

end Go.Proofs.Ytaadklfendegfaa

/- Weights of four corners, how the map takes them, and how much it spreads. -/
namespace Go.Proofs.Ytaadklfendegfaa
open Go Fl Geo

structure Wt where
  (w0 w1 w2 w3 : Rat)
theorem Wt.same {a b : Wt} (h0 : a.w0 = b.w0) (h1 : a.w1 = b.w1) (h2 : a.w2 = b.w2) (h3 : a.w3 = b.w3) : a = b := by
  cases a; cases b; dsimp only at h0 h1 h2 h3; subst h0; subst h1; subst h2; subst h3; rfl
structure Wt.OK (w : Wt) : Prop where
  p0 : 0 ≤ w.w0
  p1 : 0 ≤ w.w1
  p2 : 0 ≤ w.w2
  p3 : 0 ≤ w.w3
  sum : w.w0 + w.w1 + w.w2 + w.w3 = 1
def Wt.px (w : Wt) (q : Quad) : Rat := w.w0 * q.x0 + w.w1 * q.x1 + w.w2 * q.x2 + w.w3 * q.x3
def Wt.py (w : Wt) (q : Quad) : Rat := w.w0 * q.y0 + w.w1 * q.y1 + w.w2 * q.y2 + w.w3 * q.y3

structure Tau where
  (t0 t1 t2 t3 : Rat)
def tau (q : Quad) (a1 a3 b1 b3 : Rat) : Tau := ⟨ta0 q a1 a3 b1 b3, ta1 q a1 a3 b1 b3, ta2 q a1 a3 b1 b3, ta3 q a1 a3 b1 b3⟩
def Wt.tot (w : Wt) (t : Tau) : Rat := w.w0 * t.t0 + w.w1 * t.t1 + w.w2 * t.t2 + w.w3 * t.t3
def Wt.img (w : Wt) (t : Tau) : Wt := ⟨w.w0 * t.t0 / w.tot t, w.w1 * t.t1 / w.tot t, w.w2 * t.t2 / w.tot t, w.w3 * t.t3 / w.tot t⟩

/-- four numbers that are not below m -/
structure Tau.Ge (t : Tau) (m : Rat) : Prop where
  pos : 0 < m
  g0 : m ≤ t.t0
  g1 : m ≤ t.t1
  g2 : m ≤ t.t2
  g3 : m ≤ t.t3

theorem tot_ge {w : Wt} {t : Tau} {m : Rat} (hw : w.OK) (ht : t.Ge m) : m ≤ w.tot t := by
  have h0 := Rat.mul_le_mul_of_nonneg_left ht.g0 hw.p0
  have h1 := Rat.mul_le_mul_of_nonneg_left ht.g1 hw.p1
  have h2 := Rat.mul_le_mul_of_nonneg_left ht.g2 hw.p2
  have h3 := Rat.mul_le_mul_of_nonneg_left ht.g3 hw.p3
  have e : m = w.w0 * m + w.w1 * m + w.w2 * m + w.w3 * m := by
    have : (w.w0 + w.w1 + w.w2 + w.w3) * m = m := by rw [hw.sum]; grind
    grind
  unfold Wt.tot
  grind

theorem div_mul' {a b : Rat} (h : 0 < b) : a / b * b = a := Rat.div_mul_cancel (by grind)

theorem img_ok {w : Wt} {t : Tau} {m : Rat} (hw : w.OK) (ht : t.Ge m) : (w.img t).OK := by
  have hp := tot_ge hw ht
  have hm := ht.pos
  have hd : 0 < w.tot t := by grind
  have hn : ∀ a b : Rat, 0 ≤ a → m ≤ b → 0 ≤ a * b / w.tot t := fun a b ha hb => by
    have := Rat.mul_nonneg ha (show 0 ≤ b by grind)
    rw [Rat.div_def]
    exact Rat.mul_nonneg this (by have := Rat.inv_pos.2 hd; grind)
  refine ⟨hn _ _ hw.p0 ht.g0, hn _ _ hw.p1 ht.g1, hn _ _ hw.p2 ht.g2, hn _ _ hw.p3 ht.g3, ?_⟩
  refine cancel hd ?_
  have e0 : w.w0 * t.t0 / w.tot t * w.tot t = _ := div_mul' hd
  have e1 : w.w1 * t.t1 / w.tot t * w.tot t = _ := div_mul' hd
  have e2 : w.w2 * t.t2 / w.tot t * w.tot t = _ := div_mul' hd
  have e3 : w.w3 * t.t3 / w.tot t * w.tot t = _ := div_mul' hd
  show (w.w0 * t.t0 / w.tot t + w.w1 * t.t1 / w.tot t + w.w2 * t.t2 / w.tot t + w.w3 * t.t3 / w.tot t) * w.tot t = 1 * w.tot t
  have e : ∀ a b c d x : Rat, (a + b + c + d) * x = a * x + b * x + c * x + d * x := by grind
  rw [e, e0, e1, e2, e3]
  unfold Wt.tot; grind

/-- by way of a third -/
theorem img_img {w : Wt} {s t u : Tau} {m n l K : Rat} (hw : w.OK) (hs : s.Ge m) (ht : t.Ge n) (hu : u.Ge l) (hK : 0 < K)
    (h0 : s.t0 * t.t0 = K * u.t0) (h1 : s.t1 * t.t1 = K * u.t1) (h2 : s.t2 * t.t2 = K * u.t2) (h3 : s.t3 * t.t3 = K * u.t3) : (w.img s).img t = w.img u := by
  have k1 := tot_ge hw hs
  have k2 := tot_ge (img_ok hw hs) ht
  have k3 := tot_ge hw hu
  have m1 := hs.pos
  have m2 := ht.pos
  have m3 := hu.pos
  have p1 : 0 < w.tot s := by grind
  have p2 : 0 < (w.img s).tot t := by grind
  have p3 : 0 < w.tot u := by grind
  have e0 : w.w0 * s.t0 / w.tot s * w.tot s = _ := div_mul' p1
  have e1 : w.w1 * s.t1 / w.tot s * w.tot s = _ := div_mul' p1
  have e2 : w.w2 * s.t2 / w.tot s * w.tot s = _ := div_mul' p1
  have e3 : w.w3 * s.t3 / w.tot s * w.tot s = _ := div_mul' p1
  have hE : (w.img s).tot t * w.tot s = K * w.tot u := by
    have : (w.img s).tot t * w.tot s = (w.w0 * s.t0 / w.tot s * w.tot s) * t.t0 + (w.w1 * s.t1 / w.tot s * w.tot s) * t.t1 + (w.w2 * s.t2 / w.tot s * w.tot s) * t.t2 + (w.w3 * s.t3 / w.tot s * w.tot s) * t.t3 := by
      unfold Wt.img
      show (_ * t.t0 + _ * t.t1 + _ * t.t2 + _ * t.t3) * _ = _
      grind
    rw [this, e0, e1, e2, e3]
    have f0 : w.w0 * s.t0 * t.t0 = w.w0 * (s.t0 * t.t0) := by grind
    have f1 : w.w1 * s.t1 * t.t1 = w.w1 * (s.t1 * t.t1) := by grind
    have f2 : w.w2 * s.t2 * t.t2 = w.w2 * (s.t2 * t.t2) := by grind
    have f3 : w.w3 * s.t3 * t.t3 = w.w3 * (s.t3 * t.t3) := by grind
    rw [f0, f1, f2, f3, h0, h1, h2, h3]
    unfold Wt.tot; grind
  have one : ∀ a x y z : Rat, x * y = K * z → a * x / w.tot s * y / (w.img s).tot t = a * z / w.tot u := by
    intro a x y z h
    have pp : 0 < K * w.tot u := Rat.mul_pos hK p3
    refine cancel p3 (cancel p2 (cancel p1 ?_))
    have d1 : a * x / w.tot s * y / (w.img s).tot t * (w.img s).tot t = a * x / w.tot s * y := div_mul' p2
    have d2 : a * x / w.tot s * w.tot s = a * x := div_mul' p1
    have d3 : a * z / w.tot u * w.tot u = a * z := div_mul' p3
    have l : a * x / w.tot s * y / (w.img s).tot t * w.tot u * (w.img s).tot t * w.tot s = (a * x / w.tot s * y / (w.img s).tot t * (w.img s).tot t) * w.tot s * w.tot u := by grind
    have l2 : a * x / w.tot s * y * w.tot s * w.tot u = (a * x / w.tot s * w.tot s) * y * w.tot u := by grind
    have r1 : a * z / w.tot u * w.tot u * (w.img s).tot t * w.tot s = (a * z / w.tot u * w.tot u) * ((w.img s).tot t * w.tot s) := by grind
    rw [l, d1, l2, d2, r1, d3, hE]
    have : a * x * y = a * (x * y) := by grind
    rw [this, h]; grind
  have o0 := one w.w0 _ _ _ h0
  have o1 := one w.w1 _ _ _ h1
  have o2 := one w.w2 _ _ _ h2
  have o3 := one w.w3 _ _ _ h3
  exact Wt.same o0 o1 o2 o3

/-- where the four numbers are one -/
theorem img_same {w : Wt} {t : Tau} {m : Rat} (hw : w.OK) (ht : t.Ge m) (h1 : t.t1 = t.t0) (h2 : t.t2 = t.t0) (h3 : t.t3 = t.t0) : w.img t = w := by
  have hm := ht.pos
  have hg := ht.g0
  have hp : 0 < t.t0 := by grind
  have e : w.tot t = t.t0 := by
    unfold Wt.tot; rw [h1, h2, h3]
    have : (w.w0 + w.w1 + w.w2 + w.w3) * t.t0 = t.t0 := by rw [hw.sum]; grind
    grind
  have d : ∀ a : Rat, a * t.t0 / t.t0 = a := fun a => cancel hp (div_mul' hp)
  unfold Wt.img
  rw [e, h1, h2, h3, d, d, d, d]

/-- an affine function of a mean is the mean -/
theorem aff_w {w : Wt} (hw : w.OK) (q : Quad) (c1 c2 c3 : Rat) :
    c1 * w.px q + c2 * w.py q + c3 = w.w0 * (c1 * q.x0 + c2 * q.y0 + c3) + w.w1 * (c1 * q.x1 + c2 * q.y1 + c3) + w.w2 * (c1 * q.x2 + c2 * q.y2 + c3) + w.w3 * (c1 * q.x3 + c2 * q.y3 + c3) := by
  have : (w.w0 + w.w1 + w.w2 + w.w3) * c3 = c3 := by rw [hw.sum]; grind
  unfold Wt.px Wt.py
  grind

theorem px_in {w : Wt} (hw : w.OK) {q : Q8} {Q : Quad} {a1 a3 : Rat} (h : QZ q Q a1 a3) : In (w.px Q) 33 167 ∧ In (w.py Q) 33 167 := by
  have k : ∀ x0 x1 x2 x3 : Rat, In x0 33 167 → In x1 33 167 → In x2 33 167 → In x3 33 167 → In (w.w0 * x0 + w.w1 * x1 + w.w2 * x2 + w.w3 * x3) 33 167 := by
    intro x0 x1 x2 x3 h0 h1 h2 h3
    have hs := hw.sum
    have a0 := Rat.mul_le_mul_of_nonneg_left h0.1 hw.p0
    have a1 := Rat.mul_le_mul_of_nonneg_left h1.1 hw.p1
    have a2 := Rat.mul_le_mul_of_nonneg_left h2.1 hw.p2
    have a3 := Rat.mul_le_mul_of_nonneg_left h3.1 hw.p3
    have b0 := Rat.mul_le_mul_of_nonneg_left h0.2 hw.p0
    have b1 := Rat.mul_le_mul_of_nonneg_left h1.2 hw.p1
    have b2 := Rat.mul_le_mul_of_nonneg_left h2.2 hw.p2
    have b3 := Rat.mul_le_mul_of_nonneg_left h3.2 hw.p3
    unfold In; constructor <;> grind
  have lo : ∀ x : Rat, In x 33 67 → In x 33 167 := fun x h => by unfold In at *; grind
  have hi : ∀ x : Rat, In x 133 167 → In x 33 167 := fun x h => by unfold In at *; grind
  exact ⟨k _ _ _ _ (lo _ h.ix0) (hi _ h.ix1) (hi _ h.ix2) (lo _ h.ix3), k _ _ _ _ (lo _ h.iy0) (lo _ h.iy1) (hi _ h.iy2) (hi _ h.iy3)⟩

/-- a change of an affine function, by what it is at three corners -/
theorem lin_bd {q : Q8} {Q : Quad} {a1 a3 : Rat} (h : QZ q Q a1 a3) {c1 c2 c3 dx dy e B0 B1 B3 : Rat} (hx : Bd dx e) (hy : Bd dy e)
    (g0 : Bd (c1 * Q.x0 + c2 * Q.y0 + c3) B0) (g1 : Bd (c1 * Q.x1 + c2 * Q.y1 + c3) B1) (g3 : Bd (c1 * Q.x3 + c2 * Q.y3 + c3) B3) : Bd (c1 * dx + c2 * dy) (6/125 * e * (B1 + 2 * B0 + B3)) := by
  have i := h.i013.1
  have e1 : (c1 * dx + c2 * dy) * Q.d013 = ((c1 * Q.x1 + c2 * Q.y1 + c3) - (c1 * Q.x0 + c2 * Q.y0 + c3)) * (dx * (Q.y3 - Q.y0) - dy * (Q.x3 - Q.x0)) + ((c1 * Q.x3 + c2 * Q.y3 + c3) - (c1 * Q.x0 + c2 * Q.y0 + c3)) * (dy * (Q.x1 - Q.x0) - dx * (Q.y1 - Q.y0)) := by
    unfold Quad.d013 tri; grind
  have ha : Bd (Q.y3 - Q.y0) 134 := by have := h.iy3; have := h.iy0; unfold In Bd at *; constructor <;> grind
  have hb : Bd (Q.x3 - Q.x0) 34 := by have := h.ix3; have := h.ix0; unfold In Bd at *; constructor <;> grind
  have hc : Bd (Q.x1 - Q.x0) 134 := by have := h.ix1; have := h.ix0; unfold In Bd at *; constructor <;> grind
  have hd : Bd (Q.y1 - Q.y0) 34 := by have := h.iy1; have := h.iy0; unfold In Bd at *; constructor <;> grind
  have t1 := Bd.mul (Bd.sub g1 g0) (Bd.sub (Bd.mul hx ha) (Bd.mul hy hb))
  have t2 := Bd.mul (Bd.sub g3 g0) (Bd.sub (Bd.mul hy hc) (Bd.mul hx hd))
  have t := Bd.add t1 t2
  rw [← e1] at t
  generalize c1 * dx + c2 * dy = L at *
  have hn := t.nonneg
  have er : (B1 + B0) * (e * 134 + e * 34) + (B3 + B0) * (e * 134 + e * 34) = 3500 * (6/125 * e * (B1 + 2 * B0 + B3)) := by grind
  rw [er] at t hn
  generalize 6/125 * e * (B1 + 2 * B0 + B3) = R at *
  unfold Bd at *
  constructor
  · apply Classical.byContradiction; intro hc
    have := Rat.mul_le_mul_of_nonneg_left i (show 0 ≤ -L by grind)
    grind
  · apply Classical.byContradiction; intro hc
    have := Rat.mul_le_mul_of_nonneg_left i (show 0 ≤ L by grind)
    grind

end Go.Proofs.Ytaadklfendegfaa

/- One step of the map: where the floats stand, when the point's floats stand near a mean of the corners. -/
namespace Go.Proofs.Ytaadklfendegfaa
open Go Fl Geo

theorem mul4 {a b c d : Rat} (h : a ≤ b) (k : c ≤ d) (ha : 0 ≤ a) (hd : 0 ≤ d) : a * c ≤ b * d := by
  have h1 := Rat.mul_le_mul_of_nonneg_left k ha
  have h2 := Rat.mul_le_mul_of_nonneg_right h hd
  grind

theorem min4 (a b c d : Rat) : (a ≤ b ∧ a ≤ c ∧ a ≤ d) ∨ (b ≤ a ∧ b ≤ c ∧ b ≤ d) ∨ (c ≤ a ∧ c ≤ b ∧ c ≤ d) ∨ (d ≤ a ∧ d ≤ b ∧ d ≤ c) := by grind

theorem d013_eq {q : Q8} {Q : Quad} {a1 a3 : Rat} (h : QZ q Q a1 a3) : Q.d013 = (a1 + a3 - 1) * Q.d123 := h.F.h2.symm

/-- the four weights, in one way of saying -/
theorem tau_form {q : Q8} {Q : Quad} {a1 a3 : Rat} (h : QZ q Q a1 a3) (b1 b3 : Rat) :
    tau Q a1 a3 b1 b3 = ⟨a1 * a3 * (a1 + a3 - 1) * Q.d123, a3 * b1 * (a1 + a3 - 1) * Q.d123, a1 * a3 * (b1 + b3 - 1) * Q.d123, a1 * b3 * (a1 + a3 - 1) * Q.d123⟩ := by
  unfold tau ta0 ta1 ta2 ta3
  rw [d013_eq h, ← h.F.h3]
  have e0 : a1 * a3 * ((a1 + a3 - 1) * Q.d123) = a1 * a3 * (a1 + a3 - 1) * Q.d123 := by grind
  have e1 : a3 * ((a1 + a3 - 1) * Q.d123) * b1 = a3 * b1 * (a1 + a3 - 1) * Q.d123 := by grind
  have e2 : a1 * (a3 * Q.d123) * (b1 + b3 - 1) = a1 * a3 * (b1 + b3 - 1) * Q.d123 := by grind
  have e3 : a1 * ((a1 + a3 - 1) * Q.d123) * b3 = a1 * b3 * (a1 + a3 - 1) * Q.d123 := by grind
  rw [e0, e1, e2, e3]

theorem tau_ge {q p : Q8} {Q P : Quad} {a1 a3 b1 b3 : Rat} (h : QZ q Q a1 a3) (g : QZ p P b1 b3) :
    ∃ m, 428 ≤ m ∧ (tau Q a1 a3 b1 b3).Ge m ∧ (tau Q a1 a3 b1 b3).t1 + 2 * (tau Q a1 a3 b1 b3).t0 + (tau Q a1 a3 b1 b3).t3 ≤ 62 * m := by
  have hA1 := h.r1
  have hA3 := h.r3
  have hS := h.r2
  have hB1 := g.r1
  have hB3 := g.r3
  have hT := g.r2
  have hc := h.i123.1
  have f1 := h.F.h1
  have f3 := h.F.h3
  have f2 := h.F.h2
  have i12 := h.i012.1
  have i23 := h.i023.1
  have i13 := h.i013.1
  have u1 := h.u1
  have u1' := h.u1'
  have u3 := h.u3
  have u3' := h.u3'
  have r13 := h.r13
  have r31 := h.r31
  have v1 := g.u1
  have v1' := g.u1'
  have v3 := g.u3
  have v3' := g.u3'
  have s13 := g.r13
  have s31 := g.r31
  have hsum : Q.d012 + Q.d023 = Q.d123 + Q.d013 := by grind
  rw [tau_form h]
  clear h g
  unfold In at *
  generalize Q.d012 = d012 at *
  generalize Q.d023 = d023 at *
  generalize Q.d013 = d013 at *
  generalize Q.d123 = c at *
  generalize a1 + a3 - 1 = s at *
  generalize b1 + b3 - 1 = t at *
  dsimp only
  have low : 428 ≤ a1 * a3 * s * c ∧ 428 ≤ a3 * b1 * s * c ∧ 428 ≤ a1 * a3 * t * c ∧ 428 ≤ a1 * b3 * s * c := by
    refine ⟨?_, ?_, ?_, ?_⟩
    · have k1 := mul4 (a := 7/20) (c := 7/20) hA1.1 hA3.1 (by decide +kernel) (by grind)
      have k2 := mul4 (a := 7/20 * (7/20)) (c := 3500) k1 i13 (by decide +kernel) (by grind)
      rw [← f2] at k2; grind
    · have k1 := mul4 (a := 7/20) (c := 7/20) hA3.1 hB1.1 (by decide +kernel) (by grind)
      have k2 := mul4 (a := 7/20 * (7/20)) (c := 3500) k1 i13 (by decide +kernel) (by grind)
      rw [← f2] at k2; grind
    · have k0 : 3500 * c ≤ a1 * c * (a3 * c) := by
        have hz : 0 ≤ (d023 - 3500) * (d012 - 3500) := Rat.mul_nonneg (by grind) (by grind)
        rw [f1, f3]
        grind
      have k0' : 3500 ≤ a1 * (a3 * c) := by
        apply Classical.byContradiction; intro hn
        have : 0 < (3500 - a1 * (a3 * c)) * c := Rat.mul_pos (by grind) (by grind)
        grind
      have k2 := mul4 (a := 3500) (c := 21/100) k0' hT.1 (by decide +kernel) (by grind)
      grind
    · have k1 := mul4 (a := 7/20) (c := 7/20) hA1.1 hB3.1 (by decide +kernel) (by grind)
      have k2 := mul4 (a := 7/20 * (7/20)) (c := 3500) k1 i13 (by decide +kernel) (by grind)
      rw [← f2] at k2; grind
  have pc : 0 ≤ c := by grind
  have p1 : 0 ≤ a1 := by grind
  have p3 : 0 ≤ a3 := by grind
  have ps : 0 ≤ s := by grind
  have q1 : 0 ≤ b1 := by grind
  have q3 : 0 ≤ b3 := by grind
  have pt : 0 ≤ t := by grind
  have a3sc := Rat.mul_nonneg p3 (Rat.mul_nonneg ps pc)
  have a1sc := Rat.mul_nonneg p1 (Rat.mul_nonneg ps pc)
  have a13c := Rat.mul_nonneg p1 (Rat.mul_nonneg p3 pc)
  have sc := Rat.mul_nonneg ps pc
  have a3c := Rat.mul_nonneg p3 pc
  have a1c := Rat.mul_nonneg p1 pc
  have x10 : a3 * b1 * s * c ≤ 400/49 * (a1 * a3 * s * c) := by
    have := Rat.mul_le_mul_of_nonneg_left (show b1 ≤ 400/49 * a1 by grind) a3sc; grind
  have x01 : a1 * a3 * s * c ≤ 400/49 * (a3 * b1 * s * c) := by
    have := Rat.mul_le_mul_of_nonneg_left (show a1 ≤ 400/49 * b1 by grind) a3sc; grind
  have x30 : a1 * b3 * s * c ≤ 400/49 * (a1 * a3 * s * c) := by
    have := Rat.mul_le_mul_of_nonneg_left (show b3 ≤ 400/49 * a3 by grind) a1sc; grind
  have x03 : a1 * a3 * s * c ≤ 400/49 * (a1 * b3 * s * c) := by
    have := Rat.mul_le_mul_of_nonneg_left (show a3 ≤ 400/49 * b3 by grind) a1sc; grind
  have x31 : a1 * b3 * s * c ≤ 10000/441 * (a3 * b1 * s * c) := by
    have k := mul4 (show a1 ≤ 100/21 * a3 by grind) (show b3 ≤ 100/21 * b1 by grind) p1 (by grind)
    have := Rat.mul_le_mul_of_nonneg_left k sc; grind
  have x13 : a3 * b1 * s * c ≤ 10000/441 * (a1 * b3 * s * c) := by
    have k := mul4 (show a3 ≤ 100/21 * a1 by grind) (show b1 ≤ 100/21 * b3 by grind) p3 (by grind)
    have := Rat.mul_le_mul_of_nonneg_left k sc; grind
  have x02 : a1 * a3 * s * c ≤ 10000/441 * (a1 * a3 * t * c) := by
    have := Rat.mul_le_mul_of_nonneg_left (show s ≤ 10000/441 * t by grind) a13c; grind
  have x12 : a3 * b1 * s * c ≤ 400/49 * (a1 * a3 * t * c) := by
    have k := mul4 (show s ≤ 20/7 * a1 by grind) (show b1 ≤ 20/7 * t by grind) ps (by grind)
    have := Rat.mul_le_mul_of_nonneg_left k a3c; grind
  have x32 : a1 * b3 * s * c ≤ 400/49 * (a1 * a3 * t * c) := by
    have k := mul4 (show s ≤ 20/7 * a3 by grind) (show b3 ≤ 20/7 * t by grind) ps (by grind)
    have := Rat.mul_le_mul_of_nonneg_left k a1c; grind
  obtain ⟨l0, l1, l2, l3⟩ := low
  generalize a1 * a3 * s * c = T0 at *
  generalize a3 * b1 * s * c = T1 at *
  generalize a1 * a3 * t * c = T2 at *
  generalize a1 * b3 * s * c = T3 at *
  clear hA1 hA3 hS hB1 hB3 hT f1 f3 f2 i12 i23 i13 u1 u1' u3 u3' r13 r31 v1 v1' v3 v3' s13 s31 a3sc a1sc a13c sc a3c a1c
  rcases min4 T0 T1 T2 T3 with ⟨m1, m2, m3⟩ | ⟨m1, m2, m3⟩ | ⟨m1, m2, m3⟩ | ⟨m1, m2, m3⟩
  · exact ⟨T0, l0, ⟨by grind, by grind, m1, m2, m3⟩, by grind⟩
  · exact ⟨T1, l1, ⟨by grind, m1, by grind, m2, m3⟩, by grind⟩
  · exact ⟨T2, l2, ⟨by grind, m1, m2, by grind, m3⟩, by grind⟩
  · exact ⟨T3, l3, ⟨by grind, m1, m2, m3, by grind⟩, by grind⟩

/-- where the map takes a mean, times the divisor -/
theorem img_DD {w : Wt} (hw : w.OK) {q : Q8} {Q : Quad} {a1 a3 : Rat} (h : QZ q Q a1 a3) (b1 b3 : Rat) : DD Q a1 a3 b1 b3 (w.px Q) (w.py Q) = w.tot (tau Q a1 a3 b1 b3) := by
  have e : DD Q a1 a3 b1 b3 (w.px Q) (w.py Q) = w.w0 * DD Q a1 a3 b1 b3 Q.x0 Q.y0 + w.w1 * DD Q a1 a3 b1 b3 Q.x1 Q.y1 + w.w2 * DD Q a1 a3 b1 b3 Q.x2 Q.y2 + w.w3 * DD Q a1 a3 b1 b3 Q.x3 Q.y3 := by
    unfold DD; exact aff_w hw Q _ _ _
  rw [e, DD0, DD1, DD2 h.F, DD3]; rfl

theorem img_NX {w : Wt} (hw : w.OK) {q p : Q8} {Q P : Quad} {a1 a3 b1 b3 : Rat} (h : QZ q Q a1 a3) (g : QZ p P b1 b3) {m : Rat} (hm : (tau Q a1 a3 b1 b3).Ge m) :
    NX Q P a1 a3 b1 b3 (w.px Q) (w.py Q) = (w.img (tau Q a1 a3 b1 b3)).px P * w.tot (tau Q a1 a3 b1 b3) := by
  have e : NX Q P a1 a3 b1 b3 (w.px Q) (w.py Q) = w.w0 * NX Q P a1 a3 b1 b3 Q.x0 Q.y0 + w.w1 * NX Q P a1 a3 b1 b3 Q.x1 Q.y1 + w.w2 * NX Q P a1 a3 b1 b3 Q.x2 Q.y2 + w.w3 * NX Q P a1 a3 b1 b3 Q.x3 Q.y3 := by
    unfold NX; exact aff_w hw Q _ _ _
  rw [e, NX0, NX1, NX2 h.F g.F, NX3]
  have hd : 0 < w.tot (tau Q a1 a3 b1 b3) := by have := tot_ge hw hm; have := hm.pos; grind
  show _ = (_ / _ * P.x0 + _ / _ * P.x1 + _ / _ * P.x2 + _ / _ * P.x3) * _
  have k : ∀ a b c d x D : Rat, (a * P.x0 + b * P.x1 + c * P.x2 + d * P.x3) * D = (a * D) * P.x0 + (b * D) * P.x1 + (c * D) * P.x2 + (d * D) * P.x3 := by grind
  rw [k _ _ _ _ 0, div_mul' hd, div_mul' hd, div_mul' hd, div_mul' hd]
  unfold tau; grind

theorem img_NY {w : Wt} (hw : w.OK) {q p : Q8} {Q P : Quad} {a1 a3 b1 b3 : Rat} (h : QZ q Q a1 a3) (g : QZ p P b1 b3) {m : Rat} (hm : (tau Q a1 a3 b1 b3).Ge m) :
    NY Q P a1 a3 b1 b3 (w.px Q) (w.py Q) = (w.img (tau Q a1 a3 b1 b3)).py P * w.tot (tau Q a1 a3 b1 b3) := by
  have e : NY Q P a1 a3 b1 b3 (w.px Q) (w.py Q) = w.w0 * NY Q P a1 a3 b1 b3 Q.x0 Q.y0 + w.w1 * NY Q P a1 a3 b1 b3 Q.x1 Q.y1 + w.w2 * NY Q P a1 a3 b1 b3 Q.x2 Q.y2 + w.w3 * NY Q P a1 a3 b1 b3 Q.x3 Q.y3 := by
    unfold NY; exact aff_w hw Q _ _ _
  rw [e, NY0, NY1, NY2 h.F g.F, NY3]
  have hd : 0 < w.tot (tau Q a1 a3 b1 b3) := by have := tot_ge hw hm; have := hm.pos; grind
  show _ = (_ / _ * P.y0 + _ / _ * P.y1 + _ / _ * P.y2 + _ / _ * P.y3) * _
  have k : ∀ a b c d x D : Rat, (a * P.y0 + b * P.y1 + c * P.y2 + d * P.y3) * D = (a * D) * P.y0 + (b * D) * P.y1 + (c * D) * P.y2 + (d * D) * P.y3 := by grind
  rw [k _ _ _ _ 0, div_mul' hd, div_mul' hd, div_mul' hd, div_mul' hd]
  unfold tau; grind

end Go.Proofs.Ytaadklfendegfaa

/- One step of the map on floats. -/
namespace Go.Proofs.Ytaadklfendegfaa
open Go Fl Geo

theorem spread {D m e s T : Rat} (he : 0 ≤ e) (hm : 0 < m) (hD : 999/1000 * m ≤ D) (h : Bd ((s - T) * D) (6/125 * e * 134 * (62 * m))) : Nr s T (400 * e) := by
  have hem := Rat.mul_nonneg he (show 0 ≤ m by grind)
  have hED := Rat.mul_le_mul_of_nonneg_left hD he
  have hp : 0 < D := by grind
  unfold Bd at h
  unfold Nr
  constructor
  · apply Classical.byContradiction; intro hc
    have : 0 < (s - T - 400 * e) * D := Rat.mul_pos (by grind) hp
    grind
  · apply Classical.byContradiction; intro hc
    have : 0 < (T - s - 400 * e) * D := Rat.mul_pos (by grind) hp
    grind

theorem bd_self {t : Rat} (h : 0 < t) : Bd t t := by unfold Bd; constructor <;> grind

theorem bd_cross {t u T : Rat} (h : 0 < t) (hu : In u 33 167) (hT : In T 33 167) : Bd (t * u - T * t) (134 * t) := by
  have k : Bd (u - T) 134 := by unfold In Bd at *; constructor <;> grind
  have := Bd.mul (bd_self h) k
  have e : t * u - T * t = t * (u - T) := by grind
  rw [e]; exact this.mono (by grind)

/-- a coordinate's spread: c's are the map's numbers for it, d's the divisor's -/
theorem step_one {q : Q8} {Q : Quad} {a1 a3 : Rat} (h : QZ q Q a1 a3) {t : Tau} {m : Rat} (ht : t.Ge m) (hs : t.t1 + 2 * t.t0 + t.t3 ≤ 62 * m) {c1 c2 c3 d1 d2 d3 u0 u1 u3 T dx dy e D N D0 : Rat}
    (k0 : c1 * Q.x0 + c2 * Q.y0 + c3 = t.t0 * u0) (k1 : c1 * Q.x1 + c2 * Q.y1 + c3 = t.t1 * u1) (k3 : c1 * Q.x3 + c2 * Q.y3 + c3 = t.t3 * u3)
    (l0 : d1 * Q.x0 + d2 * Q.y0 + d3 = t.t0) (l1 : d1 * Q.x1 + d2 * Q.y1 + d3 = t.t1) (l3 : d1 * Q.x3 + d2 * Q.y3 + d3 = t.t3)
    (hu0 : In u0 33 167) (hu1 : In u1 33 167) (hu3 : In u3 33 167) (hT : In T 33 167) (hx : Bd dx e) (hy : Bd dy e) (he1 : e ≤ 1/100000000)
    (hD0 : m ≤ D0) (hD : D = D0 + (d1 * dx + d2 * dy)) (hN : N = T * D0 + (c1 * dx + c2 * dy)) :
    999/1000 * m ≤ D ∧ Nr (N / D) T (400 * e) ∧ N / D * D = N := by
  have hm := ht.pos
  have p0 : 0 < t.t0 := by have := ht.g0; grind
  have p1 : 0 < t.t1 := by have := ht.g1; grind
  have p3 : 0 < t.t3 := by have := ht.g3; grind
  have he := hx.nonneg
  have hem := Rat.mul_nonneg he (show 0 ≤ m by grind)
  have b1 := lin_bd h hx hy (c1 := d1) (c2 := d2) (c3 := d3) (by rw [l0]; exact bd_self p0) (by rw [l1]; exact bd_self p1) (by rw [l3]; exact bd_self p3)
  have es := Rat.mul_le_mul_of_nonneg_left hs he
  have em := Rat.mul_le_mul_of_nonneg_right he1 (show 0 ≤ m by grind)
  have hDm : 999/1000 * m ≤ D := by
    unfold Bd at b1
    rw [hD]; grind
  have hp : 0 < D := by grind
  have b2 := lin_bd h hx hy (c1 := c1 - T * d1) (c2 := c2 - T * d2) (c3 := c3 - T * d3) (B0 := 134 * t.t0) (B1 := 134 * t.t1) (B3 := 134 * t.t3)
    (by have e : (c1 - T * d1) * Q.x0 + (c2 - T * d2) * Q.y0 + (c3 - T * d3) = (c1 * Q.x0 + c2 * Q.y0 + c3) - T * (d1 * Q.x0 + d2 * Q.y0 + d3) := (by grind)
        rw [e, k0, l0]; exact bd_cross p0 hu0 hT)
    (by have e : (c1 - T * d1) * Q.x1 + (c2 - T * d2) * Q.y1 + (c3 - T * d3) = (c1 * Q.x1 + c2 * Q.y1 + c3) - T * (d1 * Q.x1 + d2 * Q.y1 + d3) := (by grind)
        rw [e, k1, l1]; exact bd_cross p1 hu1 hT)
    (by have e : (c1 - T * d1) * Q.x3 + (c2 - T * d2) * Q.y3 + (c3 - T * d3) = (c1 * Q.x3 + c2 * Q.y3 + c3) - T * (d1 * Q.x3 + d2 * Q.y3 + d3) := (by grind)
        rw [e, k3, l3]; exact bd_cross p3 hu3 hT)
  have hq : N / D * D = N := div_mul' hp
  refine ⟨hDm, spread he hm hDm ?_, hq⟩
  have e1 : (N / D - T) * D = (c1 - T * d1) * dx + (c2 - T * d2) * dy := by
    have : (N / D - T) * D = N / D * D - T * D := by grind
    rw [this, hq, hN, hD]; grind
  rw [e1]
  exact b2.mono (by grind)

theorem step_ap {q p : Q8} {Q P : Quad} {a1 a3 b1 b3 : Rat} {r : M9} (h : QZ q Q a1 a3) (g : QZ p P b1 b3) (k : NearH r Q P a1 a3 b1 b3) {w : Wt} (hw : w.OK) {x y : Nat} {e : Rat} (he : e ≤ 1/100000000)
    (hx : Ap x (w.px Q) e) (hy : Ap y (w.py Q) e) :
    ∃ x' y', TPtR r x y x' y' ∧ Ap x' ((w.img (tau Q a1 a3 b1 b3)).px P) (400 * e + 3/2000000000) ∧ Ap y' ((w.img (tau Q a1 a3 b1 b3)).py P) (400 * e + 3/2000000000) := by
  obtain ⟨m, hm, ht, hs⟩ := tau_ge h g
  have hpx := px_in hw h
  have hok := img_ok hw ht
  have hT := px_in hok g
  have hD0 := tot_ge hw ht
  have n1 := hx.near
  have n2 := hy.near
  have bdx : Bd (val x - w.px Q) e := by unfold Nr at n1; unfold Bd; constructor <;> grind
  have bdy : Bd (val y - w.py Q) e := by unfold Nr at n2; unfold Bd; constructor <;> grind
  have lo : ∀ x : Rat, In x 33 67 → In x 33 167 := fun x h => by unfold In at *; grind
  have hi : ∀ x : Rat, In x 133 167 → In x 33 167 := fun x h => by unfold In at *; grind
  have dd : DD Q a1 a3 b1 b3 (val x) (val y) = w.tot (tau Q a1 a3 b1 b3) + (H13 Q a1 a3 b1 b3 * (val x - w.px Q) + H23 Q a1 a3 b1 b3 * (val y - w.py Q)) := by
    rw [← img_DD hw h]; unfold DD; grind
  have nx : NX Q P a1 a3 b1 b3 (val x) (val y) = (w.img (tau Q a1 a3 b1 b3)).px P * w.tot (tau Q a1 a3 b1 b3) + (H11 Q P a1 a3 b1 b3 * (val x - w.px Q) + H21 Q P a1 a3 b1 b3 * (val y - w.py Q)) := by
    rw [← img_NX hw h g ht]; unfold NX; grind
  have ny : NY Q P a1 a3 b1 b3 (val x) (val y) = (w.img (tau Q a1 a3 b1 b3)).py P * w.tot (tau Q a1 a3 b1 b3) + (H12 Q P a1 a3 b1 b3 * (val x - w.px Q) + H22 Q P a1 a3 b1 b3 * (val y - w.py Q)) := by
    rw [← img_NY hw h g ht]; unfold NY; grind
  obtain ⟨o1, o2, o3⟩ := step_one h ht hs (c3 := H31 Q P a1 a3 b1 b3) (d3 := H33 Q a1 a3 b1 b3) NX0 NX1 NX3 DD0 DD1 DD3 (lo _ g.ix0) (hi _ g.ix1) (lo _ g.ix3) hT.1 bdx bdy he hD0 dd nx
  obtain ⟨_, s2, s3⟩ := step_one h ht hs (c3 := H32 Q P a1 a3 b1 b3) (d3 := H33 Q a1 a3 b1 b3) NY0 NY1 NY3 DD0 DD1 DD3 (lo _ g.iy0) (lo _ g.iy1) (hi _ g.iy3) hT.2 bdx bdy he hD0 dd ny
  obtain ⟨x', y', t1, t2, t3⟩ := pt_ap k hx.fin hy.fin (by have := hpx.1; unfold In Bd at *; constructor <;> grind) (by have := hpx.2; unfold In Bd at *; constructor <;> grind) (by grind) o3 s3
    (by have := hT.1; unfold In Bd Nr at *; constructor <;> grind) (by have := hT.2; unfold In Bd Nr at *; constructor <;> grind)
  refine ⟨x', y', t1, ⟨t2.fin, ?_⟩, ⟨t3.fin, ?_⟩⟩
  · have := t2.near; unfold Nr at *; grind
  · have := t3.near; unfold Nr at *; grind

end Go.Proofs.Ytaadklfendegfaa

/- The quadrilaterals that ztQuad makes, and floats that ztNear takes for the same. -/
namespace Go.Proofs.Ytaadklfendegfaa
open Go Fl Geo

theorem val_num {x m : Nat} {i : Int} {v : Rat} (h : x < 18446744073709551616) (hr : Ieee.double.read x = .number false m i) (hv : sg false * (m : Rat) * (2:Rat) ^ i = v) : Fl.fin x ∧ val x = v := by
  refine ⟨⟨h, _, _, _, hr⟩, ?_⟩
  unfold val; rw [hr]; exact hv

theorem val_f8 : Fl.fin f8 ∧ val f8 = 8 := val_num (m := 4503599627370496) (i := -49) (by decide) (by decide) (by decide +kernel)
theorem val_f50 : Fl.fin f50 ∧ val f50 = 50 := val_num (m := 7036874417766400) (i := -47) (by decide) (by decide) (by decide +kernel)
theorem val_f150 : Fl.fin f150 ∧ val f150 = 150 := val_num (m := 5277655813324800) (i := -45) (by decide) (by decide) (by decide +kernel)
theorem val_f65535 : Fl.fin f65535 ∧ val f65535 = 65535 := val_num (m := 9007061815787520) (i := -37) (by decide) (by decide) (by decide +kernel)
theorem val_fM : Fl.fin fMillionth ∧ 99/100000000 ≤ val fMillionth := by
  obtain ⟨h1, h2⟩ := val_num (x := fMillionth) (m := 4722366482869645) (i := -72) (by decide) (by decide) rfl
  exact ⟨h1, by rw [h2]; decide +kernel⟩

theorem Ex.mono {x : Nat} {v : Rat} {k M M' : Nat} (h : Ex x v k M) (hM : M ≤ M') : Ex x v k M' := by
  obtain ⟨N, h1, h2⟩ := h.dy
  exact ⟨h.fin, h.eq, N, h1, by omega⟩

theorem e8 : (2:Rat) ^ (-((3:Nat) : Int)) = 1/8 := by decide +kernel

theorem corn_ex {base : Nat} {Bv : Rat} {M : Nat} (hb : Ex base Bv 3 M) (hM : M ≤ 1200) (b : Int) (h1 : -128 ≤ b) (h2 : b ≤ 127) : ∃ z, CornR base b z ∧ Ex z (Bv + 100 * ((b : Rat) / 800)) 3 1400 := by
  have hi := ofI_ex b 128 (by omega) (by omega)
  obtain ⟨t, t1, t2, t3⟩ := Fl.div_exact hi.fin val_f8.1 (by rw [val_f8.2]; decide) b (-((3:Nat) : Int)) (by omega) (by decide) (by decide) (by rw [hi.eq, val_f8.2, e8]; grind)
  have ht : Ex t ((b : Rat) * (2:Rat) ^ (-((3:Nat) : Int))) 3 128 := ⟨t2, t3, b, rfl, by omega⟩
  obtain ⟨z, z1, z2⟩ := Ex.add hb ht (by decide) (by omega)
  refine ⟨z, ⟨t, t1, z1⟩, ?_⟩
  have := z2.mono (M' := 1400) (by omega)
  have e : Bv + (b : Rat) * (2:Rat) ^ (-((3:Nat) : Int)) = Bv + 100 * ((b : Rat) / 800) := by rw [e8]; grind
  exact e ▸ this

theorem f50_ex : Ex f50 50 3 400 := ⟨val_f50.1, val_f50.2, 400, by decide +kernel, by decide⟩
theorem f150_ex : Ex f150 150 3 1200 := ⟨val_f150.1, val_f150.2, 1200, by decide +kernel, by decide⟩

theorem small8 (b : Int) (h1 : -128 ≤ b) (h2 : b ≤ 127) : -rr ≤ (b : Rat) / 800 ∧ (b : Rat) / 800 ≤ rr := by
  have k1 : ((-128 : Int) : Rat) ≤ (b : Rat) := Rat.intCast_le_intCast.2 h1
  have k2 : (b : Rat) ≤ ((127 : Int) : Rat) := Rat.intCast_le_intCast.2 h2
  have e1 : ((-128 : Int) : Rat) = -128 := rfl
  have e2 : ((127 : Int) : Rat) = 127 := rfl
  rw [e1] at k1
  rw [e2] at k2
  unfold rr
  constructor <;> grind

theorem nonneg_of {c X : Rat} (hc : 0 < c) (h : 0 ≤ X * c) : 0 ≤ X := by
  apply Classical.byContradiction; intro hn
  have : 0 < (-X) * c := Rat.mul_pos (by grind) hc
  grind

/-- the quadrilateral that eight numbers make, of a side of 100 -/
def quadOf (a b c d e f g h : Rat) : Quad := ⟨50 + 100 * a, 50 + 100 * b, 150 + 100 * c, 50 + 100 * d, 150 + 100 * e, 150 + 100 * f, 50 + 100 * g, 150 + 100 * h⟩

theorem quad_geo {a b c d e f g h : Rat} (hi : In8 a b c d e f g h) {q : Q8} (Q : Quad) (hQ : Q = quadOf a b c d e f g h)
    (k0 : Ex q.x0 Q.x0 3 1400) (k1 : Ex q.y0 Q.y0 3 1400) (k2 : Ex q.x1 Q.x1 3 1400) (k3 : Ex q.y1 Q.y1 3 1400) (k4 : Ex q.x2 Q.x2 3 1400) (k5 : Ex q.y2 Q.y2 3 1400) (k6 : Ex q.x3 Q.x3 3 1400) (k7 : Ex q.y3 Q.y3 3 1400) :
    QZ q Q (Q.d023 / Q.d123) (Q.d012 / Q.d123) := by
  have e012 : Q.d012 = 10000 * t012 a b c d e f g h := by rw [hQ]; unfold Quad.d012 quadOf t012 tri; grind
  have e023 : Q.d023 = 10000 * t023 a b c d e f g h := by rw [hQ]; unfold Quad.d023 quadOf t023 tri; grind
  have e013 : Q.d013 = 10000 * t013 a b c d e f g h := by rw [hQ]; unfold Quad.d013 quadOf t013 tri; grind
  have e123 : Q.d123 = 10000 * t123 a b c d e f g h := by rw [hQ]; unfold Quad.d123 quadOf t123 tri; grind
  have l0 := lo012 hi
  have l1 := lo023 hi
  have l2 := lo013 hi
  have l3 := lo123 hi
  have u0 := hi012 hi
  have u1 := hi023 hi
  have u2 := hi013 hi
  have u3 := hi123 hi
  have m0 := q012x023 hi
  have m1 := q012x013 hi
  have m2 := q012x123 hi
  have m3 := q023x012 hi
  have m4 := q023x013 hi
  have m5 := q023x123 hi
  have m6 := q013x012 hi
  have m7 := q013x023 hi
  have m8 := q013x123 hi
  have m9 := q123x012 hi
  have m10 := q123x023 hi
  have m11 := q123x013 hi
  have hc : 0 < Q.d123 := by rw [e123]; grind
  have h1 : Q.d023 / Q.d123 * Q.d123 = Q.d023 := div_mul' hc
  have h3 : Q.d012 / Q.d123 * Q.d123 = Q.d012 := div_mul' hc
  have hF : QF Q (Q.d023 / Q.d123) (Q.d012 / Q.d123) := ⟨h1, h3, hc⟩
  have h2 := hF.h2
  generalize Q.d023 / Q.d123 = a1 at *
  generalize Q.d012 / Q.d123 = a3 at *
  obtain ⟨⟨z1, z2⟩, ⟨z3, z4⟩, ⟨z5, z6⟩, ⟨z7, z8⟩, ⟨z9, z10⟩, ⟨z11, z12⟩, ⟨z13, z14⟩, ⟨z15, z16⟩⟩ := hi
  unfold rr at *
  have lin : ∀ x y z : Rat, 0 ≤ x * Q.d023 + y * Q.d012 + z * Q.d123 → 0 ≤ x * a1 + y * a3 + z := by
    intro x y z hh
    refine nonneg_of hc ?_
    have : (x * a1 + y * a3 + z) * Q.d123 = x * (a1 * Q.d123) + y * (a3 * Q.d123) + z * Q.d123 := by grind
    rw [this, h1, h3]; exact hh
  have h2' : Q.d023 + Q.d012 - Q.d123 = Q.d013 := by rw [← h2, ← h1, ← h3]; grind
  have A1 := lin 1 0 (-(7/20)) (by grind)
  have A2 := lin (-1) 0 (20/7) (by grind)
  have A3 := lin 0 1 (-(7/20)) (by grind)
  have A4 := lin 0 (-1) (20/7) (by grind)
  have A5 := lin 1 1 (-1-21/100) (by grind)
  have A6 := lin (-1) (-1) (1+100/21) (by grind)
  have A7 := lin (-(21/100)) 1 0 (by grind)
  have A8 := lin 1 (-(21/100)) 0 (by grind)
  have A9 := lin (1 - 7/20) (-(7/20)) (7/20) (by grind)
  have A10 := lin (1 - 7/20) 1 (-1) (by grind)
  have A11 := lin (-(7/20)) (1 - 7/20) (7/20) (by grind)
  have A12 := lin 1 (1 - 7/20) (-1) (by grind)
  refine ⟨k0, k1, k2, k3, k4, k5, k6, k7, hF, ?_, ?_, ?_, ?_, ?_, ?_, ?_, ?_, ?_, ?_, ?_, ?_, ?_, ?_, ?_, ?_, ?_, ?_, ?_, ?_, ?_⟩
  · rw [hQ]; unfold quadOf In; dsimp only; constructor <;> grind
  · rw [hQ]; unfold quadOf In; dsimp only; constructor <;> grind
  · rw [hQ]; unfold quadOf In; dsimp only; constructor <;> grind
  · rw [hQ]; unfold quadOf In; dsimp only; constructor <;> grind
  · rw [hQ]; unfold quadOf In; dsimp only; constructor <;> grind
  · rw [hQ]; unfold quadOf In; dsimp only; constructor <;> grind
  · rw [hQ]; unfold quadOf In; dsimp only; constructor <;> grind
  · rw [hQ]; unfold quadOf In; dsimp only; constructor <;> grind
  · rw [e012]; unfold In; constructor <;> grind
  · rw [e023]; unfold In; constructor <;> grind
  · rw [e013]; unfold In; constructor <;> grind
  · rw [e123]; unfold In; constructor <;> grind
  · unfold In; constructor <;> grind
  · unfold In; constructor <;> grind
  · unfold In; constructor <;> grind
  · grind
  · grind
  · grind
  · grind
  · grind
  · grind

/-- eight small numbers make a quadrilateral -/
theorem quad_qz (b : Nat → Int) (hb : ∀ i, i < 8 → -128 ≤ b i ∧ b i ≤ 127) : ∃ q Q a1 a3, QuadR (b 0) (b 1) (b 2) (b 3) (b 4) (b 5) (b 6) (b 7) q ∧ QZ q Q a1 a3 := by
  obtain ⟨z0, c0, d0⟩ := corn_ex f50_ex (by decide) (b 0) (hb 0 (by decide)).1 (hb 0 (by decide)).2
  obtain ⟨z1, c1, d1⟩ := corn_ex f50_ex (by decide) (b 1) (hb 1 (by decide)).1 (hb 1 (by decide)).2
  obtain ⟨z2, c2, d2⟩ := corn_ex f150_ex (by decide) (b 2) (hb 2 (by decide)).1 (hb 2 (by decide)).2
  obtain ⟨z3, c3, d3⟩ := corn_ex f50_ex (by decide) (b 3) (hb 3 (by decide)).1 (hb 3 (by decide)).2
  obtain ⟨z4, c4, d4⟩ := corn_ex f150_ex (by decide) (b 4) (hb 4 (by decide)).1 (hb 4 (by decide)).2
  obtain ⟨z5, c5, d5⟩ := corn_ex f150_ex (by decide) (b 5) (hb 5 (by decide)).1 (hb 5 (by decide)).2
  obtain ⟨z6, c6, d6⟩ := corn_ex f50_ex (by decide) (b 6) (hb 6 (by decide)).1 (hb 6 (by decide)).2
  obtain ⟨z7, c7, d7⟩ := corn_ex f150_ex (by decide) (b 7) (hb 7 (by decide)).1 (hb 7 (by decide)).2
  have hi : In8 ((b 0 : Rat) / 800) ((b 1 : Rat) / 800) ((b 2 : Rat) / 800) ((b 3 : Rat) / 800) ((b 4 : Rat) / 800) ((b 5 : Rat) / 800) ((b 6 : Rat) / 800) ((b 7 : Rat) / 800) :=
    ⟨small8 _ (hb 0 (by decide)).1 (hb 0 (by decide)).2, small8 _ (hb 1 (by decide)).1 (hb 1 (by decide)).2, small8 _ (hb 2 (by decide)).1 (hb 2 (by decide)).2, small8 _ (hb 3 (by decide)).1 (hb 3 (by decide)).2,
     small8 _ (hb 4 (by decide)).1 (hb 4 (by decide)).2, small8 _ (hb 5 (by decide)).1 (hb 5 (by decide)).2, small8 _ (hb 6 (by decide)).1 (hb 6 (by decide)).2, small8 _ (hb 7 (by decide)).1 (hb 7 (by decide)).2⟩
  exact ⟨⟨z0, z1, z2, z3, z4, z5, z6, z7⟩, _, _, _, ⟨c0, c1, c2, c3, c4, c5, c6, c7⟩, quad_geo hi _ rfl d0 d1 d2 d3 d4 d5 d6 d7⟩

/-- floats that stand near one number are near one another -/
theorem near_ap {x y : Nat} {v e f : Rat} (hx : Ap x v e) (hy : Ap y v f) (h : e + f ≤ 9/10000000) : NearR x y := by
  have he := hx.near.nonneg
  have hf := hy.near.nonneg
  have hu : u53 ≤ 1/1000000 := by decide +kernel
  have hu0 : 0 ≤ u53 := by decide +kernel
  have ht : tny ≤ 1/100000000 := by decide +kernel
  have hbig : (1 : Rat) ≤ 10^200 := by decide +kernel
  have hm := Rat.mul_le_mul_of_nonneg_left hu (show 0 ≤ 0 + e + f by grind)
  obtain ⟨d, d1, d2⟩ := Ap.sub hx hy 0 (95/100000000) (by unfold Bd; constructor <;> grind) (by grind) (by grind)
  obtain ⟨a1, a2, a3⟩ := Fl.abs_val d2.fin
  refine ⟨d, d1, d2.fin.1, ?_⟩
  have hn := d2.near
  have hlt : val (d % 9223372036854775808) < val fMillionth := by
    have := val_fM.2
    unfold Nr at hn
    rcases (show 0 ≤ val d ∨ val d ≤ 0 by grind) with k | k
    · rw [a2 k]; grind
    · rw [a3 k]; grind
  have o := (Fl.order_val a1 val_fM.1).1 hlt
  have e : flt (d % 9223372036854775808) fMillionth = (Ieee.double.order (d % 9223372036854775808) fMillionth == some .lt) := rfl
  rw [e, o]; rfl

end Go.Proofs.Ytaadklfendegfaa

/- How great the pivots of the elimination are at least: plain rational numbers. -/
namespace Geo

/-- four points about their middle, a corner in each quarter -/
structure Cen (c : Quad) : Prop where
  x0 : -76 ≤ c.x0 ∧ c.x0 ≤ -24
  x1 : 24 ≤ c.x1 ∧ c.x1 ≤ 76
  x2 : 24 ≤ c.x2 ∧ c.x2 ≤ 76
  x3 : -76 ≤ c.x3 ∧ c.x3 ≤ -24
  y0 : -76 ≤ c.y0 ∧ c.y0 ≤ -24
  y1 : -76 ≤ c.y1 ∧ c.y1 ≤ -24
  y2 : 24 ≤ c.y2 ∧ c.y2 ≤ 76
  y3 : 24 ≤ c.y3 ∧ c.y3 ≤ 76
  sx : c.x0 + c.x1 + c.x2 + c.x3 = 0
  sy : c.y0 + c.y1 + c.y2 + c.y3 = 0

/-- at least so far from nothing -/
def Far (b e : Rat) : Prop := b ≤ e ∨ e ≤ -b
def One4 (b e0 e1 e2 e3 : Rat) : Prop := Far b e0 ∨ Far b e1 ∨ Far b e2 ∨ Far b e3

theorem far1 {c : Quad} (h : Cen c) (a : Rat) : One4 24 (a * c.x0 + c.y0) (a * c.x1 + c.y1) (a * c.x2 + c.y2) (a * c.x3 + c.y3) := by
  by_cases ha : 0 ≤ a
  · right; right; left; left
    have := Rat.mul_nonneg ha (show 0 ≤ c.x2 by have := h.x2.1; grind)
    have := h.y2.1; grind
  · right; right; right; left
    have := Rat.mul_nonneg (show 0 ≤ -a by grind) (show 0 ≤ -c.x3 by have := h.x3.2; grind)
    have := h.y3.1; grind

theorem far2 {c : Quad} (h : Cen c) (a b : Rat) : One4 1 (a * c.x0 + b * c.y0 + 1) (a * c.x1 + b * c.y1 + 1) (a * c.x2 + b * c.y2 + 1) (a * c.x3 + b * c.y3 + 1) := by
  have e1 : a * c.x0 + a * c.x1 + a * c.x2 + a * c.x3 = 0 := by have := h.sx; grind
  have e2 : b * c.y0 + b * c.y1 + b * c.y2 + b * c.y3 = 0 := by have := h.sy; grind
  unfold One4 Far
  generalize a * c.x0 = p0 at *
  generalize a * c.x1 = p1 at *
  generalize a * c.x2 = p2 at *
  generalize a * c.x3 = p3 at *
  generalize b * c.y0 = q0 at *
  generalize b * c.y1 = q1 at *
  generalize b * c.y2 = q2 at *
  generalize b * c.y3 = q3 at *
  grind

/-- the four triangles, as weights: their signs by turns -/
structure Ks (c : Quad) (k0 k1 k2 k3 : Rat) : Prop where
  e0 : k0 = c.d123
  e1 : k1 = c.d023
  e2 : k2 = c.d013
  e3 : k3 = c.d012
  p0 : 3500 ≤ k0
  p1 : 3500 ≤ k1
  p2 : 3500 ≤ k2
  p3 : 3500 ≤ k3

section
variable {c : Quad} {k0 k1 k2 k3 : Rat}
theorem Ks.sum (h : Ks c k0 k1 k2 k3) : k0 - k1 + k2 - k3 = 0 := by
  rw [h.e0, h.e1, h.e2, h.e3]; unfold Quad.d123 Quad.d023 Quad.d013 Quad.d012 tri; grind
theorem Ks.mx (h : Ks c k0 k1 k2 k3) : k0 * c.x0 - k1 * c.x1 + k2 * c.x2 - k3 * c.x3 = 0 := by
  rw [h.e0, h.e1, h.e2, h.e3]; unfold Quad.d123 Quad.d023 Quad.d013 Quad.d012 tri; grind
theorem Ks.my (h : Ks c k0 k1 k2 k3) : k0 * c.y0 - k1 * c.y1 + k2 * c.y2 - k3 * c.y3 = 0 := by
  rw [h.e0, h.e1, h.e2, h.e3]; unfold Quad.d123 Quad.d023 Quad.d013 Quad.d012 tri; grind

/-- what the weights leave of four affine numbers less given ones -/
theorem Ks.left (h : Ks c k0 k1 k2 k3) (a b f g0 g1 g2 g3 : Rat) :
    k0 * (a * c.x0 + b * c.y0 + f - g0) - k1 * (a * c.x1 + b * c.y1 + f - g1) + k2 * (a * c.x2 + b * c.y2 + f - g2) - k3 * (a * c.x3 + b * c.y3 + f - g3) = -(k0 * g0 - k1 * g1 + k2 * g2 - k3 * g3) := by
  have e := h.sum
  have ex := h.mx
  have ey := h.my
  have h1 : k0 * (a * c.x0 + b * c.y0 + f - g0) - k1 * (a * c.x1 + b * c.y1 + f - g1) + k2 * (a * c.x2 + b * c.y2 + f - g2) - k3 * (a * c.x3 + b * c.y3 + f - g3) =
      a * (k0 * c.x0 - k1 * c.x1 + k2 * c.x2 - k3 * c.x3) + b * (k0 * c.y0 - k1 * c.y1 + k2 * c.y2 - k3 * c.y3) + f * (k0 - k1 + k2 - k3) - (k0 * g0 - k1 * g1 + k2 * g2 - k3 * g3) := by grind
  rw [h1, ex, ey, e]; grind

/-- four small numbers make a small sum -/
theorem small_sum {B e0 e1 e2 e3 : Rat} (hk : 0 < k0 ∧ 0 < k1 ∧ 0 < k2 ∧ 0 < k3) (h : ¬ One4 B e0 e1 e2 e3) : k0 * e0 - k1 * e1 + k2 * e2 - k3 * e3 < B * (k0 + k1 + k2 + k3) ∧ -(B * (k0 + k1 + k2 + k3)) < k0 * e0 - k1 * e1 + k2 * e2 - k3 * e3 := by
  obtain ⟨p0, p1, p2, p3⟩ := hk
  unfold One4 Far at h
  have a0 := Rat.mul_lt_mul_of_pos_left (show e0 < B by grind) p0
  have b0 := Rat.mul_lt_mul_of_pos_left (show -B < e0 by grind) p0
  have a1 := Rat.mul_lt_mul_of_pos_left (show e1 < B by grind) p1
  have b1 := Rat.mul_lt_mul_of_pos_left (show -B < e1 by grind) p1
  have a2 := Rat.mul_lt_mul_of_pos_left (show e2 < B by grind) p2
  have b2 := Rat.mul_lt_mul_of_pos_left (show -B < e2 by grind) p2
  have a3 := Rat.mul_lt_mul_of_pos_left (show e3 < B by grind) p3
  have b3 := Rat.mul_lt_mul_of_pos_left (show -B < e3 by grind) p3
  constructor <;> grind
end

end Geo

/- How great the last two pivots are at least: plain rational numbers. -/
namespace Geo


variable {c : Quad} {k0 k1 k2 k3 : Rat}

/-- the weighted coordinates: all positive, two and two make the same -/
theorem masses (h : Cen c) (k : Ks c k0 k1 k2 k3) : ∃ p0 p1 p2 p3 : Rat, k0 * c.x0 = -p0 ∧ k1 * c.x1 = p1 ∧ k2 * c.x2 = p2 ∧ k3 * c.x3 = -p3 ∧ (24 * k0 ≤ p0 ∧ p0 ≤ 76 * k0) ∧ (24 * k1 ≤ p1 ∧ p1 ≤ 76 * k1) ∧ (24 * k2 ≤ p2 ∧ p2 ≤ 76 * k2) ∧ (24 * k3 ≤ p3 ∧ p3 ≤ 76 * k3) ∧ p0 + p1 = p2 + p3 := by
  have q0 : 0 ≤ k0 := by have := k.p0; grind
  have q1 : 0 ≤ k1 := by have := k.p1; grind
  have q2 : 0 ≤ k2 := by have := k.p2; grind
  have q3 : 0 ≤ k3 := by have := k.p3; grind
  have a0 := Rat.mul_le_mul_of_nonneg_left h.x0.1 q0
  have b0 := Rat.mul_le_mul_of_nonneg_left h.x0.2 q0
  have a1 := Rat.mul_le_mul_of_nonneg_left h.x1.1 q1
  have b1 := Rat.mul_le_mul_of_nonneg_left h.x1.2 q1
  have a2 := Rat.mul_le_mul_of_nonneg_left h.x2.1 q2
  have b2 := Rat.mul_le_mul_of_nonneg_left h.x2.2 q2
  have a3 := Rat.mul_le_mul_of_nonneg_left h.x3.1 q3
  have b3 := Rat.mul_le_mul_of_nonneg_left h.x3.2 q3
  have e := k.mx
  exact ⟨-(k0 * c.x0), k1 * c.x1, k2 * c.x2, -(k3 * c.x3), by grind, rfl, rfl, by grind, by constructor <;> grind, by constructor <;> grind, by constructor <;> grind, by constructor <;> grind, by grind⟩

theorem mul_bd {v lo hi p : Rat} (h1 : lo ≤ v) (h2 : v ≤ hi) (hp : 0 ≤ p) : lo * p ≤ v * p ∧ v * p ≤ hi * p :=
  ⟨Rat.mul_le_mul_of_nonneg_right h1 hp, Rat.mul_le_mul_of_nonneg_right h2 hp⟩

/-- the second coordinate's numbers: the sixth pivot -/
theorem far6 (h : Cen c) (k : Ks c k0 k1 k2 k3) {v0 v1 v2 v3 : Rat} (w0 : 33 ≤ v0 ∧ v0 ≤ 67) (w1 : 33 ≤ v1 ∧ v1 ≤ 67) (w2 : 133 ≤ v2 ∧ v2 ≤ 167) (w3 : 133 ≤ v3 ∧ v3 ≤ 167) (a b f : Rat) :
    One4 792 (a * c.x0 + b * c.y0 + f - v0 * c.x0) (a * c.x1 + b * c.y1 + f - v1 * c.x1) (a * c.x2 + b * c.y2 + f - v2 * c.x2) (a * c.x3 + b * c.y3 + f - v3 * c.x3) := by
  apply Classical.byContradiction
  intro hn
  have hs := small_sum (k0 := k0) (k1 := k1) (k2 := k2) (k3 := k3) ⟨by have := k.p0; grind, by have := k.p1; grind, by have := k.p2; grind, by have := k.p3; grind⟩ hn
  rw [k.left] at hs
  obtain ⟨p0, p1, p2, p3, e0, e1, e2, e3, b0, b1, b2, b3, em⟩ := masses h k
  have q0 := k.p0
  have q1 := k.p1
  have q2 := k.p2
  have q3 := k.p3
  have m0 := mul_bd w0.1 w0.2 (show 0 ≤ p0 by grind)
  have m1 := mul_bd w1.1 w1.2 (show 0 ≤ p1 by grind)
  have m2 := mul_bd w2.1 w2.2 (show 0 ≤ p2 by grind)
  have m3 := mul_bd w3.1 w3.2 (show 0 ≤ p3 by grind)
  have t : k0 * (v0 * c.x0) - k1 * (v1 * c.x1) + k2 * (v2 * c.x2) - k3 * (v3 * c.x3) = -(v0 * p0) - v1 * p1 + v2 * p2 + v3 * p3 := by
    have t0 : k0 * (v0 * c.x0) = v0 * (k0 * c.x0) := by grind
    have t1 : k1 * (v1 * c.x1) = v1 * (k1 * c.x1) := by grind
    have t2 : k2 * (v2 * c.x2) = v2 * (k2 * c.x2) := by grind
    have t3 : k3 * (v3 * c.x3) = v3 * (k3 * c.x3) := by grind
    rw [t0, t1, t2, t3, e0, e1, e2, e3]; grind
  rw [t] at hs
  generalize v0 * p0 = r0 at *
  generalize v1 * p1 = r1 at *
  generalize v2 * p2 = r2 at *
  generalize v3 * p3 = r3 at *
  grind

/-- the crosses of the points, by the triangles -/
theorem crosses (h : Cen c) (k : Ks c k0 k1 k2 k3) : 4 * (c.x0 * c.y1 - c.x1 * c.y0) = k2 + k3 ∧ 4 * (c.x1 * c.y2 - c.x2 * c.y1) = k3 + k0 ∧ 4 * (c.x2 * c.y3 - c.x3 * c.y2) = k0 + k1 ∧ 4 * (c.x3 * c.y0 - c.x0 * c.y3) = k1 + k2 ∧
    4 * (c.x0 * c.y2 - c.x2 * c.y0) = k1 - k3 ∧ 4 * (c.x1 * c.y3 - c.x3 * c.y1) = k2 - k0 := by
  have sx := h.sx
  have sy := h.sy
  have ex : c.x3 = -c.x0 - c.x1 - c.x2 := by grind
  have ey : c.y3 = -c.y0 - c.y1 - c.y2 := by grind
  rw [k.e0, k.e1, k.e2, k.e3]
  unfold Quad.d123 Quad.d023 Quad.d013 Quad.d012 tri
  rw [ex, ey]
  refine ⟨?_, ?_, ?_, ?_, ?_, ?_⟩ <;> grind

/-- the determinant of the last two columns -/
theorem det_eq (h : Cen c) (k : Ks c k0 k1 k2 k3) (u0 u1 u2 u3 v0 v1 v2 v3 : Rat) :
    4 * ((k0 * (u0 * c.x0) - k1 * (u1 * c.x1) + k2 * (u2 * c.x2) - k3 * (u3 * c.x3)) * (k0 * (v0 * c.y0) - k1 * (v1 * c.y1) + k2 * (v2 * c.y2) - k3 * (v3 * c.y3)) -
      (k0 * (u0 * c.y0) - k1 * (u1 * c.y1) + k2 * (u2 * c.y2) - k3 * (u3 * c.y3)) * (k0 * (v0 * c.x0) - k1 * (v1 * c.x1) + k2 * (v2 * c.x2) - k3 * (v3 * c.x3))) =
    -(k1 * k2 * k3 * tri u1 v1 u2 v2 u3 v3 + k0 * k2 * k3 * tri u0 v0 u2 v2 u3 v3 + k0 * k1 * k3 * tri u0 v0 u1 v1 u3 v3 + k0 * k1 * k2 * tri u0 v0 u1 v1 u2 v2) := by
  obtain ⟨c01, c12, c23, c30, c02, c13⟩ := crosses h k
  have e := k.sum
  have h1 : 4 * ((k0 * (u0 * c.x0) - k1 * (u1 * c.x1) + k2 * (u2 * c.x2) - k3 * (u3 * c.x3)) * (k0 * (v0 * c.y0) - k1 * (v1 * c.y1) + k2 * (v2 * c.y2) - k3 * (v3 * c.y3)) -
      (k0 * (u0 * c.y0) - k1 * (u1 * c.y1) + k2 * (u2 * c.y2) - k3 * (u3 * c.y3)) * (k0 * (v0 * c.x0) - k1 * (v1 * c.x1) + k2 * (v2 * c.x2) - k3 * (v3 * c.x3))) =
      -(k0 * k1 * (u0 * v1 - u1 * v0) * (4 * (c.x0 * c.y1 - c.x1 * c.y0))) - k1 * k2 * (u1 * v2 - u2 * v1) * (4 * (c.x1 * c.y2 - c.x2 * c.y1)) - k2 * k3 * (u2 * v3 - u3 * v2) * (4 * (c.x2 * c.y3 - c.x3 * c.y2)) - k3 * k0 * (u3 * v0 - u0 * v3) * (4 * (c.x3 * c.y0 - c.x0 * c.y3)) +
        k0 * k2 * (u0 * v2 - u2 * v0) * (4 * (c.x0 * c.y2 - c.x2 * c.y0)) + k1 * k3 * (u1 * v3 - u3 * v1) * (4 * (c.x1 * c.y3 - c.x3 * c.y1)) := by grind
  rw [h1, c01, c12, c23, c30, c02, c13]
  have e3 : k3 = k0 - k1 + k2 := by grind
  rw [e3]
  unfold tri
  grind

theorem opp_prod {a b T : Rat} (ha : 0 ≤ a) (hb : 0 ≤ b) (h1 : 21/100 * a ≤ b) (h2 : 21/100 * b ≤ a) (hT : a + b = T) : 143/1000 * (T * T) ≤ a * b := by
  have h := Rat.mul_nonneg (show 0 ≤ b - 21/100 * a by grind) (show 0 ≤ a - 21/100 * b by grind)
  subst hT
  have hp := Rat.mul_nonneg ha hb
  have hs := Rat.mul_nonneg (show 0 ≤ a + b by grind) (show 0 ≤ a + b by grind)
  grind

/-- the last pivot -/
theorem far7 (h : Cen c) (k : Ks c k0 k1 k2 k3) (r02 : 21/100 * k0 ≤ k2) (r20 : 21/100 * k2 ≤ k0) (r13 : 21/100 * k1 ≤ k3) (r31 : 21/100 * k3 ≤ k1) {u0 u1 u2 u3 v0 v1 v2 v3 : Rat}
    (x0 : 33 ≤ u0 ∧ u0 ≤ 67) (x1 : 133 ≤ u1 ∧ u1 ≤ 167) (x2 : 133 ≤ u2 ∧ u2 ≤ 167) (x3 : 33 ≤ u3 ∧ u3 ≤ 67) (w0 : 33 ≤ v0 ∧ v0 ≤ 67) (w1 : 33 ≤ v1 ∧ v1 ≤ 67) (w2 : 133 ≤ v2 ∧ v2 ≤ 167) (w3 : 133 ≤ v3 ∧ v3 ≤ 167)
    (l0 : 3500 ≤ tri u1 v1 u2 v2 u3 v3) (l1 : 3500 ≤ tri u0 v0 u2 v2 u3 v3) (l2 : 3500 ≤ tri u0 v0 u1 v1 u3 v3) (l3 : 3500 ≤ tri u0 v0 u1 v1 u2 v2) (a b f a' b' f' g : Rat) :
    One4 40 (a * c.x0 + b * c.y0 + f - (g * (u0 * c.x0) + u0 * c.y0)) (a * c.x1 + b * c.y1 + f - (g * (u1 * c.x1) + u1 * c.y1)) (a * c.x2 + b * c.y2 + f - (g * (u2 * c.x2) + u2 * c.y2)) (a * c.x3 + b * c.y3 + f - (g * (u3 * c.x3) + u3 * c.y3)) ∨
    One4 40 (a' * c.x0 + b' * c.y0 + f' - (g * (v0 * c.x0) + v0 * c.y0)) (a' * c.x1 + b' * c.y1 + f' - (g * (v1 * c.x1) + v1 * c.y1)) (a' * c.x2 + b' * c.y2 + f' - (g * (v2 * c.x2) + v2 * c.y2)) (a' * c.x3 + b' * c.y3 + f' - (g * (v3 * c.x3) + v3 * c.y3)) := by
  apply Classical.byContradiction
  intro hn
  have hk : 0 < k0 ∧ 0 < k1 ∧ 0 < k2 ∧ 0 < k3 := ⟨by have := k.p0; grind, by have := k.p1; grind, by have := k.p2; grind, by have := k.p3; grind⟩
  have hs := small_sum (B := 40) hk (fun h' => hn (Or.inl h'))
  have ht := small_sum (B := 40) hk (fun h' => hn (Or.inr h'))
  rw [k.left] at hs ht
  have hd := det_eq h k u0 u1 u2 u3 v0 v1 v2 v3
  obtain ⟨p0, p1, p2, p3, e0, e1, e2, e3, b0, b1, b2, b3, em⟩ := masses h k
  have q0 := k.p0
  have q1 := k.p1
  have q2 := k.p2
  have q3 := k.p3
  have hsum := k.sum
  -- the x-sums
  have tu : k0 * (u0 * c.x0) - k1 * (u1 * c.x1) + k2 * (u2 * c.x2) - k3 * (u3 * c.x3) = -(u0 * p0) - u1 * p1 + u2 * p2 + u3 * p3 := by
    have t0 : k0 * (u0 * c.x0) = u0 * (k0 * c.x0) := by grind
    have t1 : k1 * (u1 * c.x1) = u1 * (k1 * c.x1) := by grind
    have t2 : k2 * (u2 * c.x2) = u2 * (k2 * c.x2) := by grind
    have t3 : k3 * (u3 * c.x3) = u3 * (k3 * c.x3) := by grind
    rw [t0, t1, t2, t3, e0, e1, e2, e3]; grind
  have tv : k0 * (v0 * c.x0) - k1 * (v1 * c.x1) + k2 * (v2 * c.x2) - k3 * (v3 * c.x3) = -(v0 * p0) - v1 * p1 + v2 * p2 + v3 * p3 := by
    have t0 : k0 * (v0 * c.x0) = v0 * (k0 * c.x0) := by grind
    have t1 : k1 * (v1 * c.x1) = v1 * (k1 * c.x1) := by grind
    have t2 : k2 * (v2 * c.x2) = v2 * (k2 * c.x2) := by grind
    have t3 : k3 * (v3 * c.x3) = v3 * (k3 * c.x3) := by grind
    rw [t0, t1, t2, t3, e0, e1, e2, e3]; grind
  have m0 := mul_bd x0.1 x0.2 (show 0 ≤ p0 by grind)
  have m1 := mul_bd x1.1 x1.2 (show 0 ≤ p1 by grind)
  have m2 := mul_bd x2.1 x2.2 (show 0 ≤ p2 by grind)
  have m3 := mul_bd x3.1 x3.2 (show 0 ≤ p3 by grind)
  have n0 := mul_bd w0.1 w0.2 (show 0 ≤ p0 by grind)
  have n1 := mul_bd w1.1 w1.2 (show 0 ≤ p1 by grind)
  have n2 := mul_bd w2.1 w2.2 (show 0 ≤ p2 by grind)
  have n3 := mul_bd w3.1 w3.2 (show 0 ≤ p3 by grind)
  -- the sums by their names
  have gs : k0 * (g * (u0 * c.x0) + u0 * c.y0) - k1 * (g * (u1 * c.x1) + u1 * c.y1) + k2 * (g * (u2 * c.x2) + u2 * c.y2) - k3 * (g * (u3 * c.x3) + u3 * c.y3) =
      g * (k0 * (u0 * c.x0) - k1 * (u1 * c.x1) + k2 * (u2 * c.x2) - k3 * (u3 * c.x3)) + (k0 * (u0 * c.y0) - k1 * (u1 * c.y1) + k2 * (u2 * c.y2) - k3 * (u3 * c.y3)) := by grind
  have gt : k0 * (g * (v0 * c.x0) + v0 * c.y0) - k1 * (g * (v1 * c.x1) + v1 * c.y1) + k2 * (g * (v2 * c.x2) + v2 * c.y2) - k3 * (g * (v3 * c.x3) + v3 * c.y3) =
      g * (k0 * (v0 * c.x0) - k1 * (v1 * c.x1) + k2 * (v2 * c.x2) - k3 * (v3 * c.x3)) + (k0 * (v0 * c.y0) - k1 * (v1 * c.y1) + k2 * (v2 * c.y2) - k3 * (v3 * c.y3)) := by grind
  rw [gs] at hs
  rw [gt] at ht
  generalize k0 * (u0 * c.y0) - k1 * (u1 * c.y1) + k2 * (u2 * c.y2) - k3 * (u3 * c.y3) = Uy at *
  generalize k0 * (v0 * c.y0) - k1 * (v1 * c.y1) + k2 * (v2 * c.y2) - k3 * (v3 * c.y3) = Vy at *
  rw [tu] at hs hd
  rw [tv] at ht hd
  clear tu tv gs gt e0 e1 e2 e3 hn
  obtain ⟨T, hT⟩ : ∃ T, T = k0 + k2 := ⟨_, rfl⟩
  have hT2 : T = k1 + k3 := by grind
  have hU : -(134 * (76 * T)) ≤ -(u0 * p0) - u1 * p1 + u2 * p2 + u3 * p3 ∧ -(u0 * p0) - u1 * p1 + u2 * p2 + u3 * p3 ≤ 134 * (76 * T) := by constructor <;> grind
  have hV : -(134 * (76 * T)) ≤ -(v0 * p0) - v1 * p1 + v2 * p2 + v3 * p3 ∧ -(v0 * p0) - v1 * p1 + v2 * p2 + v3 * p3 ≤ 134 * (76 * T) := by constructor <;> grind
  generalize -(u0 * p0) - u1 * p1 + u2 * p2 + u3 * p3 = Ux at *
  generalize -(v0 * p0) - v1 * p1 + v2 * p2 + v3 * p3 = Vx at *
  have hS : k0 + k1 + k2 + k3 = 2 * T := by grind
  rw [hS] at hs ht
  clear m0 m1 m2 m3 n0 n1 n2 n3 b0 b1 b2 b3 em
  -- the determinant from above
  have hT0 : 7000 ≤ T := by grind
  have o1 := opp_prod (by grind) (by grind) r02 r20 hT.symm
  have o2 := opp_prod (by grind) (by grind) r13 r31 hT2.symm
  have hEO : 4 * (Ux * Vy - Uy * Vx) = 4 * (Ux * (g * Vx + Vy) - (g * Ux + Uy) * Vx) := by grind
  rw [hEO] at hd
  generalize g * Ux + Uy = E at *
  generalize g * Vx + Vy = O at *
  have hE : -(80 * T) ≤ E ∧ E ≤ 80 * T := by constructor <;> grind
  have hO : -(80 * T) ≤ O ∧ O ≤ 80 * T := by constructor <;> grind
  have B1 : -(134 * (76 * T) * (80 * T)) ≤ Ux * O := by
    have g1 := Rat.mul_nonneg (show 0 ≤ 134 * (76 * T) - Ux by grind) (show 0 ≤ 80 * T + O by grind)
    have g2 := Rat.mul_nonneg (show 0 ≤ 134 * (76 * T) + Ux by grind) (show 0 ≤ 80 * T - O by grind)
    have g3 := Rat.mul_nonneg (show 0 ≤ 134 * (76 * T) + Ux by grind) (show 0 ≤ 80 * T + O by grind)
    have g4 := Rat.mul_nonneg (show 0 ≤ 134 * (76 * T) - Ux by grind) (show 0 ≤ 80 * T - O by grind)
    grind
  have B2 : E * Vx ≤ 134 * (76 * T) * (80 * T) := by
    have g1 := Rat.mul_nonneg (show 0 ≤ 134 * (76 * T) - Vx by grind) (show 0 ≤ 80 * T + E by grind)
    have g2 := Rat.mul_nonneg (show 0 ≤ 134 * (76 * T) + Vx by grind) (show 0 ≤ 80 * T - E by grind)
    have g3 := Rat.mul_nonneg (show 0 ≤ 134 * (76 * T) + Vx by grind) (show 0 ≤ 80 * T + E by grind)
    have g4 := Rat.mul_nonneg (show 0 ≤ 134 * (76 * T) - Vx by grind) (show 0 ≤ 80 * T - E by grind)
    grind
  -- and from below
  have d0 := Rat.mul_le_mul_of_nonneg_left l0 (Rat.mul_nonneg (Rat.mul_nonneg (show 0 ≤ k1 by grind) (show 0 ≤ k2 by grind)) (show 0 ≤ k3 by grind))
  have d1 := Rat.mul_le_mul_of_nonneg_left l1 (Rat.mul_nonneg (Rat.mul_nonneg (show 0 ≤ k0 by grind) (show 0 ≤ k2 by grind)) (show 0 ≤ k3 by grind))
  have d2 := Rat.mul_le_mul_of_nonneg_left l2 (Rat.mul_nonneg (Rat.mul_nonneg (show 0 ≤ k0 by grind) (show 0 ≤ k1 by grind)) (show 0 ≤ k3 by grind))
  have d3 := Rat.mul_le_mul_of_nonneg_left l3 (Rat.mul_nonneg (Rat.mul_nonneg (show 0 ≤ k0 by grind) (show 0 ≤ k1 by grind)) (show 0 ≤ k2 by grind))
  generalize tri u1 v1 u2 v2 u3 v3 = L0 at *
  generalize tri u0 v0 u2 v2 u3 v3 = L1 at *
  generalize tri u0 v0 u1 v1 u3 v3 = L2 at *
  generalize tri u0 v0 u1 v1 u2 v2 = L3 at *
  have hsum3 : k1 * k2 * k3 + k0 * k2 * k3 + k0 * k1 * k3 + k0 * k1 * k2 = T * (k0 * k2) + T * (k1 * k3) := by
    have f1 : T * (k1 * k3) = (k0 + k2) * (k1 * k3) := by rw [hT]
    have f2 : T * (k0 * k2) = (k1 + k3) * (k0 * k2) := by rw [hT2]
    rw [f1, f2]; grind
  have c1 := Rat.mul_le_mul_of_nonneg_left o1 (show 0 ≤ T by grind)
  have c2 := Rat.mul_le_mul_of_nonneg_left o2 (show 0 ≤ T by grind)
  have hTT := Rat.mul_nonneg (show 0 ≤ T by grind) (show 0 ≤ T by grind)
  have hT3 := Rat.mul_le_mul_of_nonneg_right hT0 hTT
  generalize k1 * k2 * k3 * L0 = D0 at *
  generalize k0 * k2 * k3 * L1 = D1 at *
  generalize k0 * k1 * k3 * L2 = D2 at *
  generalize k0 * k1 * k2 * L3 = D3 at *
  generalize k1 * k2 * k3 = z0 at *
  generalize k0 * k2 * k3 = z1 at *
  generalize k0 * k1 * k3 = z2 at *
  generalize k0 * k1 * k2 = z3 at *
  generalize Ux * O = z4 at *
  generalize E * Vx = z5 at *
  generalize T * (k0 * k2) = z6 at *
  generalize T * (k1 * k3) = z7 at *
  have c1' : T * (143/1000 * (T * T)) = 143/1000 * (T * (T * T)) := by grind
  have c2' : 134 * (76 * T) * (80 * T) = 814720 * (T * T) := by grind
  rw [c1'] at c1 c2
  rw [c2'] at B1 B2
  have hpos : 0 < T * T := Rat.mul_pos (by grind) (by grind)
  generalize T * (T * T) = t3 at *
  generalize T * T = t2 at *
  clear hE hO hU hV hs ht o1 o2 r02 r20 r13 r31 hsum hS hEO
  grind

end Geo

/- The numbers of the last two columns are small where all rows are small: plain rational numbers. -/
namespace Geo

variable {c : Quad} {k0 k1 k2 k3 : Rat}

/-- weights whose sums by pairs are not small -/
structure Pairs (k0 k1 k2 k3 : Rat) : Prop where
  a01 : 9240 ≤ k0 + k1
  a03 : 9240 ≤ k0 + k3
  a12 : 9240 ≤ k1 + k2
  a23 : 9240 ≤ k2 + k3
  a02 : 9240 ≤ k0 + k2

theorem half_prod {a b T : Rat} (hT : a + b = T) (h : a ≤ b) (ha : 0 ≤ a) : 1/2 * (T * a) ≤ a * b := by
  subst hT
  have := Rat.mul_nonneg ha (show 0 ≤ b - a by grind)
  grind

theorem det_lo {T l0 l1 l2 l3 : Rat} (p0 : 0 ≤ k0) (p1 : 0 ≤ k1) (p2 : 0 ≤ k2) (p3 : 0 ≤ k3) (hp : Pairs k0 k1 k2 k3) (hT : k0 + k2 = T) (hT2 : k1 + k3 = T) (h0 : 3500 ≤ l0) (h1 : 3500 ≤ l1) (h2 : 3500 ≤ l2) (h3 : 3500 ≤ l3) :
    16160000 * (T * T) ≤ k1 * k2 * k3 * l0 + k0 * k2 * k3 * l1 + k0 * k1 * k3 * l2 + k0 * k1 * k2 * l3 := by
  have d0 := Rat.mul_le_mul_of_nonneg_left h0 (Rat.mul_nonneg (Rat.mul_nonneg p1 p2) p3)
  have d1 := Rat.mul_le_mul_of_nonneg_left h1 (Rat.mul_nonneg (Rat.mul_nonneg p0 p2) p3)
  have d2 := Rat.mul_le_mul_of_nonneg_left h2 (Rat.mul_nonneg (Rat.mul_nonneg p0 p1) p3)
  have d3 := Rat.mul_le_mul_of_nonneg_left h3 (Rat.mul_nonneg (Rat.mul_nonneg p0 p1) p2)
  have hsum3 : k1 * k2 * k3 + k0 * k2 * k3 + k0 * k1 * k3 + k0 * k1 * k2 = T * (k0 * k2) + T * (k1 * k3) := by
    have f1 : T * (k1 * k3) = (k0 + k2) * (k1 * k3) := by rw [hT]
    have f2 : T * (k0 * k2) = (k1 + k3) * (k0 * k2) := by rw [hT2]
    rw [f1, f2]; grind
  have hT0 : 0 ≤ T := by grind
  have key : 4620 * T ≤ k0 * k2 + k1 * k3 := by
    have q02 : (∃ a, (a = k0 ∨ a = k2) ∧ 1/2 * (T * a) ≤ k0 * k2) := by
      by_cases h : k0 ≤ k2
      · exact ⟨k0, Or.inl rfl, half_prod hT h p0⟩
      · exact ⟨k2, Or.inr rfl, by have := half_prod (a := k2) (b := k0) (T := T) (by grind) (by grind) p2; grind⟩
    have q13 : (∃ a, (a = k1 ∨ a = k3) ∧ 1/2 * (T * a) ≤ k1 * k3) := by
      by_cases h : k1 ≤ k3
      · exact ⟨k1, Or.inl rfl, half_prod hT2 h p1⟩
      · exact ⟨k3, Or.inr rfl, by have := half_prod (a := k3) (b := k1) (T := T) (by grind) (by grind) p3; grind⟩
    obtain ⟨a, ha, hA⟩ := q02
    obtain ⟨b, hb, hB⟩ := q13
    have hab : 9240 ≤ a + b := by
      have := hp.a01; have := hp.a03; have := hp.a12; have := hp.a23
      rcases ha with rfl | rfl <;> rcases hb with rfl | rfl <;> grind
    have := Rat.mul_le_mul_of_nonneg_left hab hT0
    grind
  have kk := Rat.mul_le_mul_of_nonneg_left key hT0
  have hTT := Rat.mul_nonneg hT0 hT0
  have e1 : T * (4620 * T) = 4620 * (T * T) := by grind
  rw [e1, Rat.mul_add] at kk
  generalize k1 * k2 * k3 * l0 = D0 at *
  generalize k0 * k2 * k3 * l1 = D1 at *
  generalize k0 * k1 * k3 * l2 = D2 at *
  generalize k0 * k1 * k2 * l3 = D3 at *
  generalize k1 * k2 * k3 = z0 at *
  generalize k0 * k2 * k3 = z1 at *
  generalize k0 * k1 * k3 = z2 at *
  generalize k0 * k1 * k2 = z3 at *
  generalize T * (k0 * k2) = z6 at *
  generalize T * (k1 * k3) = z7 at *
  generalize T * T = t2 at *
  clear key e1 hp hT hT2
  grind

/-- a coordinate's weighted masses, two on either side -/
structure Mass (T p0 p1 p2 p3 : Rat) (k0 k1 k2 k3 : Rat) : Prop where
  b0 : 24 * k0 ≤ p0 ∧ p0 ≤ 76 * k0
  b1 : 24 * k1 ≤ p1 ∧ p1 ≤ 76 * k1
  b2 : 24 * k2 ≤ p2 ∧ p2 ≤ 76 * k2
  b3 : 24 * k3 ≤ p3 ∧ p3 ≤ 76 * k3

/-- the two sums of a coordinate: the one that goes with it, the one across -/
theorem sums_bd {T p0 p1 p2 p3 : Rat} (q0 : 0 ≤ k0) (q1 : 0 ≤ k1) (q2 : 0 ≤ k2) (q3 : 0 ≤ k3) (hm : Mass T p0 p1 p2 p3 k0 k1 k2 k3) (hT : k0 + k2 = T) (hT2 : k1 + k3 = T) {e0 e1 e2 e3 : Rat} (z0 : -17 ≤ e0 ∧ e0 ≤ 17) (z1 : -17 ≤ e1 ∧ e1 ≤ 17) (z2 : -17 ≤ e2 ∧ e2 ≤ 17) (z3 : -17 ≤ e3 ∧ e3 ≤ 17) :
    (-(5184 * T) ≤ 50 * (p0 - p1 + p2 - p3) + (e0 * p0 + e1 * p1 + e2 * p2 + e3 * p3) ∧ 50 * (p0 - p1 + p2 - p3) + (e0 * p0 + e1 * p1 + e2 * p2 + e3 * p3) ≤ 5184 * T) ∧
    (-(10184 * T) ≤ 50 * (p0 + p1 + p2 + p3) + (e0 * p0 + e1 * p1 + e2 * p2 + e3 * p3) ∧ 50 * (p0 + p1 + p2 + p3) + (e0 * p0 + e1 * p1 + e2 * p2 + e3 * p3) ≤ 10184 * T) := by
  obtain ⟨b0, b1, b2, b3⟩ := hm
  have m0 := mul_bd z0.1 z0.2 (show 0 ≤ p0 by grind)
  have m1 := mul_bd z1.1 z1.2 (show 0 ≤ p1 by grind)
  have m2 := mul_bd z2.1 z2.2 (show 0 ≤ p2 by grind)
  have m3 := mul_bd z3.1 z3.2 (show 0 ≤ p3 by grind)
  generalize e0 * p0 = r0 at *
  generalize e1 * p1 = r1 at *
  generalize e2 * p2 = r2 at *
  generalize e3 * p3 = r3 at *
  refine ⟨⟨?_, ?_⟩, ?_, ?_⟩ <;> grind

/-- two equations in two unknowns -/
theorem solve2 {g h Ux Uy Vx Vy E O D T m : Rat} (hE : E = -(g * Ux + h * Uy)) (hO : O = -(g * Vx + h * Vy)) (hD : 4 * (Ux * Vy - Uy * Vx) = -D) (hlo : 16160000 * (T * T) ≤ D) (hT : 0 < T) (hm : 0 ≤ m)
    (bE : -(2 * T * m) ≤ E ∧ E ≤ 2 * T * m) (bO : -(2 * T * m) ≤ O ∧ O ≤ 2 * T * m) (bX : -(5184 * T) ≤ Ux ∧ Ux ≤ 5184 * T) (bV : -(10184 * T) ≤ Vx ∧ Vx ≤ 10184 * T) : 131 * h ≤ m ∧ -m ≤ 131 * h := by
  have hid : 4 * (E * Vx - O * Ux) = -(h * D) := by
    have : h * D = -(h * (4 * (Ux * Vy - Uy * Vx))) := by rw [hD]; grind
    rw [this, hE, hO]; grind
  have hTm : 0 ≤ T * m := Rat.mul_nonneg (Rat.le_of_lt hT) hm
  have B1 : -(2 * T * m * (10184 * T)) ≤ E * Vx ∧ E * Vx ≤ 2 * T * m * (10184 * T) := by
    have g1 := Rat.mul_nonneg (show 0 ≤ 2 * T * m - E by grind) (show 0 ≤ 10184 * T + Vx by grind)
    have g2 := Rat.mul_nonneg (show 0 ≤ 2 * T * m + E by grind) (show 0 ≤ 10184 * T - Vx by grind)
    have g3 := Rat.mul_nonneg (show 0 ≤ 2 * T * m + E by grind) (show 0 ≤ 10184 * T + Vx by grind)
    have g4 := Rat.mul_nonneg (show 0 ≤ 2 * T * m - E by grind) (show 0 ≤ 10184 * T - Vx by grind)
    constructor <;> grind
  have B2 : -(2 * T * m * (5184 * T)) ≤ O * Ux ∧ O * Ux ≤ 2 * T * m * (5184 * T) := by
    have g1 := Rat.mul_nonneg (show 0 ≤ 2 * T * m - O by grind) (show 0 ≤ 5184 * T + Ux by grind)
    have g2 := Rat.mul_nonneg (show 0 ≤ 2 * T * m + O by grind) (show 0 ≤ 5184 * T - Ux by grind)
    have g3 := Rat.mul_nonneg (show 0 ≤ 2 * T * m + O by grind) (show 0 ≤ 5184 * T + Ux by grind)
    have g4 := Rat.mul_nonneg (show 0 ≤ 2 * T * m - O by grind) (show 0 ≤ 5184 * T - Ux by grind)
    constructor <;> grind
  have hTT : 0 < T * T := Rat.mul_pos hT hT
  have e1 : 2 * T * m * (10184 * T) = 20368 * (T * T * m) := by grind
  have e2 : 2 * T * m * (5184 * T) = 10368 * (T * T * m) := by grind
  rw [e1] at B1
  rw [e2] at B2
  have up : h * D ≤ 122944 * (T * T * m) ∧ -(122944 * (T * T * m)) ≤ h * D := by constructor <;> grind
  clear hid B1 B2 e1 e2 bE bO bX bV hE hO hD
  constructor
  · apply Classical.byContradiction; intro hh
    have hpos : 0 ≤ h := by grind
    have s1 := Rat.mul_le_mul_of_nonneg_left hlo hpos
    have s2 := Rat.mul_pos hTT (show 0 < 131 * h - m by grind)
    have s3 := Rat.mul_nonneg (Rat.le_of_lt hTT) hpos
    grind
  · apply Classical.byContradiction; intro hh
    have hneg : 0 ≤ -h := by grind
    have s1 := Rat.mul_le_mul_of_nonneg_left hlo hneg
    have s2 := Rat.mul_pos hTT (show 0 < -(131 * h) - m by grind)
    have s3 := Rat.mul_nonneg (Rat.le_of_lt hTT) hneg
    grind

end Geo

/- Where all rows are small, the last two numbers are: the inverse's bound. Plain rational numbers. -/
namespace Geo

variable {c : Quad} {k0 k1 k2 k3 : Rat}

theorem masses_y (h : Cen c) (k : Ks c k0 k1 k2 k3) : ∃ q0 q1 q2 q3 : Rat, k0 * c.y0 = -q0 ∧ k1 * c.y1 = -q1 ∧ k2 * c.y2 = q2 ∧ k3 * c.y3 = q3 ∧ (24 * k0 ≤ q0 ∧ q0 ≤ 76 * k0) ∧ (24 * k1 ≤ q1 ∧ q1 ≤ 76 * k1) ∧ (24 * k2 ≤ q2 ∧ q2 ≤ 76 * k2) ∧ (24 * k3 ≤ q3 ∧ q3 ≤ 76 * k3) ∧ q0 + q3 = q1 + q2 := by
  have p0 : 0 ≤ k0 := by have := k.p0; grind
  have p1 : 0 ≤ k1 := by have := k.p1; grind
  have p2 : 0 ≤ k2 := by have := k.p2; grind
  have p3 : 0 ≤ k3 := by have := k.p3; grind
  have a0 := Rat.mul_le_mul_of_nonneg_left h.y0.1 p0
  have b0 := Rat.mul_le_mul_of_nonneg_left h.y0.2 p0
  have a1 := Rat.mul_le_mul_of_nonneg_left h.y1.1 p1
  have b1 := Rat.mul_le_mul_of_nonneg_left h.y1.2 p1
  have a2 := Rat.mul_le_mul_of_nonneg_left h.y2.1 p2
  have b2 := Rat.mul_le_mul_of_nonneg_left h.y2.2 p2
  have a3 := Rat.mul_le_mul_of_nonneg_left h.y3.1 p3
  have b3 := Rat.mul_le_mul_of_nonneg_left h.y3.2 p3
  have e := k.my
  exact ⟨-(k0 * c.y0), -(k1 * c.y1), k2 * c.y2, k3 * c.y3, by grind, by grind, rfl, rfl, by constructor <;> grind, by constructor <;> grind, by constructor <;> grind, by constructor <;> grind, by grind⟩

theorem gh_small (h : Cen c) (k : Ks c k0 k1 k2 k3) (hp : Pairs k0 k1 k2 k3) {u0 u1 u2 u3 v0 v1 v2 v3 : Rat}
    (x0 : 33 ≤ u0 ∧ u0 ≤ 67) (x1 : 133 ≤ u1 ∧ u1 ≤ 167) (x2 : 133 ≤ u2 ∧ u2 ≤ 167) (x3 : 33 ≤ u3 ∧ u3 ≤ 67) (w0 : 33 ≤ v0 ∧ v0 ≤ 67) (w1 : 33 ≤ v1 ∧ v1 ≤ 67) (w2 : 133 ≤ v2 ∧ v2 ≤ 167) (w3 : 133 ≤ v3 ∧ v3 ≤ 167)
    (l0 : 3500 ≤ tri u1 v1 u2 v2 u3 v3) (l1 : 3500 ≤ tri u0 v0 u2 v2 u3 v3) (l2 : 3500 ≤ tri u0 v0 u1 v1 u3 v3) (l3 : 3500 ≤ tri u0 v0 u1 v1 u2 v2) (a b f a' b' f' g z m : Rat) (hm : 0 ≤ m)
    (hn : ¬ One4 m (a * c.x0 + b * c.y0 + f - (g * (u0 * c.x0) + z * (u0 * c.y0))) (a * c.x1 + b * c.y1 + f - (g * (u1 * c.x1) + z * (u1 * c.y1))) (a * c.x2 + b * c.y2 + f - (g * (u2 * c.x2) + z * (u2 * c.y2))) (a * c.x3 + b * c.y3 + f - (g * (u3 * c.x3) + z * (u3 * c.y3))))
    (hn' : ¬ One4 m (a' * c.x0 + b' * c.y0 + f' - (g * (v0 * c.x0) + z * (v0 * c.y0))) (a' * c.x1 + b' * c.y1 + f' - (g * (v1 * c.x1) + z * (v1 * c.y1))) (a' * c.x2 + b' * c.y2 + f' - (g * (v2 * c.x2) + z * (v2 * c.y2))) (a' * c.x3 + b' * c.y3 + f' - (g * (v3 * c.x3) + z * (v3 * c.y3)))) :
    (131 * z ≤ m ∧ -m ≤ 131 * z) ∧ (131 * g ≤ m ∧ -m ≤ 131 * g) := by
  have hk : 0 < k0 ∧ 0 < k1 ∧ 0 < k2 ∧ 0 < k3 := ⟨by have := k.p0; grind, by have := k.p1; grind, by have := k.p2; grind, by have := k.p3; grind⟩
  have hs := small_sum (B := m) hk hn
  have ht := small_sum (B := m) hk hn'
  rw [k.left] at hs ht
  have hd := det_eq h k u0 u1 u2 u3 v0 v1 v2 v3
  obtain ⟨p0, p1, p2, p3, e0, e1, e2, e3, b0, b1, b2, b3, em⟩ := masses h k
  obtain ⟨q0, q1, q2, q3, f0, f1, f2, f3, c0, c1, c2, c3, fm⟩ := masses_y h k
  have hsum := k.sum
  obtain ⟨T, hT⟩ : ∃ T, T = k0 + k2 := ⟨_, rfl⟩
  have hT2 : k1 + k3 = T := by grind
  have hlo := det_lo (by grind) (by grind) (by grind) (by grind) hp hT.symm hT2 l0 l1 l2 l3
  have sx := sums_bd (T := T) (k0 := k0) (k1 := k1) (k2 := k2) (k3 := k3) (by grind) (by grind) (by grind) (by grind) ⟨b0, b1, b2, b3⟩ hT.symm hT2 (e0 := -(u0 - 50)) (e1 := -(u1 - 150)) (e2 := u2 - 150) (e3 := u3 - 50) (by constructor <;> grind) (by constructor <;> grind) (by constructor <;> grind) (by constructor <;> grind)
  have sv := sums_bd (T := T) (k0 := k0) (k1 := k1) (k2 := k2) (k3 := k3) (by grind) (by grind) (by grind) (by grind) ⟨b0, b1, b2, b3⟩ hT.symm hT2 (e0 := -(v0 - 50)) (e1 := -(v1 - 50)) (e2 := v2 - 150) (e3 := v3 - 150) (by constructor <;> grind) (by constructor <;> grind) (by constructor <;> grind) (by constructor <;> grind)
  have syu := sums_bd (T := T) (k0 := k0) (k1 := k1) (k2 := k2) (k3 := k3) (by grind) (by grind) (by grind) (by grind) ⟨c0, c1, c2, c3⟩ hT.symm hT2 (e0 := -(u0 - 50)) (e1 := u1 - 150) (e2 := u2 - 150) (e3 := -(u3 - 50)) (by constructor <;> grind) (by constructor <;> grind) (by constructor <;> grind) (by constructor <;> grind)
  have syv := sums_bd (T := T) (k0 := k0) (k1 := k1) (k2 := k2) (k3 := k3) (by grind) (by grind) (by grind) (by grind) ⟨c0, c1, c2, c3⟩ hT.symm hT2 (e0 := -(v0 - 50)) (e1 := v1 - 50) (e2 := v2 - 150) (e3 := -(v3 - 150)) (by constructor <;> grind) (by constructor <;> grind) (by constructor <;> grind) (by constructor <;> grind)
  have tu : k0 * (u0 * c.x0) - k1 * (u1 * c.x1) + k2 * (u2 * c.x2) - k3 * (u3 * c.x3) = 50 * (p0 - p1 + p2 - p3) + (-(u0 - 50) * p0 + -(u1 - 150) * p1 + (u2 - 150) * p2 + (u3 - 50) * p3) := by
    have t0 : k0 * (u0 * c.x0) = u0 * (k0 * c.x0) := by grind
    have t1 : k1 * (u1 * c.x1) = u1 * (k1 * c.x1) := by grind
    have t2 : k2 * (u2 * c.x2) = u2 * (k2 * c.x2) := by grind
    have t3 : k3 * (u3 * c.x3) = u3 * (k3 * c.x3) := by grind
    rw [t0, t1, t2, t3, e0, e1, e2, e3]; grind
  have tv : k0 * (v0 * c.x0) - k1 * (v1 * c.x1) + k2 * (v2 * c.x2) - k3 * (v3 * c.x3) = 50 * (p0 + p1 + p2 + p3) + (-(v0 - 50) * p0 + -(v1 - 50) * p1 + (v2 - 150) * p2 + (v3 - 150) * p3) := by
    have t0 : k0 * (v0 * c.x0) = v0 * (k0 * c.x0) := by grind
    have t1 : k1 * (v1 * c.x1) = v1 * (k1 * c.x1) := by grind
    have t2 : k2 * (v2 * c.x2) = v2 * (k2 * c.x2) := by grind
    have t3 : k3 * (v3 * c.x3) = v3 * (k3 * c.x3) := by grind
    rw [t0, t1, t2, t3, e0, e1, e2, e3]; grind
  have tyu : k0 * (u0 * c.y0) - k1 * (u1 * c.y1) + k2 * (u2 * c.y2) - k3 * (u3 * c.y3) = 50 * (q0 + q1 + q2 + q3) + (-(u0 - 50) * q0 + (u1 - 150) * q1 + (u2 - 150) * q2 + -(u3 - 50) * q3) := by
    have t0 : k0 * (u0 * c.y0) = u0 * (k0 * c.y0) := by grind
    have t1 : k1 * (u1 * c.y1) = u1 * (k1 * c.y1) := by grind
    have t2 : k2 * (u2 * c.y2) = u2 * (k2 * c.y2) := by grind
    have t3 : k3 * (u3 * c.y3) = u3 * (k3 * c.y3) := by grind
    rw [t0, t1, t2, t3, f0, f1, f2, f3]; grind
  have tyv : k0 * (v0 * c.y0) - k1 * (v1 * c.y1) + k2 * (v2 * c.y2) - k3 * (v3 * c.y3) = 50 * (q0 - q1 + q2 - q3) + (-(v0 - 50) * q0 + (v1 - 50) * q1 + (v2 - 150) * q2 + -(v3 - 150) * q3) := by
    have t0 : k0 * (v0 * c.y0) = v0 * (k0 * c.y0) := by grind
    have t1 : k1 * (v1 * c.y1) = v1 * (k1 * c.y1) := by grind
    have t2 : k2 * (v2 * c.y2) = v2 * (k2 * c.y2) := by grind
    have t3 : k3 * (v3 * c.y3) = v3 * (k3 * c.y3) := by grind
    rw [t0, t1, t2, t3, f0, f1, f2, f3]; grind
  have gs : k0 * (g * (u0 * c.x0) + z * (u0 * c.y0)) - k1 * (g * (u1 * c.x1) + z * (u1 * c.y1)) + k2 * (g * (u2 * c.x2) + z * (u2 * c.y2)) - k3 * (g * (u3 * c.x3) + z * (u3 * c.y3)) =
      g * (k0 * (u0 * c.x0) - k1 * (u1 * c.x1) + k2 * (u2 * c.x2) - k3 * (u3 * c.x3)) + z * (k0 * (u0 * c.y0) - k1 * (u1 * c.y1) + k2 * (u2 * c.y2) - k3 * (u3 * c.y3)) := by grind
  have gt : k0 * (g * (v0 * c.x0) + z * (v0 * c.y0)) - k1 * (g * (v1 * c.x1) + z * (v1 * c.y1)) + k2 * (g * (v2 * c.x2) + z * (v2 * c.y2)) - k3 * (g * (v3 * c.x3) + z * (v3 * c.y3)) =
      g * (k0 * (v0 * c.x0) - k1 * (v1 * c.x1) + k2 * (v2 * c.x2) - k3 * (v3 * c.x3)) + z * (k0 * (v0 * c.y0) - k1 * (v1 * c.y1) + k2 * (v2 * c.y2) - k3 * (v3 * c.y3)) := by grind
  rw [gs] at hs
  rw [gt] at ht
  rw [← tu] at sx
  rw [← tv] at sv
  rw [← tyu] at syu
  rw [← tyv] at syv
  generalize k0 * (u0 * c.y0) - k1 * (u1 * c.y1) + k2 * (u2 * c.y2) - k3 * (u3 * c.y3) = Uy at *
  generalize k0 * (v0 * c.y0) - k1 * (v1 * c.y1) + k2 * (v2 * c.y2) - k3 * (v3 * c.y3) = Vy at *
  generalize k0 * (u0 * c.x0) - k1 * (u1 * c.x1) + k2 * (u2 * c.x2) - k3 * (u3 * c.x3) = Ux at *
  generalize k0 * (v0 * c.x0) - k1 * (v1 * c.x1) + k2 * (v2 * c.x2) - k3 * (v3 * c.x3) = Vx at *
  have hS : m * (k0 + k1 + k2 + k3) = 2 * T * m := by
    have e : k0 + k1 + k2 + k3 = 2 * T := by grind
    rw [e]; grind
  rw [hS] at hs ht
  have hT0 : 0 < T := by grind
  have bE : -(2 * T * m) ≤ -(g * Ux + z * Uy) ∧ -(g * Ux + z * Uy) ≤ 2 * T * m := ⟨Rat.le_of_lt hs.2, Rat.le_of_lt hs.1⟩
  have bO : -(2 * T * m) ≤ -(g * Vx + z * Vy) ∧ -(g * Vx + z * Vy) ≤ 2 * T * m := ⟨Rat.le_of_lt ht.2, Rat.le_of_lt ht.1⟩
  clear hs ht gs gt tu tv tyu tyv b0 b1 b2 b3 c0 c1 c2 c3 e0 e1 e2 e3 f0 f1 f2 f3 em fm
  refine ⟨solve2 rfl rfl hd hlo hT0 hm bE bO sx.1 sv.2, ?_⟩
  have hd' : 4 * (Vy * Ux - Vx * Uy) = -(k1 * k2 * k3 * tri u1 v1 u2 v2 u3 v3 + k0 * k2 * k3 * tri u0 v0 u2 v2 u3 v3 + k0 * k1 * k3 * tri u0 v0 u1 v1 u3 v3 + k0 * k1 * k2 * tri u0 v0 u1 v1 u2 v2) := by
    rw [← hd]; grind
  have e1 : -(g * Vx + z * Vy) = -(z * Vy + g * Vx) := by grind
  have e2 : -(g * Ux + z * Uy) = -(z * Uy + g * Ux) := by grind
  exact solve2 e1 e2 hd' hlo hT0 hm bO bE syv.1 syu.2

end Geo

/- Quadrilaterals near the square: about their middle, their triangles by pairs. -/
namespace Geo
section
variable {a b c d e f g h : Rat}
theorem pr01 (hi : In8 a b c d e f g h) : 231/250 ≤ t123 a b c d e f g h + t023 a b c d e f g h := by
  have := comb_pos 0 1 0 1 (-231/250) (by decide +kernel) hi
  unfold comb at this; grind
theorem pr03 (hi : In8 a b c d e f g h) : 231/250 ≤ t123 a b c d e f g h + t012 a b c d e f g h := by
  have := comb_pos 1 0 0 1 (-231/250) (by decide +kernel) hi
  unfold comb at this; grind
theorem pr12 (hi : In8 a b c d e f g h) : 231/250 ≤ t023 a b c d e f g h + t013 a b c d e f g h := by
  have := comb_pos 0 1 1 0 (-231/250) (by decide +kernel) hi
  unfold comb at this; grind
theorem pr23 (hi : In8 a b c d e f g h) : 231/250 ≤ t013 a b c d e f g h + t012 a b c d e f g h := by
  have := comb_pos 1 0 1 0 (-231/250) (by decide +kernel) hi
  unfold comb at this; grind
theorem pr02 (hi : In8 a b c d e f g h) : 231/250 ≤ t123 a b c d e f g h + t013 a b c d e f g h := by
  have := comb_pos 0 0 1 1 (-231/250) (by decide +kernel) hi
  unfold comb at this; grind
end

/-- a quadrilateral about its middle -/
def Quad.mx (q : Quad) : Rat := (q.x0 + q.x1 + q.x2 + q.x3) / 4
def Quad.my (q : Quad) : Rat := (q.y0 + q.y1 + q.y2 + q.y3) / 4
def Quad.cen (q : Quad) : Quad := ⟨q.x0 - q.mx, q.y0 - q.my, q.x1 - q.mx, q.y1 - q.my, q.x2 - q.mx, q.y2 - q.my, q.x3 - q.mx, q.y3 - q.my⟩
end Geo

namespace Go.Proofs.Ytaadklfendegfaa
open Go Fl Geo

theorem cen_of {q : Q8} {Q : Quad} {a1 a3 : Rat} (h : QZ q Q a1 a3) : Cen Q.cen := by
  have i0 := h.ix0
  have i1 := h.ix1
  have i2 := h.ix2
  have i3 := h.ix3
  have j0 := h.iy0
  have j1 := h.iy1
  have j2 := h.iy2
  have j3 := h.iy3
  unfold In at *
  refine ⟨?_, ?_, ?_, ?_, ?_, ?_, ?_, ?_, ?_, ?_⟩ <;> unfold Quad.cen Quad.mx Quad.my <;> dsimp only <;> first | (constructor <;> grind) | grind

theorem ks_of {q : Q8} {Q : Quad} {a1 a3 : Rat} (h : QZ q Q a1 a3) : Ks Q.cen Q.d123 Q.d023 Q.d013 Q.d012 := by
  refine ⟨?_, ?_, ?_, ?_, h.i123.1, h.i023.1, h.i013.1, h.i012.1⟩
  · unfold Quad.d123 Quad.cen tri; grind
  · unfold Quad.d023 Quad.cen tri; grind
  · unfold Quad.d013 Quad.cen tri; grind
  · unfold Quad.d012 Quad.cen tri; grind

theorem quad_qw (b : Nat → Int) (hb : ∀ i, i < 8 → -128 ≤ b i ∧ b i ≤ 127) : ∃ q Q a1 a3, QuadR (b 0) (b 1) (b 2) (b 3) (b 4) (b 5) (b 6) (b 7) q ∧ QZ q Q a1 a3 ∧ Pairs Q.d123 Q.d023 Q.d013 Q.d012 := by
  obtain ⟨z0, c0, d0⟩ := corn_ex f50_ex (by decide) (b 0) (hb 0 (by decide)).1 (hb 0 (by decide)).2
  obtain ⟨z1, c1, d1⟩ := corn_ex f50_ex (by decide) (b 1) (hb 1 (by decide)).1 (hb 1 (by decide)).2
  obtain ⟨z2, c2, d2⟩ := corn_ex f150_ex (by decide) (b 2) (hb 2 (by decide)).1 (hb 2 (by decide)).2
  obtain ⟨z3, c3, d3⟩ := corn_ex f50_ex (by decide) (b 3) (hb 3 (by decide)).1 (hb 3 (by decide)).2
  obtain ⟨z4, c4, d4⟩ := corn_ex f150_ex (by decide) (b 4) (hb 4 (by decide)).1 (hb 4 (by decide)).2
  obtain ⟨z5, c5, d5⟩ := corn_ex f150_ex (by decide) (b 5) (hb 5 (by decide)).1 (hb 5 (by decide)).2
  obtain ⟨z6, c6, d6⟩ := corn_ex f50_ex (by decide) (b 6) (hb 6 (by decide)).1 (hb 6 (by decide)).2
  obtain ⟨z7, c7, d7⟩ := corn_ex f150_ex (by decide) (b 7) (hb 7 (by decide)).1 (hb 7 (by decide)).2
  have hi : In8 ((b 0 : Rat) / 800) ((b 1 : Rat) / 800) ((b 2 : Rat) / 800) ((b 3 : Rat) / 800) ((b 4 : Rat) / 800) ((b 5 : Rat) / 800) ((b 6 : Rat) / 800) ((b 7 : Rat) / 800) :=
    ⟨small8 _ (hb 0 (by decide)).1 (hb 0 (by decide)).2, small8 _ (hb 1 (by decide)).1 (hb 1 (by decide)).2, small8 _ (hb 2 (by decide)).1 (hb 2 (by decide)).2, small8 _ (hb 3 (by decide)).1 (hb 3 (by decide)).2,
     small8 _ (hb 4 (by decide)).1 (hb 4 (by decide)).2, small8 _ (hb 5 (by decide)).1 (hb 5 (by decide)).2, small8 _ (hb 6 (by decide)).1 (hb 6 (by decide)).2, small8 _ (hb 7 (by decide)).1 (hb 7 (by decide)).2⟩
  refine ⟨⟨z0, z1, z2, z3, z4, z5, z6, z7⟩, _, _, _, ⟨c0, c1, c2, c3, c4, c5, c6, c7⟩, quad_geo hi _ rfl d0 d1 d2 d3 d4 d5 d6 d7, ?_⟩
  have p01 := pr01 hi
  have p03 := pr03 hi
  have p12 := pr12 hi
  have p23 := pr23 hi
  have p02 := pr02 hi
  generalize (b 0 : Rat) / 800 = a at *
  generalize (b 1 : Rat) / 800 = bb at *
  generalize (b 2 : Rat) / 800 = c at *
  generalize (b 3 : Rat) / 800 = d at *
  generalize (b 4 : Rat) / 800 = e at *
  generalize (b 5 : Rat) / 800 = f at *
  generalize (b 6 : Rat) / 800 = g at *
  generalize (b 7 : Rat) / 800 = h at *
  have e012 : (quadOf a bb c d e f g h).d012 = 10000 * t012 a bb c d e f g h := by unfold Quad.d012 quadOf t012 tri; grind
  have e023 : (quadOf a bb c d e f g h).d023 = 10000 * t023 a bb c d e f g h := by unfold Quad.d023 quadOf t023 tri; grind
  have e013 : (quadOf a bb c d e f g h).d013 = 10000 * t013 a bb c d e f g h := by unfold Quad.d013 quadOf t013 tri; grind
  have e123 : (quadOf a bb c d e f g h).d123 = 10000 * t123 a bb c d e f g h := by unfold Quad.d123 quadOf t123 tri; grind
  rw [e012, e023, e013, e123]
  exact ⟨by grind, by grind, by grind, by grind, by grind⟩

end Go.Proofs.Ytaadklfendegfaa

/- Quadrilaterals of a side of 120: how far a pixel's middle strays within a module. Plain rational numbers. -/
namespace Geo

/-- the length of a step, by its two coordinates, is at most B -/
structure L1 (dx dy B : Rat) : Prop where
  pp : dx + dy ≤ B
  pm : dx - dy ≤ B
  mp : -dx + dy ≤ B
  mm : -dx - dy ≤ B

def combL (k0 k1 k2 k3 k c1 c2 c3 c4 c5 c6 c7 c8 : Rat) (a b c d e f g h : Rat) : Rat := comb k0 k1 k2 k3 k a b c d e f g h + (c1 * a + c2 * b + c3 * c + c4 * d + c5 * e + c6 * f + c7 * g + c8 * h)

theorem combL_pos (k0 k1 k2 k3 k c1 c2 c3 c4 c5 c6 c7 c8 : Rat) (hc : ∀ b1 b2 b3 b4 b5 b6 b7 b8 : Bool, 0 ≤ combL k0 k1 k2 k3 k c1 c2 c3 c4 c5 c6 c7 c8 (bx b1) (bx b2) (bx b3) (bx b4) (bx b5) (bx b6) (bx b7) (bx b8)) {a b c d e f g h : Rat} (hi : In8 a b c d e f g h) : 0 ≤ combL k0 k1 k2 k3 k c1 c2 c3 c4 c5 c6 c7 c8 a b c d e f g h := by
  obtain ⟨h1, h2, h3, h4, h5, h6, h7, h8⟩ := hi
  refine multi8 (combL k0 k1 k2 k3 k c1 c2 c3 c4 c5 c6 c7 c8) ?_ ?_ ?_ ?_ ?_ ?_ ?_ ?_ hc a b c d e f g h h1 h2 h3 h4 h5 h6 h7 h8 <;>
    (intro p q r s u v w t; unfold combL comb t012 t023 t013 t123 tri; grind)

section
variable {a b c d e f g h : Rat}
theorem l30_013 (hi : In8 a b c d e f g h) : L1 (g - a) (1 + h - b) (14/5 * t013 a b c d e f g h) := by
  refine ⟨?_, ?_, ?_, ?_⟩
  · have := combL_pos 0 0 (14/5) 0 (-1) 1 1 0 0 0 0 (-1) (-1) (by decide +kernel) hi
    unfold combL comb at this; grind
  · have := combL_pos 0 0 (14/5) 0 1 1 (-1) 0 0 0 0 (-1) 1 (by decide +kernel) hi
    unfold combL comb at this; grind
  · have := combL_pos 0 0 (14/5) 0 (-1) (-1) 1 0 0 0 0 1 (-1) (by decide +kernel) hi
    unfold combL comb at this; grind
  · have := combL_pos 0 0 (14/5) 0 1 (-1) (-1) 0 0 0 0 1 1 (by decide +kernel) hi
    unfold combL comb at this; grind
theorem l30_023 (hi : In8 a b c d e f g h) : L1 (g - a) (1 + h - b) (14/5 * t023 a b c d e f g h) := by
  refine ⟨?_, ?_, ?_, ?_⟩
  · have := combL_pos 0 (14/5) 0 0 (-1) 1 1 0 0 0 0 (-1) (-1) (by decide +kernel) hi
    unfold combL comb at this; grind
  · have := combL_pos 0 (14/5) 0 0 1 1 (-1) 0 0 0 0 (-1) 1 (by decide +kernel) hi
    unfold combL comb at this; grind
  · have := combL_pos 0 (14/5) 0 0 (-1) (-1) 1 0 0 0 0 1 (-1) (by decide +kernel) hi
    unfold combL comb at this; grind
  · have := combL_pos 0 (14/5) 0 0 1 (-1) (-1) 0 0 0 0 1 1 (by decide +kernel) hi
    unfold combL comb at this; grind
theorem l21_012 (hi : In8 a b c d e f g h) : L1 (e - c) (1 + f - d) (14/5 * t012 a b c d e f g h) := by
  refine ⟨?_, ?_, ?_, ?_⟩
  · have := combL_pos (14/5) 0 0 0 (-1) 0 0 1 1 (-1) (-1) 0 0 (by decide +kernel) hi
    unfold combL comb at this; grind
  · have := combL_pos (14/5) 0 0 0 1 0 0 1 (-1) (-1) 1 0 0 (by decide +kernel) hi
    unfold combL comb at this; grind
  · have := combL_pos (14/5) 0 0 0 (-1) 0 0 (-1) 1 1 (-1) 0 0 (by decide +kernel) hi
    unfold combL comb at this; grind
  · have := combL_pos (14/5) 0 0 0 1 0 0 (-1) (-1) 1 1 0 0 (by decide +kernel) hi
    unfold combL comb at this; grind
theorem l21_123 (hi : In8 a b c d e f g h) : L1 (e - c) (1 + f - d) (14/5 * t123 a b c d e f g h) := by
  refine ⟨?_, ?_, ?_, ?_⟩
  · have := combL_pos 0 0 0 (14/5) (-1) 0 0 1 1 (-1) (-1) 0 0 (by decide +kernel) hi
    unfold combL comb at this; grind
  · have := combL_pos 0 0 0 (14/5) 1 0 0 1 (-1) (-1) 1 0 0 (by decide +kernel) hi
    unfold combL comb at this; grind
  · have := combL_pos 0 0 0 (14/5) (-1) 0 0 (-1) 1 1 (-1) 0 0 (by decide +kernel) hi
    unfold combL comb at this; grind
  · have := combL_pos 0 0 0 (14/5) 1 0 0 (-1) (-1) 1 1 0 0 (by decide +kernel) hi
    unfold combL comb at this; grind
theorem l10_013 (hi : In8 a b c d e f g h) : L1 (1 + c - a) (d - b) (14/5 * t013 a b c d e f g h) := by
  refine ⟨?_, ?_, ?_, ?_⟩
  · have := combL_pos 0 0 (14/5) 0 (-1) 1 1 (-1) (-1) 0 0 0 0 (by decide +kernel) hi
    unfold combL comb at this; grind
  · have := combL_pos 0 0 (14/5) 0 (-1) 1 (-1) (-1) 1 0 0 0 0 (by decide +kernel) hi
    unfold combL comb at this; grind
  · have := combL_pos 0 0 (14/5) 0 1 (-1) 1 1 (-1) 0 0 0 0 (by decide +kernel) hi
    unfold combL comb at this; grind
  · have := combL_pos 0 0 (14/5) 0 1 (-1) (-1) 1 1 0 0 0 0 (by decide +kernel) hi
    unfold combL comb at this; grind
theorem l10_012 (hi : In8 a b c d e f g h) : L1 (1 + c - a) (d - b) (14/5 * t012 a b c d e f g h) := by
  refine ⟨?_, ?_, ?_, ?_⟩
  · have := combL_pos (14/5) 0 0 0 (-1) 1 1 (-1) (-1) 0 0 0 0 (by decide +kernel) hi
    unfold combL comb at this; grind
  · have := combL_pos (14/5) 0 0 0 (-1) 1 (-1) (-1) 1 0 0 0 0 (by decide +kernel) hi
    unfold combL comb at this; grind
  · have := combL_pos (14/5) 0 0 0 1 (-1) 1 1 (-1) 0 0 0 0 (by decide +kernel) hi
    unfold combL comb at this; grind
  · have := combL_pos (14/5) 0 0 0 1 (-1) (-1) 1 1 0 0 0 0 (by decide +kernel) hi
    unfold combL comb at this; grind
theorem l23_023 (hi : In8 a b c d e f g h) : L1 (1 + e - g) (f - h) (14/5 * t023 a b c d e f g h) := by
  refine ⟨?_, ?_, ?_, ?_⟩
  · have := combL_pos 0 (14/5) 0 0 (-1) 0 0 0 0 (-1) (-1) 1 1 (by decide +kernel) hi
    unfold combL comb at this; grind
  · have := combL_pos 0 (14/5) 0 0 (-1) 0 0 0 0 (-1) 1 1 (-1) (by decide +kernel) hi
    unfold combL comb at this; grind
  · have := combL_pos 0 (14/5) 0 0 1 0 0 0 0 1 (-1) (-1) 1 (by decide +kernel) hi
    unfold combL comb at this; grind
  · have := combL_pos 0 (14/5) 0 0 1 0 0 0 0 1 1 (-1) (-1) (by decide +kernel) hi
    unfold combL comb at this; grind
theorem l23_123 (hi : In8 a b c d e f g h) : L1 (1 + e - g) (f - h) (14/5 * t123 a b c d e f g h) := by
  refine ⟨?_, ?_, ?_, ?_⟩
  · have := combL_pos 0 0 0 (14/5) (-1) 0 0 0 0 (-1) (-1) 1 1 (by decide +kernel) hi
    unfold combL comb at this; grind
  · have := combL_pos 0 0 0 (14/5) (-1) 0 0 0 0 (-1) 1 1 (-1) (by decide +kernel) hi
    unfold combL comb at this; grind
  · have := combL_pos 0 0 0 (14/5) 1 0 0 0 0 1 (-1) (-1) 1 (by decide +kernel) hi
    unfold combL comb at this; grind
  · have := combL_pos 0 0 0 (14/5) 1 0 0 0 0 1 1 (-1) (-1) (by decide +kernel) hi
    unfold combL comb at this; grind
end

/-- how the sides stand to the triangles -/
structure Sides (Q : Quad) : Prop where
  s30_013 : L1 (Q.x3 - Q.x0) (Q.y3 - Q.y0) (7/250 * Q.d013)
  s30_023 : L1 (Q.x3 - Q.x0) (Q.y3 - Q.y0) (7/250 * Q.d023)
  s21_012 : L1 (Q.x2 - Q.x1) (Q.y2 - Q.y1) (7/250 * Q.d012)
  s21_123 : L1 (Q.x2 - Q.x1) (Q.y2 - Q.y1) (7/250 * Q.d123)
  s10_013 : L1 (Q.x1 - Q.x0) (Q.y1 - Q.y0) (7/250 * Q.d013)
  s10_012 : L1 (Q.x1 - Q.x0) (Q.y1 - Q.y0) (7/250 * Q.d012)
  s23_023 : L1 (Q.x2 - Q.x3) (Q.y2 - Q.y3) (7/250 * Q.d023)
  s23_123 : L1 (Q.x2 - Q.x3) (Q.y2 - Q.y3) (7/250 * Q.d123)
  ix0 : 3399/100 ≤ Q.x0 ∧ Q.x0 ≤ 6601/100
  iy0 : 3399/100 ≤ Q.y0 ∧ Q.y0 ≤ 6601/100
  iy1 : 3399/100 ≤ Q.y1 ∧ Q.y1 ≤ 6601/100
  ix3 : 3399/100 ≤ Q.x3 ∧ Q.x3 ≤ 6601/100
  ix1 : 13399/100 ≤ Q.x1 ∧ Q.x1 ≤ 16601/100
  ix2 : 13399/100 ≤ Q.x2 ∧ Q.x2 ≤ 16601/100
  iy2 : 13399/100 ≤ Q.y2 ∧ Q.y2 ≤ 16601/100
  iy3 : 13399/100 ≤ Q.y3 ∧ Q.y3 ≤ 16601/100
end Geo

namespace Go.Proofs.Ytaadklfendegfaa
open Go Fl Geo

theorem sides_of {a b c d e f g h : Rat} (hi : In8 a b c d e f g h) : Sides (quadOf a b c d e f g h) := by
  have e012 : (quadOf a b c d e f g h).d012 = 10000 * t012 a b c d e f g h := by unfold Quad.d012 quadOf t012 tri; grind
  have e023 : (quadOf a b c d e f g h).d023 = 10000 * t023 a b c d e f g h := by unfold Quad.d023 quadOf t023 tri; grind
  have e013 : (quadOf a b c d e f g h).d013 = 10000 * t013 a b c d e f g h := by unfold Quad.d013 quadOf t013 tri; grind
  have e123 : (quadOf a b c d e f g h).d123 = 10000 * t123 a b c d e f g h := by unfold Quad.d123 quadOf t123 tri; grind
  have p30_013 := l30_013 hi
  have p30_023 := l30_023 hi
  have p21_012 := l21_012 hi
  have p21_123 := l21_123 hi
  have p10_013 := l10_013 hi
  have p10_012 := l10_012 hi
  have p23_023 := l23_023 hi
  have p23_123 := l23_123 hi
  obtain ⟨⟨z1, z2⟩, ⟨z3, z4⟩, ⟨z5, z6⟩, ⟨z7, z8⟩, ⟨z9, z10⟩, ⟨z11, z12⟩, ⟨z13, z14⟩, ⟨z15, z16⟩⟩ := hi
  unfold rr at *
  refine ⟨?_, ?_, ?_, ?_, ?_, ?_, ?_, ?_, ?_, ?_, ?_, ?_, ?_, ?_, ?_, ?_⟩
  · rw [e013]; obtain ⟨q1, q2, q3, q4⟩ := p30_013; unfold quadOf; dsimp only; refine ⟨?_, ?_, ?_, ?_⟩ <;> grind
  · rw [e023]; obtain ⟨q1, q2, q3, q4⟩ := p30_023; unfold quadOf; dsimp only; refine ⟨?_, ?_, ?_, ?_⟩ <;> grind
  · rw [e012]; obtain ⟨q1, q2, q3, q4⟩ := p21_012; unfold quadOf; dsimp only; refine ⟨?_, ?_, ?_, ?_⟩ <;> grind
  · rw [e123]; obtain ⟨q1, q2, q3, q4⟩ := p21_123; unfold quadOf; dsimp only; refine ⟨?_, ?_, ?_, ?_⟩ <;> grind
  · rw [e013]; obtain ⟨q1, q2, q3, q4⟩ := p10_013; unfold quadOf; dsimp only; refine ⟨?_, ?_, ?_, ?_⟩ <;> grind
  · rw [e012]; obtain ⟨q1, q2, q3, q4⟩ := p10_012; unfold quadOf; dsimp only; refine ⟨?_, ?_, ?_, ?_⟩ <;> grind
  · rw [e023]; obtain ⟨q1, q2, q3, q4⟩ := p23_023; unfold quadOf; dsimp only; refine ⟨?_, ?_, ?_, ?_⟩ <;> grind
  · rw [e123]; obtain ⟨q1, q2, q3, q4⟩ := p23_123; unfold quadOf; dsimp only; refine ⟨?_, ?_, ?_, ?_⟩ <;> grind
  · unfold quadOf; dsimp only; constructor <;> grind
  · unfold quadOf; dsimp only; constructor <;> grind
  · unfold quadOf; dsimp only; constructor <;> grind
  · unfold quadOf; dsimp only; constructor <;> grind
  · unfold quadOf; dsimp only; constructor <;> grind
  · unfold quadOf; dsimp only; constructor <;> grind
  · unfold quadOf; dsimp only; constructor <;> grind
  · unfold quadOf; dsimp only; constructor <;> grind

theorem quad_lw (b : Nat → Int) (hb : ∀ i, i < 8 → -128 ≤ b i ∧ b i ≤ 127) : ∃ q Q a1 a3, QuadR (b 0) (b 1) (b 2) (b 3) (b 4) (b 5) (b 6) (b 7) q ∧ QZ q Q a1 a3 ∧ Sides Q := by
  obtain ⟨z0, c0, d0⟩ := corn_ex f50_ex (by decide) (b 0) (hb 0 (by decide)).1 (hb 0 (by decide)).2
  obtain ⟨z1, c1, d1⟩ := corn_ex f50_ex (by decide) (b 1) (hb 1 (by decide)).1 (hb 1 (by decide)).2
  obtain ⟨z2, c2, d2⟩ := corn_ex f150_ex (by decide) (b 2) (hb 2 (by decide)).1 (hb 2 (by decide)).2
  obtain ⟨z3, c3, d3⟩ := corn_ex f50_ex (by decide) (b 3) (hb 3 (by decide)).1 (hb 3 (by decide)).2
  obtain ⟨z4, c4, d4⟩ := corn_ex f150_ex (by decide) (b 4) (hb 4 (by decide)).1 (hb 4 (by decide)).2
  obtain ⟨z5, c5, d5⟩ := corn_ex f150_ex (by decide) (b 5) (hb 5 (by decide)).1 (hb 5 (by decide)).2
  obtain ⟨z6, c6, d6⟩ := corn_ex f50_ex (by decide) (b 6) (hb 6 (by decide)).1 (hb 6 (by decide)).2
  obtain ⟨z7, c7, d7⟩ := corn_ex f150_ex (by decide) (b 7) (hb 7 (by decide)).1 (hb 7 (by decide)).2
  have hi : In8 ((b 0 : Rat) / 800) ((b 1 : Rat) / 800) ((b 2 : Rat) / 800) ((b 3 : Rat) / 800) ((b 4 : Rat) / 800) ((b 5 : Rat) / 800) ((b 6 : Rat) / 800) ((b 7 : Rat) / 800) :=
    ⟨small8 _ (hb 0 (by decide)).1 (hb 0 (by decide)).2, small8 _ (hb 1 (by decide)).1 (hb 1 (by decide)).2, small8 _ (hb 2 (by decide)).1 (hb 2 (by decide)).2, small8 _ (hb 3 (by decide)).1 (hb 3 (by decide)).2,
     small8 _ (hb 4 (by decide)).1 (hb 4 (by decide)).2, small8 _ (hb 5 (by decide)).1 (hb 5 (by decide)).2, small8 _ (hb 6 (by decide)).1 (hb 6 (by decide)).2, small8 _ (hb 7 (by decide)).1 (hb 7 (by decide)).2⟩
  exact ⟨⟨z0, z1, z2, z3, z4, z5, z6, z7⟩, _, _, _, ⟨c0, c1, c2, c3, c4, c5, c6, c7⟩, quad_geo hi _ rfl d0 d1 d2 d3 d4 d5 d6 d7, sides_of hi⟩

/-- the quadrilateral on the picture -/
def _root_.Geo.Quad.str (Q : Quad) : Quad := ⟨6/5 * Q.x0 - 40, 6/5 * Q.y0 - 40, 6/5 * Q.x1 - 40, 6/5 * Q.y1 - 40, 6/5 * Q.x2 - 40, 6/5 * Q.y2 - 40, 6/5 * Q.x3 - 40, 6/5 * Q.y3 - 40⟩

theorem str_d (Q : Quad) : Q.str.d012 = 36/25 * Q.d012 ∧ Q.str.d023 = 36/25 * Q.d023 ∧ Q.str.d013 = 36/25 * Q.d013 ∧ Q.str.d123 = 36/25 * Q.d123 := by
  unfold Quad.d012 Quad.d023 Quad.d013 Quad.d123 Quad.str tri
  refine ⟨?_, ?_, ?_, ?_⟩ <;> grind

theorem str_F {Q : Quad} {a1 a3 : Rat} (h : QF Q a1 a3) : QF Q.str a1 a3 := by
  obtain ⟨e0, e1, e2, e3⟩ := str_d Q
  have h1 := h.h1
  have h3 := h.h3
  have hp := h.pos
  exact ⟨by rw [e1, e3]; grind, by rw [e0, e3]; grind, by rw [e3]; grind⟩

theorem _root_.Geo.L1.bd {dx dy B u v r : Rat} (h : L1 dx dy B) (hu : Bd u r) (hv : Bd v r) : Bd (dy * u - dx * v) (r * B) := by
  obtain ⟨pp, pm, mp, mm⟩ := h
  have hr := hu.nonneg
  have m1 := Rat.mul_le_mul_of_nonneg_left pp hr
  have m2 := Rat.mul_le_mul_of_nonneg_left pm hr
  have m3 := Rat.mul_le_mul_of_nonneg_left mp hr
  have m4 := Rat.mul_le_mul_of_nonneg_left mm hr
  unfold Bd at *
  by_cases hx : 0 ≤ dx <;> by_cases hy : 0 ≤ dy
  · have a1 := Rat.mul_le_mul_of_nonneg_left hu.1 hy
    have a2 := Rat.mul_le_mul_of_nonneg_left hu.2 hy
    have b1 := Rat.mul_le_mul_of_nonneg_left hv.1 hx
    have b2 := Rat.mul_le_mul_of_nonneg_left hv.2 hx
    constructor <;> grind
  · have a1 := Rat.mul_le_mul_of_nonneg_left hu.1 (show 0 ≤ -dy by grind)
    have a2 := Rat.mul_le_mul_of_nonneg_left hu.2 (show 0 ≤ -dy by grind)
    have b1 := Rat.mul_le_mul_of_nonneg_left hv.1 hx
    have b2 := Rat.mul_le_mul_of_nonneg_left hv.2 hx
    constructor <;> grind
  · have a1 := Rat.mul_le_mul_of_nonneg_left hu.1 hy
    have a2 := Rat.mul_le_mul_of_nonneg_left hu.2 hy
    have b1 := Rat.mul_le_mul_of_nonneg_left hv.1 (show 0 ≤ -dx by grind)
    have b2 := Rat.mul_le_mul_of_nonneg_left hv.2 (show 0 ≤ -dx by grind)
    constructor <;> grind
  · have a1 := Rat.mul_le_mul_of_nonneg_left hu.1 (show 0 ≤ -dy by grind)
    have a2 := Rat.mul_le_mul_of_nonneg_left hu.2 (show 0 ≤ -dy by grind)
    have b1 := Rat.mul_le_mul_of_nonneg_left hv.1 (show 0 ≤ -dx by grind)
    have b2 := Rat.mul_le_mul_of_nonneg_left hv.2 (show 0 ≤ -dx by grind)
    constructor <;> grind

theorem L1.str {dx dy k : Rat} (h : L1 dx dy (7/250 * k)) : L1 (6/5 * dx) (6/5 * dy) (7/300 * (36/25 * k)) := by
  obtain ⟨pp, pm, mp, mm⟩ := h
  exact ⟨by grind, by grind, by grind, by grind⟩

theorem WW_w {w : Wt} (hw : w.OK) (S : Quad) (a1 a3 : Rat) (F : QF S a1 a3) : WW S a1 a3 (w.px S) (w.py S) = w.w0 * (a1 * a3 * S.d013) + w.w1 * (a3 * S.d013) + w.w2 * (a1 * S.d012) + w.w3 * (a1 * S.d013) := by
  have e : WW S a1 a3 (w.px S) (w.py S) = w.w0 * WW S a1 a3 S.x0 S.y0 + w.w1 * WW S a1 a3 S.x1 S.y1 + w.w2 * WW S a1 a3 S.x2 S.y2 + w.w3 * WW S a1 a3 S.x3 S.y3 := by
    unfold WW; exact aff_w hw S _ _ _
  rw [e, WW0, WW1, WW2 F, WW3]

/-- what is below the four corners' numbers is below a mean of them -/
theorem mean_le {w : Wt} (hw : w.OK) {x c0 c1 c2 c3 : Rat} (h0 : x ≤ c0) (h1 : x ≤ c1) (h2 : x ≤ c2) (h3 : x ≤ c3) : x ≤ w.w0 * c0 + w.w1 * c1 + w.w2 * c2 + w.w3 * c3 := by
  have g0 := Rat.mul_le_mul_of_nonneg_left h0 hw.p0
  have g1 := Rat.mul_le_mul_of_nonneg_left h1 hw.p1
  have g2 := Rat.mul_le_mul_of_nonneg_left h2 hw.p2
  have g3 := Rat.mul_le_mul_of_nonneg_left h3 hw.p3
  have e : (w.w0 + w.w1 + w.w2 + w.w3) * x = x := by rw [hw.sum, Rat.one_mul]
  grind

/-- how little the four functions change within half a pixel -/
theorem strays {q : Q8} {Q : Quad} {a1 a3 : Rat} (h : QZ q Q a1 a3) (hs : Sides Q) {w : Wt} (hw : w.OK) {u v r : Rat} (hu : Bd u r) (hv : Bd v r) :
    Bd (O11 Q.str a1 a3 * u + O21 Q.str a1 a3 * v) (r / 15 * WW Q.str a1 a3 (w.px Q.str) (w.py Q.str)) ∧
    Bd ((O11 Q.str a1 a3 - O13 Q.str a1 a3) * u + (O21 Q.str a1 a3 - O23 Q.str a1 a3) * v) (r / 15 * WW Q.str a1 a3 (w.px Q.str) (w.py Q.str)) ∧
    Bd (O12 Q.str a1 a3 * u + O22 Q.str a1 a3 * v) (r / 15 * WW Q.str a1 a3 (w.px Q.str) (w.py Q.str)) ∧
    Bd ((O12 Q.str a1 a3 - O13 Q.str a1 a3) * u + (O22 Q.str a1 a3 - O23 Q.str a1 a3) * v) (r / 15 * WW Q.str a1 a3 (w.px Q.str) (w.py Q.str)) := by
  have F := str_F h.F
  obtain ⟨e012, e023, e013, e123⟩ := str_d Q
  have fx := F.mx
  have fy := F.my
  rw [WW_w hw _ _ _ F]
  have hr := hu.nonneg
  have A1 := h.r1
  have A3 := h.r3
  have A2 := h.r2
  have u1 := h.u1
  have u1' := h.u1'
  have u3 := h.u3
  have u3' := h.u3'
  have f1 := F.h1
  have f3 := F.h3
  have f2 := F.h2
  have pos := F.pos
  have l30_013 := (L1.str hs.s30_013).bd hu hv
  rw [← e013] at l30_013
  have l30_023 := (L1.str hs.s30_023).bd hu hv
  rw [← e023] at l30_023
  have l21_012 := (L1.str hs.s21_012).bd hu hv
  rw [← e012] at l21_012
  have l21_123 := (L1.str hs.s21_123).bd hu hv
  rw [← e123] at l21_123
  have l10_013 := (L1.str hs.s10_013).bd hu hv
  rw [← e013] at l10_013
  have l10_012 := (L1.str hs.s10_012).bd hu hv
  rw [← e012] at l10_012
  have l23_023 := (L1.str hs.s23_023).bd hu hv
  rw [← e023] at l23_023
  have l23_123 := (L1.str hs.s23_123).bd hu hv
  rw [← e123] at l23_123
  unfold In at A1 A2 A3
  have p1 : 0 ≤ a1 := by grind
  have p3 : 0 ≤ a3 := by grind
  have p2 : 0 ≤ a1 + a3 - 1 := by grind
  have dx30 : 6/5 * (Q.x3 - Q.x0) = Q.str.x3 - Q.str.x0 ∧ 6/5 * (Q.y3 - Q.y0) = Q.str.y3 - Q.str.y0 := by unfold Quad.str; constructor <;> grind
  have dx21 : 6/5 * (Q.x2 - Q.x1) = Q.str.x2 - Q.str.x1 ∧ 6/5 * (Q.y2 - Q.y1) = Q.str.y2 - Q.str.y1 := by unfold Quad.str; constructor <;> grind
  have dx10 : 6/5 * (Q.x1 - Q.x0) = Q.str.x1 - Q.str.x0 ∧ 6/5 * (Q.y1 - Q.y0) = Q.str.y1 - Q.str.y0 := by unfold Quad.str; constructor <;> grind
  have dx23 : 6/5 * (Q.x2 - Q.x3) = Q.str.x2 - Q.str.x3 ∧ 6/5 * (Q.y2 - Q.y3) = Q.str.y2 - Q.str.y3 := by unfold Quad.str; constructor <;> grind
  rw [dx30.1, dx30.2] at l30_013 l30_023
  rw [dx21.1, dx21.2] at l21_012 l21_123
  rw [dx10.1, dx10.2] at l10_013 l10_012
  rw [dx23.1, dx23.2] at l23_023 l23_123
  clear dx30 dx21 dx10 dx23 e012 e023 e013 e123 hs h
  rw [← f1] at l30_023 l23_023
  rw [← f3] at l21_012 l10_012 ⊢
  rw [← f2] at l30_013 l10_013 ⊢
  generalize Q.str.d123 = c at *
  generalize Q.str = S at *
  -- what a side's step comes to, beside the corners' numbers
  have hc0 : 0 ≤ r * c := Rat.mul_nonneg hr (by grind)
  have key : ∀ k X B0 B1 : Rat, 0 ≤ k → Bd X (r * (7/300 * B0)) → Bd X (r * (7/300 * B1)) →
      (k * B0 ≤ 20/7 * (a1 * a3 * ((a1 + a3 - 1) * c)) ∨ k * B1 ≤ 20/7 * (a1 * a3 * ((a1 + a3 - 1) * c))) → (k * B0 ≤ 20/7 * (a3 * ((a1 + a3 - 1) * c)) ∨ k * B1 ≤ 20/7 * (a3 * ((a1 + a3 - 1) * c))) →
      (k * B0 ≤ 20/7 * (a1 * (a3 * c)) ∨ k * B1 ≤ 20/7 * (a1 * (a3 * c))) → (k * B0 ≤ 20/7 * (a1 * ((a1 + a3 - 1) * c)) ∨ k * B1 ≤ 20/7 * (a1 * ((a1 + a3 - 1) * c))) →
      Bd (k * X) (r / 15 * (w.w0 * (a1 * a3 * ((a1 + a3 - 1) * c)) + w.w1 * (a3 * ((a1 + a3 - 1) * c)) + w.w2 * (a1 * (a3 * c)) + w.w3 * (a1 * ((a1 + a3 - 1) * c)))) := by
    intro k X B0 B1 hk h0 h1 c0 c1 c2 c3
    have one : ∀ E, (k * B0 ≤ 20/7 * E ∨ k * B1 ≤ 20/7 * E) → Bd (k * X) (r / 15 * E) := by
      intro E hE
      rcases hE with hE | hE
      · have m := Rat.mul_le_mul_of_nonneg_left hE hr
        have a := Rat.mul_le_mul_of_nonneg_left h0.1 hk
        have b := Rat.mul_le_mul_of_nonneg_left h0.2 hk
        unfold Bd; constructor <;> grind
      · have m := Rat.mul_le_mul_of_nonneg_left hE hr
        have a := Rat.mul_le_mul_of_nonneg_left h1.1 hk
        have b := Rat.mul_le_mul_of_nonneg_left h1.2 hk
        unfold Bd; constructor <;> grind
    have o0 := one _ c0
    have o1 := one _ c1
    have o2 := one _ c2
    have o3 := one _ c3
    have up := mean_le hw o0.2 o1.2 o2.2 o3.2
    have lo := mean_le hw o0.neg.2 o1.neg.2 o2.neg.2 o3.neg.2
    clear one o0 o1 o2 o3 c0 c1 c2 c3
    generalize a1 * a3 * ((a1 + a3 - 1) * c) = E0 at *
    generalize a3 * ((a1 + a3 - 1) * c) = E1 at *
    generalize a1 * (a3 * c) = E2 at *
    generalize a1 * ((a1 + a3 - 1) * c) = E3 at *
    generalize k * X = kX at *
    unfold Bd
    constructor <;> grind
  have pc : 0 ≤ c := by grind
  have a13 := Rat.mul_nonneg p1 p3
  have a12 := Rat.mul_nonneg p1 p2
  have a32 := Rat.mul_nonneg p3 p2
  have a123 := Rat.mul_nonneg a13 p2
  have a13c := Rat.mul_nonneg a13 pc
  have a12c := Rat.mul_nonneg a12 pc
  have a32c := Rat.mul_nonneg a32 pc
  have a123c := Rat.mul_nonneg a123 pc
  have g := fun (x y z : Rat) (hz : 0 ≤ z) (hxy : x ≤ 20/7 * y) => Rat.mul_le_mul_of_nonneg_right hxy hz
  refine ⟨?_, ?_, ?_, ?_⟩
  · have k := key a3 _ _ _ p3 l30_013 l30_023
      (Or.inl (by have := g 1 a1 _ a32c (by grind); grind)) (Or.inl (by grind)) (Or.inr (by grind)) (Or.inr (by have := g a3 (a1 + a3 - 1) _ (Rat.mul_nonneg p1 pc) (by grind); have e : a3 * (a1 * c) = a3 * (a1 * c) := rfl; grind))
    have e : O11 S a1 a3 * u + O21 S a1 a3 * v = a3 * ((S.y3 - S.y0) * u - (S.x3 - S.x0) * v) := by unfold O11 O21; grind
    rw [e]; exact k
  · have k := key (a1 * (a1 + a3 - 1)) _ _ _ a12 l21_012 l21_123
      (Or.inl (by grind)) (Or.inl (by have := g a1 1 _ a32c (by grind); grind)) (Or.inr (by have := g (a1 + a3 - 1) a3 _ (Rat.mul_nonneg p1 pc) (by grind); grind)) (Or.inr (by grind))
    have ex : O11 S a1 a3 - O13 S a1 a3 = a1 * (a1 + a3 - 1) * (S.y2 - S.y1) := by
      have : O11 S a1 a3 - O13 S a1 a3 = a1 * ((a1 * S.y1 + a3 * S.y3 - S.y0) - (a1 + a3 - 1) * S.y1) := by unfold O11 O13 A12 A22; grind
      rw [this, fy]; grind
    have ey : O21 S a1 a3 - O23 S a1 a3 = -(a1 * (a1 + a3 - 1) * (S.x2 - S.x1)) := by
      have : O21 S a1 a3 - O23 S a1 a3 = -(a1 * ((a1 * S.x1 + a3 * S.x3 - S.x0) - (a1 + a3 - 1) * S.x1)) := by unfold O21 O23 A11 A21; grind
      rw [this, fx]; grind
    have e : (O11 S a1 a3 - O13 S a1 a3) * u + (O21 S a1 a3 - O23 S a1 a3) * v = a1 * (a1 + a3 - 1) * ((S.y2 - S.y1) * u - (S.x2 - S.x1) * v) := by rw [ex, ey]; grind
    rw [e]; exact k
  · have k := key a1 _ _ _ p1 l10_013 l10_012
      (Or.inl (by have := g 1 a3 _ a12c (by grind); grind)) (Or.inr (by have := g a1 (a1 + a3 - 1) _ (Rat.mul_nonneg p3 pc) (by grind); grind)) (Or.inr (by grind)) (Or.inl (by grind))
    have e : O12 S a1 a3 * u + O22 S a1 a3 * v = -(a1 * ((S.y1 - S.y0) * u - (S.x1 - S.x0) * v)) := by unfold O12 O22; grind
    rw [e]; exact k.neg
  · have k := key (a3 * (a1 + a3 - 1)) _ _ _ a32 l23_023 l23_123
      (Or.inl (by grind)) (Or.inr (by grind)) (Or.inr (by have := g (a1 + a3 - 1) a1 _ (Rat.mul_nonneg p3 pc) (by grind); grind)) (Or.inl (by have := g a3 1 _ a12c (by grind); grind))
    have ex : O12 S a1 a3 - O13 S a1 a3 = -(a3 * (a1 + a3 - 1) * (S.y2 - S.y3)) := by
      have : O12 S a1 a3 - O13 S a1 a3 = -(a3 * ((a1 * S.y1 + a3 * S.y3 - S.y0) - (a1 + a3 - 1) * S.y3)) := by unfold O12 O13 A12 A22; grind
      rw [this, fy]; grind
    have ey : O22 S a1 a3 - O23 S a1 a3 = a3 * (a1 + a3 - 1) * (S.x2 - S.x3) := by
      have : O22 S a1 a3 - O23 S a1 a3 = a3 * ((a1 * S.x1 + a3 * S.x3 - S.x0) - (a1 + a3 - 1) * S.x3) := by unfold O22 O23 A11 A21; grind
      rw [this, fx]; grind
    have e : (O12 S a1 a3 - O13 S a1 a3) * u + (O22 S a1 a3 - O23 S a1 a3) * v = -(a3 * (a1 + a3 - 1) * ((S.y2 - S.y3) * u - (S.x2 - S.x3) * v)) := by rw [ex, ey]; grind
    rw [e]; exact k.neg

end Go.Proofs.Ytaadklfendegfaa

/- An affine function that is small at the corners has small slopes. Plain rational numbers. -/
namespace Geo

theorem lean_abs {a b X Y t : Rat} (hX : 132 ≤ X) (hY : -68 ≤ Y ∧ Y ≤ 68) (h : a * X + b * Y ≤ t ∧ -t ≤ a * X + b * Y) :
    ∀ A B : Rat, (A = a ∨ A = -a) → 0 ≤ A → (B = b ∨ B = -b) → 0 ≤ B → 132 * A ≤ t + 68 * B := by
  intro A B hA hA0 hB hB0
  have h1 := Rat.mul_nonneg hA0 (show 0 ≤ X - 132 by grind)
  have h2 := Rat.mul_nonneg hB0 (show 0 ≤ 68 - Y by grind)
  have h3 := Rat.mul_nonneg hB0 (show 0 ≤ Y + 68 by grind)
  rcases hA with rfl | rfl <;> rcases hB with rfl | rfl <;> grind

theorem slope_small {a b X Y X' Y' t : Rat} (hX : 132 ≤ X) (hY : -68 ≤ Y ∧ Y ≤ 68) (hY' : 132 ≤ Y') (hX' : -68 ≤ X' ∧ X' ≤ 68) (h : a * X + b * Y ≤ 4 * t ∧ -(4 * t) ≤ a * X + b * Y) (h' : a * X' + b * Y' ≤ 4 * t ∧ -(4 * t) ≤ a * X' + b * Y') :
    (16 * a ≤ t ∧ -t ≤ 16 * a) ∧ (16 * b ≤ t ∧ -t ≤ 16 * b) := by
  have g1 := lean_abs hX hY h
  have g2 := lean_abs (a := b) (b := a) (t := 4 * t) hY' hX' ⟨by rw [Rat.add_comm]; exact h'.1, by rw [Rat.add_comm]; exact h'.2⟩
  obtain ⟨A, hA, hA0⟩ : ∃ A, (A = a ∨ A = -a) ∧ 0 ≤ A := by
    by_cases h : 0 ≤ a
    · exact ⟨a, Or.inl rfl, h⟩
    · exact ⟨-a, Or.inr rfl, by grind⟩
  obtain ⟨B, hB, hB0⟩ : ∃ B, (B = b ∨ B = -b) ∧ 0 ≤ B := by
    by_cases h : 0 ≤ b
    · exact ⟨b, Or.inl rfl, h⟩
    · exact ⟨-b, Or.inr rfl, by grind⟩
  have k1 := g1 A B hA hA0 hB hB0
  have k2 := g2 B A hB hB0 hA hA0
  clear g1 g2 h h'
  rcases hA with rfl | rfl <;> rcases hB with rfl | rfl <;> refine ⟨⟨?_, ?_⟩, ?_, ?_⟩ <;> grind

end Geo

namespace Go.Proofs.Ytaadklfendegfaa
open Go Fl Geo

/-- small at the four corners: small slopes, small in the middle -/
theorem affine_small {q : Q8} {Q : Quad} {a1 a3 : Rat} (h : QZ q Q a1 a3) {a b f t : Rat}
    (h0 : a * Q.cen.x0 + b * Q.cen.y0 + f ≤ t ∧ -t ≤ a * Q.cen.x0 + b * Q.cen.y0 + f) (h1 : a * Q.cen.x1 + b * Q.cen.y1 + f ≤ t ∧ -t ≤ a * Q.cen.x1 + b * Q.cen.y1 + f)
    (h2 : a * Q.cen.x2 + b * Q.cen.y2 + f ≤ t ∧ -t ≤ a * Q.cen.x2 + b * Q.cen.y2 + f) (h3 : a * Q.cen.x3 + b * Q.cen.y3 + f ≤ t ∧ -t ≤ a * Q.cen.x3 + b * Q.cen.y3 + f) :
    (16 * a ≤ t ∧ -t ≤ 16 * a) ∧ (16 * b ≤ t ∧ -t ≤ 16 * b) ∧ f ≤ t ∧ -t ≤ f := by
  have i0 := h.ix0
  have i1 := h.ix1
  have i2 := h.ix2
  have i3 := h.ix3
  have j0 := h.iy0
  have j1 := h.iy1
  have j2 := h.iy2
  have j3 := h.iy3
  have hc := cen_of h
  have sx := hc.sx
  have sy := hc.sy
  unfold In at *
  have d1 : Q.cen.x1 + Q.cen.x2 - Q.cen.x0 - Q.cen.x3 = Q.x1 + Q.x2 - Q.x0 - Q.x3 := by unfold Quad.cen; grind
  have d2 : Q.cen.y1 + Q.cen.y2 - Q.cen.y0 - Q.cen.y3 = Q.y1 + Q.y2 - Q.y0 - Q.y3 := by unfold Quad.cen; grind
  have d3 : Q.cen.x2 + Q.cen.x3 - Q.cen.x0 - Q.cen.x1 = Q.x2 + Q.x3 - Q.x0 - Q.x1 := by unfold Quad.cen; grind
  have d4 : Q.cen.y2 + Q.cen.y3 - Q.cen.y0 - Q.cen.y1 = Q.y2 + Q.y3 - Q.y0 - Q.y1 := by unfold Quad.cen; grind
  have e1 : a * (Q.cen.x1 + Q.cen.x2 - Q.cen.x0 - Q.cen.x3) + b * (Q.cen.y1 + Q.cen.y2 - Q.cen.y0 - Q.cen.y3) = (a * Q.cen.x1 + b * Q.cen.y1 + f) + (a * Q.cen.x2 + b * Q.cen.y2 + f) - (a * Q.cen.x0 + b * Q.cen.y0 + f) - (a * Q.cen.x3 + b * Q.cen.y3 + f) := by grind
  have e2 : a * (Q.cen.x2 + Q.cen.x3 - Q.cen.x0 - Q.cen.x1) + b * (Q.cen.y2 + Q.cen.y3 - Q.cen.y0 - Q.cen.y1) = (a * Q.cen.x2 + b * Q.cen.y2 + f) + (a * Q.cen.x3 + b * Q.cen.y3 + f) - (a * Q.cen.x0 + b * Q.cen.y0 + f) - (a * Q.cen.x1 + b * Q.cen.y1 + f) := by grind
  have e3 : 4 * f = (a * Q.cen.x0 + b * Q.cen.y0 + f) + (a * Q.cen.x1 + b * Q.cen.y1 + f) + (a * Q.cen.x2 + b * Q.cen.y2 + f) + (a * Q.cen.x3 + b * Q.cen.y3 + f) := by
    have g1 : a * Q.cen.x0 + a * Q.cen.x1 + a * Q.cen.x2 + a * Q.cen.x3 = 0 := by grind
    have g2 : b * Q.cen.y0 + b * Q.cen.y1 + b * Q.cen.y2 + b * Q.cen.y3 = 0 := by grind
    grind
  generalize a * Q.cen.x0 + b * Q.cen.y0 + f = r0 at *
  generalize a * Q.cen.x1 + b * Q.cen.y1 + f = r1 at *
  generalize a * Q.cen.x2 + b * Q.cen.y2 + f = r2 at *
  generalize a * Q.cen.x3 + b * Q.cen.y3 + f = r3 at *
  have s := slope_small (a := a) (b := b) (X := Q.cen.x1 + Q.cen.x2 - Q.cen.x0 - Q.cen.x3) (Y := Q.cen.y1 + Q.cen.y2 - Q.cen.y0 - Q.cen.y3) (X' := Q.cen.x2 + Q.cen.x3 - Q.cen.x0 - Q.cen.x1) (Y' := Q.cen.y2 + Q.cen.y3 - Q.cen.y0 - Q.cen.y1) (t := t)
    (by rw [d1]; grind) (by rw [d2]; constructor <;> grind) (by rw [d4]; grind) (by rw [d3]; constructor <;> grind) (by rw [e1]; constructor <;> grind) (by rw [e2]; constructor <;> grind)
  exact ⟨s.1, s.2, by grind, by grind⟩

end Go.Proofs.Ytaadklfendegfaa
