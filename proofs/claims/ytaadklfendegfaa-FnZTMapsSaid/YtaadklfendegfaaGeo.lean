/- Quadrilaterals near a square: how large their triangles are, and how they stand to each other. Plain rational numbers. -/
namespace Geo

/-- how far a corner may lie from its place, at a side of 1 -/
def rr : Rat := 1601/10000
def bx (b : Bool) : Rat := if b then rr else -rr

theorem bx_t : bx true = rr := rfl
theorem bx_f : bx false = -rr := rfl

theorem aff_pos (A B t : Rat) (h1 : 0 ≤ A + B * bx false) (h2 : 0 ≤ A + B * bx true) (hl : -rr ≤ t) (hu : t ≤ rr) : 0 ≤ A + B * t := by
  rw [bx_f] at h1
  rw [bx_t] at h2
  by_cases hB : 0 ≤ B
  · have := Rat.mul_le_mul_of_nonneg_left hl hB
    grind
  · have h3 : 0 ≤ -B := by grind
    have := Rat.mul_le_mul_of_nonneg_left hu h3
    grind

/-- what is affine in each of eight numbers is least at a corner -/
theorem multi8 (F : Rat → Rat → Rat → Rat → Rat → Rat → Rat → Rat → Rat)
    (a1 : ∀ p q r s u v w t, F t p q r s u v w = F 0 p q r s u v w + (F 1 p q r s u v w - F 0 p q r s u v w) * t)
    (a2 : ∀ p q r s u v w t, F p t q r s u v w = F p 0 q r s u v w + (F p 1 q r s u v w - F p 0 q r s u v w) * t)
    (a3 : ∀ p q r s u v w t, F p q t r s u v w = F p q 0 r s u v w + (F p q 1 r s u v w - F p q 0 r s u v w) * t)
    (a4 : ∀ p q r s u v w t, F p q r t s u v w = F p q r 0 s u v w + (F p q r 1 s u v w - F p q r 0 s u v w) * t)
    (a5 : ∀ p q r s u v w t, F p q r s t u v w = F p q r s 0 u v w + (F p q r s 1 u v w - F p q r s 0 u v w) * t)
    (a6 : ∀ p q r s u v w t, F p q r s u t v w = F p q r s u 0 v w + (F p q r s u 1 v w - F p q r s u 0 v w) * t)
    (a7 : ∀ p q r s u v w t, F p q r s u v t w = F p q r s u v 0 w + (F p q r s u v 1 w - F p q r s u v 0 w) * t)
    (a8 : ∀ p q r s u v w t, F p q r s u v w t = F p q r s u v w 0 + (F p q r s u v w 1 - F p q r s u v w 0) * t)
    (hc : ∀ b1 b2 b3 b4 b5 b6 b7 b8 : Bool, 0 ≤ F (bx b1) (bx b2) (bx b3) (bx b4) (bx b5) (bx b6) (bx b7) (bx b8))
    (d1 d2 d3 d4 d5 d6 d7 d8 : Rat) (h1 : -rr ≤ d1 ∧ d1 ≤ rr) (h2 : -rr ≤ d2 ∧ d2 ≤ rr) (h3 : -rr ≤ d3 ∧ d3 ≤ rr) (h4 : -rr ≤ d4 ∧ d4 ≤ rr) (h5 : -rr ≤ d5 ∧ d5 ≤ rr) (h6 : -rr ≤ d6 ∧ d6 ≤ rr) (h7 : -rr ≤ d7 ∧ d7 ≤ rr) (h8 : -rr ≤ d8 ∧ d8 ≤ rr) :
    0 ≤ F d1 d2 d3 d4 d5 d6 d7 d8 := by
  have s1 : ∀ b2 b3 b4 b5 b6 b7 b8 : Bool, 0 ≤ F d1 (bx b2) (bx b3) (bx b4) (bx b5) (bx b6) (bx b7) (bx b8) := by
    intro b2 b3 b4 b5 b6 b7 b8
    rw [a1]; exact aff_pos _ _ _ (by rw [← a1]; exact hc ..) (by rw [← a1]; exact hc ..) h1.1 h1.2
  have s2 : ∀ b3 b4 b5 b6 b7 b8 : Bool, 0 ≤ F d1 d2 (bx b3) (bx b4) (bx b5) (bx b6) (bx b7) (bx b8) := by
    intro b3 b4 b5 b6 b7 b8
    rw [a2]; exact aff_pos _ _ _ (by rw [← a2]; exact s1 ..) (by rw [← a2]; exact s1 ..) h2.1 h2.2
  have s3 : ∀ b4 b5 b6 b7 b8 : Bool, 0 ≤ F d1 d2 d3 (bx b4) (bx b5) (bx b6) (bx b7) (bx b8) := by
    intro b4 b5 b6 b7 b8
    rw [a3]; exact aff_pos _ _ _ (by rw [← a3]; exact s2 ..) (by rw [← a3]; exact s2 ..) h3.1 h3.2
  have s4 : ∀ b5 b6 b7 b8 : Bool, 0 ≤ F d1 d2 d3 d4 (bx b5) (bx b6) (bx b7) (bx b8) := by
    intro b5 b6 b7 b8
    rw [a4]; exact aff_pos _ _ _ (by rw [← a4]; exact s3 ..) (by rw [← a4]; exact s3 ..) h4.1 h4.2
  have s5 : ∀ b6 b7 b8 : Bool, 0 ≤ F d1 d2 d3 d4 d5 (bx b6) (bx b7) (bx b8) := by
    intro b6 b7 b8
    rw [a5]; exact aff_pos _ _ _ (by rw [← a5]; exact s4 ..) (by rw [← a5]; exact s4 ..) h5.1 h5.2
  have s6 : ∀ b7 b8 : Bool, 0 ≤ F d1 d2 d3 d4 d5 d6 (bx b7) (bx b8) := by
    intro b7 b8
    rw [a6]; exact aff_pos _ _ _ (by rw [← a6]; exact s5 ..) (by rw [← a6]; exact s5 ..) h6.1 h6.2
  have s7 : ∀ b8 : Bool, 0 ≤ F d1 d2 d3 d4 d5 d6 d7 (bx b8) := by
    intro b8
    rw [a7]; exact aff_pos _ _ _ (by rw [← a7]; exact s6 ..) (by rw [← a7]; exact s6 ..) h7.1 h7.2
  rw [a8]; exact aff_pos _ _ _ (by rw [← a8]; exact s7 _) (by rw [← a8]; exact s7 _) h8.1 h8.2

/-- twice the area of a triangle, with its sign -/
def tri (x0 y0 x1 y1 x2 y2 : Rat) : Rat := (x1 - x0) * (y2 - y0) - (x2 - x0) * (y1 - y0)

-- the four triangles of the unit square's corners, moved
def t012 (a b c d e f _g _h : Rat) : Rat := tri a b (1 + c) d (1 + e) (1 + f)
def t023 (a b _c _d e f g h : Rat) : Rat := tri a b (1 + e) (1 + f) g (1 + h)
def t013 (a b c d _e _f g h : Rat) : Rat := tri a b (1 + c) d g (1 + h)
def t123 (_a _b c d e f g h : Rat) : Rat := tri (1 + c) d (1 + e) (1 + f) g (1 + h)

/-- eight numbers within the bound -/
def In8 (a b c d e f g h : Rat) : Prop :=
  (-rr ≤ a ∧ a ≤ rr) ∧ (-rr ≤ b ∧ b ≤ rr) ∧ (-rr ≤ c ∧ c ≤ rr) ∧ (-rr ≤ d ∧ d ≤ rr) ∧ (-rr ≤ e ∧ e ≤ rr) ∧ (-rr ≤ f ∧ f ≤ rr) ∧ (-rr ≤ g ∧ g ≤ rr) ∧ (-rr ≤ h ∧ h ≤ rr)

/-- a combination of the triangles and a number -/
def comb (k0 k1 k2 k3 k : Rat) (a b c d e f g h : Rat) : Rat := k0 * t012 a b c d e f g h + k1 * t023 a b c d e f g h + k2 * t013 a b c d e f g h + k3 * t123 a b c d e f g h + k

theorem comb_pos (k0 k1 k2 k3 k : Rat) (hc : ∀ b1 b2 b3 b4 b5 b6 b7 b8 : Bool, 0 ≤ comb k0 k1 k2 k3 k (bx b1) (bx b2) (bx b3) (bx b4) (bx b5) (bx b6) (bx b7) (bx b8)) {a b c d e f g h : Rat} (hi : In8 a b c d e f g h) : 0 ≤ comb k0 k1 k2 k3 k a b c d e f g h := by
  obtain ⟨h1, h2, h3, h4, h5, h6, h7, h8⟩ := hi
  refine multi8 (comb k0 k1 k2 k3 k) ?_ ?_ ?_ ?_ ?_ ?_ ?_ ?_ hc a b c d e f g h h1 h2 h3 h4 h5 h6 h7 h8 <;>
    (intro p q r s u v w t; unfold comb t012 t023 t013 t123 tri; grind)

section
variable {a b c d e f g h : Rat}
theorem lo012 (hi : In8 a b c d e f g h) : 7/20 ≤ t012 a b c d e f g h := by
  have := comb_pos 1 0 0 0 (-7/20) (by decide +kernel) hi
  unfold comb at this; grind
theorem lo023 (hi : In8 a b c d e f g h) : 7/20 ≤ t023 a b c d e f g h := by
  have := comb_pos 0 1 0 0 (-7/20) (by decide +kernel) hi
  unfold comb at this; grind
theorem lo013 (hi : In8 a b c d e f g h) : 7/20 ≤ t013 a b c d e f g h := by
  have := comb_pos 0 0 1 0 (-7/20) (by decide +kernel) hi
  unfold comb at this; grind
theorem lo123 (hi : In8 a b c d e f g h) : 7/20 ≤ t123 a b c d e f g h := by
  have := comb_pos 0 0 0 1 (-7/20) (by decide +kernel) hi
  unfold comb at this; grind
theorem hi012 (hi : In8 a b c d e f g h) : t012 a b c d e f g h ≤ 7/4 := by
  have := comb_pos (-1) (0) (0) (0) (7/4) (by decide +kernel) hi
  unfold comb at this; grind
theorem hi023 (hi : In8 a b c d e f g h) : t023 a b c d e f g h ≤ 7/4 := by
  have := comb_pos (0) (-1) (0) (0) (7/4) (by decide +kernel) hi
  unfold comb at this; grind
theorem hi013 (hi : In8 a b c d e f g h) : t013 a b c d e f g h ≤ 7/4 := by
  have := comb_pos (0) (0) (-1) (0) (7/4) (by decide +kernel) hi
  unfold comb at this; grind
theorem hi123 (hi : In8 a b c d e f g h) : t123 a b c d e f g h ≤ 7/4 := by
  have := comb_pos (0) (0) (0) (-1) (7/4) (by decide +kernel) hi
  unfold comb at this; grind
theorem q012x023 (hi : In8 a b c d e f g h) : 21/100 * t023 a b c d e f g h ≤ t012 a b c d e f g h := by
  have := comb_pos 1 (-(21/100)) 0 0 0 (by decide +kernel) hi
  unfold comb at this; grind
theorem q012x013 (hi : In8 a b c d e f g h) : 7/20 * t013 a b c d e f g h ≤ t012 a b c d e f g h := by
  have := comb_pos 1 0 (-(7/20)) 0 0 (by decide +kernel) hi
  unfold comb at this; grind
theorem q012x123 (hi : In8 a b c d e f g h) : 7/20 * t123 a b c d e f g h ≤ t012 a b c d e f g h := by
  have := comb_pos 1 0 0 (-(7/20)) 0 (by decide +kernel) hi
  unfold comb at this; grind
theorem q023x012 (hi : In8 a b c d e f g h) : 21/100 * t012 a b c d e f g h ≤ t023 a b c d e f g h := by
  have := comb_pos (-(21/100)) 1 0 0 0 (by decide +kernel) hi
  unfold comb at this; grind
theorem q023x013 (hi : In8 a b c d e f g h) : 7/20 * t013 a b c d e f g h ≤ t023 a b c d e f g h := by
  have := comb_pos 0 1 (-(7/20)) 0 0 (by decide +kernel) hi
  unfold comb at this; grind
theorem q023x123 (hi : In8 a b c d e f g h) : 7/20 * t123 a b c d e f g h ≤ t023 a b c d e f g h := by
  have := comb_pos 0 1 0 (-(7/20)) 0 (by decide +kernel) hi
  unfold comb at this; grind
theorem q013x012 (hi : In8 a b c d e f g h) : 7/20 * t012 a b c d e f g h ≤ t013 a b c d e f g h := by
  have := comb_pos (-(7/20)) 0 1 0 0 (by decide +kernel) hi
  unfold comb at this; grind
theorem q013x023 (hi : In8 a b c d e f g h) : 7/20 * t023 a b c d e f g h ≤ t013 a b c d e f g h := by
  have := comb_pos 0 (-(7/20)) 1 0 0 (by decide +kernel) hi
  unfold comb at this; grind
theorem q013x123 (hi : In8 a b c d e f g h) : 21/100 * t123 a b c d e f g h ≤ t013 a b c d e f g h := by
  have := comb_pos 0 0 1 (-(21/100)) 0 (by decide +kernel) hi
  unfold comb at this; grind
theorem q123x012 (hi : In8 a b c d e f g h) : 7/20 * t012 a b c d e f g h ≤ t123 a b c d e f g h := by
  have := comb_pos (-(7/20)) 0 0 1 0 (by decide +kernel) hi
  unfold comb at this; grind
theorem q123x023 (hi : In8 a b c d e f g h) : 7/20 * t023 a b c d e f g h ≤ t123 a b c d e f g h := by
  have := comb_pos 0 (-(7/20)) 0 1 0 (by decide +kernel) hi
  unfold comb at this; grind
theorem q123x013 (hi : In8 a b c d e f g h) : 21/100 * t013 a b c d e f g h ≤ t123 a b c d e f g h := by
  have := comb_pos 0 0 (-(21/100)) 1 0 (by decide +kernel) hi
  unfold comb at this; grind
end

end Geo
