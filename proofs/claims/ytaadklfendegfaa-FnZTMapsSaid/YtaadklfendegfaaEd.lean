/- How great the last two pivots are at least: plain rational numbers. -/
import Derived.Test.YtaadklfendegfaaEc
namespace Geo


variable {c : Quad} {k0 k1 k2 k3 : Rat}

/-- the weighted coordinates: all positive, two and two make the same -/
theorem masses (h : Cen c) (k : Ks c k0 k1 k2 k3) : ∃ p0 p1 p2 p3 : Rat, k0 * c.x0 = -p0 ∧ k1 * c.x1 = p1 ∧ k2 * c.x2 = p2 ∧ k3 * c.x3 = -p3 ∧ (24 * k0 ≤ p0 ∧ p0 ≤ 76 * k0) ∧ (24 * k1 ≤ p1 ∧ p1 ≤ 76 * k1) ∧ (24 * k2 ≤ p2 ∧ p2 ≤ 76 * k2) ∧ (24 * k3 ≤ p3 ∧ p3 ≤ 76 * k3) ∧ p0 + p1 = p2 + p3 := by
  have q0 : 0 ≤ k0 := by have := k.p0; grind
  have q1 : 0 ≤ k1 := by have := k.p1; grind
  have q2 : 0 ≤ k2 := by have := k.p2; grind
  have q3 : 0 ≤ k3 := by have := k.p3; grind
  have a0 := Rat.mul_le_mul_of_nonneg_left h.x0.1 q0
  have b0 := Rat.mul_le_mul_of_nonneg_left h.x0.2 q0
  have a1 := Rat.mul_le_mul_of_nonneg_left h.x1.1 q1
  have b1 := Rat.mul_le_mul_of_nonneg_left h.x1.2 q1
  have a2 := Rat.mul_le_mul_of_nonneg_left h.x2.1 q2
  have b2 := Rat.mul_le_mul_of_nonneg_left h.x2.2 q2
  have a3 := Rat.mul_le_mul_of_nonneg_left h.x3.1 q3
  have b3 := Rat.mul_le_mul_of_nonneg_left h.x3.2 q3
  have e := k.mx
  exact ⟨-(k0 * c.x0), k1 * c.x1, k2 * c.x2, -(k3 * c.x3), by grind, rfl, rfl, by grind, by constructor <;> grind, by constructor <;> grind, by constructor <;> grind, by constructor <;> grind, by grind⟩

theorem mul_bd {v lo hi p : Rat} (h1 : lo ≤ v) (h2 : v ≤ hi) (hp : 0 ≤ p) : lo * p ≤ v * p ∧ v * p ≤ hi * p :=
  ⟨Rat.mul_le_mul_of_nonneg_right h1 hp, Rat.mul_le_mul_of_nonneg_right h2 hp⟩

/-- the second coordinate's numbers: the sixth pivot -/
theorem far6 (h : Cen c) (k : Ks c k0 k1 k2 k3) {v0 v1 v2 v3 : Rat} (w0 : 33 ≤ v0 ∧ v0 ≤ 67) (w1 : 33 ≤ v1 ∧ v1 ≤ 67) (w2 : 133 ≤ v2 ∧ v2 ≤ 167) (w3 : 133 ≤ v3 ∧ v3 ≤ 167) (a b f : Rat) :
    One4 792 (a * c.x0 + b * c.y0 + f - v0 * c.x0) (a * c.x1 + b * c.y1 + f - v1 * c.x1) (a * c.x2 + b * c.y2 + f - v2 * c.x2) (a * c.x3 + b * c.y3 + f - v3 * c.x3) := by
  apply Classical.byContradiction
  intro hn
  have hs := small_sum (k0 := k0) (k1 := k1) (k2 := k2) (k3 := k3) ⟨by have := k.p0; grind, by have := k.p1; grind, by have := k.p2; grind, by have := k.p3; grind⟩ hn
  rw [k.left] at hs
  obtain ⟨p0, p1, p2, p3, e0, e1, e2, e3, b0, b1, b2, b3, em⟩ := masses h k
  have q0 := k.p0
  have q1 := k.p1
  have q2 := k.p2
  have q3 := k.p3
  have m0 := mul_bd w0.1 w0.2 (show 0 ≤ p0 by grind)
  have m1 := mul_bd w1.1 w1.2 (show 0 ≤ p1 by grind)
  have m2 := mul_bd w2.1 w2.2 (show 0 ≤ p2 by grind)
  have m3 := mul_bd w3.1 w3.2 (show 0 ≤ p3 by grind)
  have t : k0 * (v0 * c.x0) - k1 * (v1 * c.x1) + k2 * (v2 * c.x2) - k3 * (v3 * c.x3) = -(v0 * p0) - v1 * p1 + v2 * p2 + v3 * p3 := by
    have t0 : k0 * (v0 * c.x0) = v0 * (k0 * c.x0) := by grind
    have t1 : k1 * (v1 * c.x1) = v1 * (k1 * c.x1) := by grind
    have t2 : k2 * (v2 * c.x2) = v2 * (k2 * c.x2) := by grind
    have t3 : k3 * (v3 * c.x3) = v3 * (k3 * c.x3) := by grind
    rw [t0, t1, t2, t3, e0, e1, e2, e3]; grind
  rw [t] at hs
  generalize v0 * p0 = r0 at *
  generalize v1 * p1 = r1 at *
  generalize v2 * p2 = r2 at *
  generalize v3 * p3 = r3 at *
  grind

/-- the crosses of the points, by the triangles -/
theorem crosses (h : Cen c) (k : Ks c k0 k1 k2 k3) : 4 * (c.x0 * c.y1 - c.x1 * c.y0) = k2 + k3 ∧ 4 * (c.x1 * c.y2 - c.x2 * c.y1) = k3 + k0 ∧ 4 * (c.x2 * c.y3 - c.x3 * c.y2) = k0 + k1 ∧ 4 * (c.x3 * c.y0 - c.x0 * c.y3) = k1 + k2 ∧
    4 * (c.x0 * c.y2 - c.x2 * c.y0) = k1 - k3 ∧ 4 * (c.x1 * c.y3 - c.x3 * c.y1) = k2 - k0 := by
  have sx := h.sx
  have sy := h.sy
  have ex : c.x3 = -c.x0 - c.x1 - c.x2 := by grind
  have ey : c.y3 = -c.y0 - c.y1 - c.y2 := by grind
  rw [k.e0, k.e1, k.e2, k.e3]
  unfold Quad.d123 Quad.d023 Quad.d013 Quad.d012 tri
  rw [ex, ey]
  refine ⟨?_, ?_, ?_, ?_, ?_, ?_⟩ <;> grind

/-- the determinant of the last two columns -/
theorem det_eq (h : Cen c) (k : Ks c k0 k1 k2 k3) (u0 u1 u2 u3 v0 v1 v2 v3 : Rat) :
    4 * ((k0 * (u0 * c.x0) - k1 * (u1 * c.x1) + k2 * (u2 * c.x2) - k3 * (u3 * c.x3)) * (k0 * (v0 * c.y0) - k1 * (v1 * c.y1) + k2 * (v2 * c.y2) - k3 * (v3 * c.y3)) -
      (k0 * (u0 * c.y0) - k1 * (u1 * c.y1) + k2 * (u2 * c.y2) - k3 * (u3 * c.y3)) * (k0 * (v0 * c.x0) - k1 * (v1 * c.x1) + k2 * (v2 * c.x2) - k3 * (v3 * c.x3))) =
    -(k1 * k2 * k3 * tri u1 v1 u2 v2 u3 v3 + k0 * k2 * k3 * tri u0 v0 u2 v2 u3 v3 + k0 * k1 * k3 * tri u0 v0 u1 v1 u3 v3 + k0 * k1 * k2 * tri u0 v0 u1 v1 u2 v2) := by
  obtain ⟨c01, c12, c23, c30, c02, c13⟩ := crosses h k
  have e := k.sum
  have h1 : 4 * ((k0 * (u0 * c.x0) - k1 * (u1 * c.x1) + k2 * (u2 * c.x2) - k3 * (u3 * c.x3)) * (k0 * (v0 * c.y0) - k1 * (v1 * c.y1) + k2 * (v2 * c.y2) - k3 * (v3 * c.y3)) -
      (k0 * (u0 * c.y0) - k1 * (u1 * c.y1) + k2 * (u2 * c.y2) - k3 * (u3 * c.y3)) * (k0 * (v0 * c.x0) - k1 * (v1 * c.x1) + k2 * (v2 * c.x2) - k3 * (v3 * c.x3))) =
      -(k0 * k1 * (u0 * v1 - u1 * v0) * (4 * (c.x0 * c.y1 - c.x1 * c.y0))) - k1 * k2 * (u1 * v2 - u2 * v1) * (4 * (c.x1 * c.y2 - c.x2 * c.y1)) - k2 * k3 * (u2 * v3 - u3 * v2) * (4 * (c.x2 * c.y3 - c.x3 * c.y2)) - k3 * k0 * (u3 * v0 - u0 * v3) * (4 * (c.x3 * c.y0 - c.x0 * c.y3)) +
        k0 * k2 * (u0 * v2 - u2 * v0) * (4 * (c.x0 * c.y2 - c.x2 * c.y0)) + k1 * k3 * (u1 * v3 - u3 * v1) * (4 * (c.x1 * c.y3 - c.x3 * c.y1)) := by grind
  rw [h1, c01, c12, c23, c30, c02, c13]
  have e3 : k3 = k0 - k1 + k2 := by grind
  rw [e3]
  unfold tri
  grind

theorem opp_prod {a b T : Rat} (ha : 0 ≤ a) (hb : 0 ≤ b) (h1 : 21/100 * a ≤ b) (h2 : 21/100 * b ≤ a) (hT : a + b = T) : 143/1000 * (T * T) ≤ a * b := by
  have h := Rat.mul_nonneg (show 0 ≤ b - 21/100 * a by grind) (show 0 ≤ a - 21/100 * b by grind)
  subst hT
  have hp := Rat.mul_nonneg ha hb
  have hs := Rat.mul_nonneg (show 0 ≤ a + b by grind) (show 0 ≤ a + b by grind)
  grind

/-- the last pivot -/
theorem far7 (h : Cen c) (k : Ks c k0 k1 k2 k3) (r02 : 21/100 * k0 ≤ k2) (r20 : 21/100 * k2 ≤ k0) (r13 : 21/100 * k1 ≤ k3) (r31 : 21/100 * k3 ≤ k1) {u0 u1 u2 u3 v0 v1 v2 v3 : Rat}
    (x0 : 33 ≤ u0 ∧ u0 ≤ 67) (x1 : 133 ≤ u1 ∧ u1 ≤ 167) (x2 : 133 ≤ u2 ∧ u2 ≤ 167) (x3 : 33 ≤ u3 ∧ u3 ≤ 67) (w0 : 33 ≤ v0 ∧ v0 ≤ 67) (w1 : 33 ≤ v1 ∧ v1 ≤ 67) (w2 : 133 ≤ v2 ∧ v2 ≤ 167) (w3 : 133 ≤ v3 ∧ v3 ≤ 167)
    (l0 : 3500 ≤ tri u1 v1 u2 v2 u3 v3) (l1 : 3500 ≤ tri u0 v0 u2 v2 u3 v3) (l2 : 3500 ≤ tri u0 v0 u1 v1 u3 v3) (l3 : 3500 ≤ tri u0 v0 u1 v1 u2 v2) (a b f a' b' f' g : Rat) :
    One4 40 (a * c.x0 + b * c.y0 + f - (g * (u0 * c.x0) + u0 * c.y0)) (a * c.x1 + b * c.y1 + f - (g * (u1 * c.x1) + u1 * c.y1)) (a * c.x2 + b * c.y2 + f - (g * (u2 * c.x2) + u2 * c.y2)) (a * c.x3 + b * c.y3 + f - (g * (u3 * c.x3) + u3 * c.y3)) ∨
    One4 40 (a' * c.x0 + b' * c.y0 + f' - (g * (v0 * c.x0) + v0 * c.y0)) (a' * c.x1 + b' * c.y1 + f' - (g * (v1 * c.x1) + v1 * c.y1)) (a' * c.x2 + b' * c.y2 + f' - (g * (v2 * c.x2) + v2 * c.y2)) (a' * c.x3 + b' * c.y3 + f' - (g * (v3 * c.x3) + v3 * c.y3)) := by
  apply Classical.byContradiction
  intro hn
  have hk : 0 < k0 ∧ 0 < k1 ∧ 0 < k2 ∧ 0 < k3 := ⟨by have := k.p0; grind, by have := k.p1; grind, by have := k.p2; grind, by have := k.p3; grind⟩
  have hs := small_sum (B := 40) hk (fun h' => hn (Or.inl h'))
  have ht := small_sum (B := 40) hk (fun h' => hn (Or.inr h'))
  rw [k.left] at hs ht
  have hd := det_eq h k u0 u1 u2 u3 v0 v1 v2 v3
  obtain ⟨p0, p1, p2, p3, e0, e1, e2, e3, b0, b1, b2, b3, em⟩ := masses h k
  have q0 := k.p0
  have q1 := k.p1
  have q2 := k.p2
  have q3 := k.p3
  have hsum := k.sum
  -- the x-sums
  have tu : k0 * (u0 * c.x0) - k1 * (u1 * c.x1) + k2 * (u2 * c.x2) - k3 * (u3 * c.x3) = -(u0 * p0) - u1 * p1 + u2 * p2 + u3 * p3 := by
    have t0 : k0 * (u0 * c.x0) = u0 * (k0 * c.x0) := by grind
    have t1 : k1 * (u1 * c.x1) = u1 * (k1 * c.x1) := by grind
    have t2 : k2 * (u2 * c.x2) = u2 * (k2 * c.x2) := by grind
    have t3 : k3 * (u3 * c.x3) = u3 * (k3 * c.x3) := by grind
    rw [t0, t1, t2, t3, e0, e1, e2, e3]; grind
  have tv : k0 * (v0 * c.x0) - k1 * (v1 * c.x1) + k2 * (v2 * c.x2) - k3 * (v3 * c.x3) = -(v0 * p0) - v1 * p1 + v2 * p2 + v3 * p3 := by
    have t0 : k0 * (v0 * c.x0) = v0 * (k0 * c.x0) := by grind
    have t1 : k1 * (v1 * c.x1) = v1 * (k1 * c.x1) := by grind
    have t2 : k2 * (v2 * c.x2) = v2 * (k2 * c.x2) := by grind
    have t3 : k3 * (v3 * c.x3) = v3 * (k3 * c.x3) := by grind
    rw [t0, t1, t2, t3, e0, e1, e2, e3]; grind
  have m0 := mul_bd x0.1 x0.2 (show 0 ≤ p0 by grind)
  have m1 := mul_bd x1.1 x1.2 (show 0 ≤ p1 by grind)
  have m2 := mul_bd x2.1 x2.2 (show 0 ≤ p2 by grind)
  have m3 := mul_bd x3.1 x3.2 (show 0 ≤ p3 by grind)
  have n0 := mul_bd w0.1 w0.2 (show 0 ≤ p0 by grind)
  have n1 := mul_bd w1.1 w1.2 (show 0 ≤ p1 by grind)
  have n2 := mul_bd w2.1 w2.2 (show 0 ≤ p2 by grind)
  have n3 := mul_bd w3.1 w3.2 (show 0 ≤ p3 by grind)
  -- the sums by their names
  have gs : k0 * (g * (u0 * c.x0) + u0 * c.y0) - k1 * (g * (u1 * c.x1) + u1 * c.y1) + k2 * (g * (u2 * c.x2) + u2 * c.y2) - k3 * (g * (u3 * c.x3) + u3 * c.y3) =
      g * (k0 * (u0 * c.x0) - k1 * (u1 * c.x1) + k2 * (u2 * c.x2) - k3 * (u3 * c.x3)) + (k0 * (u0 * c.y0) - k1 * (u1 * c.y1) + k2 * (u2 * c.y2) - k3 * (u3 * c.y3)) := by grind
  have gt : k0 * (g * (v0 * c.x0) + v0 * c.y0) - k1 * (g * (v1 * c.x1) + v1 * c.y1) + k2 * (g * (v2 * c.x2) + v2 * c.y2) - k3 * (g * (v3 * c.x3) + v3 * c.y3) =
      g * (k0 * (v0 * c.x0) - k1 * (v1 * c.x1) + k2 * (v2 * c.x2) - k3 * (v3 * c.x3)) + (k0 * (v0 * c.y0) - k1 * (v1 * c.y1) + k2 * (v2 * c.y2) - k3 * (v3 * c.y3)) := by grind
  rw [gs] at hs
  rw [gt] at ht
  generalize k0 * (u0 * c.y0) - k1 * (u1 * c.y1) + k2 * (u2 * c.y2) - k3 * (u3 * c.y3) = Uy at *
  generalize k0 * (v0 * c.y0) - k1 * (v1 * c.y1) + k2 * (v2 * c.y2) - k3 * (v3 * c.y3) = Vy at *
  rw [tu] at hs hd
  rw [tv] at ht hd
  clear tu tv gs gt e0 e1 e2 e3 hn
  obtain ⟨T, hT⟩ : ∃ T, T = k0 + k2 := ⟨_, rfl⟩
  have hT2 : T = k1 + k3 := by grind
  have hU : -(134 * (76 * T)) ≤ -(u0 * p0) - u1 * p1 + u2 * p2 + u3 * p3 ∧ -(u0 * p0) - u1 * p1 + u2 * p2 + u3 * p3 ≤ 134 * (76 * T) := by constructor <;> grind
  have hV : -(134 * (76 * T)) ≤ -(v0 * p0) - v1 * p1 + v2 * p2 + v3 * p3 ∧ -(v0 * p0) - v1 * p1 + v2 * p2 + v3 * p3 ≤ 134 * (76 * T) := by constructor <;> grind
  generalize -(u0 * p0) - u1 * p1 + u2 * p2 + u3 * p3 = Ux at *
  generalize -(v0 * p0) - v1 * p1 + v2 * p2 + v3 * p3 = Vx at *
  have hS : k0 + k1 + k2 + k3 = 2 * T := by grind
  rw [hS] at hs ht
  clear m0 m1 m2 m3 n0 n1 n2 n3 b0 b1 b2 b3 em
  -- the determinant from above
  have hT0 : 7000 ≤ T := by grind
  have o1 := opp_prod (by grind) (by grind) r02 r20 hT.symm
  have o2 := opp_prod (by grind) (by grind) r13 r31 hT2.symm
  have hEO : 4 * (Ux * Vy - Uy * Vx) = 4 * (Ux * (g * Vx + Vy) - (g * Ux + Uy) * Vx) := by grind
  rw [hEO] at hd
  generalize g * Ux + Uy = E at *
  generalize g * Vx + Vy = O at *
  have hE : -(80 * T) ≤ E ∧ E ≤ 80 * T := by constructor <;> grind
  have hO : -(80 * T) ≤ O ∧ O ≤ 80 * T := by constructor <;> grind
  have B1 : -(134 * (76 * T) * (80 * T)) ≤ Ux * O := by
    have g1 := Rat.mul_nonneg (show 0 ≤ 134 * (76 * T) - Ux by grind) (show 0 ≤ 80 * T + O by grind)
    have g2 := Rat.mul_nonneg (show 0 ≤ 134 * (76 * T) + Ux by grind) (show 0 ≤ 80 * T - O by grind)
    have g3 := Rat.mul_nonneg (show 0 ≤ 134 * (76 * T) + Ux by grind) (show 0 ≤ 80 * T + O by grind)
    have g4 := Rat.mul_nonneg (show 0 ≤ 134 * (76 * T) - Ux by grind) (show 0 ≤ 80 * T - O by grind)
    grind
  have B2 : E * Vx ≤ 134 * (76 * T) * (80 * T) := by
    have g1 := Rat.mul_nonneg (show 0 ≤ 134 * (76 * T) - Vx by grind) (show 0 ≤ 80 * T + E by grind)
    have g2 := Rat.mul_nonneg (show 0 ≤ 134 * (76 * T) + Vx by grind) (show 0 ≤ 80 * T - E by grind)
    have g3 := Rat.mul_nonneg (show 0 ≤ 134 * (76 * T) + Vx by grind) (show 0 ≤ 80 * T + E by grind)
    have g4 := Rat.mul_nonneg (show 0 ≤ 134 * (76 * T) - Vx by grind) (show 0 ≤ 80 * T - E by grind)
    grind
  -- and from below
  have d0 := Rat.mul_le_mul_of_nonneg_left l0 (Rat.mul_nonneg (Rat.mul_nonneg (show 0 ≤ k1 by grind) (show 0 ≤ k2 by grind)) (show 0 ≤ k3 by grind))
  have d1 := Rat.mul_le_mul_of_nonneg_left l1 (Rat.mul_nonneg (Rat.mul_nonneg (show 0 ≤ k0 by grind) (show 0 ≤ k2 by grind)) (show 0 ≤ k3 by grind))
  have d2 := Rat.mul_le_mul_of_nonneg_left l2 (Rat.mul_nonneg (Rat.mul_nonneg (show 0 ≤ k0 by grind) (show 0 ≤ k1 by grind)) (show 0 ≤ k3 by grind))
  have d3 := Rat.mul_le_mul_of_nonneg_left l3 (Rat.mul_nonneg (Rat.mul_nonneg (show 0 ≤ k0 by grind) (show 0 ≤ k1 by grind)) (show 0 ≤ k2 by grind))
  generalize tri u1 v1 u2 v2 u3 v3 = L0 at *
  generalize tri u0 v0 u2 v2 u3 v3 = L1 at *
  generalize tri u0 v0 u1 v1 u3 v3 = L2 at *
  generalize tri u0 v0 u1 v1 u2 v2 = L3 at *
  have hsum3 : k1 * k2 * k3 + k0 * k2 * k3 + k0 * k1 * k3 + k0 * k1 * k2 = T * (k0 * k2) + T * (k1 * k3) := by
    have f1 : T * (k1 * k3) = (k0 + k2) * (k1 * k3) := by rw [hT]
    have f2 : T * (k0 * k2) = (k1 + k3) * (k0 * k2) := by rw [hT2]
    rw [f1, f2]; grind
  have c1 := Rat.mul_le_mul_of_nonneg_left o1 (show 0 ≤ T by grind)
  have c2 := Rat.mul_le_mul_of_nonneg_left o2 (show 0 ≤ T by grind)
  have hTT := Rat.mul_nonneg (show 0 ≤ T by grind) (show 0 ≤ T by grind)
  have hT3 := Rat.mul_le_mul_of_nonneg_right hT0 hTT
  generalize k1 * k2 * k3 * L0 = D0 at *
  generalize k0 * k2 * k3 * L1 = D1 at *
  generalize k0 * k1 * k3 * L2 = D2 at *
  generalize k0 * k1 * k2 * L3 = D3 at *
  generalize k1 * k2 * k3 = z0 at *
  generalize k0 * k2 * k3 = z1 at *
  generalize k0 * k1 * k3 = z2 at *
  generalize k0 * k1 * k2 = z3 at *
  generalize Ux * O = z4 at *
  generalize E * Vx = z5 at *
  generalize T * (k0 * k2) = z6 at *
  generalize T * (k1 * k3) = z7 at *
  have c1' : T * (143/1000 * (T * T)) = 143/1000 * (T * (T * T)) := by grind
  have c2' : 134 * (76 * T) * (80 * T) = 814720 * (T * T) := by grind
  rw [c1'] at c1 c2
  rw [c2'] at B1 B2
  have hpos : 0 < T * T := Rat.mul_pos (by grind) (by grind)
  generalize T * (T * T) = t3 at *
  generalize T * T = t2 at *
  clear hE hO hU hV hs ht o1 o2 r02 r20 r13 r31 hsum hS hEO
  grind

end Geo
