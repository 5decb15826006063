/- Where all rows are small, the last two numbers are: the inverse's bound. Plain rational numbers. -/
import Derived.Test.YtaadklfendegfaaEf
namespace Geo

variable {c : Quad} {k0 k1 k2 k3 : Rat}

theorem masses_y (h : Cen c) (k : Ks c k0 k1 k2 k3) : ∃ q0 q1 q2 q3 : Rat, k0 * c.y0 = -q0 ∧ k1 * c.y1 = -q1 ∧ k2 * c.y2 = q2 ∧ k3 * c.y3 = q3 ∧ (24 * k0 ≤ q0 ∧ q0 ≤ 76 * k0) ∧ (24 * k1 ≤ q1 ∧ q1 ≤ 76 * k1) ∧ (24 * k2 ≤ q2 ∧ q2 ≤ 76 * k2) ∧ (24 * k3 ≤ q3 ∧ q3 ≤ 76 * k3) ∧ q0 + q3 = q1 + q2 := by
  have p0 : 0 ≤ k0 := by have := k.p0; grind
  have p1 : 0 ≤ k1 := by have := k.p1; grind
  have p2 : 0 ≤ k2 := by have := k.p2; grind
  have p3 : 0 ≤ k3 := by have := k.p3; grind
  have a0 := Rat.mul_le_mul_of_nonneg_left h.y0.1 p0
  have b0 := Rat.mul_le_mul_of_nonneg_left h.y0.2 p0
  have a1 := Rat.mul_le_mul_of_nonneg_left h.y1.1 p1
  have b1 := Rat.mul_le_mul_of_nonneg_left h.y1.2 p1
  have a2 := Rat.mul_le_mul_of_nonneg_left h.y2.1 p2
  have b2 := Rat.mul_le_mul_of_nonneg_left h.y2.2 p2
  have a3 := Rat.mul_le_mul_of_nonneg_left h.y3.1 p3
  have b3 := Rat.mul_le_mul_of_nonneg_left h.y3.2 p3
  have e := k.my
  exact ⟨-(k0 * c.y0), -(k1 * c.y1), k2 * c.y2, k3 * c.y3, by grind, by grind, rfl, rfl, by constructor <;> grind, by constructor <;> grind, by constructor <;> grind, by constructor <;> grind, by grind⟩

theorem gh_small (h : Cen c) (k : Ks c k0 k1 k2 k3) (hp : Pairs k0 k1 k2 k3) {u0 u1 u2 u3 v0 v1 v2 v3 : Rat}
    (x0 : 33 ≤ u0 ∧ u0 ≤ 67) (x1 : 133 ≤ u1 ∧ u1 ≤ 167) (x2 : 133 ≤ u2 ∧ u2 ≤ 167) (x3 : 33 ≤ u3 ∧ u3 ≤ 67) (w0 : 33 ≤ v0 ∧ v0 ≤ 67) (w1 : 33 ≤ v1 ∧ v1 ≤ 67) (w2 : 133 ≤ v2 ∧ v2 ≤ 167) (w3 : 133 ≤ v3 ∧ v3 ≤ 167)
    (l0 : 3500 ≤ tri u1 v1 u2 v2 u3 v3) (l1 : 3500 ≤ tri u0 v0 u2 v2 u3 v3) (l2 : 3500 ≤ tri u0 v0 u1 v1 u3 v3) (l3 : 3500 ≤ tri u0 v0 u1 v1 u2 v2) (a b f a' b' f' g z m : Rat) (hm : 0 ≤ m)
    (hn : ¬ One4 m (a * c.x0 + b * c.y0 + f - (g * (u0 * c.x0) + z * (u0 * c.y0))) (a * c.x1 + b * c.y1 + f - (g * (u1 * c.x1) + z * (u1 * c.y1))) (a * c.x2 + b * c.y2 + f - (g * (u2 * c.x2) + z * (u2 * c.y2))) (a * c.x3 + b * c.y3 + f - (g * (u3 * c.x3) + z * (u3 * c.y3))))
    (hn' : ¬ One4 m (a' * c.x0 + b' * c.y0 + f' - (g * (v0 * c.x0) + z * (v0 * c.y0))) (a' * c.x1 + b' * c.y1 + f' - (g * (v1 * c.x1) + z * (v1 * c.y1))) (a' * c.x2 + b' * c.y2 + f' - (g * (v2 * c.x2) + z * (v2 * c.y2))) (a' * c.x3 + b' * c.y3 + f' - (g * (v3 * c.x3) + z * (v3 * c.y3)))) :
    (131 * z ≤ m ∧ -m ≤ 131 * z) ∧ (131 * g ≤ m ∧ -m ≤ 131 * g) := by
  have hk : 0 < k0 ∧ 0 < k1 ∧ 0 < k2 ∧ 0 < k3 := ⟨by have := k.p0; grind, by have := k.p1; grind, by have := k.p2; grind, by have := k.p3; grind⟩
  have hs := small_sum (B := m) hk hn
  have ht := small_sum (B := m) hk hn'
  rw [k.left] at hs ht
  have hd := det_eq h k u0 u1 u2 u3 v0 v1 v2 v3
  obtain ⟨p0, p1, p2, p3, e0, e1, e2, e3, b0, b1, b2, b3, em⟩ := masses h k
  obtain ⟨q0, q1, q2, q3, f0, f1, f2, f3, c0, c1, c2, c3, fm⟩ := masses_y h k
  have hsum := k.sum
  obtain ⟨T, hT⟩ : ∃ T, T = k0 + k2 := ⟨_, rfl⟩
  have hT2 : k1 + k3 = T := by grind
  have hlo := det_lo (by grind) (by grind) (by grind) (by grind) hp hT.symm hT2 l0 l1 l2 l3
  have sx := sums_bd (T := T) (k0 := k0) (k1 := k1) (k2 := k2) (k3 := k3) (by grind) (by grind) (by grind) (by grind) ⟨b0, b1, b2, b3⟩ hT.symm hT2 (e0 := -(u0 - 50)) (e1 := -(u1 - 150)) (e2 := u2 - 150) (e3 := u3 - 50) (by constructor <;> grind) (by constructor <;> grind) (by constructor <;> grind) (by constructor <;> grind)
  have sv := sums_bd (T := T) (k0 := k0) (k1 := k1) (k2 := k2) (k3 := k3) (by grind) (by grind) (by grind) (by grind) ⟨b0, b1, b2, b3⟩ hT.symm hT2 (e0 := -(v0 - 50)) (e1 := -(v1 - 50)) (e2 := v2 - 150) (e3 := v3 - 150) (by constructor <;> grind) (by constructor <;> grind) (by constructor <;> grind) (by constructor <;> grind)
  have syu := sums_bd (T := T) (k0 := k0) (k1 := k1) (k2 := k2) (k3 := k3) (by grind) (by grind) (by grind) (by grind) ⟨c0, c1, c2, c3⟩ hT.symm hT2 (e0 := -(u0 - 50)) (e1 := u1 - 150) (e2 := u2 - 150) (e3 := -(u3 - 50)) (by constructor <;> grind) (by constructor <;> grind) (by constructor <;> grind) (by constructor <;> grind)
  have syv := sums_bd (T := T) (k0 := k0) (k1 := k1) (k2 := k2) (k3 := k3) (by grind) (by grind) (by grind) (by grind) ⟨c0, c1, c2, c3⟩ hT.symm hT2 (e0 := -(v0 - 50)) (e1 := v1 - 50) (e2 := v2 - 150) (e3 := -(v3 - 150)) (by constructor <;> grind) (by constructor <;> grind) (by constructor <;> grind) (by constructor <;> grind)
  have tu : k0 * (u0 * c.x0) - k1 * (u1 * c.x1) + k2 * (u2 * c.x2) - k3 * (u3 * c.x3) = 50 * (p0 - p1 + p2 - p3) + (-(u0 - 50) * p0 + -(u1 - 150) * p1 + (u2 - 150) * p2 + (u3 - 50) * p3) := by
    have t0 : k0 * (u0 * c.x0) = u0 * (k0 * c.x0) := by grind
    have t1 : k1 * (u1 * c.x1) = u1 * (k1 * c.x1) := by grind
    have t2 : k2 * (u2 * c.x2) = u2 * (k2 * c.x2) := by grind
    have t3 : k3 * (u3 * c.x3) = u3 * (k3 * c.x3) := by grind
    rw [t0, t1, t2, t3, e0, e1, e2, e3]; grind
  have tv : k0 * (v0 * c.x0) - k1 * (v1 * c.x1) + k2 * (v2 * c.x2) - k3 * (v3 * c.x3) = 50 * (p0 + p1 + p2 + p3) + (-(v0 - 50) * p0 + -(v1 - 50) * p1 + (v2 - 150) * p2 + (v3 - 150) * p3) := by
    have t0 : k0 * (v0 * c.x0) = v0 * (k0 * c.x0) := by grind
    have t1 : k1 * (v1 * c.x1) = v1 * (k1 * c.x1) := by grind
    have t2 : k2 * (v2 * c.x2) = v2 * (k2 * c.x2) := by grind
    have t3 : k3 * (v3 * c.x3) = v3 * (k3 * c.x3) := by grind
    rw [t0, t1, t2, t3, e0, e1, e2, e3]; grind
  have tyu : k0 * (u0 * c.y0) - k1 * (u1 * c.y1) + k2 * (u2 * c.y2) - k3 * (u3 * c.y3) = 50 * (q0 + q1 + q2 + q3) + (-(u0 - 50) * q0 + (u1 - 150) * q1 + (u2 - 150) * q2 + -(u3 - 50) * q3) := by
    have t0 : k0 * (u0 * c.y0) = u0 * (k0 * c.y0) := by grind
    have t1 : k1 * (u1 * c.y1) = u1 * (k1 * c.y1) := by grind
    have t2 : k2 * (u2 * c.y2) = u2 * (k2 * c.y2) := by grind
    have t3 : k3 * (u3 * c.y3) = u3 * (k3 * c.y3) := by grind
    rw [t0, t1, t2, t3, f0, f1, f2, f3]; grind
  have tyv : k0 * (v0 * c.y0) - k1 * (v1 * c.y1) + k2 * (v2 * c.y2) - k3 * (v3 * c.y3) = 50 * (q0 - q1 + q2 - q3) + (-(v0 - 50) * q0 + (v1 - 50) * q1 + (v2 - 150) * q2 + -(v3 - 150) * q3) := by
    have t0 : k0 * (v0 * c.y0) = v0 * (k0 * c.y0) := by grind
    have t1 : k1 * (v1 * c.y1) = v1 * (k1 * c.y1) := by grind
    have t2 : k2 * (v2 * c.y2) = v2 * (k2 * c.y2) := by grind
    have t3 : k3 * (v3 * c.y3) = v3 * (k3 * c.y3) := by grind
    rw [t0, t1, t2, t3, f0, f1, f2, f3]; grind
  have gs : k0 * (g * (u0 * c.x0) + z * (u0 * c.y0)) - k1 * (g * (u1 * c.x1) + z * (u1 * c.y1)) + k2 * (g * (u2 * c.x2) + z * (u2 * c.y2)) - k3 * (g * (u3 * c.x3) + z * (u3 * c.y3)) =
      g * (k0 * (u0 * c.x0) - k1 * (u1 * c.x1) + k2 * (u2 * c.x2) - k3 * (u3 * c.x3)) + z * (k0 * (u0 * c.y0) - k1 * (u1 * c.y1) + k2 * (u2 * c.y2) - k3 * (u3 * c.y3)) := by grind
  have gt : k0 * (g * (v0 * c.x0) + z * (v0 * c.y0)) - k1 * (g * (v1 * c.x1) + z * (v1 * c.y1)) + k2 * (g * (v2 * c.x2) + z * (v2 * c.y2)) - k3 * (g * (v3 * c.x3) + z * (v3 * c.y3)) =
      g * (k0 * (v0 * c.x0) - k1 * (v1 * c.x1) + k2 * (v2 * c.x2) - k3 * (v3 * c.x3)) + z * (k0 * (v0 * c.y0) - k1 * (v1 * c.y1) + k2 * (v2 * c.y2) - k3 * (v3 * c.y3)) := by grind
  rw [gs] at hs
  rw [gt] at ht
  rw [← tu] at sx
  rw [← tv] at sv
  rw [← tyu] at syu
  rw [← tyv] at syv
  generalize k0 * (u0 * c.y0) - k1 * (u1 * c.y1) + k2 * (u2 * c.y2) - k3 * (u3 * c.y3) = Uy at *
  generalize k0 * (v0 * c.y0) - k1 * (v1 * c.y1) + k2 * (v2 * c.y2) - k3 * (v3 * c.y3) = Vy at *
  generalize k0 * (u0 * c.x0) - k1 * (u1 * c.x1) + k2 * (u2 * c.x2) - k3 * (u3 * c.x3) = Ux at *
  generalize k0 * (v0 * c.x0) - k1 * (v1 * c.x1) + k2 * (v2 * c.x2) - k3 * (v3 * c.x3) = Vx at *
  have hS : m * (k0 + k1 + k2 + k3) = 2 * T * m := by
    have e : k0 + k1 + k2 + k3 = 2 * T := by grind
    rw [e]; grind
  rw [hS] at hs ht
  have hT0 : 0 < T := by grind
  have bE : -(2 * T * m) ≤ -(g * Ux + z * Uy) ∧ -(g * Ux + z * Uy) ≤ 2 * T * m := ⟨Rat.le_of_lt hs.2, Rat.le_of_lt hs.1⟩
  have bO : -(2 * T * m) ≤ -(g * Vx + z * Vy) ∧ -(g * Vx + z * Vy) ≤ 2 * T * m := ⟨Rat.le_of_lt ht.2, Rat.le_of_lt ht.1⟩
  clear hs ht gs gt tu tv tyu tyv b0 b1 b2 b3 c0 c1 c2 c3 e0 e1 e2 e3 f0 f1 f2 f3 em fm
  refine ⟨solve2 rfl rfl hd hlo hT0 hm bE bO sx.1 sv.2, ?_⟩
  have hd' : 4 * (Vy * Ux - Vx * Uy) = -(k1 * k2 * k3 * tri u1 v1 u2 v2 u3 v3 + k0 * k2 * k3 * tri u0 v0 u2 v2 u3 v3 + k0 * k1 * k3 * tri u0 v0 u1 v1 u3 v3 + k0 * k1 * k2 * tri u0 v0 u1 v1 u2 v2) := by
    rw [← hd]; grind
  have e1 : -(g * Vx + z * Vy) = -(z * Vy + g * Vx) := by grind
  have e2 : -(g * Ux + z * Uy) = -(z * Uy + g * Ux) := by grind
  exact solve2 e1 e2 hd' hlo hT0 hm bO bE syv.1 syu.2

end Geo
