/- The numbers of the last two columns are small where all rows are small: plain rational numbers. -/
import Derived.Test.YtaadklfendegfaaEd
namespace Geo

variable {c : Quad} {k0 k1 k2 k3 : Rat}

/-- weights whose sums by pairs are not small -/
structure Pairs (k0 k1 k2 k3 : Rat) : Prop where
  a01 : 9240 ≤ k0 + k1
  a03 : 9240 ≤ k0 + k3
  a12 : 9240 ≤ k1 + k2
  a23 : 9240 ≤ k2 + k3
  a02 : 9240 ≤ k0 + k2

theorem half_prod {a b T : Rat} (hT : a + b = T) (h : a ≤ b) (ha : 0 ≤ a) : 1/2 * (T * a) ≤ a * b := by
  subst hT
  have := Rat.mul_nonneg ha (show 0 ≤ b - a by grind)
  grind

theorem det_lo {T l0 l1 l2 l3 : Rat} (p0 : 0 ≤ k0) (p1 : 0 ≤ k1) (p2 : 0 ≤ k2) (p3 : 0 ≤ k3) (hp : Pairs k0 k1 k2 k3) (hT : k0 + k2 = T) (hT2 : k1 + k3 = T) (h0 : 3500 ≤ l0) (h1 : 3500 ≤ l1) (h2 : 3500 ≤ l2) (h3 : 3500 ≤ l3) :
    16160000 * (T * T) ≤ k1 * k2 * k3 * l0 + k0 * k2 * k3 * l1 + k0 * k1 * k3 * l2 + k0 * k1 * k2 * l3 := by
  have d0 := Rat.mul_le_mul_of_nonneg_left h0 (Rat.mul_nonneg (Rat.mul_nonneg p1 p2) p3)
  have d1 := Rat.mul_le_mul_of_nonneg_left h1 (Rat.mul_nonneg (Rat.mul_nonneg p0 p2) p3)
  have d2 := Rat.mul_le_mul_of_nonneg_left h2 (Rat.mul_nonneg (Rat.mul_nonneg p0 p1) p3)
  have d3 := Rat.mul_le_mul_of_nonneg_left h3 (Rat.mul_nonneg (Rat.mul_nonneg p0 p1) p2)
  have hsum3 : k1 * k2 * k3 + k0 * k2 * k3 + k0 * k1 * k3 + k0 * k1 * k2 = T * (k0 * k2) + T * (k1 * k3) := by
    have f1 : T * (k1 * k3) = (k0 + k2) * (k1 * k3) := by rw [hT]
    have f2 : T * (k0 * k2) = (k1 + k3) * (k0 * k2) := by rw [hT2]
    rw [f1, f2]; grind
  have hT0 : 0 ≤ T := by grind
  have key : 4620 * T ≤ k0 * k2 + k1 * k3 := by
    have q02 : (∃ a, (a = k0 ∨ a = k2) ∧ 1/2 * (T * a) ≤ k0 * k2) := by
      by_cases h : k0 ≤ k2
      · exact ⟨k0, Or.inl rfl, half_prod hT h p0⟩
      · exact ⟨k2, Or.inr rfl, by have := half_prod (a := k2) (b := k0) (T := T) (by grind) (by grind) p2; grind⟩
    have q13 : (∃ a, (a = k1 ∨ a = k3) ∧ 1/2 * (T * a) ≤ k1 * k3) := by
      by_cases h : k1 ≤ k3
      · exact ⟨k1, Or.inl rfl, half_prod hT2 h p1⟩
      · exact ⟨k3, Or.inr rfl, by have := half_prod (a := k3) (b := k1) (T := T) (by grind) (by grind) p3; grind⟩
    obtain ⟨a, ha, hA⟩ := q02
    obtain ⟨b, hb, hB⟩ := q13
    have hab : 9240 ≤ a + b := by
      have := hp.a01; have := hp.a03; have := hp.a12; have := hp.a23
      rcases ha with rfl | rfl <;> rcases hb with rfl | rfl <;> grind
    have := Rat.mul_le_mul_of_nonneg_left hab hT0
    grind
  have kk := Rat.mul_le_mul_of_nonneg_left key hT0
  have hTT := Rat.mul_nonneg hT0 hT0
  have e1 : T * (4620 * T) = 4620 * (T * T) := by grind
  rw [e1, Rat.mul_add] at kk
  generalize k1 * k2 * k3 * l0 = D0 at *
  generalize k0 * k2 * k3 * l1 = D1 at *
  generalize k0 * k1 * k3 * l2 = D2 at *
  generalize k0 * k1 * k2 * l3 = D3 at *
  generalize k1 * k2 * k3 = z0 at *
  generalize k0 * k2 * k3 = z1 at *
  generalize k0 * k1 * k3 = z2 at *
  generalize k0 * k1 * k2 = z3 at *
  generalize T * (k0 * k2) = z6 at *
  generalize T * (k1 * k3) = z7 at *
  generalize T * T = t2 at *
  clear key e1 hp hT hT2
  grind

/-- a coordinate's weighted masses, two on either side -/
structure Mass (T p0 p1 p2 p3 : Rat) (k0 k1 k2 k3 : Rat) : Prop where
  b0 : 24 * k0 ≤ p0 ∧ p0 ≤ 76 * k0
  b1 : 24 * k1 ≤ p1 ∧ p1 ≤ 76 * k1
  b2 : 24 * k2 ≤ p2 ∧ p2 ≤ 76 * k2
  b3 : 24 * k3 ≤ p3 ∧ p3 ≤ 76 * k3

/-- the two sums of a coordinate: the one that goes with it, the one across -/
theorem sums_bd {T p0 p1 p2 p3 : Rat} (q0 : 0 ≤ k0) (q1 : 0 ≤ k1) (q2 : 0 ≤ k2) (q3 : 0 ≤ k3) (hm : Mass T p0 p1 p2 p3 k0 k1 k2 k3) (hT : k0 + k2 = T) (hT2 : k1 + k3 = T) {e0 e1 e2 e3 : Rat} (z0 : -17 ≤ e0 ∧ e0 ≤ 17) (z1 : -17 ≤ e1 ∧ e1 ≤ 17) (z2 : -17 ≤ e2 ∧ e2 ≤ 17) (z3 : -17 ≤ e3 ∧ e3 ≤ 17) :
    (-(5184 * T) ≤ 50 * (p0 - p1 + p2 - p3) + (e0 * p0 + e1 * p1 + e2 * p2 + e3 * p3) ∧ 50 * (p0 - p1 + p2 - p3) + (e0 * p0 + e1 * p1 + e2 * p2 + e3 * p3) ≤ 5184 * T) ∧
    (-(10184 * T) ≤ 50 * (p0 + p1 + p2 + p3) + (e0 * p0 + e1 * p1 + e2 * p2 + e3 * p3) ∧ 50 * (p0 + p1 + p2 + p3) + (e0 * p0 + e1 * p1 + e2 * p2 + e3 * p3) ≤ 10184 * T) := by
  obtain ⟨b0, b1, b2, b3⟩ := hm
  have m0 := mul_bd z0.1 z0.2 (show 0 ≤ p0 by grind)
  have m1 := mul_bd z1.1 z1.2 (show 0 ≤ p1 by grind)
  have m2 := mul_bd z2.1 z2.2 (show 0 ≤ p2 by grind)
  have m3 := mul_bd z3.1 z3.2 (show 0 ≤ p3 by grind)
  generalize e0 * p0 = r0 at *
  generalize e1 * p1 = r1 at *
  generalize e2 * p2 = r2 at *
  generalize e3 * p3 = r3 at *
  refine ⟨⟨?_, ?_⟩, ?_, ?_⟩ <;> grind

/-- two equations in two unknowns -/
theorem solve2 {g h Ux Uy Vx Vy E O D T m : Rat} (hE : E = -(g * Ux + h * Uy)) (hO : O = -(g * Vx + h * Vy)) (hD : 4 * (Ux * Vy - Uy * Vx) = -D) (hlo : 16160000 * (T * T) ≤ D) (hT : 0 < T) (hm : 0 ≤ m)
    (bE : -(2 * T * m) ≤ E ∧ E ≤ 2 * T * m) (bO : -(2 * T * m) ≤ O ∧ O ≤ 2 * T * m) (bX : -(5184 * T) ≤ Ux ∧ Ux ≤ 5184 * T) (bV : -(10184 * T) ≤ Vx ∧ Vx ≤ 10184 * T) : 131 * h ≤ m ∧ -m ≤ 131 * h := by
  have hid : 4 * (E * Vx - O * Ux) = -(h * D) := by
    have : h * D = -(h * (4 * (Ux * Vy - Uy * Vx))) := by rw [hD]; grind
    rw [this, hE, hO]; grind
  have hTm : 0 ≤ T * m := Rat.mul_nonneg (Rat.le_of_lt hT) hm
  have B1 : -(2 * T * m * (10184 * T)) ≤ E * Vx ∧ E * Vx ≤ 2 * T * m * (10184 * T) := by
    have g1 := Rat.mul_nonneg (show 0 ≤ 2 * T * m - E by grind) (show 0 ≤ 10184 * T + Vx by grind)
    have g2 := Rat.mul_nonneg (show 0 ≤ 2 * T * m + E by grind) (show 0 ≤ 10184 * T - Vx by grind)
    have g3 := Rat.mul_nonneg (show 0 ≤ 2 * T * m + E by grind) (show 0 ≤ 10184 * T + Vx by grind)
    have g4 := Rat.mul_nonneg (show 0 ≤ 2 * T * m - E by grind) (show 0 ≤ 10184 * T - Vx by grind)
    constructor <;> grind
  have B2 : -(2 * T * m * (5184 * T)) ≤ O * Ux ∧ O * Ux ≤ 2 * T * m * (5184 * T) := by
    have g1 := Rat.mul_nonneg (show 0 ≤ 2 * T * m - O by grind) (show 0 ≤ 5184 * T + Ux by grind)
    have g2 := Rat.mul_nonneg (show 0 ≤ 2 * T * m + O by grind) (show 0 ≤ 5184 * T - Ux by grind)
    have g3 := Rat.mul_nonneg (show 0 ≤ 2 * T * m + O by grind) (show 0 ≤ 5184 * T + Ux by grind)
    have g4 := Rat.mul_nonneg (show 0 ≤ 2 * T * m - O by grind) (show 0 ≤ 5184 * T - Ux by grind)
    constructor <;> grind
  have hTT : 0 < T * T := Rat.mul_pos hT hT
  have e1 : 2 * T * m * (10184 * T) = 20368 * (T * T * m) := by grind
  have e2 : 2 * T * m * (5184 * T) = 10368 * (T * T * m) := by grind
  rw [e1] at B1
  rw [e2] at B2
  have up : h * D ≤ 122944 * (T * T * m) ∧ -(122944 * (T * T * m)) ≤ h * D := by constructor <;> grind
  clear hid B1 B2 e1 e2 bE bO bX bV hE hO hD
  constructor
  · apply Classical.byContradiction; intro hh
    have hpos : 0 ≤ h := by grind
    have s1 := Rat.mul_le_mul_of_nonneg_left hlo hpos
    have s2 := Rat.mul_pos hTT (show 0 < 131 * h - m by grind)
    have s3 := Rat.mul_nonneg (Rat.le_of_lt hTT) hpos
    grind
  · apply Classical.byContradiction; intro hh
    have hneg : 0 ≤ -h := by grind
    have s1 := Rat.mul_le_mul_of_nonneg_left hlo hneg
    have s2 := Rat.mul_pos hTT (show 0 < -(131 * h) - m by grind)
    have s3 := Rat.mul_nonneg (Rat.le_of_lt hTT) hneg
    grind

end Geo
