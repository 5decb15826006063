/- The numbers that solve the table: they exist, their bounds, and what they take a point to. -/
import Derived.Test.YtaadklfendegfaaFh
namespace Go.Proofs.Ytaadklfendegfaa
open Go Fl Geo

theorem tau_sum {q p : Q8} {Q P : Quad} {a1 a3 b1 b3 : Rat} (h : QZ q Q a1 a3) (g : QZ p P b1 b3) :
    ∃ m, (tau Q a1 a3 b1 b3).Ge m ∧ (tau Q a1 a3 b1 b3).t0 + (tau Q a1 a3 b1 b3).t1 + (tau Q a1 a3 b1 b3).t2 + (tau Q a1 a3 b1 b3).t3 ≤ 4001/100 * m := by
  have hA1 := h.r1
  have hA3 := h.r3
  have hS := h.r2
  have hB1 := g.r1
  have hB3 := g.r3
  have hT := g.r2
  have hc := h.i123.1
  have f1 := h.F.h1
  have f3 := h.F.h3
  have f2 := h.F.h2
  have i12 := h.i012.1
  have i23 := h.i023.1
  have i13 := h.i013.1
  have u1 := h.u1
  have u1' := h.u1'
  have u3 := h.u3
  have u3' := h.u3'
  have r13 := h.r13
  have r31 := h.r31
  have v1 := g.u1
  have v1' := g.u1'
  have v3 := g.u3
  have v3' := g.u3'
  have s13 := g.r13
  have s31 := g.r31
  have hsum : Q.d012 + Q.d023 = Q.d123 + Q.d013 := by grind
  rw [tau_form h]
  clear h g
  unfold In at *
  generalize Q.d012 = d012 at *
  generalize Q.d023 = d023 at *
  generalize Q.d013 = d013 at *
  generalize Q.d123 = c at *
  generalize a1 + a3 - 1 = s at *
  generalize b1 + b3 - 1 = t at *
  dsimp only
  have low : 428 ≤ a1 * a3 * s * c ∧ 428 ≤ a3 * b1 * s * c ∧ 428 ≤ a1 * a3 * t * c ∧ 428 ≤ a1 * b3 * s * c := by
    refine ⟨?_, ?_, ?_, ?_⟩
    · have k1 := mul4 (a := 7/20) (c := 7/20) hA1.1 hA3.1 (by decide +kernel) (by grind)
      have k2 := mul4 (a := 7/20 * (7/20)) (c := 3500) k1 i13 (by decide +kernel) (by grind)
      rw [← f2] at k2; grind
    · have k1 := mul4 (a := 7/20) (c := 7/20) hA3.1 hB1.1 (by decide +kernel) (by grind)
      have k2 := mul4 (a := 7/20 * (7/20)) (c := 3500) k1 i13 (by decide +kernel) (by grind)
      rw [← f2] at k2; grind
    · have k0 : 3500 * c ≤ a1 * c * (a3 * c) := by
        have hz : 0 ≤ (d023 - 3500) * (d012 - 3500) := Rat.mul_nonneg (by grind) (by grind)
        rw [f1, f3]
        grind
      have k0' : 3500 ≤ a1 * (a3 * c) := by
        apply Classical.byContradiction; intro hn
        have : 0 < (3500 - a1 * (a3 * c)) * c := Rat.mul_pos (by grind) (by grind)
        grind
      have k2 := mul4 (a := 3500) (c := 21/100) k0' hT.1 (by decide +kernel) (by grind)
      grind
    · have k1 := mul4 (a := 7/20) (c := 7/20) hA1.1 hB3.1 (by decide +kernel) (by grind)
      have k2 := mul4 (a := 7/20 * (7/20)) (c := 3500) k1 i13 (by decide +kernel) (by grind)
      rw [← f2] at k2; grind
  have pc : 0 ≤ c := by grind
  have p1 : 0 ≤ a1 := by grind
  have p3 : 0 ≤ a3 := by grind
  have ps : 0 ≤ s := by grind
  have q1 : 0 ≤ b1 := by grind
  have q3 : 0 ≤ b3 := by grind
  have pt : 0 ≤ t := by grind
  have a3sc := Rat.mul_nonneg p3 (Rat.mul_nonneg ps pc)
  have a1sc := Rat.mul_nonneg p1 (Rat.mul_nonneg ps pc)
  have a13c := Rat.mul_nonneg p1 (Rat.mul_nonneg p3 pc)
  have sc := Rat.mul_nonneg ps pc
  have a3c := Rat.mul_nonneg p3 pc
  have a1c := Rat.mul_nonneg p1 pc
  have x10 : a3 * b1 * s * c ≤ 400/49 * (a1 * a3 * s * c) := by
    have := Rat.mul_le_mul_of_nonneg_left (show b1 ≤ 400/49 * a1 by grind) a3sc; grind
  have x01 : a1 * a3 * s * c ≤ 400/49 * (a3 * b1 * s * c) := by
    have := Rat.mul_le_mul_of_nonneg_left (show a1 ≤ 400/49 * b1 by grind) a3sc; grind
  have x30 : a1 * b3 * s * c ≤ 400/49 * (a1 * a3 * s * c) := by
    have := Rat.mul_le_mul_of_nonneg_left (show b3 ≤ 400/49 * a3 by grind) a1sc; grind
  have x03 : a1 * a3 * s * c ≤ 400/49 * (a1 * b3 * s * c) := by
    have := Rat.mul_le_mul_of_nonneg_left (show a3 ≤ 400/49 * b3 by grind) a1sc; grind
  have x31 : a1 * b3 * s * c ≤ 10000/441 * (a3 * b1 * s * c) := by
    have k := mul4 (show a1 ≤ 100/21 * a3 by grind) (show b3 ≤ 100/21 * b1 by grind) p1 (by grind)
    have := Rat.mul_le_mul_of_nonneg_left k sc; grind
  have x13 : a3 * b1 * s * c ≤ 10000/441 * (a1 * b3 * s * c) := by
    have k := mul4 (show a3 ≤ 100/21 * a1 by grind) (show b1 ≤ 100/21 * b3 by grind) p3 (by grind)
    have := Rat.mul_le_mul_of_nonneg_left k sc; grind
  have x02 : a1 * a3 * s * c ≤ 10000/441 * (a1 * a3 * t * c) := by
    have := Rat.mul_le_mul_of_nonneg_left (show s ≤ 10000/441 * t by grind) a13c; grind
  have x20 : a1 * a3 * t * c ≤ 10000/441 * (a1 * a3 * s * c) := by
    have := Rat.mul_le_mul_of_nonneg_left (show t ≤ 10000/441 * s by grind) a13c; grind
  have x21 : a1 * a3 * t * c ≤ 400/49 * (a3 * b1 * s * c) := by
    have k := mul4 (show a1 ≤ 20/7 * s by grind) (show t ≤ 20/7 * b1 by grind) p1 (by grind)
    have := Rat.mul_le_mul_of_nonneg_left k a3c; grind
  have x23 : a1 * a3 * t * c ≤ 400/49 * (a1 * b3 * s * c) := by
    have k := mul4 (show a3 ≤ 20/7 * s by grind) (show t ≤ 20/7 * b3 by grind) p3 (by grind)
    have := Rat.mul_le_mul_of_nonneg_left k a1c; grind
  have x12 : a3 * b1 * s * c ≤ 400/49 * (a1 * a3 * t * c) := by
    have k := mul4 (show s ≤ 20/7 * a1 by grind) (show b1 ≤ 20/7 * t by grind) ps (by grind)
    have := Rat.mul_le_mul_of_nonneg_left k a3c; grind
  have x32 : a1 * b3 * s * c ≤ 400/49 * (a1 * a3 * t * c) := by
    have k := mul4 (show s ≤ 20/7 * a3 by grind) (show b3 ≤ 20/7 * t by grind) ps (by grind)
    have := Rat.mul_le_mul_of_nonneg_left k a1c; grind
  obtain ⟨l0, l1, l2, l3⟩ := low
  generalize a1 * a3 * s * c = T0 at *
  generalize a3 * b1 * s * c = T1 at *
  generalize a1 * a3 * t * c = T2 at *
  generalize a1 * b3 * s * c = T3 at *
  clear hA1 hA3 hS hB1 hB3 hT f1 f3 f2 i12 i23 i13 u1 u1' u3 u3' r13 r31 v1 v1' v3 v3' s13 s31 a3sc a1sc a13c sc a3c a1c
  rcases min4 T0 T1 T2 T3 with ⟨m1, m2, m3⟩ | ⟨m1, m2, m3⟩ | ⟨m1, m2, m3⟩ | ⟨m1, m2, m3⟩
  · exact ⟨T0, ⟨by grind, by grind, m1, m2, m3⟩, by grind⟩
  · exact ⟨T1, ⟨by grind, m1, by grind, m2, m3⟩, by grind⟩
  · exact ⟨T2, ⟨by grind, m1, m2, by grind, m3⟩, by grind⟩
  · exact ⟨T3, ⟨by grind, m1, m2, m3, by grind⟩, by grind⟩


/-- the middle, as weights -/
def midW : Wt := ⟨1/4, 1/4, 1/4, 1/4⟩
theorem midW_ok : midW.OK := ⟨by decide +kernel, by decide +kernel, by decide +kernel, by decide +kernel, by decide +kernel⟩
theorem midW_px (Q : Quad) : midW.px Q = Q.mx := by unfold midW Wt.px Quad.mx; grind
theorem midW_py (Q : Quad) : midW.py Q = Q.my := by unfold midW Wt.py Quad.my; grind

def zbM : Nat → Rat
  | 0 => 21/2 | 1 => 21/2 | 2 => 167 | 3 => 21/2 | 4 => 21/2 | 5 => 167 | 6 => 1/16 | 7 => 1/16 | _ => 1

/-- eight numbers, and less one -/
def nine (a b c d e f g h : Rat) : Nat → Rat
  | 0 => a | 1 => b | 2 => c | 3 => d | 4 => e | 5 => f | 6 => g | 7 => h | _ => -1

theorem lim4 {t0 t1 t2 t3 : Rat} (h0 : 0 ≤ t0) (h1 : 0 ≤ t1) (h2 : 0 ≤ t2) (h3 : 0 ≤ t3) (hs : t0 + t1 + t2 + t3 = 4) {c0 c1 c2 c3 B : Rat} (k0 : Bd c0 B) (k1 : Bd c1 B) (k2 : Bd c2 B) (k3 : Bd c3 B) :
    c0 * t0 + c1 * t1 + c2 * t2 + c3 * t3 ≤ 4 * B ∧ -(4 * B) ≤ c0 * t0 + c1 * t1 + c2 * t2 + c3 * t3 := by
  unfold Bd at *
  have a0 := Rat.mul_le_mul_of_nonneg_right k0.1 h0
  have a1 := Rat.mul_le_mul_of_nonneg_right k1.1 h1
  have a2 := Rat.mul_le_mul_of_nonneg_right k2.1 h2
  have a3 := Rat.mul_le_mul_of_nonneg_right k3.1 h3
  have b0 := Rat.mul_le_mul_of_nonneg_right k0.2 h0
  have b1 := Rat.mul_le_mul_of_nonneg_right k1.2 h1
  have b2 := Rat.mul_le_mul_of_nonneg_right k2.2 h2
  have b3 := Rat.mul_le_mul_of_nonneg_right k3.2 h3
  have e : B * t0 + B * t1 + B * t2 + B * t3 = 4 * B := by
    have : B * (t0 + t1 + t2 + t3) = B * 4 := by rw [hs]
    grind
  have e' : -B * t0 + -B * t1 + -B * t2 + -B * t3 = -(4 * B) := by grind
  constructor <;> grind

theorem row0 {J c1 c2 c3 d1 d2 Dc x y u T N D : Rat} (hJ : J * Dc = 1) (hN : N = c1 * x + c2 * y + c3) (hD : D = d1 * x + d2 * y + Dc) (n : J * N = J * T * u) (d : J * D = J * T) :
    J * c1 * x + J * c2 * y + J * c3 - (J * d1 * (u * x) + J * d2 * (u * y)) - u = 0 := by
  subst hN hD
  have e : (J * (d1 * x + d2 * y + Dc)) * u = J * T * u := by rw [d]
  have e2 : (J * (d1 * x + d2 * y + Dc)) * u = J * d1 * (u * x) + J * d2 * (u * y) + (J * Dc) * u := by grind
  rw [hJ] at e2
  grind

theorem sides {q : Q8} {Q : Quad} {a1 a3 : Rat} (h : QZ q Q a1 a3) {a b c k0 k1 k2 k3 t : Rat}
    (h0 : a * (Q.x0 - Q.mx) + b * (Q.y0 - Q.my) + c = k0) (h1 : a * (Q.x1 - Q.mx) + b * (Q.y1 - Q.my) + c = k1) (h2 : a * (Q.x2 - Q.mx) + b * (Q.y2 - Q.my) + c = k2) (h3 : a * (Q.x3 - Q.mx) + b * (Q.y3 - Q.my) + c = k3)
    (g1 : -k0 + k1 + k2 - k3 ≤ 4 * t ∧ -(4 * t) ≤ -k0 + k1 + k2 - k3) (g2 : -k0 - k1 + k2 + k3 ≤ 4 * t ∧ -(4 * t) ≤ -k0 - k1 + k2 + k3) :
    (16 * a ≤ t ∧ -t ≤ 16 * a) ∧ (16 * b ≤ t ∧ -t ≤ 16 * b) ∧ 4 * c = k0 + k1 + k2 + k3 := by
  have i0 := h.ix0
  have i1 := h.ix1
  have i2 := h.ix2
  have i3 := h.ix3
  have j0 := h.iy0
  have j1 := h.iy1
  have j2 := h.iy2
  have j3 := h.iy3
  unfold In at *
  have s := slope_small (a := a) (b := b) (X := Q.x1 + Q.x2 - Q.x0 - Q.x3) (Y := Q.y1 + Q.y2 - Q.y0 - Q.y3) (X' := Q.x2 + Q.x3 - Q.x0 - Q.x1) (Y' := Q.y2 + Q.y3 - Q.y0 - Q.y1) (t := t)
    (by grind) (by constructor <;> grind) (by grind) (by constructor <;> grind) (by
      have e : a * (Q.x1 + Q.x2 - Q.x0 - Q.x3) + b * (Q.y1 + Q.y2 - Q.y0 - Q.y3) = -k0 + k1 + k2 - k3 := by rw [← h0, ← h1, ← h2, ← h3]; grind
      rw [e]; exact g1) (by
      have e : a * (Q.x2 + Q.x3 - Q.x0 - Q.x1) + b * (Q.y2 + Q.y3 - Q.y0 - Q.y1) = -k0 - k1 + k2 + k3 := by rw [← h0, ← h1, ← h2, ← h3]; grind
      rw [e]; exact g2)
  refine ⟨s.1, s.2, ?_⟩
  rw [← h0, ← h1, ← h2, ← h3]
  unfold Quad.mx Quad.my
  grind

theorem bd_one4 : Bd (1:Rat) 1 ∧ Bd (-1:Rat) 1 := by unfold Bd; decide +kernel

theorem near100 {u : Rat} (h : In u 33 67 ∨ In u 133 167) : Bd (u - 100) 67 ∧ Bd (-(u - 100)) 67 ∧ Bd u 167 := by
  unfold In Bd at *; rcases h with h | h <;> refine ⟨⟨?_, ?_⟩, ⟨?_, ?_⟩, ?_, ?_⟩ <;> grind

/-- the bounds of one coordinate's numbers -/
theorem coord_bd {q : Q8} {Q : Quad} {a1 a3 : Rat} (h : QZ q Q a1 a3) {a b c g z t0 t1 t2 t3 u0 u1 u2 u3 : Rat} (p0 : 0 ≤ t0) (p1 : 0 ≤ t1) (p2 : 0 ≤ t2) (p3 : 0 ≤ t3) (hs : t0 + t1 + t2 + t3 = 4)
    (w0 : In u0 33 67 ∨ In u0 133 167) (w1 : In u1 33 67 ∨ In u1 133 167) (w2 : In u2 33 67 ∨ In u2 133 167) (w3 : In u3 33 67 ∨ In u3 133 167)
    (h0 : a * (Q.x0 - Q.mx) + b * (Q.y0 - Q.my) + c = u0 * t0) (h1 : a * (Q.x1 - Q.mx) + b * (Q.y1 - Q.my) + c = u1 * t1) (h2 : a * (Q.x2 - Q.mx) + b * (Q.y2 - Q.my) + c = u2 * t2) (h3 : a * (Q.x3 - Q.mx) + b * (Q.y3 - Q.my) + c = u3 * t3)
    (k0 : g * (Q.x0 - Q.mx) + z * (Q.y0 - Q.my) + 1 = t0) (k1 : g * (Q.x1 - Q.mx) + z * (Q.y1 - Q.my) + 1 = t1) (k2 : g * (Q.x2 - Q.mx) + z * (Q.y2 - Q.my) + 1 = t2) (k3 : g * (Q.x3 - Q.mx) + z * (Q.y3 - Q.my) + 1 = t3) :
    Bd a (21/2) ∧ Bd b (21/2) ∧ Bd c 167 ∧ Bd g (1/16) ∧ Bd z (1/16) := by
  obtain ⟨o1, o2⟩ := bd_one4
  have l1 := lim4 p0 p1 p2 p3 hs o2 o1 o1 o2
  have l2 := lim4 p0 p1 p2 p3 hs o2 o2 o1 o1
  have sg := sides h (t := 1) k0 k1 k2 k3 (by constructor <;> grind) (by constructor <;> grind)
  have m1 := lim4 p0 p1 p2 p3 hs (near100 w0).2.1 (near100 w1).1 (near100 w2).1 (near100 w3).2.1
  have m2 := lim4 p0 p1 p2 p3 hs (near100 w0).2.1 (near100 w1).2.1 (near100 w2).1 (near100 w3).1
  have m3 := lim4 p0 p1 p2 p3 hs (near100 w0).2.2 (near100 w1).2.2 (near100 w2).2.2 (near100 w3).2.2
  have sa := sides h (a := a - 100 * g) (b := b - 100 * z) (c := c - 100) (k0 := (u0 - 100) * t0) (k1 := (u1 - 100) * t1) (k2 := (u2 - 100) * t2) (k3 := (u3 - 100) * t3) (t := 67)
    (by grind) (by grind) (by grind) (by grind) (by constructor <;> grind) (by constructor <;> grind)
  have sc := sa.2.2
  unfold Bd
  refine ⟨⟨?_, ?_⟩, ⟨?_, ?_⟩, ⟨?_, ?_⟩, ⟨?_, ?_⟩, ?_, ?_⟩ <;> grind

theorem solM {q p : Q8} {Q P : Quad} {a1 a3 b1 b3 : Rat} (h : QZ q Q a1 a3) (g : QZ p P b1 b3) {M0 : Nat → Nat → Nat}
    (he : ∀ i, i < 4 → EvenV (Q.cen.X i) (Q.cen.Y i) (P.X i) (M0 (2 * i))) (ho : ∀ i, i < 4 → OddV (Q.cen.X i) (Q.cen.Y i) (P.Y i) (M0 (2 * i + 1))) :
    ∃ z : Nat → Rat, z 8 = -1 ∧ (∀ i, i < 8 → Bd (ph z (M0 i) 0) 0) ∧ (∀ c, c < 9 → ab (z c) ≤ zbM c) ∧
      ∀ w : Wt, w.OK → ∃ Z, 999/10000 ≤ Z ∧ Z ≤ 4 ∧ z 6 * (w.px Q - Q.mx) + z 7 * (w.py Q - Q.my) + 1 = Z ∧
        z 0 * (w.px Q - Q.mx) + z 1 * (w.py Q - Q.my) + z 2 = (w.img (tau Q a1 a3 b1 b3)).px P * Z ∧ z 3 * (w.px Q - Q.mx) + z 4 * (w.py Q - Q.my) + z 5 = (w.img (tau Q a1 a3 b1 b3)).py P * Z := by
  obtain ⟨m, hge, hsum⟩ := tau_sum h g
  have hDc : DD Q a1 a3 b1 b3 Q.mx Q.my = midW.tot (tau Q a1 a3 b1 b3) := by rw [← midW_px, ← midW_py]; exact img_DD midW_ok h b1 b3
  have hm := hge.pos
  have hDm := tot_ge midW_ok hge
  have hDpos : 0 < DD Q a1 a3 b1 b3 Q.mx Q.my := by rw [hDc]; grind
  obtain ⟨J, hJ⟩ : ∃ J, J = (DD Q a1 a3 b1 b3 Q.mx Q.my)⁻¹ := ⟨_, rfl⟩
  have hJD : J * DD Q a1 a3 b1 b3 Q.mx Q.my = 1 := by rw [hJ]; exact Rat.inv_mul_cancel _ (by grind)
  have hJp : 0 < J := by rw [hJ]; exact Rat.inv_pos.2 hDpos
  have hDD : ∀ x y, DD Q a1 a3 b1 b3 x y = H13 Q a1 a3 b1 b3 * (x - Q.mx) + H23 Q a1 a3 b1 b3 * (y - Q.my) + DD Q a1 a3 b1 b3 Q.mx Q.my := by intro x y; unfold DD; grind
  have hNX : ∀ x y, NX Q P a1 a3 b1 b3 x y = H11 Q P a1 a3 b1 b3 * (x - Q.mx) + H21 Q P a1 a3 b1 b3 * (y - Q.my) + NX Q P a1 a3 b1 b3 Q.mx Q.my := by intro x y; unfold NX; grind
  have hNY : ∀ x y, NY Q P a1 a3 b1 b3 x y = H12 Q P a1 a3 b1 b3 * (x - Q.mx) + H22 Q P a1 a3 b1 b3 * (y - Q.my) + NY Q P a1 a3 b1 b3 Q.mx Q.my := by intro x y; unfold NY; grind
  -- the corners' weights, scaled
  have t0 : J * DD Q a1 a3 b1 b3 Q.x0 Q.y0 = J * (tau Q a1 a3 b1 b3).t0 := by rw [DD0]; rfl
  have t1 : J * DD Q a1 a3 b1 b3 Q.x1 Q.y1 = J * (tau Q a1 a3 b1 b3).t1 := by rw [DD1]; rfl
  have t2 : J * DD Q a1 a3 b1 b3 Q.x2 Q.y2 = J * (tau Q a1 a3 b1 b3).t2 := by rw [DD2 h.F]; rfl
  have t3 : J * DD Q a1 a3 b1 b3 Q.x3 Q.y3 = J * (tau Q a1 a3 b1 b3).t3 := by rw [DD3]; rfl
  have nx0 : J * NX Q P a1 a3 b1 b3 Q.x0 Q.y0 = J * (tau Q a1 a3 b1 b3).t0 * P.x0 := by rw [NX0, Rat.mul_assoc]; rfl
  have nx1 : J * NX Q P a1 a3 b1 b3 Q.x1 Q.y1 = J * (tau Q a1 a3 b1 b3).t1 * P.x1 := by rw [NX1, Rat.mul_assoc]; rfl
  have nx2 : J * NX Q P a1 a3 b1 b3 Q.x2 Q.y2 = J * (tau Q a1 a3 b1 b3).t2 * P.x2 := by rw [NX2 h.F g.F, Rat.mul_assoc]; rfl
  have nx3 : J * NX Q P a1 a3 b1 b3 Q.x3 Q.y3 = J * (tau Q a1 a3 b1 b3).t3 * P.x3 := by rw [NX3, Rat.mul_assoc]; rfl
  have ny0 : J * NY Q P a1 a3 b1 b3 Q.x0 Q.y0 = J * (tau Q a1 a3 b1 b3).t0 * P.y0 := by rw [NY0, Rat.mul_assoc]; rfl
  have ny1 : J * NY Q P a1 a3 b1 b3 Q.x1 Q.y1 = J * (tau Q a1 a3 b1 b3).t1 * P.y1 := by rw [NY1, Rat.mul_assoc]; rfl
  have ny2 : J * NY Q P a1 a3 b1 b3 Q.x2 Q.y2 = J * (tau Q a1 a3 b1 b3).t2 * P.y2 := by rw [NY2 h.F g.F, Rat.mul_assoc]; rfl
  have ny3 : J * NY Q P a1 a3 b1 b3 Q.x3 Q.y3 = J * (tau Q a1 a3 b1 b3).t3 * P.y3 := by rw [NY3, Rat.mul_assoc]; rfl
  have himg := fun (w : Wt) (hw : w.OK) => And.intro (img_DD hw h b1 b3) (And.intro (img_NX hw h g hge) (img_NY hw h g hge))
  have hwlo := fun (w : Wt) (hw : w.OK) => tot_ge hw hge
  have hJs : J * (tau Q a1 a3 b1 b3).t0 + J * (tau Q a1 a3 b1 b3).t1 + J * (tau Q a1 a3 b1 b3).t2 + J * (tau Q a1 a3 b1 b3).t3 = 4 := by
    rw [hDc] at hJD
    unfold midW Wt.tot at hJD
    dsimp only at hJD
    grind
  have p0 := Rat.mul_nonneg (Rat.le_of_lt hJp) (show 0 ≤ (tau Q a1 a3 b1 b3).t0 by have := hge.g0; grind)
  have p1 := Rat.mul_nonneg (Rat.le_of_lt hJp) (show 0 ≤ (tau Q a1 a3 b1 b3).t1 by have := hge.g1; grind)
  have p2 := Rat.mul_nonneg (Rat.le_of_lt hJp) (show 0 ≤ (tau Q a1 a3 b1 b3).t2 by have := hge.g2; grind)
  have p3 := Rat.mul_nonneg (Rat.le_of_lt hJp) (show 0 ≤ (tau Q a1 a3 b1 b3).t3 by have := hge.g3; grind)
  have hwtot : ∀ w : Wt, w.OK → 999/10000 ≤ J * w.tot (tau Q a1 a3 b1 b3) ∧ J * w.tot (tau Q a1 a3 b1 b3) ≤ 4 := by
    intro w hw
    have l1 := Rat.mul_le_mul_of_nonneg_left (hwlo w hw) (Rat.le_of_lt hJp)
    have l2 := Rat.mul_le_mul_of_nonneg_left hsum (Rat.le_of_lt hJp)
    refine ⟨by grind, ?_⟩
    unfold Wt.tot
    have q0 := Rat.mul_le_mul_of_nonneg_right (show w.w0 ≤ 1 by have := hw.p1; have := hw.p2; have := hw.p3; have := hw.sum; grind) p0
    have q1 := Rat.mul_le_mul_of_nonneg_right (show w.w1 ≤ 1 by have := hw.p0; have := hw.p2; have := hw.p3; have := hw.sum; grind) p1
    have q2 := Rat.mul_le_mul_of_nonneg_right (show w.w2 ≤ 1 by have := hw.p0; have := hw.p1; have := hw.p3; have := hw.sum; grind) p2
    have q3 := Rat.mul_le_mul_of_nonneg_right (show w.w3 ≤ 1 by have := hw.p0; have := hw.p1; have := hw.p2; have := hw.sum; grind) p3
    grind
  generalize hDce : DD Q a1 a3 b1 b3 Q.mx Q.my = Dc at *
  generalize NX Q P a1 a3 b1 b3 Q.mx Q.my = Nxc at *
  generalize NY Q P a1 a3 b1 b3 Q.mx Q.my = Nyc at *
  -- the numbers
  refine ⟨nine (J * H11 Q P a1 a3 b1 b3) (J * H21 Q P a1 a3 b1 b3) (J * Nxc) (J * H12 Q P a1 a3 b1 b3) (J * H22 Q P a1 a3 b1 b3) (J * Nyc) (J * H13 Q a1 a3 b1 b3) (J * H23 Q a1 a3 b1 b3), rfl, ?_, ?_, ?_⟩
  · have r0 := row0 hJD (hNX Q.x0 Q.y0) (hDD Q.x0 Q.y0) nx0 t0
    have r1 := row0 hJD (hNX Q.x1 Q.y1) (hDD Q.x1 Q.y1) nx1 t1
    have r2 := row0 hJD (hNX Q.x2 Q.y2) (hDD Q.x2 Q.y2) nx2 t2
    have r3 := row0 hJD (hNX Q.x3 Q.y3) (hDD Q.x3 Q.y3) nx3 t3
    have s0 := row0 hJD (hNY Q.x0 Q.y0) (hDD Q.x0 Q.y0) ny0 t0
    have s1 := row0 hJD (hNY Q.x1 Q.y1) (hDD Q.x1 Q.y1) ny1 t1
    have s2 := row0 hJD (hNY Q.x2 Q.y2) (hDD Q.x2 Q.y2) ny2 t2
    have s3 := row0 hJD (hNY Q.x3 Q.y3) (hDD Q.x3 Q.y3) ny3 t3
    have ev : ∀ i, i < 4 → ∀ z : Nat → Rat, z 8 = -1 → z 0 * Q.cen.X i + z 1 * Q.cen.Y i + z 2 - (z 6 * (P.X i * Q.cen.X i) + z 7 * (P.X i * Q.cen.Y i)) - P.X i = 0 → Bd (ph z (M0 (2 * i)) 0) 0 := by
      intro i hi z hz8 hz
      have e := ph_even (he i hi) z
      have e8 : val (M0 (2 * i) 8) = P.X i := (he i hi).2.2.2.2.2.2.2.2
      rw [hz8, e8] at e
      unfold Bd; constructor <;> grind
    have od : ∀ i, i < 4 → ∀ z : Nat → Rat, z 8 = -1 → z 3 * Q.cen.X i + z 4 * Q.cen.Y i + z 5 - (z 6 * (P.Y i * Q.cen.X i) + z 7 * (P.Y i * Q.cen.Y i)) - P.Y i = 0 → Bd (ph z (M0 (2 * i + 1)) 0) 0 := by
      intro i hi z hz8 hz
      have e := ph_odd (ho i hi) z
      have e8 : val (M0 (2 * i + 1) 8) = P.Y i := (ho i hi).2.2.2.2.2.2.2.2
      rw [hz8, e8] at e
      unfold Bd; constructor <;> grind
    intro i hi
    rcases (show i = 2 * 0 ∨ i = 2 * 0 + 1 ∨ i = 2 * 1 ∨ i = 2 * 1 + 1 ∨ i = 2 * 2 ∨ i = 2 * 2 + 1 ∨ i = 2 * 3 ∨ i = 2 * 3 + 1 by omega) with rfl | rfl | rfl | rfl | rfl | rfl | rfl | rfl
    · exact ev 0 (by omega) _ rfl r0
    · exact od 0 (by omega) _ rfl s0
    · exact ev 1 (by omega) _ rfl r1
    · exact od 1 (by omega) _ rfl s1
    · exact ev 2 (by omega) _ rfl r2
    · exact od 2 (by omega) _ rfl s2
    · exact ev 3 (by omega) _ rfl r3
    · exact od 3 (by omega) _ rfl s3
  · have kd : ∀ x y T : Rat, J * DD Q a1 a3 b1 b3 x y = T → J * H13 Q a1 a3 b1 b3 * (x - Q.mx) + J * H23 Q a1 a3 b1 b3 * (y - Q.my) + 1 = T := by
      intro x y T hT
      rw [hDD, Rat.mul_add, hJD] at hT; grind
    have kx : ∀ x y T u : Rat, J * NX Q P a1 a3 b1 b3 x y = T * u → J * H11 Q P a1 a3 b1 b3 * (x - Q.mx) + J * H21 Q P a1 a3 b1 b3 * (y - Q.my) + J * Nxc = u * T := by
      intro x y T u hT
      rw [hNX] at hT; grind
    have ky : ∀ x y T u : Rat, J * NY Q P a1 a3 b1 b3 x y = T * u → J * H12 Q P a1 a3 b1 b3 * (x - Q.mx) + J * H22 Q P a1 a3 b1 b3 * (y - Q.my) + J * Nyc = u * T := by
      intro x y T u hT
      rw [hNY] at hT; grind
    have cx := coord_bd h p0 p1 p2 p3 hJs (Or.inl g.ix0) (Or.inr g.ix1) (Or.inr g.ix2) (Or.inl g.ix3) (kx _ _ _ _ nx0) (kx _ _ _ _ nx1) (kx _ _ _ _ nx2) (kx _ _ _ _ nx3) (kd _ _ _ t0) (kd _ _ _ t1) (kd _ _ _ t2) (kd _ _ _ t3)
    have cy := coord_bd h p0 p1 p2 p3 hJs (Or.inl g.iy0) (Or.inl g.iy1) (Or.inr g.iy2) (Or.inr g.iy3) (ky _ _ _ _ ny0) (ky _ _ _ _ ny1) (ky _ _ _ _ ny2) (ky _ _ _ _ ny3) (kd _ _ _ t0) (kd _ _ _ t1) (kd _ _ _ t2) (kd _ _ _ t3)
    obtain ⟨x1, x2, x3, x4, x5⟩ := cx
    obtain ⟨y1, y2, y3, _, _⟩ := cy
    intro c hc
    refine ab_le ?_
    rcases (show c = 0 ∨ c = 1 ∨ c = 2 ∨ c = 3 ∨ c = 4 ∨ c = 5 ∨ c = 6 ∨ c = 7 ∨ c = 8 by omega) with rfl | rfl | rfl | rfl | rfl | rfl | rfl | rfl | rfl
    · exact x1
    · exact x2
    · exact x3
    · exact y1
    · exact y2
    · exact y3
    · exact x4
    · exact x5
    · exact bd_one4.2
  · intro w hw
    obtain ⟨i1, i2, i3⟩ := himg w hw
    refine ⟨J * w.tot (tau Q a1 a3 b1 b3), (hwtot w hw).1, (hwtot w hw).2, ?_, ?_, ?_⟩
    · rw [← i1, hDD]
      show J * _ * _ + J * _ * _ + 1 = _
      grind
    · have e := hNX (w.px Q) (w.py Q)
      rw [i2] at e
      show J * _ * _ + J * _ * _ + J * _ = _
      grind
    · have e := hNY (w.px Q) (w.py Q)
      rw [i3] at e
      show J * _ * _ + J * _ * _ + J * _ = _
      grind

end Go.Proofs.Ytaadklfendegfaa
