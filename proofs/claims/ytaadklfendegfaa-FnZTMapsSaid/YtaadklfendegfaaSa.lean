/- The floats of the map between two quadrilaterals with corners at eighths stand near the exact numbers. -/
import Derived.Test.YtaadklfendegfaaFlB
import Derived.Test.YtaadklfendegfaaPm
namespace Go.Proofs.Ytaadklfendegfaa
open Go Fl Geo

def In (v lo hi : Rat) : Prop := lo ≤ v ∧ v ≤ hi
theorem In.bd {v lo hi B : Rat} (h : In v lo hi) (h1 : -B ≤ lo) (h2 : hi ≤ B) : Bd v B := by unfold In Bd at *; grind

/-- a quadrilateral of floats with corners at eighths, near a square of a side of 100 -/
structure QZ (q : Q8) (Q : Quad) (a1 a3 : Rat) : Prop where
  x0 : Ex q.x0 Q.x0 3 1400
  y0 : Ex q.y0 Q.y0 3 1400
  x1 : Ex q.x1 Q.x1 3 1400
  y1 : Ex q.y1 Q.y1 3 1400
  x2 : Ex q.x2 Q.x2 3 1400
  y2 : Ex q.y2 Q.y2 3 1400
  x3 : Ex q.x3 Q.x3 3 1400
  y3 : Ex q.y3 Q.y3 3 1400
  F : QF Q a1 a3
  ix0 : In Q.x0 33 67
  iy0 : In Q.y0 33 67
  ix1 : In Q.x1 133 167
  iy1 : In Q.y1 33 67
  ix2 : In Q.x2 133 167
  iy2 : In Q.y2 133 167
  ix3 : In Q.x3 33 67
  iy3 : In Q.y3 133 167
  i012 : In Q.d012 3500 17500
  i023 : In Q.d023 3500 17500
  i013 : In Q.d013 3500 17500
  i123 : In Q.d123 3500 17500
  r1 : In a1 (7/20) (20/7)
  r3 : In a3 (7/20) (20/7)
  r2 : In (a1 + a3 - 1) (21/100) (100/21)
  r13 : 21/100 * a1 ≤ a3
  r31 : 21/100 * a3 ≤ a1
  u1 : 7/20 * (a1 + a3 - 1) ≤ a1
  u1' : 7/20 * a1 ≤ a1 + a3 - 1
  u3 : 7/20 * (a1 + a3 - 1) ≤ a3
  u3' : 7/20 * a3 ≤ a1 + a3 - 1

theorem mul_in {a b la ha lb hb : Rat} (h : In a la ha) (k : In b lb hb) (h0 : 0 ≤ la) (k0 : 0 ≤ lb) : In (a * b) (la * lb) (ha * hb) := by
  obtain ⟨h1, h2⟩ := h
  obtain ⟨k1, k2⟩ := k
  have p1 := Rat.mul_nonneg (a := a - la) (b := b) (by grind) (by grind)
  have p2 := Rat.mul_nonneg (a := la) (b := b - lb) h0 (by grind)
  have p3 := Rat.mul_nonneg (a := ha - a) (b := b) (by grind) (by grind)
  have p4 := Rat.mul_nonneg (a := ha) (b := hb - b) (by grind) (by grind)
  unfold In
  constructor <;> grind

section
variable {q : Q8} {Q : Quad} {a1 a3 : Rat} (h : QZ q Q a1 a3)
include h
theorem bA11 : Bd (A11 Q a1) 445 := by
  have := mul_in h.r1 h.ix1 (by decide +kernel) (by decide +kernel)
  have := h.ix0
  unfold A11 Bd In at *; constructor <;> grind
theorem bA22 : Bd (A22 Q a3) 445 := by
  have := mul_in h.r3 h.iy3 (by decide +kernel) (by decide +kernel)
  have := h.iy0
  unfold A22 Bd In at *; constructor <;> grind
theorem bA21 : Bd (A21 Q a3) 159 := by
  have := mul_in h.r3 h.ix3 (by decide +kernel) (by decide +kernel)
  have := h.ix0
  unfold A21 Bd In at *; constructor <;> grind
theorem bA12 : Bd (A12 Q a1) 159 := by
  have := mul_in h.r1 h.iy1 (by decide +kernel) (by decide +kernel)
  have := h.iy0
  unfold A12 Bd In at *; constructor <;> grind
theorem bA13 : Bd (a1 - 1) (13/7) := by
  have := h.r1
  unfold Bd In at *; constructor <;> grind
theorem bA23 : Bd (a3 - 1) (13/7) := by
  have := h.r3
  unfold Bd In at *; constructor <;> grind
theorem bO11 : Bd (O11 Q a1 a3) 383 := by
  have := Bd.mul (h.r3.bd (B := 20/7) (by decide +kernel) (by decide +kernel)) (show Bd (Q.y3 - Q.y0) 134 by have := h.iy3; have := h.iy0; unfold In Bd at *; constructor <;> grind)
  unfold O11; exact this.mono (by decide +kernel)
theorem bO22 : Bd (O22 Q a1 a3) 383 := by
  have := Bd.mul (h.r1.bd (B := 20/7) (by decide +kernel) (by decide +kernel)) (show Bd (Q.x1 - Q.x0) 134 by have := h.ix1; have := h.ix0; unfold In Bd at *; constructor <;> grind)
  unfold O22; exact this.mono (by decide +kernel)
theorem bO21 : Bd (O21 Q a1 a3) 98 := by
  have := Bd.mul (h.r3.bd (B := 20/7) (by decide +kernel) (by decide +kernel)) (show Bd (Q.x0 - Q.x3) 34 by have := h.ix3; have := h.ix0; unfold In Bd at *; constructor <;> grind)
  unfold O21; exact this.mono (by decide +kernel)
theorem bO12 : Bd (O12 Q a1 a3) 98 := by
  have := Bd.mul (h.r1.bd (B := 20/7) (by decide +kernel) (by decide +kernel)) (show Bd (Q.y0 - Q.y1) 34 by have := h.iy1; have := h.iy0; unfold In Bd at *; constructor <;> grind)
  unfold O12; exact this.mono (by decide +kernel)
theorem bO31 : Bd (O31 Q a1 a3) 29000 := by
  have m1 := mul_in h.ix3 h.iy0 (by decide +kernel) (by decide +kernel)
  have m2 := mul_in h.iy3 h.ix0 (by decide +kernel) (by decide +kernel)
  have := Bd.mul (h.r3.bd (B := 20/7) (by decide +kernel) (by decide +kernel)) (show Bd (Q.x3 * Q.y0 - Q.y3 * Q.x0) 10100 by unfold In Bd at *; constructor <;> grind)
  unfold O31; exact this.mono (by decide +kernel)
theorem bO32 : Bd (O32 Q a1 a3) 29000 := by
  have m1 := mul_in h.iy1 h.ix0 (by decide +kernel) (by decide +kernel)
  have m2 := mul_in h.ix1 h.iy0 (by decide +kernel) (by decide +kernel)
  have := Bd.mul (h.r1.bd (B := 20/7) (by decide +kernel) (by decide +kernel)) (show Bd (Q.y1 * Q.x0 - Q.x1 * Q.y0) 10100 by unfold In Bd at *; constructor <;> grind)
  unfold O32; exact this.mono (by decide +kernel)
theorem bO13 : Bd (O13 Q a1 a3) 1130 := by
  have := Bd.sub (Bd.mul (bA12 h) (bA23 h)) (Bd.mul (bA13 h) (bA22 h))
  unfold O13; exact this.mono (by decide +kernel)
theorem bO23 : Bd (O23 Q a1 a3) 1130 := by
  have := Bd.sub (Bd.mul (bA13 h) (bA21 h)) (Bd.mul (bA11 h) (bA23 h))
  unfold O23; exact this.mono (by decide +kernel)
theorem bO33 : Bd (O33 Q a1 a3) 230000 := by
  have := Bd.sub (Bd.mul (bA11 h) (bA22 h)) (Bd.mul (bA12 h) (bA21 h))
  unfold O33; exact this.mono (by decide +kernel)
end

/-- how near the nine numbers are -/
structure NearA (a : M9) (Q : Quad) (a1 a3 : Rat) : Prop where
  a11 : Ap a.a11 (A11 Q a1) (19/100000000000000 : Rat)
  a21 : Ap a.a21 (A21 Q a3) (37/500000000000000 : Rat)
  a31 : Ap a.a31 Q.x0 0
  a12 : Ap a.a12 (A12 Q a1) (37/500000000000000 : Rat)
  a22 : Ap a.a22 (A22 Q a3) (19/100000000000000 : Rat)
  a32 : Ap a.a32 Q.y0 0
  a13 : Ap a.a13 (a1 - 1) (31/50000000000000000 : Rat)
  a23 : Ap a.a23 (a3 - 1) (31/50000000000000000 : Rat)
  a33 : Ap a.a33 1 0

theorem val_f0 : Fl.fin f0 ∧ val f0 = 0 := by
  have hr : Ieee.double.read f0 = .number false 0 (-1074) := by decide
  refine ⟨⟨by decide, _, _, _, hr⟩, ?_⟩
  unfold val; rw [hr]; unfold dval
  have z : ((0:Nat) : Rat) = 0 := rfl
  show sg false * ((0:Nat) : Rat) * (2:Rat) ^ (-1074:Int) = 0
  rw [z]; generalize (2:Rat) ^ (-1074:Int) = t; grind
theorem val_f1 : Fl.fin f1 ∧ val f1 = 1 := by
  have hr : Ieee.double.read f1 = .number false 4503599627370496 (-52) := by decide
  refine ⟨⟨by decide, _, _, _, hr⟩, ?_⟩
  unfold val; rw [hr]
  show sg false * ((4503599627370496:Nat) : Rat) * (2:Rat) ^ (-52:Int) = 1
  decide +kernel

theorem feq_iff {x y : Nat} (hx : Fl.fin x) (hy : Fl.fin y) : feq x y = true ↔ val x = val y := by
  obtain ⟨h1, h2, h3⟩ := order_val hx hy
  have e : feq x y = (Ieee.double.order x y == some .eq) := rfl
  rw [e]
  constructor
  · intro h
    apply Classical.byContradiction; intro hc
    have : val x < val y ∨ val y < val x := by grind
    rcases this with g | g
    · rw [h1 g] at h; cases h
    · rw [h3 g] at h; cases h
  · intro h; rw [h2 h]; rfl

/-- a - b of a product and a number whose first part is exact -/
theorem lean_ap {x y a xp : Nat} {X Y A : Rat} {e V W B E1 E2 : Rat} (hx : Ex x X 3 1400) (hy : Ex y Y 3 1400) (ha : Ap a A e) (hxp : Ap xp X 0) (hv : Bd A V) (hw : Bd X W) (hB : Bd ((X - Y) + A * X) B)
    (h1 : e * (W + 0) + V * 0 + (V + e) * (W + 0) * u53 + tny ≤ E1) (h2 : 0 + E1 + (B + 0 + E1) * u53 + tny ≤ E2) (h3 : (V + e) * (W + 0) ≤ 10^200) (h4 : B + 0 + E1 ≤ 10^200) :
    ∃ r, LeanR x y a xp r ∧ Ap r ((X - Y) + A * X) E2 := by
  obtain ⟨s, s1, s2⟩ := Ex.sub hx hy (by decide) (by decide)
  obtain ⟨t, t1, t2⟩ := Ap.mul ha hxp V W E1 hv hw h1 h3
  obtain ⟨r, r1, r2⟩ := Ap.add s2.ap t2 B E2 hB h2 h4
  exact ⟨r, ⟨s, t, s1, t1, r1⟩, r2⟩

theorem s2q_ap {q : Q8} {Q : Quad} {a1 a3 : Rat} (h : QZ q Q a1 a3) : ∃ a : M9, S2QR q a ∧ NearA a Q a1 a3 := by
  obtain ⟨u1, p1, k1⟩ := Ex.sub h.x0 h.x1 (by decide) (by decide)
  obtain ⟨u2, p2, k2⟩ := Ex.add k1 h.x2 (by decide) (by decide)
  obtain ⟨dx3, p3, k3⟩ := Ex.sub k2 h.x3 (by decide) (by decide)
  obtain ⟨v1, s1, l1⟩ := Ex.sub h.y0 h.y1 (by decide) (by decide)
  obtain ⟨v2, s2, l2⟩ := Ex.add l1 h.y2 (by decide) (by decide)
  obtain ⟨dy3, s3, l3⟩ := Ex.sub l2 h.y3 (by decide) (by decide)
  have hax : AltR q.x0 q.x1 q.x2 q.x3 dx3 := ⟨u1, u2, p1, p2, p3⟩
  have hay : AltR q.y0 q.y1 q.y2 q.y3 dy3 := ⟨v1, v2, s1, s2, s3⟩
  have hpos := h.F.pos
  by_cases haff : feq dx3 f0 = true ∧ feq dy3 f0 = true
  · -- the affine way
    have ex : Q.x0 - Q.x1 + Q.x2 - Q.x3 = 0 := by rw [← k3.eq, (feq_iff k3.fin val_f0.1).1 haff.1, val_f0.2]
    have ey : Q.y0 - Q.y1 + Q.y2 - Q.y3 = 0 := by rw [← l3.eq, (feq_iff l3.fin val_f0.1).1 haff.2, val_f0.2]
    have ha1 : a1 = 1 := by
      refine cancel hpos ?_
      rw [h.F.h1]; unfold Quad.d023 Quad.d123 tri
      have e1 : Q.x0 = Q.x1 - Q.x2 + Q.x3 := by grind
      have e2 : Q.y0 = Q.y1 - Q.y2 + Q.y3 := by grind
      rw [e1, e2]; grind
    have ha3 : a3 = 1 := by
      refine cancel hpos ?_
      rw [h.F.h3]; unfold Quad.d012 Quad.d123 tri
      have e1 : Q.x0 = Q.x1 - Q.x2 + Q.x3 := by grind
      have e2 : Q.y0 = Q.y1 - Q.y2 + Q.y3 := by grind
      rw [e1, e2]; grind
    obtain ⟨b11, o1, m1⟩ := Ex.sub h.x1 h.x0 (by decide) (by decide)
    obtain ⟨b21, o2, m2⟩ := Ex.sub h.x2 h.x1 (by decide) (by decide)
    obtain ⟨b12, o3, m3⟩ := Ex.sub h.y1 h.y0 (by decide) (by decide)
    obtain ⟨b22, o4, m4⟩ := Ex.sub h.y2 h.y1 (by decide) (by decide)
    refine ⟨⟨b11, b21, q.x0, b12, b22, q.y0, f0, f0, f1⟩, ⟨dx3, dy3, hax, hay, Or.inl ⟨haff.1, haff.2, o1, o2, rfl, o3, o4, rfl, rfl, rfl, rfl⟩⟩, ?_⟩
    have z0 : Ap f0 0 0 := ⟨val_f0.1, by rw [val_f0.2]; unfold Nr; grind⟩
    have z1 : Ap f1 1 0 := ⟨val_f1.1, by rw [val_f1.2]; unfold Nr; grind⟩
    exact ⟨(m1.ap.eq (by unfold A11; rw [ha1]; grind)).mono (by decide +kernel), (m2.ap.eq (by unfold A21; rw [ha3]; grind)).mono (by decide +kernel), h.x0.ap, (m3.ap.eq (by unfold A12; rw [ha1]; grind)).mono (by decide +kernel), (m4.ap.eq (by unfold A22; rw [ha3]; grind)).mono (by decide +kernel), h.y0.ap,
      (z0.eq (by rw [ha1]; grind)).mono (by decide +kernel), (z0.eq (by rw [ha3]; grind)).mono (by decide +kernel), z1⟩
  · -- the other way
    obtain ⟨dx1, c1, n1⟩ := Ex.sub h.x1 h.x2 (by decide) (by decide)
    obtain ⟨dx2, c2, n2⟩ := Ex.sub h.x3 h.x2 (by decide) (by decide)
    obtain ⟨dy1, c3, n3⟩ := Ex.sub h.y1 h.y2 (by decide) (by decide)
    obtain ⟨dy2, c4, n4⟩ := Ex.sub h.y3 h.y2 (by decide) (by decide)
    obtain ⟨w1, c5, n5⟩ := Ex.mul n1 n4 (by decide) (by decide)
    obtain ⟨w2, c6, n6⟩ := Ex.mul n2 n3 (by decide) (by decide)
    obtain ⟨den, c7, n7⟩ := Ex.sub n5 n6 (by decide) (by decide)
    obtain ⟨w3, c8, n8⟩ := Ex.mul k3 n4 (by decide) (by decide)
    obtain ⟨w4, c9, n9⟩ := Ex.mul n2 l3 (by decide) (by decide)
    obtain ⟨nu1, d1, g1⟩ := Ex.sub n8 n9 (by decide) (by decide)
    obtain ⟨w5, d2, g2⟩ := Ex.mul n1 l3 (by decide) (by decide)
    obtain ⟨w6, d3, g3⟩ := Ex.mul k3 n3 (by decide) (by decide)
    obtain ⟨nu2, d4, g4⟩ := Ex.sub g2 g3 (by decide) (by decide)
    have hden : (Q.x1 - Q.x2) * (Q.y3 - Q.y2) - (Q.x3 - Q.x2) * (Q.y1 - Q.y2) = - Q.d123 := by unfold Quad.d123 tri; grind
    have hn1 : (a1 - 1) * ((Q.x1 - Q.x2) * (Q.y3 - Q.y2) - (Q.x3 - Q.x2) * (Q.y1 - Q.y2)) = (Q.x0 - Q.x1 + Q.x2 - Q.x3) * (Q.y3 - Q.y2) - (Q.x3 - Q.x2) * (Q.y0 - Q.y1 + Q.y2 - Q.y3) := by
      rw [hden]
      have e : (a1 - 1) * -Q.d123 = Q.d123 - a1 * Q.d123 := by grind
      rw [e, h.F.h1]; unfold Quad.d123 Quad.d023 tri; grind
    have hn2 : (a3 - 1) * ((Q.x1 - Q.x2) * (Q.y3 - Q.y2) - (Q.x3 - Q.x2) * (Q.y1 - Q.y2)) = (Q.x1 - Q.x2) * (Q.y0 - Q.y1 + Q.y2 - Q.y3) - (Q.x0 - Q.x1 + Q.x2 - Q.x3) * (Q.y1 - Q.y2) := by
      rw [hden]
      have e : (a3 - 1) * -Q.d123 = Q.d123 - a3 * Q.d123 := by grind
      rw [e, h.F.h3]; unfold Quad.d123 Quad.d012 tri; grind
    have hm : 3500 ≤ (Q.x1 - Q.x2) * (Q.y3 - Q.y2) - (Q.x3 - Q.x2) * (Q.y1 - Q.y2) ∨ (Q.x1 - Q.x2) * (Q.y3 - Q.y2) - (Q.x3 - Q.x2) * (Q.y1 - Q.y2) ≤ -3500 := by
      right; rw [hden]; have := h.i123.1; grind
    obtain ⟨a13, f13, e13⟩ := Ap.div g1.ap n7.ap (a1 - 1) (13/7) 3500 0 (31/50000000000000000 : Rat) hn1 (bA13 h) hm (by decide +kernel) (by decide +kernel) (by decide +kernel) (by decide +kernel) (by decide +kernel)
    obtain ⟨a23, f23, e23⟩ := Ap.div g4.ap n7.ap (a3 - 1) (13/7) 3500 0 (31/50000000000000000 : Rat) hn2 (bA23 h) hm (by decide +kernel) (by decide +kernel) (by decide +kernel) (by decide +kernel) (by decide +kernel)
    obtain ⟨b11, f11, e11⟩ := lean_ap (e := (31/50000000000000000 : Rat)) (V := 13/7) (W := 167) (B := 445) (E1 := (7/50000000000000 : Rat)) (E2 := (19/100000000000000 : Rat)) h.x1 h.x0 e13 h.x1.ap (bA13 h) (h.ix1.bd (by decide +kernel) (by decide +kernel)) (by have := bA11 h; unfold A11 at this; have e : Q.x1 - Q.x0 + (a1 - 1) * Q.x1 = a1 * Q.x1 - Q.x0 := (by grind); rw [e]; exact this) (by decide +kernel) (by decide +kernel) (by decide +kernel) (by decide +kernel)
    obtain ⟨b21, f21, e21⟩ := lean_ap (e := (31/50000000000000000 : Rat)) (V := 13/7) (W := 67) (B := 159) (E1 := (7/125000000000000 : Rat)) (E2 := (37/500000000000000 : Rat)) h.x3 h.x0 e23 h.x3.ap (bA23 h) (h.ix3.bd (by decide +kernel) (by decide +kernel)) (by have := bA21 h; unfold A21 at this; have e : Q.x3 - Q.x0 + (a3 - 1) * Q.x3 = a3 * Q.x3 - Q.x0 := (by grind); rw [e]; exact this) (by decide +kernel) (by decide +kernel) (by decide +kernel) (by decide +kernel)
    obtain ⟨b12, f12, e12⟩ := lean_ap (e := (31/50000000000000000 : Rat)) (V := 13/7) (W := 67) (B := 159) (E1 := (7/125000000000000 : Rat)) (E2 := (37/500000000000000 : Rat)) h.y1 h.y0 e13 h.y1.ap (bA13 h) (h.iy1.bd (by decide +kernel) (by decide +kernel)) (by have := bA12 h; unfold A12 at this; have e : Q.y1 - Q.y0 + (a1 - 1) * Q.y1 = a1 * Q.y1 - Q.y0 := (by grind); rw [e]; exact this) (by decide +kernel) (by decide +kernel) (by decide +kernel) (by decide +kernel)
    obtain ⟨b22, f22, e22⟩ := lean_ap (e := (31/50000000000000000 : Rat)) (V := 13/7) (W := 167) (B := 445) (E1 := (7/50000000000000 : Rat)) (E2 := (19/100000000000000 : Rat)) h.y3 h.y0 e23 h.y3.ap (bA23 h) (h.iy3.bd (by decide +kernel) (by decide +kernel)) (by have := bA22 h; unfold A22 at this; have e : Q.y3 - Q.y0 + (a3 - 1) * Q.y3 = a3 * Q.y3 - Q.y0 := (by grind); rw [e]; exact this) (by decide +kernel) (by decide +kernel) (by decide +kernel) (by decide +kernel)
    refine ⟨⟨b11, b21, q.x0, b12, b22, q.y0, a13, a23, f1⟩, ⟨dx3, dy3, hax, hay, Or.inr ⟨?_, dx1, dx2, dy1, dy2, den, nu1, nu2, c1, c2, c3, c4, ⟨w1, w2, c5, c6, c7⟩, ⟨w3, w4, c8, c9, d1⟩, f13, ⟨w5, w6, d2, d3, d4⟩, f23, f11, f21, rfl, f12, f22, rfl, rfl⟩⟩, ?_⟩
    · cases e1 : feq dx3 f0 with
      | false => exact Or.inl rfl
      | true =>
        right
        refine ⟨rfl, ?_⟩
        cases e2 : feq dy3 f0 with
        | false => rfl
        | true => exact absurd ⟨e1, e2⟩ haff
    · have z1 : Ap f1 1 0 := ⟨val_f1.1, by rw [val_f1.2]; unfold Nr; grind⟩
      exact ⟨e11.eq (by unfold A11; grind), e21.eq (by unfold A21; grind), h.x0.ap, e12.eq (by unfold A12; grind), e22.eq (by unfold A22; grind), h.y0.ap, e13, e23, z1⟩

end Go.Proofs.Ytaadklfendegfaa
