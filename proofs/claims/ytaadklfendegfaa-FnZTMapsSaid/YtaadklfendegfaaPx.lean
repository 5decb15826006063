/- One step of the map: where the floats stand, when the point's floats stand near a mean of the corners. -/
import Derived.Test.YtaadklfendegfaaPw
namespace Go.Proofs.Ytaadklfendegfaa
open Go Fl Geo

theorem mul4 {a b c d : Rat} (h : a ≤ b) (k : c ≤ d) (ha : 0 ≤ a) (hd : 0 ≤ d) : a * c ≤ b * d := by
  have h1 := Rat.mul_le_mul_of_nonneg_left k ha
  have h2 := Rat.mul_le_mul_of_nonneg_right h hd
  grind

theorem min4 (a b c d : Rat) : (a ≤ b ∧ a ≤ c ∧ a ≤ d) ∨ (b ≤ a ∧ b ≤ c ∧ b ≤ d) ∨ (c ≤ a ∧ c ≤ b ∧ c ≤ d) ∨ (d ≤ a ∧ d ≤ b ∧ d ≤ c) := by grind

theorem d013_eq {q : Q8} {Q : Quad} {a1 a3 : Rat} (h : QZ q Q a1 a3) : Q.d013 = (a1 + a3 - 1) * Q.d123 := h.F.h2.symm

/-- the four weights, in one way of saying -/
theorem tau_form {q : Q8} {Q : Quad} {a1 a3 : Rat} (h : QZ q Q a1 a3) (b1 b3 : Rat) :
    tau Q a1 a3 b1 b3 = ⟨a1 * a3 * (a1 + a3 - 1) * Q.d123, a3 * b1 * (a1 + a3 - 1) * Q.d123, a1 * a3 * (b1 + b3 - 1) * Q.d123, a1 * b3 * (a1 + a3 - 1) * Q.d123⟩ := by
  unfold tau ta0 ta1 ta2 ta3
  rw [d013_eq h, ← h.F.h3]
  have e0 : a1 * a3 * ((a1 + a3 - 1) * Q.d123) = a1 * a3 * (a1 + a3 - 1) * Q.d123 := by grind
  have e1 : a3 * ((a1 + a3 - 1) * Q.d123) * b1 = a3 * b1 * (a1 + a3 - 1) * Q.d123 := by grind
  have e2 : a1 * (a3 * Q.d123) * (b1 + b3 - 1) = a1 * a3 * (b1 + b3 - 1) * Q.d123 := by grind
  have e3 : a1 * ((a1 + a3 - 1) * Q.d123) * b3 = a1 * b3 * (a1 + a3 - 1) * Q.d123 := by grind
  rw [e0, e1, e2, e3]

theorem tau_ge {q p : Q8} {Q P : Quad} {a1 a3 b1 b3 : Rat} (h : QZ q Q a1 a3) (g : QZ p P b1 b3) :
    ∃ m, 428 ≤ m ∧ (tau Q a1 a3 b1 b3).Ge m ∧ (tau Q a1 a3 b1 b3).t1 + 2 * (tau Q a1 a3 b1 b3).t0 + (tau Q a1 a3 b1 b3).t3 ≤ 62 * m := by
  have hA1 := h.r1
  have hA3 := h.r3
  have hS := h.r2
  have hB1 := g.r1
  have hB3 := g.r3
  have hT := g.r2
  have hc := h.i123.1
  have f1 := h.F.h1
  have f3 := h.F.h3
  have f2 := h.F.h2
  have i12 := h.i012.1
  have i23 := h.i023.1
  have i13 := h.i013.1
  have u1 := h.u1
  have u1' := h.u1'
  have u3 := h.u3
  have u3' := h.u3'
  have r13 := h.r13
  have r31 := h.r31
  have v1 := g.u1
  have v1' := g.u1'
  have v3 := g.u3
  have v3' := g.u3'
  have s13 := g.r13
  have s31 := g.r31
  have hsum : Q.d012 + Q.d023 = Q.d123 + Q.d013 := by grind
  rw [tau_form h]
  clear h g
  unfold In at *
  generalize Q.d012 = d012 at *
  generalize Q.d023 = d023 at *
  generalize Q.d013 = d013 at *
  generalize Q.d123 = c at *
  generalize a1 + a3 - 1 = s at *
  generalize b1 + b3 - 1 = t at *
  dsimp only
  have low : 428 ≤ a1 * a3 * s * c ∧ 428 ≤ a3 * b1 * s * c ∧ 428 ≤ a1 * a3 * t * c ∧ 428 ≤ a1 * b3 * s * c := by
    refine ⟨?_, ?_, ?_, ?_⟩
    · have k1 := mul4 (a := 7/20) (c := 7/20) hA1.1 hA3.1 (by decide +kernel) (by grind)
      have k2 := mul4 (a := 7/20 * (7/20)) (c := 3500) k1 i13 (by decide +kernel) (by grind)
      rw [← f2] at k2; grind
    · have k1 := mul4 (a := 7/20) (c := 7/20) hA3.1 hB1.1 (by decide +kernel) (by grind)
      have k2 := mul4 (a := 7/20 * (7/20)) (c := 3500) k1 i13 (by decide +kernel) (by grind)
      rw [← f2] at k2; grind
    · have k0 : 3500 * c ≤ a1 * c * (a3 * c) := by
        have hz : 0 ≤ (d023 - 3500) * (d012 - 3500) := Rat.mul_nonneg (by grind) (by grind)
        rw [f1, f3]
        grind
      have k0' : 3500 ≤ a1 * (a3 * c) := by
        apply Classical.byContradiction; intro hn
        have : 0 < (3500 - a1 * (a3 * c)) * c := Rat.mul_pos (by grind) (by grind)
        grind
      have k2 := mul4 (a := 3500) (c := 21/100) k0' hT.1 (by decide +kernel) (by grind)
      grind
    · have k1 := mul4 (a := 7/20) (c := 7/20) hA1.1 hB3.1 (by decide +kernel) (by grind)
      have k2 := mul4 (a := 7/20 * (7/20)) (c := 3500) k1 i13 (by decide +kernel) (by grind)
      rw [← f2] at k2; grind
  have pc : 0 ≤ c := by grind
  have p1 : 0 ≤ a1 := by grind
  have p3 : 0 ≤ a3 := by grind
  have ps : 0 ≤ s := by grind
  have q1 : 0 ≤ b1 := by grind
  have q3 : 0 ≤ b3 := by grind
  have pt : 0 ≤ t := by grind
  have a3sc := Rat.mul_nonneg p3 (Rat.mul_nonneg ps pc)
  have a1sc := Rat.mul_nonneg p1 (Rat.mul_nonneg ps pc)
  have a13c := Rat.mul_nonneg p1 (Rat.mul_nonneg p3 pc)
  have sc := Rat.mul_nonneg ps pc
  have a3c := Rat.mul_nonneg p3 pc
  have a1c := Rat.mul_nonneg p1 pc
  have x10 : a3 * b1 * s * c ≤ 400/49 * (a1 * a3 * s * c) := by
    have := Rat.mul_le_mul_of_nonneg_left (show b1 ≤ 400/49 * a1 by grind) a3sc; grind
  have x01 : a1 * a3 * s * c ≤ 400/49 * (a3 * b1 * s * c) := by
    have := Rat.mul_le_mul_of_nonneg_left (show a1 ≤ 400/49 * b1 by grind) a3sc; grind
  have x30 : a1 * b3 * s * c ≤ 400/49 * (a1 * a3 * s * c) := by
    have := Rat.mul_le_mul_of_nonneg_left (show b3 ≤ 400/49 * a3 by grind) a1sc; grind
  have x03 : a1 * a3 * s * c ≤ 400/49 * (a1 * b3 * s * c) := by
    have := Rat.mul_le_mul_of_nonneg_left (show a3 ≤ 400/49 * b3 by grind) a1sc; grind
  have x31 : a1 * b3 * s * c ≤ 10000/441 * (a3 * b1 * s * c) := by
    have k := mul4 (show a1 ≤ 100/21 * a3 by grind) (show b3 ≤ 100/21 * b1 by grind) p1 (by grind)
    have := Rat.mul_le_mul_of_nonneg_left k sc; grind
  have x13 : a3 * b1 * s * c ≤ 10000/441 * (a1 * b3 * s * c) := by
    have k := mul4 (show a3 ≤ 100/21 * a1 by grind) (show b1 ≤ 100/21 * b3 by grind) p3 (by grind)
    have := Rat.mul_le_mul_of_nonneg_left k sc; grind
  have x02 : a1 * a3 * s * c ≤ 10000/441 * (a1 * a3 * t * c) := by
    have := Rat.mul_le_mul_of_nonneg_left (show s ≤ 10000/441 * t by grind) a13c; grind
  have x12 : a3 * b1 * s * c ≤ 400/49 * (a1 * a3 * t * c) := by
    have k := mul4 (show s ≤ 20/7 * a1 by grind) (show b1 ≤ 20/7 * t by grind) ps (by grind)
    have := Rat.mul_le_mul_of_nonneg_left k a3c; grind
  have x32 : a1 * b3 * s * c ≤ 400/49 * (a1 * a3 * t * c) := by
    have k := mul4 (show s ≤ 20/7 * a3 by grind) (show b3 ≤ 20/7 * t by grind) ps (by grind)
    have := Rat.mul_le_mul_of_nonneg_left k a1c; grind
  obtain ⟨l0, l1, l2, l3⟩ := low
  generalize a1 * a3 * s * c = T0 at *
  generalize a3 * b1 * s * c = T1 at *
  generalize a1 * a3 * t * c = T2 at *
  generalize a1 * b3 * s * c = T3 at *
  clear hA1 hA3 hS hB1 hB3 hT f1 f3 f2 i12 i23 i13 u1 u1' u3 u3' r13 r31 v1 v1' v3 v3' s13 s31 a3sc a1sc a13c sc a3c a1c
  rcases min4 T0 T1 T2 T3 with ⟨m1, m2, m3⟩ | ⟨m1, m2, m3⟩ | ⟨m1, m2, m3⟩ | ⟨m1, m2, m3⟩
  · exact ⟨T0, l0, ⟨by grind, by grind, m1, m2, m3⟩, by grind⟩
  · exact ⟨T1, l1, ⟨by grind, m1, by grind, m2, m3⟩, by grind⟩
  · exact ⟨T2, l2, ⟨by grind, m1, m2, by grind, m3⟩, by grind⟩
  · exact ⟨T3, l3, ⟨by grind, m1, m2, m3, by grind⟩, by grind⟩

/-- where the map takes a mean, times the divisor -/
theorem img_DD {w : Wt} (hw : w.OK) {q : Q8} {Q : Quad} {a1 a3 : Rat} (h : QZ q Q a1 a3) (b1 b3 : Rat) : DD Q a1 a3 b1 b3 (w.px Q) (w.py Q) = w.tot (tau Q a1 a3 b1 b3) := by
  have e : DD Q a1 a3 b1 b3 (w.px Q) (w.py Q) = w.w0 * DD Q a1 a3 b1 b3 Q.x0 Q.y0 + w.w1 * DD Q a1 a3 b1 b3 Q.x1 Q.y1 + w.w2 * DD Q a1 a3 b1 b3 Q.x2 Q.y2 + w.w3 * DD Q a1 a3 b1 b3 Q.x3 Q.y3 := by
    unfold DD; exact aff_w hw Q _ _ _
  rw [e, DD0, DD1, DD2 h.F, DD3]; rfl

theorem img_NX {w : Wt} (hw : w.OK) {q p : Q8} {Q P : Quad} {a1 a3 b1 b3 : Rat} (h : QZ q Q a1 a3) (g : QZ p P b1 b3) {m : Rat} (hm : (tau Q a1 a3 b1 b3).Ge m) :
    NX Q P a1 a3 b1 b3 (w.px Q) (w.py Q) = (w.img (tau Q a1 a3 b1 b3)).px P * w.tot (tau Q a1 a3 b1 b3) := by
  have e : NX Q P a1 a3 b1 b3 (w.px Q) (w.py Q) = w.w0 * NX Q P a1 a3 b1 b3 Q.x0 Q.y0 + w.w1 * NX Q P a1 a3 b1 b3 Q.x1 Q.y1 + w.w2 * NX Q P a1 a3 b1 b3 Q.x2 Q.y2 + w.w3 * NX Q P a1 a3 b1 b3 Q.x3 Q.y3 := by
    unfold NX; exact aff_w hw Q _ _ _
  rw [e, NX0, NX1, NX2 h.F g.F, NX3]
  have hd : 0 < w.tot (tau Q a1 a3 b1 b3) := by have := tot_ge hw hm; have := hm.pos; grind
  show _ = (_ / _ * P.x0 + _ / _ * P.x1 + _ / _ * P.x2 + _ / _ * P.x3) * _
  have k : ∀ a b c d x D : Rat, (a * P.x0 + b * P.x1 + c * P.x2 + d * P.x3) * D = (a * D) * P.x0 + (b * D) * P.x1 + (c * D) * P.x2 + (d * D) * P.x3 := by grind
  rw [k _ _ _ _ 0, div_mul' hd, div_mul' hd, div_mul' hd, div_mul' hd]
  unfold tau; grind

theorem img_NY {w : Wt} (hw : w.OK) {q p : Q8} {Q P : Quad} {a1 a3 b1 b3 : Rat} (h : QZ q Q a1 a3) (g : QZ p P b1 b3) {m : Rat} (hm : (tau Q a1 a3 b1 b3).Ge m) :
    NY Q P a1 a3 b1 b3 (w.px Q) (w.py Q) = (w.img (tau Q a1 a3 b1 b3)).py P * w.tot (tau Q a1 a3 b1 b3) := by
  have e : NY Q P a1 a3 b1 b3 (w.px Q) (w.py Q) = w.w0 * NY Q P a1 a3 b1 b3 Q.x0 Q.y0 + w.w1 * NY Q P a1 a3 b1 b3 Q.x1 Q.y1 + w.w2 * NY Q P a1 a3 b1 b3 Q.x2 Q.y2 + w.w3 * NY Q P a1 a3 b1 b3 Q.x3 Q.y3 := by
    unfold NY; exact aff_w hw Q _ _ _
  rw [e, NY0, NY1, NY2 h.F g.F, NY3]
  have hd : 0 < w.tot (tau Q a1 a3 b1 b3) := by have := tot_ge hw hm; have := hm.pos; grind
  show _ = (_ / _ * P.y0 + _ / _ * P.y1 + _ / _ * P.y2 + _ / _ * P.y3) * _
  have k : ∀ a b c d x D : Rat, (a * P.y0 + b * P.y1 + c * P.y2 + d * P.y3) * D = (a * D) * P.y0 + (b * D) * P.y1 + (c * D) * P.y2 + (d * D) * P.y3 := by grind
  rw [k _ _ _ _ 0, div_mul' hd, div_mul' hd, div_mul' hd, div_mul' hd]
  unfold tau; grind

end Go.Proofs.Ytaadklfendegfaa
