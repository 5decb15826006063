/- Weights of four corners, how the map takes them, and how much it spreads. -/
import Derived.Test.YtaadklfendegfaaSb
namespace Go.Proofs.Ytaadklfendegfaa
open Go Fl Geo

structure Wt where
  (w0 w1 w2 w3 : Rat)
theorem Wt.same {a b : Wt} (h0 : a.w0 = b.w0) (h1 : a.w1 = b.w1) (h2 : a.w2 = b.w2) (h3 : a.w3 = b.w3) : a = b := by
  cases a; cases b; dsimp only at h0 h1 h2 h3; subst h0; subst h1; subst h2; subst h3; rfl
structure Wt.OK (w : Wt) : Prop where
  p0 : 0 ≤ w.w0
  p1 : 0 ≤ w.w1
  p2 : 0 ≤ w.w2
  p3 : 0 ≤ w.w3
  sum : w.w0 + w.w1 + w.w2 + w.w3 = 1
def Wt.px (w : Wt) (q : Quad) : Rat := w.w0 * q.x0 + w.w1 * q.x1 + w.w2 * q.x2 + w.w3 * q.x3
def Wt.py (w : Wt) (q : Quad) : Rat := w.w0 * q.y0 + w.w1 * q.y1 + w.w2 * q.y2 + w.w3 * q.y3

structure Tau where
  (t0 t1 t2 t3 : Rat)
def tau (q : Quad) (a1 a3 b1 b3 : Rat) : Tau := ⟨ta0 q a1 a3 b1 b3, ta1 q a1 a3 b1 b3, ta2 q a1 a3 b1 b3, ta3 q a1 a3 b1 b3⟩
def Wt.tot (w : Wt) (t : Tau) : Rat := w.w0 * t.t0 + w.w1 * t.t1 + w.w2 * t.t2 + w.w3 * t.t3
def Wt.img (w : Wt) (t : Tau) : Wt := ⟨w.w0 * t.t0 / w.tot t, w.w1 * t.t1 / w.tot t, w.w2 * t.t2 / w.tot t, w.w3 * t.t3 / w.tot t⟩

/-- four numbers that are not below m -/
structure Tau.Ge (t : Tau) (m : Rat) : Prop where
  pos : 0 < m
  g0 : m ≤ t.t0
  g1 : m ≤ t.t1
  g2 : m ≤ t.t2
  g3 : m ≤ t.t3

theorem tot_ge {w : Wt} {t : Tau} {m : Rat} (hw : w.OK) (ht : t.Ge m) : m ≤ w.tot t := by
  have h0 := Rat.mul_le_mul_of_nonneg_left ht.g0 hw.p0
  have h1 := Rat.mul_le_mul_of_nonneg_left ht.g1 hw.p1
  have h2 := Rat.mul_le_mul_of_nonneg_left ht.g2 hw.p2
  have h3 := Rat.mul_le_mul_of_nonneg_left ht.g3 hw.p3
  have e : m = w.w0 * m + w.w1 * m + w.w2 * m + w.w3 * m := by
    have : (w.w0 + w.w1 + w.w2 + w.w3) * m = m := by rw [hw.sum]; grind
    grind
  unfold Wt.tot
  grind

theorem div_mul' {a b : Rat} (h : 0 < b) : a / b * b = a := Rat.div_mul_cancel (by grind)

theorem img_ok {w : Wt} {t : Tau} {m : Rat} (hw : w.OK) (ht : t.Ge m) : (w.img t).OK := by
  have hp := tot_ge hw ht
  have hm := ht.pos
  have hd : 0 < w.tot t := by grind
  have hn : ∀ a b : Rat, 0 ≤ a → m ≤ b → 0 ≤ a * b / w.tot t := fun a b ha hb => by
    have := Rat.mul_nonneg ha (show 0 ≤ b by grind)
    rw [Rat.div_def]
    exact Rat.mul_nonneg this (by have := Rat.inv_pos.2 hd; grind)
  refine ⟨hn _ _ hw.p0 ht.g0, hn _ _ hw.p1 ht.g1, hn _ _ hw.p2 ht.g2, hn _ _ hw.p3 ht.g3, ?_⟩
  refine cancel hd ?_
  have e0 : w.w0 * t.t0 / w.tot t * w.tot t = _ := div_mul' hd
  have e1 : w.w1 * t.t1 / w.tot t * w.tot t = _ := div_mul' hd
  have e2 : w.w2 * t.t2 / w.tot t * w.tot t = _ := div_mul' hd
  have e3 : w.w3 * t.t3 / w.tot t * w.tot t = _ := div_mul' hd
  show (w.w0 * t.t0 / w.tot t + w.w1 * t.t1 / w.tot t + w.w2 * t.t2 / w.tot t + w.w3 * t.t3 / w.tot t) * w.tot t = 1 * w.tot t
  have e : ∀ a b c d x : Rat, (a + b + c + d) * x = a * x + b * x + c * x + d * x := by grind
  rw [e, e0, e1, e2, e3]
  unfold Wt.tot; grind

/-- by way of a third -/
theorem img_img {w : Wt} {s t u : Tau} {m n l K : Rat} (hw : w.OK) (hs : s.Ge m) (ht : t.Ge n) (hu : u.Ge l) (hK : 0 < K)
    (h0 : s.t0 * t.t0 = K * u.t0) (h1 : s.t1 * t.t1 = K * u.t1) (h2 : s.t2 * t.t2 = K * u.t2) (h3 : s.t3 * t.t3 = K * u.t3) : (w.img s).img t = w.img u := by
  have k1 := tot_ge hw hs
  have k2 := tot_ge (img_ok hw hs) ht
  have k3 := tot_ge hw hu
  have m1 := hs.pos
  have m2 := ht.pos
  have m3 := hu.pos
  have p1 : 0 < w.tot s := by grind
  have p2 : 0 < (w.img s).tot t := by grind
  have p3 : 0 < w.tot u := by grind
  have e0 : w.w0 * s.t0 / w.tot s * w.tot s = _ := div_mul' p1
  have e1 : w.w1 * s.t1 / w.tot s * w.tot s = _ := div_mul' p1
  have e2 : w.w2 * s.t2 / w.tot s * w.tot s = _ := div_mul' p1
  have e3 : w.w3 * s.t3 / w.tot s * w.tot s = _ := div_mul' p1
  have hE : (w.img s).tot t * w.tot s = K * w.tot u := by
    have : (w.img s).tot t * w.tot s = (w.w0 * s.t0 / w.tot s * w.tot s) * t.t0 + (w.w1 * s.t1 / w.tot s * w.tot s) * t.t1 + (w.w2 * s.t2 / w.tot s * w.tot s) * t.t2 + (w.w3 * s.t3 / w.tot s * w.tot s) * t.t3 := by
      unfold Wt.img
      show (_ * t.t0 + _ * t.t1 + _ * t.t2 + _ * t.t3) * _ = _
      grind
    rw [this, e0, e1, e2, e3]
    have f0 : w.w0 * s.t0 * t.t0 = w.w0 * (s.t0 * t.t0) := by grind
    have f1 : w.w1 * s.t1 * t.t1 = w.w1 * (s.t1 * t.t1) := by grind
    have f2 : w.w2 * s.t2 * t.t2 = w.w2 * (s.t2 * t.t2) := by grind
    have f3 : w.w3 * s.t3 * t.t3 = w.w3 * (s.t3 * t.t3) := by grind
    rw [f0, f1, f2, f3, h0, h1, h2, h3]
    unfold Wt.tot; grind
  have one : ∀ a x y z : Rat, x * y = K * z → a * x / w.tot s * y / (w.img s).tot t = a * z / w.tot u := by
    intro a x y z h
    have pp : 0 < K * w.tot u := Rat.mul_pos hK p3
    refine cancel p3 (cancel p2 (cancel p1 ?_))
    have d1 : a * x / w.tot s * y / (w.img s).tot t * (w.img s).tot t = a * x / w.tot s * y := div_mul' p2
    have d2 : a * x / w.tot s * w.tot s = a * x := div_mul' p1
    have d3 : a * z / w.tot u * w.tot u = a * z := div_mul' p3
    have l : a * x / w.tot s * y / (w.img s).tot t * w.tot u * (w.img s).tot t * w.tot s = (a * x / w.tot s * y / (w.img s).tot t * (w.img s).tot t) * w.tot s * w.tot u := by grind
    have l2 : a * x / w.tot s * y * w.tot s * w.tot u = (a * x / w.tot s * w.tot s) * y * w.tot u := by grind
    have r1 : a * z / w.tot u * w.tot u * (w.img s).tot t * w.tot s = (a * z / w.tot u * w.tot u) * ((w.img s).tot t * w.tot s) := by grind
    rw [l, d1, l2, d2, r1, d3, hE]
    have : a * x * y = a * (x * y) := by grind
    rw [this, h]; grind
  have o0 := one w.w0 _ _ _ h0
  have o1 := one w.w1 _ _ _ h1
  have o2 := one w.w2 _ _ _ h2
  have o3 := one w.w3 _ _ _ h3
  exact Wt.same o0 o1 o2 o3

/-- where the four numbers are one -/
theorem img_same {w : Wt} {t : Tau} {m : Rat} (hw : w.OK) (ht : t.Ge m) (h1 : t.t1 = t.t0) (h2 : t.t2 = t.t0) (h3 : t.t3 = t.t0) : w.img t = w := by
  have hm := ht.pos
  have hg := ht.g0
  have hp : 0 < t.t0 := by grind
  have e : w.tot t = t.t0 := by
    unfold Wt.tot; rw [h1, h2, h3]
    have : (w.w0 + w.w1 + w.w2 + w.w3) * t.t0 = t.t0 := by rw [hw.sum]; grind
    grind
  have d : ∀ a : Rat, a * t.t0 / t.t0 = a := fun a => cancel hp (div_mul' hp)
  unfold Wt.img
  rw [e, h1, h2, h3, d, d, d, d]

/-- an affine function of a mean is the mean -/
theorem aff_w {w : Wt} (hw : w.OK) (q : Quad) (c1 c2 c3 : Rat) :
    c1 * w.px q + c2 * w.py q + c3 = w.w0 * (c1 * q.x0 + c2 * q.y0 + c3) + w.w1 * (c1 * q.x1 + c2 * q.y1 + c3) + w.w2 * (c1 * q.x2 + c2 * q.y2 + c3) + w.w3 * (c1 * q.x3 + c2 * q.y3 + c3) := by
  have : (w.w0 + w.w1 + w.w2 + w.w3) * c3 = c3 := by rw [hw.sum]; grind
  unfold Wt.px Wt.py
  grind

theorem px_in {w : Wt} (hw : w.OK) {q : Q8} {Q : Quad} {a1 a3 : Rat} (h : QZ q Q a1 a3) : In (w.px Q) 33 167 ∧ In (w.py Q) 33 167 := by
  have k : ∀ x0 x1 x2 x3 : Rat, In x0 33 167 → In x1 33 167 → In x2 33 167 → In x3 33 167 → In (w.w0 * x0 + w.w1 * x1 + w.w2 * x2 + w.w3 * x3) 33 167 := by
    intro x0 x1 x2 x3 h0 h1 h2 h3
    have hs := hw.sum
    have a0 := Rat.mul_le_mul_of_nonneg_left h0.1 hw.p0
    have a1 := Rat.mul_le_mul_of_nonneg_left h1.1 hw.p1
    have a2 := Rat.mul_le_mul_of_nonneg_left h2.1 hw.p2
    have a3 := Rat.mul_le_mul_of_nonneg_left h3.1 hw.p3
    have b0 := Rat.mul_le_mul_of_nonneg_left h0.2 hw.p0
    have b1 := Rat.mul_le_mul_of_nonneg_left h1.2 hw.p1
    have b2 := Rat.mul_le_mul_of_nonneg_left h2.2 hw.p2
    have b3 := Rat.mul_le_mul_of_nonneg_left h3.2 hw.p3
    unfold In; constructor <;> grind
  have lo : ∀ x : Rat, In x 33 67 → In x 33 167 := fun x h => by unfold In at *; grind
  have hi : ∀ x : Rat, In x 133 167 → In x 33 167 := fun x h => by unfold In at *; grind
  exact ⟨k _ _ _ _ (lo _ h.ix0) (hi _ h.ix1) (hi _ h.ix2) (lo _ h.ix3), k _ _ _ _ (lo _ h.iy0) (lo _ h.iy1) (hi _ h.iy2) (hi _ h.iy3)⟩

/-- a change of an affine function, by what it is at three corners -/
theorem lin_bd {q : Q8} {Q : Quad} {a1 a3 : Rat} (h : QZ q Q a1 a3) {c1 c2 c3 dx dy e B0 B1 B3 : Rat} (hx : Bd dx e) (hy : Bd dy e)
    (g0 : Bd (c1 * Q.x0 + c2 * Q.y0 + c3) B0) (g1 : Bd (c1 * Q.x1 + c2 * Q.y1 + c3) B1) (g3 : Bd (c1 * Q.x3 + c2 * Q.y3 + c3) B3) : Bd (c1 * dx + c2 * dy) (6/125 * e * (B1 + 2 * B0 + B3)) := by
  have i := h.i013.1
  have e1 : (c1 * dx + c2 * dy) * Q.d013 = ((c1 * Q.x1 + c2 * Q.y1 + c3) - (c1 * Q.x0 + c2 * Q.y0 + c3)) * (dx * (Q.y3 - Q.y0) - dy * (Q.x3 - Q.x0)) + ((c1 * Q.x3 + c2 * Q.y3 + c3) - (c1 * Q.x0 + c2 * Q.y0 + c3)) * (dy * (Q.x1 - Q.x0) - dx * (Q.y1 - Q.y0)) := by
    unfold Quad.d013 tri; grind
  have ha : Bd (Q.y3 - Q.y0) 134 := by have := h.iy3; have := h.iy0; unfold In Bd at *; constructor <;> grind
  have hb : Bd (Q.x3 - Q.x0) 34 := by have := h.ix3; have := h.ix0; unfold In Bd at *; constructor <;> grind
  have hc : Bd (Q.x1 - Q.x0) 134 := by have := h.ix1; have := h.ix0; unfold In Bd at *; constructor <;> grind
  have hd : Bd (Q.y1 - Q.y0) 34 := by have := h.iy1; have := h.iy0; unfold In Bd at *; constructor <;> grind
  have t1 := Bd.mul (Bd.sub g1 g0) (Bd.sub (Bd.mul hx ha) (Bd.mul hy hb))
  have t2 := Bd.mul (Bd.sub g3 g0) (Bd.sub (Bd.mul hy hc) (Bd.mul hx hd))
  have t := Bd.add t1 t2
  rw [← e1] at t
  generalize c1 * dx + c2 * dy = L at *
  have hn := t.nonneg
  have er : (B1 + B0) * (e * 134 + e * 34) + (B3 + B0) * (e * 134 + e * 34) = 3500 * (6/125 * e * (B1 + 2 * B0 + B3)) := by grind
  rw [er] at t hn
  generalize 6/125 * e * (B1 + 2 * B0 + B3) = R at *
  unfold Bd at *
  constructor
  · apply Classical.byContradiction; intro hc
    have := Rat.mul_le_mul_of_nonneg_left i (show 0 ≤ -L by grind)
    grind
  · apply Classical.byContradiction; intro hc
    have := Rat.mul_le_mul_of_nonneg_left i (show 0 ≤ L by grind)
    grind

end Go.Proofs.Ytaadklfendegfaa
