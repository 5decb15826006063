/- All that the walk of FnZSLeaning asks of the numbers. -/
import Derived.Test.YtaadklfendegfaaKb
import Derived.Test.YtaadklfendegfaaXp
import Derived.Test.YtaadklfendegfaaLw

/- The map of a picture's quadrilateral to a grid, found by elimination in floats. -/
namespace Go.Proofs.Ytaadklfendegfaa
open Go Fl Geo

def e0L (t : Bool) (c : Nat) : Rat :=
  if t then (match c with | 0 => 92 | 1 => 92 | 2 => 1 | 3 => 0 | 4 => 0 | 5 => 0 | 6 => 1200 | 7 => 1200 | _ => 13)
  else (match c with | 0 => 0 | 1 => 0 | 2 => 0 | 3 => 92 | 4 => 92 | 5 => 1 | 6 => 1200 | 7 => 1200 | _ => 13)
def KF : Nat → Rat
  | 0 => 18 | 1 => 18 | 2 => 320 | 3 => 18 | 4 => 18 | 5 => 320 | _ => 14/10
def WlL : Nat → Rat
  | 0 => u53 * 277 | 1 => u53 * 834 | 2 => u53 * 22 | 3 => u53 * 557 | 4 => u53 * 1116 | 5 => u53 * 25 | 6 => u53 * 84441 | 7 => u53 * 143575 | _ => u53 * 1556
def WuL : Nat → Rat
  | 0 => u53 * 0 | 1 => u53 * 570 | 2 => u53 * 19 | 3 => u53 * 1532 | 4 => u53 * 2683 | 5 => u53 * 46 | 6 => u53 * 85119 | 7 => u53 * 145628 | _ => u53 * 1672

theorem parL : Par e0L KF WlL WuL where
  sz := {
    z := fun t c hc => (by decide +kernel : ∀ t : Bool, ∀ c : Fin 9, e0L t c.1 = 0 ∨ 1 ≤ e0L t c.1) t ⟨c, hc⟩
    zero := fun t c hc h => (by decide +kernel : ∀ t : Bool, ∀ c : Fin 6, own t c.1 = false → e0L t c.1 = 0) t ⟨c, hc⟩ h
    same := fun t t' c h6 hc => (by decide +kernel : ∀ t t' : Bool, ∀ c : Fin 9, 6 ≤ c.1 → e0L t c.1 = e0L t' c.1) t t' ⟨c, hc⟩ h6
    hi := fun t c hc => (by decide +kernel : ∀ t : Bool, ∀ c : Fin 9, e0L t c.1 ≤ 10^6) t ⟨c, hc⟩ }
  Kp := fun r hr => (by decide +kernel : ∀ r : Fin 8, 0 < KF r.1) ⟨r, hr⟩
  Kh := fun r hr => (by decide +kernel : ∀ r : Fin 8, KF r.1 ≤ 5000) ⟨r, hr⟩
  wl0 := fun c hc => (by decide +kernel : ∀ c : Fin 9, 0 ≤ WlL c.1) ⟨c, hc⟩
  wu0 := fun c hc => (by decide +kernel : ∀ c : Fin 9, 0 ≤ WuL c.1) ⟨c, hc⟩
  wl := fun t j c hj hc => (by decide +kernel : ∀ t : Bool, ∀ j c : Fin 9, eL e0L t j.1 c.1 ≤ WlL c.1) t ⟨j, by omega⟩ ⟨c, hc⟩
  wu := fun t j c hj hc => (by decide +kernel : ∀ t : Bool, ∀ j c : Fin 9, eU e0L t j.1 c.1 ≤ WuL c.1) t ⟨j, by omega⟩ ⟨c, hc⟩
  om := by decide +kernel
  omk := fun c hc => (by decide +kernel : ∀ c : Fin 8, KF c.1 * (WlL c.1 + WuL c.1) ≤ 1/1000) ⟨c, hc⟩
  sm := fun c hc => (by decide +kernel : ∀ c : Fin 9, WlL c.1 + WuL c.1 ≤ 1/10^6) ⟨c, hc⟩

/-- the grid's corners' numbers -/
def gX (W : Nat) (k : Nat) : Rat := if k = 1 ∨ k = 2 then (W : Rat) else 0
def gY (H : Nat) (k : Nat) : Rat := if k = 2 ∨ k = 3 then (H : Rat) else 0

def d1 : Rat := 2/10^11
def d2 : Rat := 3/10^10

/-- the two rows of a corner, near the exact ones -/
structure EvenA (x y u : Rat) (R : Nat → Nat) : Prop where
  fin : ∀ c, c < 9 → Fl.fin (R c)
  v0 : Nr (val (R 0)) x d1
  v1 : Nr (val (R 1)) y d1
  v2 : val (R 2) = 1
  v3 : val (R 3) = 0
  v4 : val (R 4) = 0
  v5 : val (R 5) = 0
  v6 : Nr (val (R 6)) (-(u * x)) d2
  v7 : Nr (val (R 7)) (-(u * y)) d2
  v8 : val (R 8) = u
structure OddA (x y u : Rat) (R : Nat → Nat) : Prop where
  fin : ∀ c, c < 9 → Fl.fin (R c)
  v0 : val (R 0) = 0
  v1 : val (R 1) = 0
  v2 : val (R 2) = 0
  v3 : Nr (val (R 3)) x d1
  v4 : Nr (val (R 4)) y d1
  v5 : val (R 5) = 1
  v6 : Nr (val (R 6)) (-(u * x)) d2
  v7 : Nr (val (R 7)) (-(u * y)) d2
  v8 : val (R 8) = u

/-- by how much weights may mistake a row -/
def tiny (f : Nat → Rat) : Rat := d1 * (ab (f 0) + ab (f 1) + ab (f 3) + ab (f 4)) + d2 * (ab (f 6) + ab (f 7))
theorem tiny_nonneg (f : Nat → Rat) : 0 ≤ tiny f := by
  have h0 := ab_nonneg (f 0)
  have h1 := ab_nonneg (f 1)
  have h3 := ab_nonneg (f 3)
  have h4 := ab_nonneg (f 4)
  have h6 := ab_nonneg (f 6)
  have h7 := ab_nonneg (f 7)
  have a := Rat.mul_nonneg (show 0 ≤ d1 by decide +kernel) (show 0 ≤ ab (f 0) + ab (f 1) + ab (f 3) + ab (f 4) by grind)
  have b := Rat.mul_nonneg (show 0 ≤ d2 by decide +kernel) (show 0 ≤ ab (f 6) + ab (f 7) by grind)
  unfold tiny; grind

theorem off_bd {f v w d : Rat} (h : Nr v w d) : Bd (f * (v - w)) (d * ab f) := by
  have := Bd.mul (ab_bd f) (show Bd (v - w) d by unfold Nr Bd at *; constructor <;> grind)
  exact this.mono (by grind)

theorem even_near {x y u : Rat} {R : Nat → Nat} (h : EvenA x y u R) (f : Nat → Rat) : Bd ((ph f R 0 - f 8 * val (R 8)) - (f 0 * x + f 1 * y + f 2 - u * (f 6 * x + f 7 * y))) (tiny f) := by
  have k0 := off_bd (f := f 0) h.v0
  have k1 := off_bd (f := f 1) h.v1
  have k6 := off_bd (f := f 6) h.v6
  have k7 := off_bd (f := f 7) h.v7
  have n3 := Rat.mul_nonneg (show 0 ≤ d1 by decide +kernel) (ab_nonneg (f 3))
  have n4 := Rat.mul_nonneg (show 0 ≤ d1 by decide +kernel) (ab_nonneg (f 4))
  have e : (ph f R 0 - f 8 * val (R 8)) - (f 0 * x + f 1 * y + f 2 - u * (f 6 * x + f 7 * y)) = f 0 * (val (R 0) - x) + f 1 * (val (R 1) - y) + f 6 * (val (R 6) - -(u * x)) + f 7 * (val (R 7) - -(u * y)) := by
    unfold ph
    rw [h.v2, h.v3, h.v4, h.v5]
    simp; grind
  rw [e]
  unfold tiny
  unfold Bd at *
  constructor <;> grind
theorem odd_near {x y u : Rat} {R : Nat → Nat} (h : OddA x y u R) (f : Nat → Rat) : Bd ((ph f R 0 - f 8 * val (R 8)) - (f 3 * x + f 4 * y + f 5 - u * (f 6 * x + f 7 * y))) (tiny f) := by
  have k0 := off_bd (f := f 3) h.v3
  have k1 := off_bd (f := f 4) h.v4
  have k6 := off_bd (f := f 6) h.v6
  have k7 := off_bd (f := f 7) h.v7
  have n3 := Rat.mul_nonneg (show 0 ≤ d1 by decide +kernel) (ab_nonneg (f 0))
  have n4 := Rat.mul_nonneg (show 0 ≤ d1 by decide +kernel) (ab_nonneg (f 1))
  have e : (ph f R 0 - f 8 * val (R 8)) - (f 3 * x + f 4 * y + f 5 - u * (f 6 * x + f 7 * y)) = f 3 * (val (R 3) - x) + f 4 * (val (R 4) - y) + f 6 * (val (R 6) - -(u * x)) + f 7 * (val (R 7) - -(u * y)) := by
    unfold ph
    rw [h.v0, h.v1, h.v2, h.v5]
    simp; grind
  rw [e]
  unfold tiny
  unfold Bd at *
  constructor <;> grind

/-- the table, near the exact one -/
structure TabL (S : Quad) (W H : Nat) (M0 : Nat → Nat → Nat) : Prop where
  ev : ∀ k, k < 4 → EvenA (S.cen.X k) (S.cen.Y k) (gX W k) (M0 (2 * k))
  od : ∀ k, k < 4 → OddA (S.cen.X k) (S.cen.Y k) (gY H k) (M0 (2 * k + 1))

theorem inveF {q : Q8} {Q : Quad} {a1 a3 : Rat} (h : QZ q Q a1 a3) {W H : Nat} (hW : 2 ≤ W ∧ W ≤ 13) (hH : 2 ≤ H ∧ H ≤ 13) {M0 : Nat → Nat → Nat} (ht : TabL Q.str W H M0) : Inve M0 KF := by
  intro f m hf
  have hm : 0 ≤ m := (hf 0 (by omega)).nonneg
  have ht0 := tiny_nonneg f
  have wW : (2:Rat) ≤ (W : Rat) ∧ (W : Rat) ≤ 13 := ⟨by exact_mod_cast hW.1, by exact_mod_cast hW.2⟩
  have wH : (2:Rat) ≤ (H : Rat) ∧ (H : Rat) ≤ 13 := ⟨by exact_mod_cast hH.1, by exact_mod_cast hH.2⟩
  have E : ∀ k, k < 4 → Bd (f 0 * Q.str.cen.X k + f 1 * Q.str.cen.Y k + f 2 - gX W k * (f 6 * Q.str.cen.X k + f 7 * Q.str.cen.Y k)) (m + tiny f) := fun k hk => by
    have a := even_near (ht.ev k hk) f
    have b := hf (2 * k) (by omega)
    unfold Bd at *; constructor <;> grind
  have O : ∀ k, k < 4 → Bd (f 3 * Q.str.cen.X k + f 4 * Q.str.cen.Y k + f 5 - gY H k * (f 6 * Q.str.cen.X k + f 7 * Q.str.cen.Y k)) (m + tiny f) := fun k hk => by
    have a := odd_near (ht.od k hk) f
    have b := hf (2 * k + 1) (by omega)
    unfold Bd at *; constructor <;> grind
  have z : ∀ x y B : Rat, Bd (x - 0 * y) B → Bd x B := by
    intro x y B h
    have e : x - 0 * y = x := by grind
    rw [e] at h; exact h
  have key := inveL h wW wH (f := f) (m := m + tiny f) (z _ _ _ (E 0 (by omega))) (E 1 (by omega)) (E 2 (by omega)) (z _ _ _ (E 3 (by omega))) (z _ _ _ (O 0 (by omega))) (z _ _ _ (O 1 (by omega))) (O 2 (by omega)) (O 3 (by omega))
  have k0 := ab_le (key 0 (by omega))
  have k1 := ab_le (key 1 (by omega))
  have k3 := ab_le (key 3 (by omega))
  have k4 := ab_le (key 4 (by omega))
  have k6 := ab_le (key 6 (by omega))
  have k7 := ab_le (key 7 (by omega))
  have ht1 : tiny f ≤ 1/1000 * m := by
    have q0 : KL 0 = 17 ∧ KL 1 = 17 ∧ KL 3 = 17 ∧ KL 4 = 17 ∧ KL 6 = 13/10 ∧ KL 7 = 13/10 := ⟨rfl, rfl, rfl, rfl, rfl, rfl⟩
    obtain ⟨q0, q1, q3, q4, q6, q7⟩ := q0
    rw [q0] at k0
    rw [q1] at k1
    rw [q3] at k3
    rw [q4] at k4
    rw [q6] at k6
    rw [q7] at k7
    have a := Rat.mul_le_mul_of_nonneg_left (show ab (f 0) + ab (f 1) + ab (f 3) + ab (f 4) ≤ 68 * (m + tiny f) by grind) (show 0 ≤ d1 by decide +kernel)
    have b := Rat.mul_le_mul_of_nonneg_left (show ab (f 6) + ab (f 7) ≤ 3 * (m + tiny f) by grind) (show 0 ≤ d2 by decide +kernel)
    have c : tiny f ≤ (d1 * 68 + d2 * 3) * (m + tiny f) := by
      have e : tiny f = d1 * (ab (f 0) + ab (f 1) + ab (f 3) + ab (f 4)) + d2 * (ab (f 6) + ab (f 7)) := rfl
      rw [e] at a b ⊢
      grind
    have e := Rat.mul_le_mul_of_nonneg_right (show d1 * 68 + d2 * 3 ≤ 1/2000 by decide +kernel) (show 0 ≤ m + tiny f by grind)
    grind
  intro r hr
  have hK : KL r * (1001/1000) ≤ KF r := (by decide +kernel : ∀ r : Fin 8, KL r.1 * (1001/1000) ≤ KF r.1) ⟨r, hr⟩
  have hK0 : 0 ≤ KL r := (by decide +kernel : ∀ r : Fin 8, 0 ≤ KL r.1) ⟨r, hr⟩
  have a := Rat.mul_le_mul_of_nonneg_left (show m + tiny f ≤ 1001/1000 * m by grind) hK0
  have b := Rat.mul_le_mul_of_nonneg_right hK hm
  exact (key r hr).mono (by grind)

def zbL : Nat → Rat
  | 0 => 1 | 1 => 1 | 2 => 13 | 3 => 1 | 4 => 1 | 5 => 13 | 6 => 1/16 | 7 => 1/16 | _ => 1
def dL' : Nat → Rat
  | 0 => 1/10^8 | 1 => 1/10^8 | 2 => 2/10^7 | 3 => 1/10^8 | 4 => 1/10^8 | 5 => 2/10^7 | _ => 1/10^9

/-- eight numbers, and less one -/
def nineL (a b c d e f g h : Rat) : Nat → Rat
  | 0 => a | 1 => b | 2 => c | 3 => d | 4 => e | 5 => f | 6 => g | 7 => h | _ => -1

theorem bdL {q : Q8} {Q : Quad} {a1 a3 : Rat} (h : QZ q Q a1 a3) {a b c k0 k1 k2 k3 t : Rat}
    (h0 : a * (Q.str.x0 - Q.str.mx) + b * (Q.str.y0 - Q.str.my) + c = k0) (h1 : a * (Q.str.x1 - Q.str.mx) + b * (Q.str.y1 - Q.str.my) + c = k1) (h2 : a * (Q.str.x2 - Q.str.mx) + b * (Q.str.y2 - Q.str.my) + c = k2) (h3 : a * (Q.str.x3 - Q.str.mx) + b * (Q.str.y3 - Q.str.my) + c = k3)
    (g1 : -k0 + k1 + k2 - k3 ≤ 4 * t ∧ -(4 * t) ≤ -k0 + k1 + k2 - k3) (g2 : -k0 - k1 + k2 + k3 ≤ 4 * t ∧ -(4 * t) ≤ -k0 - k1 + k2 + k3) :
    Bd a (t / 16) ∧ Bd b (t / 16) ∧ 4 * c = k0 + k1 + k2 + k3 := by
  have i0 := h.ix0
  have i1 := h.ix1
  have i2 := h.ix2
  have i3 := h.ix3
  have j0 := h.iy0
  have j1 := h.iy1
  have j2 := h.iy2
  have j3 := h.iy3
  unfold In at *
  have s := slope_small (a := 6/5 * a) (b := 6/5 * b) (X := Q.x1 + Q.x2 - Q.x0 - Q.x3) (Y := Q.y1 + Q.y2 - Q.y0 - Q.y3) (X' := Q.x2 + Q.x3 - Q.x0 - Q.x1) (Y' := Q.y2 + Q.y3 - Q.y0 - Q.y1) (t := t)
    (by grind) (by constructor <;> grind) (by grind) (by constructor <;> grind) (by
      have e : 6/5 * a * (Q.x1 + Q.x2 - Q.x0 - Q.x3) + 6/5 * b * (Q.y1 + Q.y2 - Q.y0 - Q.y3) = -k0 + k1 + k2 - k3 := by rw [← h0, ← h1, ← h2, ← h3]; unfold Quad.str; dsimp only; grind
      rw [e]; exact g1) (by
      have e : 6/5 * a * (Q.x2 + Q.x3 - Q.x0 - Q.x1) + 6/5 * b * (Q.y2 + Q.y3 - Q.y0 - Q.y1) = -k0 - k1 + k2 + k3 := by rw [← h0, ← h1, ← h2, ← h3]; unfold Quad.str; dsimp only; grind
      rw [e]; exact g2)
  refine ⟨by unfold Bd; constructor <;> grind, by unfold Bd; constructor <;> grind, ?_⟩
  rw [← h0, ← h1, ← h2, ← h3]
  unfold Quad.mx Quad.my
  grind

/-- the exact numbers -/
theorem solL {q : Q8} {Q : Quad} {a1 a3 : Rat} (h : QZ q Q a1 a3) {W H : Nat} (hW : 2 ≤ W ∧ W ≤ 13) (hH : 2 ≤ H ∧ H ≤ 13) :
    ∃ (z : Nat → Rat) (J : Rat), z 8 = -1 ∧ J * WW Q.str a1 a3 Q.str.mx Q.str.my = 1 ∧ (∀ k, k < 4 → z 0 * Q.str.cen.X k + z 1 * Q.str.cen.Y k + z 2 - gX W k * (z 6 * Q.str.cen.X k + z 7 * Q.str.cen.Y k) = gX W k) ∧
      (∀ k, k < 4 → z 3 * Q.str.cen.X k + z 4 * Q.str.cen.Y k + z 5 - gY H k * (z 6 * Q.str.cen.X k + z 7 * Q.str.cen.Y k) = gY H k) ∧ (∀ c, c < 9 → ab (z c) ≤ zbL c) ∧
      ∀ x y, z 6 * (x - Q.str.mx) + z 7 * (y - Q.str.my) + 1 = J * WW Q.str a1 a3 x y ∧ z 0 * (x - Q.str.mx) + z 1 * (y - Q.str.my) + z 2 = W * (J * XX Q.str a1 a3 x y) ∧ z 3 * (x - Q.str.mx) + z 4 * (y - Q.str.my) + z 5 = H * (J * YY Q.str a1 a3 x y) := by
  obtain ⟨m, hm⟩ := wis h
  have F := str_F h.F
  have wW : (2:Rat) ≤ (W : Rat) ∧ (W : Rat) ≤ 13 := ⟨by exact_mod_cast hW.1, by exact_mod_cast hW.2⟩
  have wH : (2:Rat) ≤ (H : Rat) ∧ (H : Rat) ≤ 13 := ⟨by exact_mod_cast hH.1, by exact_mod_cast hH.2⟩
  have hmid : (⟨1/4, 1/4, 1/4, 1/4⟩ : Wt).OK := ⟨by decide +kernel, by decide +kernel, by decide +kernel, by decide +kernel, by decide +kernel⟩
  have eW := WW_w hmid Q.str a1 a3 F
  have ex : (⟨1/4, 1/4, 1/4, 1/4⟩ : Wt).px Q.str = Q.str.mx := by unfold Wt.px Quad.mx; dsimp only; grind
  have ey : (⟨1/4, 1/4, 1/4, 1/4⟩ : Wt).py Q.str = Q.str.my := by unfold Wt.py Quad.my; dsimp only; grind
  rw [ex, ey] at eW
  dsimp only at eW
  have hcp : 0 < WW Q.str a1 a3 Q.str.mx Q.str.my := by
    have := hm.pos
    have := hm.g0
    have := hm.g1
    have := hm.g2
    have := hm.g3
    grind
  obtain ⟨J, hJe⟩ : ∃ J, J = (WW Q.str a1 a3 Q.str.mx Q.str.my)⁻¹ := ⟨_, rfl⟩
  have hJ : J * WW Q.str a1 a3 Q.str.mx Q.str.my = 1 := by rw [hJe]; exact Rat.inv_mul_cancel _ (by grind)
  have hJp : 0 < J := by rw [hJe]; exact Rat.inv_pos.2 hcp
  clear hJe
  -- the corners
  have w0 : WW Q.str a1 a3 Q.str.x0 Q.str.y0 = a1 * a3 * Q.str.d013 := WW0
  have w1 : WW Q.str a1 a3 Q.str.x1 Q.str.y1 = a3 * Q.str.d013 := WW1
  have w2 : WW Q.str a1 a3 Q.str.x2 Q.str.y2 = a1 * Q.str.d012 := WW2 F
  have w3 : WW Q.str a1 a3 Q.str.x3 Q.str.y3 = a1 * Q.str.d013 := WW3
  have x0 : XX Q.str a1 a3 Q.str.x0 Q.str.y0 = 0 := XX0
  have x1 : XX Q.str a1 a3 Q.str.x1 Q.str.y1 = WW Q.str a1 a3 Q.str.x1 Q.str.y1 := by rw [XX1, WW1]
  have x2 : XX Q.str a1 a3 Q.str.x2 Q.str.y2 = WW Q.str a1 a3 Q.str.x2 Q.str.y2 := by rw [XX2 F, WW2 F]
  have x3 : XX Q.str a1 a3 Q.str.x3 Q.str.y3 = 0 := XX3
  have y0 : YY Q.str a1 a3 Q.str.x0 Q.str.y0 = 0 := YY0
  have y1 : YY Q.str a1 a3 Q.str.x1 Q.str.y1 = 0 := YY1
  have y2 : YY Q.str a1 a3 Q.str.x2 Q.str.y2 = WW Q.str a1 a3 Q.str.x2 Q.str.y2 := by rw [YY2, WW2 F]
  have y3 : YY Q.str a1 a3 Q.str.x3 Q.str.y3 = WW Q.str a1 a3 Q.str.x3 Q.str.y3 := by rw [YY3, WW3]
  have hp0 := Rat.mul_nonneg (Rat.le_of_lt hJp) (show 0 ≤ WW Q.str a1 a3 Q.str.x0 Q.str.y0 by rw [w0]; have := hm.g0; have := hm.pos; grind)
  have hp1 := Rat.mul_nonneg (Rat.le_of_lt hJp) (show 0 ≤ WW Q.str a1 a3 Q.str.x1 Q.str.y1 by rw [w1]; have := hm.g1; have := hm.pos; grind)
  have hp2 := Rat.mul_nonneg (Rat.le_of_lt hJp) (show 0 ≤ WW Q.str a1 a3 Q.str.x2 Q.str.y2 by rw [w2]; have := hm.g2; have := hm.pos; grind)
  have hp3 := Rat.mul_nonneg (Rat.le_of_lt hJp) (show 0 ≤ WW Q.str a1 a3 Q.str.x3 Q.str.y3 by rw [w3]; have := hm.g3; have := hm.pos; grind)
  have hsum : J * WW Q.str a1 a3 Q.str.x0 Q.str.y0 + J * WW Q.str a1 a3 Q.str.x1 Q.str.y1 + J * WW Q.str a1 a3 Q.str.x2 Q.str.y2 + J * WW Q.str a1 a3 Q.str.x3 Q.str.y3 = 4 := by
    rw [eW] at hJ; rw [w0, w1, w2, w3]; grind
  have aff : ∀ x y, (J * O13 Q.str a1 a3 * (x - Q.str.mx) + J * O23 Q.str a1 a3 * (y - Q.str.my) + 1 = J * WW Q.str a1 a3 x y) ∧
      ((W * J) * O11 Q.str a1 a3 * (x - Q.str.mx) + (W * J) * O21 Q.str a1 a3 * (y - Q.str.my) + (W * J) * XX Q.str a1 a3 Q.str.mx Q.str.my = W * (J * XX Q.str a1 a3 x y)) ∧
      ((H * J) * O12 Q.str a1 a3 * (x - Q.str.mx) + (H * J) * O22 Q.str a1 a3 * (y - Q.str.my) + (H * J) * YY Q.str a1 a3 Q.str.mx Q.str.my = H * (J * YY Q.str a1 a3 x y)) := by
    intro x y
    refine ⟨?_, ?_, ?_⟩
    · rw [← hJ]; unfold WW; grind
    · unfold XX; grind
    · unfold YY; grind
  have cX : ∀ k, k < 4 → Q.str.cen.X k = Q.str.X k - Q.str.mx ∧ Q.str.cen.Y k = Q.str.Y k - Q.str.my := fun k hk => by
    rcases (show k = 0 ∨ k = 1 ∨ k = 2 ∨ k = 3 by omega) with rfl | rfl | rfl | rfl <;> exact ⟨rfl, rfl⟩
  have one : ∀ a b c g z u D : Rat, a + b + c = u * D → g + z + 1 = D → a + b + c - u * (g + z) = u := by
    intro a b c g z u D h1 h2
    rw [h1]
    have : g + z = D - 1 := by grind
    rw [this]; grind
  refine ⟨nineL ((W * J) * O11 Q.str a1 a3) ((W * J) * O21 Q.str a1 a3) ((W * J) * XX Q.str a1 a3 Q.str.mx Q.str.my) ((H * J) * O12 Q.str a1 a3) ((H * J) * O22 Q.str a1 a3) ((H * J) * YY Q.str a1 a3 Q.str.mx Q.str.my) (J * O13 Q.str a1 a3) (J * O23 Q.str a1 a3), J, rfl, hJ, ?_, ?_, ?_, aff⟩
  · intro k hk
    obtain ⟨g1, g2, _⟩ := aff (Q.str.X k) (Q.str.Y k)
    rw [(cX k hk).1, (cX k hk).2]
    refine one _ _ _ _ _ _ _ (g2.trans ?_) g1
    rcases (show k = 0 ∨ k = 1 ∨ k = 2 ∨ k = 3 by omega) with rfl | rfl | rfl | rfl
    · show W * (J * XX Q.str a1 a3 Q.str.x0 Q.str.y0) = 0 * _; rw [x0]; grind
    · show W * (J * XX Q.str a1 a3 Q.str.x1 Q.str.y1) = W * _; rw [x1]; rfl
    · show W * (J * XX Q.str a1 a3 Q.str.x2 Q.str.y2) = W * _; rw [x2]; rfl
    · show W * (J * XX Q.str a1 a3 Q.str.x3 Q.str.y3) = 0 * _; rw [x3]; grind
  · intro k hk
    obtain ⟨g1, _, g2⟩ := aff (Q.str.X k) (Q.str.Y k)
    rw [(cX k hk).1, (cX k hk).2]
    refine one _ _ _ _ _ _ _ (g2.trans ?_) g1
    rcases (show k = 0 ∨ k = 1 ∨ k = 2 ∨ k = 3 by omega) with rfl | rfl | rfl | rfl
    · show H * (J * YY Q.str a1 a3 Q.str.x0 Q.str.y0) = 0 * _; rw [y0]; grind
    · show H * (J * YY Q.str a1 a3 Q.str.x1 Q.str.y1) = 0 * _; rw [y1]; grind
    · show H * (J * YY Q.str a1 a3 Q.str.x2 Q.str.y2) = H * _; rw [y2]; rfl
    · show H * (J * YY Q.str a1 a3 Q.str.x3 Q.str.y3) = H * _; rw [y3]; rfl
  · have a0 := aff Q.str.x0 Q.str.y0
    have a1' := aff Q.str.x1 Q.str.y1
    have a2 := aff Q.str.x2 Q.str.y2
    have a3' := aff Q.str.x3 Q.str.y3
    rw [x0, y0] at a0
    rw [x1, y1] at a1'
    rw [x2, y2] at a2
    rw [x3, y3] at a3'
    clear aff cX one x0 x1 x2 x3 y0 y1 y2 y3 w0 w1 w2 w3 eW hm hJ hcp
    generalize J * WW Q.str a1 a3 Q.str.x0 Q.str.y0 = t0 at *
    generalize J * WW Q.str a1 a3 Q.str.x1 Q.str.y1 = t1 at *
    generalize J * WW Q.str a1 a3 Q.str.x2 Q.str.y2 = t2 at *
    generalize J * WW Q.str a1 a3 Q.str.x3 Q.str.y3 = t3 at *
    have mW : ∀ V x : Rat, 2 ≤ V ∧ V ≤ 13 → 0 ≤ x → 0 ≤ V * x ∧ V * x ≤ 13 * x := by
      intro V x hV hx
      exact ⟨Rat.mul_nonneg (by grind) hx, Rat.mul_le_mul_of_nonneg_right hV.2 hx⟩
    have m1 := mW _ _ wW hp1
    have m2 := mW _ _ wW hp2
    have n2 := mW _ _ wH hp2
    have n3 := mW _ _ wH hp3
    have bg := bdL h (t := 1) a0.1 a1'.1 a2.1 a3'.1 (by constructor <;> grind) (by constructor <;> grind)
    have bx := bdL h (t := 13) a0.2.1 a1'.2.1 a2.2.1 a3'.2.1 (by constructor <;> grind) (by constructor <;> grind)
    have by' := bdL h (t := 13) a0.2.2 a1'.2.2 a2.2.2 a3'.2.2 (by constructor <;> grind) (by constructor <;> grind)
    obtain ⟨g1, g2, _⟩ := bg
    obtain ⟨b1, b2, b3⟩ := bx
    obtain ⟨c1, c2, c3⟩ := by'
    have b3' : Bd ((W * J) * XX Q.str a1 a3 Q.str.mx Q.str.my) 13 := by unfold Bd; constructor <;> grind
    have c3' : Bd ((H * J) * YY Q.str a1 a3 Q.str.mx Q.str.my) 13 := by unfold Bd; constructor <;> grind
    intro c hc
    refine ab_le ?_
    rcases (show c = 0 ∨ c = 1 ∨ c = 2 ∨ c = 3 ∨ c = 4 ∨ c = 5 ∨ c = 6 ∨ c = 7 ∨ c = 8 by omega) with rfl | rfl | rfl | rfl | rfl | rfl | rfl | rfl | rfl
    · exact b1.mono (by decide +kernel)
    · exact b2.mono (by decide +kernel)
    · exact b3'
    · exact c1.mono (by decide +kernel)
    · exact c2.mono (by decide +kernel)
    · exact c3'
    · exact g1
    · exact g2
    · unfold Bd; show -1 ≤ (-1 : Rat) ∧ (-1 : Rat) ≤ 1; decide +kernel

end Go.Proofs.Ytaadklfendegfaa

/- The map of a picture's quadrilateral to a grid, in floats: it exists; where it takes a pixel's middle. -/
namespace Go.Proofs.Ytaadklfendegfaa
open Go Fl Geo

theorem f20_ex : Ex f20 20 3 160 := by
  obtain ⟨a, b⟩ := val_num (x := f20) (m := 5629499534213120) (i := -48) (v := 20) (by decide) (by decide) (by decide +kernel)
  exact ⟨a, b, 160, by decide +kernel, by decide⟩
theorem f12_ap : Ap f12 (6/5) (1/10^16) := by
  obtain ⟨a, b⟩ := val_num (x := f12) (m := 5404319552844595) (i := -52) (by decide) (by decide) rfl
  exact ⟨a, by rw [b]; unfold Nr; decide +kernel⟩

theorem stretch_ap {x : Nat} {v : Rat} (h : Ex x v 3 1400) (hv : 33 ≤ v ∧ v ≤ 167) : ∃ x', StretchR x x' ∧ Ap x' (6/5 * v - 40) (1/10^12) := by
  obtain ⟨s, s1, s2⟩ := Ex.sub h f50_ex (by omega) (by omega)
  obtain ⟨t, t1, t2⟩ := Ap.mul s2.ap f12_ap 117 (6/5) (1/10^13) (by unfold Bd; constructor <;> grind) (by unfold Bd; constructor <;> decide +kernel) (by decide +kernel) (by decide +kernel)
  obtain ⟨z, z1, z2⟩ := Ap.add f20_ex.ap t2 165 (1/10^12) (by unfold Bd; constructor <;> grind) (by decide +kernel) (by decide +kernel)
  exact ⟨z, ⟨s, t, s1, t1, z1⟩, z2.eq (by grind)⟩

theorem f4_ap : Ap f4 4 0 := ⟨val_f4.1, by rw [val_f4.2]; unfold Nr; decide +kernel⟩

theorem quarter_ap {x : Nat} {v : Rat} (h : Ap x v (1/10^12)) (hv : Bd v 165) : ∃ q, fdiv x f4 = some q ∧ Ap q (v / 4) (1/10^12) := by
  obtain ⟨q, q1, q2⟩ := Ap.div h f4_ap (v / 4) 42 4 (1/(4 * 10^12)) (1/10^12) (by grind) (by unfold Bd at *; constructor <;> grind) (Or.inl Rat.le_refl) (by decide +kernel) (by decide +kernel) (by decide +kernel) (by decide +kernel) (by decide +kernel)
  exact ⟨q, q1, q2⟩

theorem mid_ap {a : Nat → Nat} {v : Nat → Rat} (h : ∀ i, i < 4 → Ap (a i) (v i) (1/10^12)) (hv : ∀ i, i < 4 → Bd (v i) 165) : ∃ s, MidR a s ∧ Ap (s 4) ((v 0 + v 1 + v 2 + v 3) / 4) (1/10^11) := by
  obtain ⟨q0, a0, e0⟩ := quarter_ap (h 0 (by omega)) (hv 0 (by omega))
  obtain ⟨q1, a1, e1⟩ := quarter_ap (h 1 (by omega)) (hv 1 (by omega))
  obtain ⟨q2, a2, e2⟩ := quarter_ap (h 2 (by omega)) (hv 2 (by omega))
  obtain ⟨q3, a3, e3⟩ := quarter_ap (h 3 (by omega)) (hv 3 (by omega))
  have v0 := hv 0 (by omega)
  have v1 := hv 1 (by omega)
  have v2 := hv 2 (by omega)
  have v3 := hv 3 (by omega)
  obtain ⟨s1, g1, x1⟩ := Ap.add f0_ex.ap e0 165 (2/10^12) (by unfold Bd at *; constructor <;> grind) (by decide +kernel) (by decide +kernel)
  obtain ⟨s2, g2, x2⟩ := Ap.add x1 e1 165 (4/10^12) (by unfold Bd at *; constructor <;> grind) (by decide +kernel) (by decide +kernel)
  obtain ⟨s3, g3, x3⟩ := Ap.add x2 e2 165 (6/10^12) (by unfold Bd at *; constructor <;> grind) (by decide +kernel) (by decide +kernel)
  obtain ⟨s4, g4, x4⟩ := Ap.add x3 e3 165 (1/10^11) (by unfold Bd at *; constructor <;> grind) (by decide +kernel) (by decide +kernel)
  refine ⟨fun i => match i with | 0 => f0 | 1 => s1 | 2 => s2 | 3 => s3 | _ => s4, ⟨rfl, fun i hi => ?_⟩, ?_⟩
  · rcases (show i = 0 ∨ i = 1 ∨ i = 2 ∨ i = 3 by omega) with rfl | rfl | rfl | rfl
    · exact ⟨q0, a0, g1⟩
    · exact ⟨q1, a1, g2⟩
    · exact ⟨q2, a2, g3⟩
    · exact ⟨q3, a3, g4⟩
  · exact x4.eq (by grind)

theorem corner_ap {x y u v : Nat} {X Y U V : Rat} (hx : Ap x X d1) (hy : Ap y Y d1) (bX : Bd X 92) (bY : Bd Y 92) (hu : Ex u U 0 15) (hv : Ex v V 0 15) (bU : Bd U 13) (bV : Bd V 13) :
    ∃ R S, CornerR x y u v R S ∧ EvenA X Y U R ∧ OddA X Y V S := by
  have e1 : (13:Rat) * (92 + d1) * u53 + tny + 13 * d1 ≤ d2 := by decide +kernel
  obtain ⟨a, a1, a2⟩ := Ap.mul hu.neg.ap hx 13 92 d2 bU.neg bX (by decide +kernel) (by decide +kernel)
  obtain ⟨b, b1, b2⟩ := Ap.mul hu.neg.ap hy 13 92 d2 bU.neg bY (by decide +kernel) (by decide +kernel)
  obtain ⟨c, c1, c2⟩ := Ap.mul hv.neg.ap hx 13 92 d2 bV.neg bX (by decide +kernel) (by decide +kernel)
  obtain ⟨d, d1', d2'⟩ := Ap.mul hv.neg.ap hy 13 92 d2 bV.neg bY (by decide +kernel) (by decide +kernel)
  have ng : ∀ p q : Rat, -p * q = -(p * q) := fun p q => by grind
  rw [ng] at a2 b2 c2 d2'
  refine ⟨rowE x y u a b, rowO x y v c d, ⟨⟨rfl, rfl, rfl, rfl, rfl, rfl, a1, b1, rfl⟩, rfl, rfl, rfl, rfl, rfl, rfl, c1, d1', rfl⟩,
    ⟨?_, hx.near, hy.near, f1_ex.eq, f0_ex.eq, f0_ex.eq, f0_ex.eq, a2.near, b2.near, hu.eq⟩, ⟨?_, f0_ex.eq, f0_ex.eq, f0_ex.eq, hx.near, hy.near, f1_ex.eq, c2.near, d2'.near, hv.eq⟩⟩
  · intro j hj
    rcases (show j = 0 ∨ j = 1 ∨ j = 2 ∨ j = 3 ∨ j = 4 ∨ j = 5 ∨ j = 6 ∨ j = 7 ∨ j = 8 by omega) with rfl | rfl | rfl | rfl | rfl | rfl | rfl | rfl | rfl
    · exact hx.fin
    · exact hy.fin
    · exact f1_ex.fin
    · exact f0_ex.fin
    · exact f0_ex.fin
    · exact f0_ex.fin
    · exact a2.fin
    · exact b2.fin
    · exact hu.fin
  · intro j hj
    rcases (show j = 0 ∨ j = 1 ∨ j = 2 ∨ j = 3 ∨ j = 4 ∨ j = 5 ∨ j = 6 ∨ j = 7 ∨ j = 8 by omega) with rfl | rfl | rfl | rfl | rfl | rfl | rfl | rfl | rfl
    · exact f0_ex.fin
    · exact f0_ex.fin
    · exact f0_ex.fin
    · exact hx.fin
    · exact hy.fin
    · exact f1_ex.fin
    · exact c2.fin
    · exact d2'.fin
    · exact hv.fin

theorem nr_small {v w d B C : Rat} (h : Nr v w d) (hw : Bd w B) (hC : B + d ≤ C) : Bd v C := by unfold Nr Bd at *; constructor <;> grind

theorem evenA_low {x y u : Rat} {R : Nat → Nat} (h : EvenA x y u R) (bx : Bd x (456/5)) (bY : Bd y (456/5)) (bu : Bd u 13) : LowRow e0L true 0 R := by
  refine ⟨h.fin, fun c _ hc => ?_⟩
  have e : gr true 0 * e0L true c = e0L true c := Rat.one_mul _
  rw [e]
  rcases (show c = 0 ∨ c = 1 ∨ c = 2 ∨ c = 3 ∨ c = 4 ∨ c = 5 ∨ c = 6 ∨ c = 7 ∨ c = 8 by omega) with rfl | rfl | rfl | rfl | rfl | rfl | rfl | rfl | rfl
  · exact nr_small h.v0 bx (by decide +kernel)
  · exact nr_small h.v1 bY (by decide +kernel)
  · rw [h.v2]; exact ⟨by decide +kernel, by decide +kernel⟩
  · rw [h.v3]; exact ⟨by decide +kernel, by decide +kernel⟩
  · rw [h.v4]; exact ⟨by decide +kernel, by decide +kernel⟩
  · rw [h.v5]; exact ⟨by decide +kernel, by decide +kernel⟩
  · exact nr_small h.v6 (Bd.mul bu bx).neg (by decide +kernel)
  · exact nr_small h.v7 (Bd.mul bu bY).neg (by decide +kernel)
  · rw [h.v8]; exact bu
theorem oddA_low {x y u : Rat} {R : Nat → Nat} (h : OddA x y u R) (bx : Bd x (456/5)) (bY : Bd y (456/5)) (bu : Bd u 13) : LowRow e0L false 0 R := by
  refine ⟨h.fin, fun c _ hc => ?_⟩
  have e : gr false 0 * e0L false c = e0L false c := Rat.one_mul _
  rw [e]
  rcases (show c = 0 ∨ c = 1 ∨ c = 2 ∨ c = 3 ∨ c = 4 ∨ c = 5 ∨ c = 6 ∨ c = 7 ∨ c = 8 by omega) with rfl | rfl | rfl | rfl | rfl | rfl | rfl | rfl | rfl
  · rw [h.v0]; exact ⟨by decide +kernel, by decide +kernel⟩
  · rw [h.v1]; exact ⟨by decide +kernel, by decide +kernel⟩
  · rw [h.v2]; exact ⟨by decide +kernel, by decide +kernel⟩
  · exact nr_small h.v3 bx (by decide +kernel)
  · exact nr_small h.v4 bY (by decide +kernel)
  · rw [h.v5]; exact ⟨by decide +kernel, by decide +kernel⟩
  · exact nr_small h.v6 (Bd.mul bu bx).neg (by decide +kernel)
  · exact nr_small h.v7 (Bd.mul bu bY).neg (by decide +kernel)
  · rw [h.v8]; exact bu

/-- what is known of the map's ten numbers -/
structure MapL (o : Nat → Nat) (S : Quad) (z : Nat → Rat) : Prop where
  num : ∀ r, r < 8 → Ap (o r) (z r) (dL' r)
  mx : Ap (o 8) S.mx (1/10^11)
  my : Ap (o 9) S.my (1/10^11)

theorem gx_ex (W k : Nat) (hW : W ≤ 13) : Ex (gx W k) (gX W k) 0 15 := by
  have h := gx_wh W k (by omega)
  unfold Wh at h
  have e : (((if k = 1 ∨ k = 2 then W else 0 : Nat) : Int) : Rat) = gX W k := by
    unfold gX; split <;> rfl
  rw [e] at h; exact h
theorem gy_ex (H k : Nat) (hH : H ≤ 13) : Ex (gy H k) (gY H k) 0 15 := by
  have h := gy_wh H k (by omega)
  unfold Wh at h
  have e : (((if k = 2 ∨ k = 3 then H else 0 : Nat) : Int) : Rat) = gY H k := by
    unfold gY; split <;> rfl
  rw [e] at h; exact h
theorem gX_bd (W k : Nat) (hW : W ≤ 13) : Bd (gX W k) 13 := by
  have h1 : (W : Rat) ≤ 13 := by exact_mod_cast hW
  have h0 : (0:Rat) ≤ (W : Rat) := by exact_mod_cast Nat.zero_le W
  unfold gX Bd; split <;> constructor <;> grind
theorem gY_bd (W k : Nat) (hW : W ≤ 13) : Bd (gY W k) 13 := by
  have h1 : (W : Rat) ≤ 13 := by exact_mod_cast hW
  have h0 : (0:Rat) ≤ (W : Rat) := by exact_mod_cast Nat.zero_le W
  unfold gY Bd; split <;> constructor <;> grind

theorem mapL_ex {q : Q8} {Q : Quad} {a1 a3 : Rat} (h : QZ q Q a1 a3) {W H : Nat} (hW : 2 ≤ W ∧ W ≤ 13) (hH : 2 ≤ H ∧ H ≤ 13) {ax ay : Nat → Nat}
    (hax : ∀ i, i < 4 → Ap (ax i) (Q.str.X i) (1/10^12)) (hay : ∀ i, i < 4 → Ap (ay i) (Q.str.Y i) (1/10^12)) :
    ∃ (o : Nat → Nat) (z : Nat → Rat) (J : Rat), ScR ax ay (gx W) (gy H) o ∧ MapL o Q.str z ∧ J * WW Q.str a1 a3 Q.str.mx Q.str.my = 1 ∧ (∀ c, c < 9 → ab (z c) ≤ zbL c) ∧
      ∀ x y, z 6 * (x - Q.str.mx) + z 7 * (y - Q.str.my) + 1 = J * WW Q.str a1 a3 x y ∧ z 0 * (x - Q.str.mx) + z 1 * (y - Q.str.my) + z 2 = W * (J * XX Q.str a1 a3 x y) ∧ z 3 * (x - Q.str.mx) + z 4 * (y - Q.str.my) + z 5 = H * (J * YY Q.str a1 a3 x y) := by
  have bS : ∀ i, i < 4 → Bd (Q.str.X i) 165 ∧ Bd (Q.str.Y i) 165 := fun i hi => by
    have i0 := h.ix0
    have i1 := h.ix1
    have i2 := h.ix2
    have i3 := h.ix3
    have j0 := h.iy0
    have j1 := h.iy1
    have j2 := h.iy2
    have j3 := h.iy3
    unfold In at *
    rcases (show i = 0 ∨ i = 1 ∨ i = 2 ∨ i = 3 by omega) with rfl | rfl | rfl | rfl <;> unfold Quad.str Quad.X Quad.Y Bd <;> dsimp only <;> refine ⟨⟨?_, ?_⟩, ?_, ?_⟩ <;> grind
  obtain ⟨sx, m1, m2⟩ := mid_ap hax (fun i hi => (bS i hi).1)
  obtain ⟨sy, n1, n2⟩ := mid_ap hay (fun i hi => (bS i hi).2)
  have emx : (Q.str.X 0 + Q.str.X 1 + Q.str.X 2 + Q.str.X 3) / 4 = Q.str.mx := rfl
  have emy : (Q.str.Y 0 + Q.str.Y 1 + Q.str.Y 2 + Q.str.Y 3) / 4 = Q.str.my := rfl
  rw [emx] at m2
  rw [emy] at n2
  have cX : ∀ i, i < 4 → Q.str.X i - Q.str.mx = Q.str.cen.X i := fun i hi => by
    rcases (show i = 0 ∨ i = 1 ∨ i = 2 ∨ i = 3 by omega) with rfl | rfl | rfl | rfl <;> rfl
  have cY : ∀ i, i < 4 → Q.str.Y i - Q.str.my = Q.str.cen.Y i := fun i hi => by
    rcases (show i = 0 ∨ i = 1 ∨ i = 2 ∨ i = 3 by omega) with rfl | rfl | rfl | rfl <;> rfl
  have hc := cen_of h
  have bC : ∀ i, i < 4 → Bd (Q.str.cen.X i) (456/5) ∧ Bd (Q.str.cen.Y i) (456/5) := fun i hi => by
    have i0 := hc.x0
    have i1 := hc.x1
    have i2 := hc.x2
    have i3 := hc.x3
    have j0 := hc.y0
    have j1 := hc.y1
    have j2 := hc.y2
    have j3 := hc.y3
    have k : Q.str.cen.X i = 6/5 * Q.cen.X i ∧ Q.str.cen.Y i = 6/5 * Q.cen.Y i := by
      rcases (show i = 0 ∨ i = 1 ∨ i = 2 ∨ i = 3 by omega) with rfl | rfl | rfl | rfl <;> unfold Quad.X Quad.Y Quad.cen Quad.mx Quad.my Quad.str <;> constructor <;> grind
    rw [k.1, k.2]
    rcases (show i = 0 ∨ i = 1 ∨ i = 2 ∨ i = 3 by omega) with rfl | rfl | rfl | rfl <;> unfold Quad.X Quad.Y Bd <;> refine ⟨⟨?_, ?_⟩, ?_, ?_⟩ <;> grind
  have cell : ∀ i, ∃ X Y R S, i < 4 → fsub (ax i) (sx 4) = some X ∧ fsub (ay i) (sy 4) = some Y ∧ CornerR X Y (gx W i) (gy H i) R S ∧ EvenA (Q.str.cen.X i) (Q.str.cen.Y i) (gX W i) R ∧ OddA (Q.str.cen.X i) (Q.str.cen.Y i) (gY H i) S := by
    intro i
    by_cases hi : i < 4
    · obtain ⟨X, x1, x2⟩ := Ap.sub (hax i hi) m2 92 d1 (by rw [cX i hi]; exact (bC i hi).1.mono (by decide +kernel)) (by decide +kernel) (by decide +kernel)
      obtain ⟨Y, y1, y2⟩ := Ap.sub (hay i hi) n2 92 d1 (by rw [cY i hi]; exact (bC i hi).2.mono (by decide +kernel)) (by decide +kernel) (by decide +kernel)
      rw [cX i hi] at x2
      rw [cY i hi] at y2
      obtain ⟨R, S, r1, r2, r3⟩ := corner_ap x2 y2 ((bC i hi).1.mono (by decide +kernel)) ((bC i hi).2.mono (by decide +kernel)) (gx_ex W i hW.2) (gy_ex H i hH.2) (gX_bd W i hW.2) (gY_bd H i hH.2)
      exact ⟨X, Y, R, S, fun _ => ⟨x1, y1, r1, r2, r3⟩⟩
    · exact ⟨0, 0, fun _ => 0, fun _ => 0, fun hh => absurd hh hi⟩
  obtain ⟨X, hX⟩ := Classical.axiomOfChoice cell
  obtain ⟨Y, hY⟩ := Classical.axiomOfChoice hX
  obtain ⟨R, hR⟩ := Classical.axiomOfChoice hY
  obtain ⟨S, hS⟩ := Classical.axiomOfChoice hR
  clear cell hX hY hR
  obtain ⟨M0, e1, e2⟩ : ∃ M0 : Nat → Nat → Nat, (∀ i, M0 (2 * i) = R i) ∧ ∀ i, M0 (2 * i + 1) = S i :=
    ⟨fun i => if i % 2 = 0 then R (i / 2) else S (i / 2), fun i => by
      have h1 : 2 * i % 2 = 0 := by omega
      have h2 : 2 * i / 2 = i := by omega
      show (if 2 * i % 2 = 0 then R (2 * i / 2) else S (2 * i / 2)) = R i
      rw [if_pos h1, h2], fun i => by
      have h1 : ¬ (2 * i + 1) % 2 = 0 := by omega
      have h2 : (2 * i + 1) / 2 = i := by omega
      show (if (2 * i + 1) % 2 = 0 then R ((2 * i + 1) / 2) else S ((2 * i + 1) / 2)) = S i
      rw [if_neg h1, h2]⟩
  have ht : TabL Q.str W H M0 := ⟨fun k hk => by rw [e1]; exact (hS k hk).2.2.2.1, fun k hk => by rw [e2]; exact (hS k hk).2.2.2.2⟩
  have hi := inveF h hW hH ht
  have hlow : ∀ i, i < 8 → LowRow e0L (i % 2 == 0) 0 (M0 i) := by
    intro i h8
    rcases (show i = 2 * (i / 2) ∨ i = 2 * (i / 2) + 1 by omega) with e | e
    · have e' : (i % 2 == 0) = true := by simp; omega
      rw [e', e]
      exact evenA_low (ht.ev _ (by omega)) (bC _ (by omega)).1 (bC _ (by omega)).2 (gX_bd W _ hW.2)
    · have e' : (i % 2 == 0) = false := by simp; omega
      rw [e', e]
      exact oddA_low (ht.od _ (by omega)) (bC _ (by omega)).1 (bC _ (by omega)).2 (gY_bd H _ hH.2)
  obtain ⟨M, o, k1, k2, k3, k4, k5, k6⟩ := elim_ex parL hi hlow
  obtain ⟨z, J, z1, zJ, z2, z3, z4, z5⟩ := solL h hW hH
  have htz : tiny z ≤ 2/10^10 := by
    have q0 := z4 0 (by omega)
    have q1 := z4 1 (by omega)
    have q3 := z4 3 (by omega)
    have q4 := z4 4 (by omega)
    have q6 := z4 6 (by omega)
    have q7 := z4 7 (by omega)
    have b0 : zbL 0 = 1 ∧ zbL 1 = 1 ∧ zbL 3 = 1 ∧ zbL 4 = 1 ∧ zbL 6 = 1/16 ∧ zbL 7 = 1/16 := ⟨rfl, rfl, rfl, rfl, rfl, rfl⟩
    obtain ⟨b0, b1, b3, b4, b6, b7⟩ := b0
    rw [b0] at q0
    rw [b1] at q1
    rw [b3] at q3
    rw [b4] at q4
    rw [b6] at q6
    rw [b7] at q7
    have a := Rat.mul_le_mul_of_nonneg_left (show ab (z 0) + ab (z 1) + ab (z 3) + ab (z 4) ≤ 4 by grind) (show 0 ≤ d1 by decide +kernel)
    have b := Rat.mul_le_mul_of_nonneg_left (show ab (z 6) + ab (z 7) ≤ 1/8 by grind) (show 0 ≤ d2 by decide +kernel)
    have c : d1 * 4 + d2 * (1/8) ≤ 2/10^10 := by decide +kernel
    unfold tiny
    generalize d1 * (ab (z 0) + ab (z 1) + ab (z 3) + ab (z 4)) = p1 at *
    generalize d2 * (ab (z 6) + ab (z 7)) = p2 at *
    generalize d1 * 4 = p3 at *
    generalize d2 * (1/8) = p4 at *
    generalize (2/10^10 : Rat) = p5 at *
    grind
  have hres : ∀ i, i < 8 → Bd (ph z (M0 i) 0) (2/10^10) := by
    intro i h8
    rcases (show i = 2 * (i / 2) ∨ i = 2 * (i / 2) + 1 by omega) with e | e
    · have a := even_near (ht.ev (i / 2) (by omega)) z
      rw [z2 _ (by omega), (ht.ev (i / 2) (by omega)).v8, z1] at a
      rw [e]
      have a' := a.mono htz
      have e3 : ph z (M0 (2 * (i / 2))) 0 - -1 * gX W (i / 2) - gX W (i / 2) = ph z (M0 (2 * (i / 2))) 0 := by grind
      rw [e3] at a'; exact a'
    · have a := odd_near (ht.od (i / 2) (by omega)) z
      rw [z3 _ (by omega), (ht.od (i / 2) (by omega)).v8, z1] at a
      rw [e]
      have a' := a.mono htz
      have e3 : ph z (M0 (2 * (i / 2) + 1)) 0 - -1 * gY H (i / 2) - gY H (i / 2) = ph z (M0 (2 * (i / 2) + 1)) 0 := by grind
      rw [e3] at a'; exact a'
  have hzt : ∀ W : Nat → Rat, (∀ c, c < 9 → 0 ≤ W c) → tot (wt z) W ≤ tot zbL W := fun W hW => tot_le fun c hc => Rat.mul_le_mul_of_nonneg_right (z4 c hc) (hW c hc)
  refine ⟨fun k => if k < 8 then o k else if k = 8 then sx 4 else sy 4, z, J, ⟨sx, sy, X, Y, M, m1, n1, rfl, rfl, fun i hi4 => ?_, k2, fun k hk => ?_, k4⟩, ⟨fun r hr => ?_, m2, n2⟩, zJ, z4, z5⟩
  · rw [k1, k1, e1, e2]
    obtain ⟨a, b, c, _⟩ := hS i hi4
    exact ⟨a, b, c⟩
  · show _ = some (if k < 8 then o k else _)
    rw [if_pos hk]; exact k3 k hk
  · show Ap (if r < 8 then o r else _) _ _
    rw [if_pos hr]
    refine ⟨k5 r hr, ?_⟩
    have hn := k6 z (2/10^10) z1 hres r hr
    have a1 := hzt WlL parL.wl0
    have a2 := hzt WuL parL.wu0
    have a3 := Rat.mul_le_mul_of_nonneg_left (show 1004/1000 * (tot (wt z) WlL + tot (wt z) WuL + 2/10^10) ≤ 1004/1000 * (tot zbL WlL + tot zbL WuL + 2/10^10) by
      generalize tot (wt z) WlL = p1 at *
      generalize tot (wt z) WuL = p2 at *
      generalize tot zbL WlL = p3 at *
      generalize tot zbL WuL = p4 at *
      generalize (2/10^10 : Rat) = p5 at *
      grind) (Rat.le_of_lt (parL.Kp r hr))
    have a4 := Rat.mul_le_mul_of_nonneg_left (z4 r (by omega)) (show 0 ≤ 4 * u53 by decide +kernel)
    have a5 : KF r * (1004/1000 * (tot zbL WlL + tot zbL WuL + 2/10^10)) + 4 * u53 * zbL r + tny ≤ dL' r :=
      (by decide +kernel : ∀ r : Fin 8, KF r.1 * (1004/1000 * (tot zbL WlL + tot zbL WuL + 2/10^10)) + 4 * u53 * zbL r.1 + tny ≤ dL' r.1) ⟨r, hr⟩
    clear hzt k6 a1 a2 hres htz
    generalize KF r * (1004/1000 * (tot (wt z) WlL + tot (wt z) WuL + 2/10^10)) = x1 at *
    generalize KF r * (1004/1000 * (tot zbL WlL + tot zbL WuL + 2/10^10)) = x2 at *
    generalize 4 * u53 * ab (z r) = y1 at *
    generalize 4 * u53 * zbL r = y2 at *
    generalize tny = t at *
    generalize dL' r = dd at *
    generalize val (o r) = v at *
    generalize z r = zr at *
    unfold Nr at *
    constructor <;> grind

end Go.Proofs.Ytaadklfendegfaa

/- Where the map found by elimination takes a pixel's middle: within its module. -/
namespace Go.Proofs.Ytaadklfendegfaa
open Go Fl Geo

theorem hf_ap (i : Nat) (hi : i ≤ 1000) : Ap (hf i) ((i : Rat) + 1/2) 0 := by
  have h := (hf_spec i hi).2
  unfold Hw at h
  refine h.ap.eq ?_
  have e : (2:Rat) ^ (-1:Int) = 1/2 := by decide +kernel
  have e2 : (((2 * i + 1 : Int)) : Rat) = 2 * (i : Rat) + 1 := by rw [Rat.intCast_add, Rat.intCast_mul]; rfl
  rw [e, e2]; grind

theorem dot2_apD {p1 q1 p2 q2 c : Nat} {v1 v2 w1 w2 cv d e dc V C D F G H : Rat} (h1 : Ap p1 v1 d) (k1 : Ap q1 w1 e) (h2 : Ap p2 v2 d) (k2 : Ap q2 w2 e) (hc : Ap c cv dc) (b1 : Bd v1 V) (b2 : Bd v2 V) (c1 : Bd w1 D) (c2 : Bd w2 D) (cb : Bd cv C)
    (hF : d * (D + e) + V * e + (V + d) * (D + e) * u53 + tny ≤ F) (hG : F + F + (V * D + V * D + F + F) * u53 + tny ≤ G) (hH : G + dc + (V * D + V * D + C + G + dc) * u53 + tny ≤ H)
    (s1 : (V + d) * (D + e) ≤ 10^200) (s2 : V * D + V * D + F + F ≤ 10^200) (s3 : V * D + V * D + C + G + dc ≤ 10^200) : ∃ z, Dot2R p1 q1 p2 q2 c z ∧ Ap z (v1 * w1 + v2 * w2 + cv) H := by
  obtain ⟨x, x1, x2⟩ := Ap.mul h1 k1 V D F b1 c1 hF s1
  obtain ⟨y, y1, y2⟩ := Ap.mul h2 k2 V D F b2 c2 hF s1
  have bb := Bd.add (Bd.mul b1 c1) (Bd.mul b2 c2)
  obtain ⟨u, u1, u2⟩ := Ap.add x2 y2 (V * D + V * D) G bb hG s2
  obtain ⟨z, z1, z2⟩ := Ap.add u2 hc (V * D + V * D + C) H (Bd.add bb cb) hH s3
  exact ⟨z, ⟨x, y, u, x1, y1, u1, z1⟩, z2⟩

/-- what is known of the exact numbers -/
structure SolL (Q : Quad) (a1 a3 : Rat) (W H : Nat) (z : Nat → Rat) (J : Rat) : Prop where
  hJ : J * WW Q.str a1 a3 Q.str.mx Q.str.my = 1
  bd : ∀ c, c < 9 → ab (z c) ≤ zbL c
  at_ : ∀ x y, z 6 * (x - Q.str.mx) + z 7 * (y - Q.str.my) + 1 = J * WW Q.str a1 a3 x y ∧ z 0 * (x - Q.str.mx) + z 1 * (y - Q.str.my) + z 2 = W * (J * XX Q.str a1 a3 x y) ∧ z 3 * (x - Q.str.mx) + z 4 * (y - Q.str.my) + z 5 = H * (J * YY Q.str a1 a3 x y)

theorem mid_in {q : Q8} {Q : Quad} {a1 a3 : Rat} (h : QZ q Q a1 a3) : (59 ≤ Q.str.mx ∧ Q.str.mx ≤ 101) ∧ 59 ≤ Q.str.my ∧ Q.str.my ≤ 101 := by
  have i0 := h.ix0
  have i1 := h.ix1
  have i2 := h.ix2
  have i3 := h.ix3
  have j0 := h.iy0
  have j1 := h.iy1
  have j2 := h.iy2
  have j3 := h.iy3
  unfold In at *
  unfold Quad.mx Quad.my Quad.str
  dsimp only
  refine ⟨⟨?_, ?_⟩, ?_, ?_⟩ <;> grind

theorem atL_ap {q : Q8} {Q : Quad} {a1 a3 : Rat} (h : QZ q Q a1 a3) {W H : Nat} {o : Nat → Nat} {z : Nat → Rat} {J : Rat} (ho : MapL o Q.str z) (hs : SolL Q a1 a3 W H z J) {x y : Nat} (hx : x < 170) (hy : y < 170) :
    ∃ dx dy zz n m, AtR o (hf x) (hf y) dx dy zz n m ∧ Ap zz (J * WW Q.str a1 a3 ((x : Rat) + 1/2) ((y : Rat) + 1/2)) (1/10^6) ∧ Ap n (W * (J * XX Q.str a1 a3 ((x : Rat) + 1/2) ((y : Rat) + 1/2))) (1/10^5) ∧ Ap m (H * (J * YY Q.str a1 a3 ((x : Rat) + 1/2) ((y : Rat) + 1/2))) (1/10^5) := by
  obtain ⟨g1, g2, g3⟩ := hs.at_ ((x : Rat) + 1/2) ((y : Rat) + 1/2)
  obtain ⟨⟨m1, m2⟩, m3, m4⟩ := mid_in h
  have x0 : (0:Rat) ≤ (x : Rat) := by exact_mod_cast Nat.zero_le x
  have x1 : (x : Rat) ≤ 169 := by exact_mod_cast (show x ≤ 169 by omega)
  have y0 : (0:Rat) ≤ (y : Rat) := by exact_mod_cast Nat.zero_le y
  have y1 : (y : Rat) ≤ 169 := by exact_mod_cast (show y ≤ 169 by omega)
  have bx : Bd ((x : Rat) + 1/2 - Q.str.mx) 170 := by unfold Bd; constructor <;> grind
  have by' : Bd ((y : Rat) + 1/2 - Q.str.my) 170 := by unfold Bd; constructor <;> grind
  obtain ⟨dx, dx1, dx2⟩ := Ap.sub (hf_ap x (by omega)) ho.mx 170 (2/10^11) bx (by decide +kernel) (by decide +kernel)
  obtain ⟨dy, dy1, dy2⟩ := Ap.sub (hf_ap y (by omega)) ho.my 170 (2/10^11) by' (by decide +kernel) (by decide +kernel)
  have hb : ∀ c, c < 9 → Bd (z c) (zbL c) := fun c hc => (ab_bd (z c)).mono (hs.bd c hc)
  have b1 : Bd (1:Rat) 1 := by unfold Bd; decide +kernel
  obtain ⟨zz, z1, z2⟩ := dot2_apD (F := 2/10^7) (G := 5/10^7) (H := 1/10^6) (ho.num 6 (by omega)) dx2 (ho.num 7 (by omega)) dy2 f1_ex.ap (hb 6 (by omega)) (hb 7 (by omega)) bx by' b1
    (by decide +kernel) (by decide +kernel) (by decide +kernel) (by decide +kernel) (by decide +kernel) (by decide +kernel)
  obtain ⟨n, n1, n2⟩ := dot2_apD (F := 2/10^6) (G := 5/10^6) (H := 1/10^5) (ho.num 0 (by omega)) dx2 (ho.num 1 (by omega)) dy2 (ho.num 2 (by omega)) (hb 0 (by omega)) (hb 1 (by omega)) bx by' (hb 2 (by omega))
    (by decide +kernel) (by decide +kernel) (by decide +kernel) (by decide +kernel) (by decide +kernel) (by decide +kernel)
  obtain ⟨k, k1, k2⟩ := dot2_apD (F := 2/10^6) (G := 5/10^6) (H := 1/10^5) (ho.num 3 (by omega)) dx2 (ho.num 4 (by omega)) dy2 (ho.num 5 (by omega)) (hb 3 (by omega)) (hb 4 (by omega)) bx by' (hb 5 (by omega))
    (by decide +kernel) (by decide +kernel) (by decide +kernel) (by decide +kernel) (by decide +kernel) (by decide +kernel)
  exact ⟨dx, dy, zz, n, k, ⟨dx1, dy1, z1, n1, k1⟩, z2.eq g1, n2.eq g2, k2.eq g3⟩

/-- a float well within a module -/
theorem inr_of {X W i : Nat} {v e : Rat} (h : Ap X v e) (he : e ≤ 1/100) (hv : Bd (v - ((i : Rat) + 1/2)) (47/100)) (hi : i < W) (hW : W ≤ 13) : InR X W i := by
  have hn := h.near
  have hlo : (i : Rat) < val X := by unfold Nr Bd at *; grind
  have hhi : val X < (i : Rat) + 1 := by unfold Nr Bd at *; grind
  have i0 : (0:Rat) ≤ (i : Rat) := by exact_mod_cast Nat.zero_le i
  have w0 := wh0 0 (by omega)
  have wW := wh_ofI (W : Int) 13 (by omega) (by omega)
  have v0 : val f0 = 0 := w0.eq
  have vW : val (ofI (W : Int)) = (W : Rat) := by rw [wW.eq]; rfl
  have hiW : (i : Rat) + 1 ≤ (W : Rat) := by exact_mod_cast (show i + 1 ≤ W by omega)
  have o1 := (Fl.order_val h.fin w0.fin).2.2 (by rw [v0]; grind)
  have o2 := (Fl.order_val h.fin wW.fin).1 (by rw [vW]; grind)
  refine ⟨?_, ?_, ?_⟩
  · show (Ieee.double.order X f0 == some .gt || Ieee.double.order X f0 == some .eq) = true
    rw [o1]; rfl
  · show (Ieee.double.order X (ofI (W : Int)) == some .lt) = true
    rw [o2]; rfl
  · obtain ⟨n, k1, k2, _⟩ := toInt_val h.fin
    obtain ⟨g1, g2, g3⟩ := k2 (by grind)
    have e : n = (i : Int) := by
      have a1 : (n : Rat) < (((i : Int) + 1 : Int) : Rat) := by
        have : (((i : Int) + 1 : Int) : Rat) = (i : Rat) + 1 := by rw [Rat.intCast_add]; rfl
        rw [this]; grind
      have a2 : (((i : Int)) : Rat) < ((n + 1 : Int) : Rat) := by
        have e1 : ((n + 1 : Int) : Rat) = (n : Rat) + 1 := by rw [Rat.intCast_add]; rfl
        have e2 : (((i : Int)) : Rat) = (i : Rat) := rfl
        rw [e1, e2]; grind
      have b1 : n < (i : Int) + 1 := by exact_mod_cast a1
      have b2 : (i : Int) < n + 1 := by exact_mod_cast a2
      omega
    subst e
    unfold floatToIntVal
    have k1' : (FloatKind.f64.decode X).toInt .zero = some (i : Int) := k1
    rw [k1']
    have m1 : IntKind.i64.min = -9223372036854775808 := rfl
    have m2 : IntKind.i64.max = 9223372036854775807 := rfl
    show (if IntKind.i64.min ≤ (i : Int) ∧ (i : Int) ≤ IntKind.i64.max then some (i : Int) else none) = _
    rw [if_pos (by rw [m1, m2]; omega)]

def sOf (W i : Nat) : Rat := ((i : Rat) + 1/2) / (W : Rat)
theorem sOf_mul {W i : Nat} (hW : 0 < W) : sOf W i * (W : Rat) = (i : Rat) + 1/2 := by
  unfold sOf
  exact div_mul' (by exact_mod_cast hW)
theorem sOf_in {W i : Nat} (hW : i < W) : 0 ≤ sOf W i ∧ sOf W i ≤ 1 := by
  have hm := sOf_mul (i := i) (show 0 < W by omega)
  have hp : (0:Rat) < (W : Rat) := by exact_mod_cast (show 0 < W by omega)
  have i0 : (0:Rat) ≤ (i : Rat) := by exact_mod_cast Nat.zero_le i
  have hi : (i : Rat) + 1 ≤ (W : Rat) := by exact_mod_cast (show i + 1 ≤ W by omega)
  constructor
  · apply Classical.byContradiction; intro hn
    have := Rat.mul_pos (show 0 < -sOf W i by grind) hp
    grind
  · apply Classical.byContradiction; intro hn
    have := Rat.mul_pos (show 0 < sOf W i - 1 by grind) hp
    grind

/-- a module's middle, on the picture -/
def modW (S : Quad) (W H i j : Nat) : Wt := (bilW (sOf W i) (sOf H j)).img (ts S)

theorem one_coord {W i : Nat} {x' Z N : Rat} {nn zf : Nat} (hW : 2 ≤ W ∧ W ≤ 13) (hi : i < W) (hZ : 3/10 ≤ Z) (hN : N = x' * Z) (hb : Bd (x' - sOf W i) (360/10000)) (hn : Ap nn (W * N) (1/10^5)) (hz : Ap zf Z (1/10^6)) : ∃ q, fdiv nn zf = some q ∧ InR q W i := by
  have hm := sOf_mul (i := i) (show 0 < W by omega)
  have hs := sOf_in hi
  have w1 : (W : Rat) ≤ 13 := by exact_mod_cast hW.2
  have w0 : (0:Rat) ≤ (W : Rat) := by exact_mod_cast Nat.zero_le W
  have hd := Bd.mul (show Bd (W : Rat) 13 by unfold Bd; constructor <;> grind) hb
  have e : (W : Rat) * (x' - sOf W i) = (W : Rat) * x' - ((i : Rat) + 1/2) := by rw [← hm]; grind
  rw [e] at hd
  have i0 : (0:Rat) ≤ (i : Rat) := by exact_mod_cast Nat.zero_le i
  have i1 : (i : Rat) + 1 ≤ (W : Rat) := by exact_mod_cast (show i + 1 ≤ W by omega)
  obtain ⟨q, q1, q2⟩ := Ap.div hn hz (W * x') 14 (3/10) (1/10^4) (2/10^4) (by rw [hN]; grind) (by unfold Bd at *; constructor <;> grind) (Or.inl hZ) (by decide +kernel) (by decide +kernel) (by decide +kernel) (by decide +kernel) (by decide +kernel)
  exact ⟨q, q1, inr_of q2 (by decide +kernel) (hd.mono (by decide +kernel)) hi hW.2⟩

theorem pixL {q : Q8} {Q : Quad} {a1 a3 : Rat} (h : QZ q Q a1 a3) (hsd : Sides Q) {W H : Nat} (hW : 2 ≤ W ∧ W ≤ 13) (hH : 2 ≤ H ∧ H ≤ 13) {o : Nat → Nat} {z : Nat → Rat} {J : Rat} (ho : MapL o Q.str z) (hs : SolL Q a1 a3 W H z J) {i j x y : Nat} (hi : i < W) (hj : j < H) (hx : x < 170) (hy : y < 170)
    (bx : Bd ((x : Rat) + 1/2 - (modW Q.str W H i j).px Q.str) (5001/10000)) (bY : Bd ((y : Rat) + 1/2 - (modW Q.str W H i j).py Q.str) (5001/10000)) : ∃ X' Y', ScAtR o (hf x) (hf y) X' Y' ∧ InR X' W i ∧ InR Y' H j := by
  obtain ⟨dx, dy, zz, n, m, ⟨r1, r2, r3, r4, r5⟩, k1, k2, k3⟩ := atL_ap h ho hs hx hy
  have s1 := sOf_in hi
  have s2 := sOf_in hj
  obtain ⟨x', y', c1, c2, c3, c4, c5⟩ := module_at h hsd s1.1 s1.2 s2.1 s2.2 bx bY hs.hJ
  obtain ⟨X', g1, g2⟩ := one_coord hW hi c1 c2 c4 k2 k1
  obtain ⟨Y', g3, g4⟩ := one_coord hH hj c1 c3 c5 k3 k1
  exact ⟨X', Y', ⟨dx, dy, zz, n, m, r1, r2, r3, r4, g1, r5, g3⟩, g2, g4⟩

end Go.Proofs.Ytaadklfendegfaa

/- The map of a grid to a picture's quadrilateral, in floats. -/
namespace Go.Proofs.Ytaadklfendegfaa
open Go Fl Geo

/-- a picture's quadrilateral in floats -/
structure PZ (p : Q8) (S : Quad) : Prop where
  x0 : Ap p.x0 S.x0 (1/10^12)
  y0 : Ap p.y0 S.y0 (1/10^12)
  x1 : Ap p.x1 S.x1 (1/10^12)
  y1 : Ap p.y1 S.y1 (1/10^12)
  x2 : Ap p.x2 S.x2 (1/10^12)
  y2 : Ap p.y2 S.y2 (1/10^12)
  x3 : Ap p.x3 S.x3 (1/10^12)
  y3 : Ap p.y3 S.y3 (1/10^12)

/-- where the corners lie -/
structure Co (S : Quad) : Prop where
  x0 : -1/2 ≤ S.x0 ∧ S.x0 ≤ 41
  y0 : -1/2 ≤ S.y0 ∧ S.y0 ≤ 41
  x1 : 119 ≤ S.x1 ∧ S.x1 ≤ 161
  y1 : -1/2 ≤ S.y1 ∧ S.y1 ≤ 41
  x2 : 119 ≤ S.x2 ∧ S.x2 ≤ 161
  y2 : 119 ≤ S.y2 ∧ S.y2 ≤ 161
  x3 : -1/2 ≤ S.x3 ∧ S.x3 ≤ 41
  y3 : 119 ≤ S.y3 ∧ S.y3 ≤ 161

theorem co_of {q : Q8} {Q : Quad} {a1 a3 : Rat} (h : QZ q Q a1 a3) : Co Q.str := by
  have i0 := h.ix0
  have i1 := h.ix1
  have i2 := h.ix2
  have i3 := h.ix3
  have j0 := h.iy0
  have j1 := h.iy1
  have j2 := h.iy2
  have j3 := h.iy3
  unfold In at *
  unfold Quad.str
  refine ⟨?_, ?_, ?_, ?_, ?_, ?_, ?_, ?_⟩ <;> dsimp only <;> constructor <;> grind

def eA : Rat := 1/10^9
def eB : Rat := 1/10^11

/-- near the square's way to the quadrilateral -/
structure NearS (a : M9) (S : Quad) (a1 a3 : Rat) : Prop where
  a11 : Ap a.a11 (A11 S a1) eA
  a21 : Ap a.a21 (A21 S a3) eA
  a31 : Ap a.a31 S.x0 eA
  a12 : Ap a.a12 (A12 S a1) eA
  a22 : Ap a.a22 (A22 S a3) eA
  a32 : Ap a.a32 S.y0 eA
  a13 : Ap a.a13 (a1 - 1) eB
  a23 : Ap a.a23 (a3 - 1) eB
  a33 : Ap a.a33 1 eB

theorem dif_ap {x y : Nat} {v w : Rat} (hx : Ap x v (1/10^12)) (hy : Ap y w (1/10^12)) (b : Bd (v - w) 162) : ∃ z, fsub x y = some z ∧ Ap z (v - w) (3/10^12) :=
  Ap.sub hx hy 162 (3/10^12) b (by decide +kernel) (by decide +kernel)

theorem alt_ap {x y z w : Nat} {a b c d : Rat} (hx : Ap x a (1/10^12)) (hy : Ap y b (1/10^12)) (hz : Ap z c (1/10^12)) (hw : Ap w d (1/10^12)) (ba : Bd a 161) (bb : Bd b 161) (bc : Bd c 161) (bd : Bd d 161) : ∃ r, AltR x y z w r ∧ Ap r (a - b + c - d) (5/10^12) := by
  obtain ⟨s, s1, s2⟩ := Ap.sub hx hy 322 (22/10^13) ((Bd.sub ba bb).mono (by decide +kernel)) (by decide +kernel) (by decide +kernel)
  obtain ⟨t, t1, t2⟩ := Ap.add s2 hz 483 (34/10^13) ((Bd.add (Bd.sub ba bb) bc).mono (by decide +kernel)) (by decide +kernel) (by decide +kernel)
  obtain ⟨r, r1, r2⟩ := Ap.sub t2 hw 644 (5/10^12) ((Bd.sub (Bd.add (Bd.sub ba bb) bc) bd).mono (by decide +kernel)) (by decide +kernel) (by decide +kernel)
  exact ⟨r, ⟨s, t, s1, t1, r1⟩, r2⟩

theorem pd_ap {p q r s : Nat} {a b c d : Rat} (hp : Ap p a (5/10^12)) (hq : Ap q b (5/10^12)) (hr : Ap r c (5/10^12)) (hs : Ap s d (5/10^12)) (ba : Bd a 330) (bb : Bd b 330) (bc : Bd c 330) (bd : Bd d 330) : ∃ z, PdR p q r s z ∧ Ap z (a * b - c * d) (8/10^9) := by
  obtain ⟨x, x1, x2⟩ := Ap.mul hp hq 330 330 (39/10^10) ba bb (by decide +kernel) (by decide +kernel)
  obtain ⟨y, y1, y2⟩ := Ap.mul hr hs 330 330 (39/10^10) bc bd (by decide +kernel) (by decide +kernel)
  obtain ⟨z, z1, z2⟩ := Ap.sub x2 y2 (330 * 330 + 330 * 330) (8/10^9) (Bd.sub (Bd.mul ba bb) (Bd.mul bc bd)) (by decide +kernel) (by decide +kernel)
  exact ⟨z, ⟨x, y, x1, y1, z1⟩, z2⟩

theorem leanr_ap {x y a : Nat} {v w c : Rat} (hx : Ap x v (1/10^12)) (hy : Ap y w (1/10^12)) (ha : Ap a c (5/10^12)) (bv : Bd v 161) (bw : Bd w 161) (bc : Bd c 2) : ∃ r, LeanR x y a x r ∧ Ap r ((v - w) + c * v) eA := by
  obtain ⟨s, s1, s2⟩ := Ap.sub hx hy 322 (3/10^12) ((Bd.sub bv bw).mono (by decide +kernel)) (by decide +kernel) (by decide +kernel)
  obtain ⟨t, t1, t2⟩ := Ap.mul ha hx 2 161 (9/10^10) bc bv (by decide +kernel) (by decide +kernel)
  obtain ⟨r, r1, r2⟩ := Ap.add s2 t2 (322 + 2 * 161) eA (Bd.add ((Bd.sub bv bw).mono (by decide +kernel)) (Bd.mul bc bv)) (by decide +kernel) (by decide +kernel)
  exact ⟨r, ⟨s, t, s1, t1, r1⟩, r2⟩

theorem feq_val {x : Nat} (hx : Fl.fin x) (h : feq x f0 = true) : val x = 0 := by
  have w0 := wh0 0 (by omega)
  have v0 : val f0 = 0 := w0.eq
  obtain ⟨o1, o2, o3⟩ := Fl.order_val hx w0.fin
  have h' : (Ieee.double.order x f0 == some .eq) = true := h
  apply Classical.byContradiction; intro hn
  rcases (show val x < 0 ∨ 0 < val x by grind) with hl | hg
  · rw [o1 (by rw [v0]; exact hl)] at h'; cases h'
  · rw [o3 (by rw [v0]; exact hg)] at h'; cases h'

theorem tiny_quo {c x E : Rat} (hc : 5000 ≤ c) (h : Bd (x * c) (5000 * E)) : Bd x E := by
  have hE : 0 ≤ E := by have := h.nonneg; grind
  unfold Bd at *
  constructor
  · apply Classical.byContradiction; intro hn
    have := Rat.mul_nonneg (show 0 ≤ c - 5000 by grind) (show 0 ≤ -x by grind)
    grind
  · apply Classical.byContradiction; intro hn
    have := Rat.mul_nonneg (show 0 ≤ c - 5000 by grind) (show 0 ≤ x by grind)
    grind

/-- the square's way to a picture's quadrilateral, by either of the two branches -/
theorem s2q_near {q p : Q8} {Q : Quad} {a1 a3 : Rat} (h : QZ q Q a1 a3) (hp : PZ p Q.str) : ∃ b, S2QR p b ∧ NearS b Q.str a1 a3 := by
  have hc := co_of h
  have F := str_F h.F
  have A1 := h.r1
  have A3 := h.r3
  have hf1 := F.h1
  have hf3 := F.h3
  have c5 : 5000 ≤ Q.str.d123 := by rw [(str_d Q).2.2.2]; have := h.i123.1; grind
  unfold In at A1 A3
  have bx0 : Bd Q.str.x0 161 := by have := hc.x0; unfold Bd; constructor <;> grind
  have by0 : Bd Q.str.y0 161 := by have := hc.y0; unfold Bd; constructor <;> grind
  have bx1 : Bd Q.str.x1 161 := by have := hc.x1; unfold Bd; constructor <;> grind
  have by1 : Bd Q.str.y1 161 := by have := hc.y1; unfold Bd; constructor <;> grind
  have bx2 : Bd Q.str.x2 161 := by have := hc.x2; unfold Bd; constructor <;> grind
  have by2 : Bd Q.str.y2 161 := by have := hc.y2; unfold Bd; constructor <;> grind
  have bx3 : Bd Q.str.x3 161 := by have := hc.x3; unfold Bd; constructor <;> grind
  have by3 : Bd Q.str.y3 161 := by have := hc.y3; unfold Bd; constructor <;> grind
  have k10x : Bd (Q.str.x1 - Q.str.x0) 162 := by have := hc.x0; have := hc.x1; unfold Bd; constructor <;> grind
  have k10y : Bd (Q.str.y1 - Q.str.y0) 162 := by have := hc.y0; have := hc.y1; unfold Bd; constructor <;> grind
  have k21x : Bd (Q.str.x2 - Q.str.x1) 162 := by have := hc.x1; have := hc.x2; unfold Bd; constructor <;> grind
  have k21y : Bd (Q.str.y2 - Q.str.y1) 162 := by have := hc.y1; have := hc.y2; unfold Bd; constructor <;> grind
  have k12x : Bd (Q.str.x1 - Q.str.x2) 162 := by have := hc.x1; have := hc.x2; unfold Bd; constructor <;> grind
  have k12y : Bd (Q.str.y1 - Q.str.y2) 162 := by have := hc.y1; have := hc.y2; unfold Bd; constructor <;> grind
  have k32x : Bd (Q.str.x3 - Q.str.x2) 162 := by have := hc.x3; have := hc.x2; unfold Bd; constructor <;> grind
  have k32y : Bd (Q.str.y3 - Q.str.y2) 162 := by have := hc.y3; have := hc.y2; unfold Bd; constructor <;> grind
  obtain ⟨dx3, u1, u2⟩ := alt_ap hp.x0 hp.x1 hp.x2 hp.x3 bx0 bx1 bx2 bx3
  obtain ⟨dy3, v1, v2⟩ := alt_ap hp.y0 hp.y1 hp.y2 hp.y3 by0 by1 by2 by3
  -- the exact numbers
  have i1 : (a1 - 1) * Q.str.d123 = (Q.str.x3 - Q.str.x2) * (Q.str.y0 - Q.str.y1 + Q.str.y2 - Q.str.y3) - (Q.str.x0 - Q.str.x1 + Q.str.x2 - Q.str.x3) * (Q.str.y3 - Q.str.y2) := by
    have : (a1 - 1) * Q.str.d123 = a1 * Q.str.d123 - Q.str.d123 := by grind
    rw [this, hf1]; unfold Quad.d023 Quad.d123 tri; grind
  have i3 : (a3 - 1) * Q.str.d123 = (Q.str.x0 - Q.str.x1 + Q.str.x2 - Q.str.x3) * (Q.str.y1 - Q.str.y2) - (Q.str.x1 - Q.str.x2) * (Q.str.y0 - Q.str.y1 + Q.str.y2 - Q.str.y3) := by
    have : (a3 - 1) * Q.str.d123 = a3 * Q.str.d123 - Q.str.d123 := by grind
    rw [this, hf3]; unfold Quad.d012 Quad.d123 tri; grind
  have eX0 : Ap p.x0 Q.str.x0 eA := hp.x0.mono (by decide +kernel)
  have eY0 : Ap p.y0 Q.str.y0 eA := hp.y0.mono (by decide +kernel)
  have e1 : Ap f1 1 eB := f1_ex.ap.mono (by decide +kernel)
  by_cases hb : feq dx3 f0 = true ∧ feq dy3 f0 = true
  · -- a parallelogram, as far as floats tell
    have zx := feq_val u2.fin hb.1
    have zy := feq_val v2.fin hb.2
    have nx := u2.near
    have ny := v2.near
    rw [zx] at nx
    rw [zy] at ny
    have sx : Bd (Q.str.x0 - Q.str.x1 + Q.str.x2 - Q.str.x3) (5/10^12) := by unfold Nr at nx; unfold Bd; constructor <;> grind
    have sy : Bd (Q.str.y0 - Q.str.y1 + Q.str.y2 - Q.str.y3) (5/10^12) := by unfold Nr at ny; unfold Bd; constructor <;> grind
    have t1 : Bd (a1 - 1) (4/10^13) := tiny_quo c5 (by rw [i1]; exact (Bd.sub (Bd.mul k32x sy) (Bd.mul sx k32y)).mono (by decide +kernel))
    have t3 : Bd (a3 - 1) (4/10^13) := tiny_quo c5 (by rw [i3]; exact (Bd.sub (Bd.mul sx k12y) (Bd.mul k12x sy)).mono (by decide +kernel))
    obtain ⟨a11, g11, n11⟩ := dif_ap hp.x1 hp.x0 k10x
    obtain ⟨a21, g21, n21⟩ := dif_ap hp.x2 hp.x1 k21x
    obtain ⟨a12, g12, n12⟩ := dif_ap hp.y1 hp.y0 k10y
    obtain ⟨a22, g22, n22⟩ := dif_ap hp.y2 hp.y1 k21y
    have off : ∀ {z : Nat} {v d : Rat}, Ap z v (3/10^12) → Bd d (7/10^11) → Ap z (v + d) eA := by
      intro z v d hz hd
      refine ⟨hz.fin, ?_⟩
      have := hz.near
      have e : (3/10^12 : Rat) + 7/10^11 ≤ eA := by decide +kernel
      generalize eA = E at *
      generalize (3/10^12 : Rat) = p1 at *
      generalize (7/10^11 : Rat) = p2 at *
      unfold Nr Bd at *
      constructor <;> grind
    refine ⟨⟨a11, a21, p.x0, a12, a22, p.y0, f0, f0, f1⟩, ⟨dx3, dy3, u1, v1, Or.inl ⟨hb.1, hb.2, g11, g21, rfl, g12, g22, rfl, rfl, rfl, rfl⟩⟩, ⟨?_, ?_, eX0, ?_, ?_, eY0, ?_, ?_, e1⟩⟩
    · exact (off n11 (d := (a1 - 1) * Q.str.x1) ((Bd.mul t1 bx1).mono (by decide +kernel))).eq (by unfold A11; grind)
    · exact (off n21 (d := (a3 - 1) * Q.str.x3 - (Q.str.x0 - Q.str.x1 + Q.str.x2 - Q.str.x3)) ((Bd.sub (Bd.mul t3 bx3) sx).mono (by decide +kernel))).eq (by unfold A21; grind)
    · exact (off n12 (d := (a1 - 1) * Q.str.y1) ((Bd.mul t1 by1).mono (by decide +kernel))).eq (by unfold A12; grind)
    · exact (off n22 (d := (a3 - 1) * Q.str.y3 - (Q.str.y0 - Q.str.y1 + Q.str.y2 - Q.str.y3)) ((Bd.sub (Bd.mul t3 by3) sy).mono (by decide +kernel))).eq (by unfold A22; grind)
    · refine ⟨f0_ex.fin, ?_⟩
      have := f0_ex.eq
      have t := t1.mono (show (4/10^13 : Rat) ≤ eB by decide +kernel)
      show Nr (val f0) _ _
      rw [this]; generalize eB = E at *; unfold Nr Bd at *; constructor <;> grind
    · refine ⟨f0_ex.fin, ?_⟩
      have := f0_ex.eq
      have t := t3.mono (show (4/10^13 : Rat) ≤ eB by decide +kernel)
      show Nr (val f0) _ _
      rw [this]; generalize eB = E at *; unfold Nr Bd at *; constructor <;> grind
  · -- the general case
    obtain ⟨dx1, g1, n1⟩ := dif_ap hp.x1 hp.x2 k12x
    obtain ⟨dx2, g2, n2⟩ := dif_ap hp.x3 hp.x2 k32x
    obtain ⟨dy1, g3, n3⟩ := dif_ap hp.y1 hp.y2 k12y
    obtain ⟨dy2, g4, n4⟩ := dif_ap hp.y3 hp.y2 k32y
    have m := fun {z : Nat} {v : Rat} (h : Ap z v (3/10^12)) => h.mono (show (3/10^12 : Rat) ≤ 5/10^12 by decide +kernel)
    have w := fun {v : Rat} (h : Bd v 162) => h.mono (show (162 : Rat) ≤ 330 by decide +kernel)
    have bX3 : Bd (Q.str.x0 - Q.str.x1 + Q.str.x2 - Q.str.x3) 330 := by have := hc.x0; have := hc.x1; have := hc.x2; have := hc.x3; unfold Bd; constructor <;> grind
    have bY3 : Bd (Q.str.y0 - Q.str.y1 + Q.str.y2 - Q.str.y3) 330 := by have := hc.y0; have := hc.y1; have := hc.y2; have := hc.y3; unfold Bd; constructor <;> grind
    obtain ⟨den, g5, n5⟩ := pd_ap (m n1) (m n4) (m n2) (m n3) (w k12x) (w k32y) (w k32x) (w k12y)
    obtain ⟨o1, g6, n6⟩ := pd_ap u2 (m n4) (m n2) v2 bX3 (w k32y) (w k32x) bY3
    obtain ⟨o2, g7, n7⟩ := pd_ap (m n1) v2 u2 (m n3) (w k12x) bY3 bX3 (w k12y)
    have eden : (Q.str.x1 - Q.str.x2) * (Q.str.y3 - Q.str.y2) - (Q.str.x3 - Q.str.x2) * (Q.str.y1 - Q.str.y2) = -Q.str.d123 := by unfold Quad.d123 tri; grind
    rw [eden] at n5
    have b1 : Bd (a1 - 1) 2 := by unfold Bd; constructor <;> grind
    have b3 : Bd (a3 - 1) 2 := by unfold Bd; constructor <;> grind
    obtain ⟨a13, g8, n8⟩ := Ap.div n6 n5 (a1 - 1) 2 5000 (49/10^13) (5/10^12) (by
      have : (a1 - 1) * -Q.str.d123 = -((a1 - 1) * Q.str.d123) := by grind
      rw [this, i1]; grind) b1 (Or.inr (by grind)) (by decide +kernel) (by decide +kernel) (by decide +kernel) (by decide +kernel) (by decide +kernel)
    obtain ⟨a23, g9, n9⟩ := Ap.div n7 n5 (a3 - 1) 2 5000 (49/10^13) (5/10^12) (by
      have : (a3 - 1) * -Q.str.d123 = -((a3 - 1) * Q.str.d123) := by grind
      rw [this, i3]; grind) b3 (Or.inr (by grind)) (by decide +kernel) (by decide +kernel) (by decide +kernel) (by decide +kernel) (by decide +kernel)
    obtain ⟨a11, l1, p1⟩ := leanr_ap hp.x1 hp.x0 n8 bx1 bx0 b1
    obtain ⟨a21, l2, p2⟩ := leanr_ap hp.x3 hp.x0 n9 bx3 bx0 b3
    obtain ⟨a12, l3, p3⟩ := leanr_ap hp.y1 hp.y0 n8 by1 by0 b1
    obtain ⟨a22, l4, p4⟩ := leanr_ap hp.y3 hp.y0 n9 by3 by0 b3
    have hbr : feq dx3 f0 = false ∨ (feq dx3 f0 = true ∧ feq dy3 f0 = false) := by
      cases hx : feq dx3 f0
      · exact Or.inl rfl
      · cases hy : feq dy3 f0
        · exact Or.inr ⟨rfl, rfl⟩
        · exact absurd ⟨hx, hy⟩ hb
    exact ⟨⟨a11, a21, p.x0, a12, a22, p.y0, a13, a23, f1⟩, ⟨dx3, dy3, u1, v1, Or.inr ⟨hbr, dx1, dx2, dy1, dy2, den, o1, o2, g1, g2, g3, g4, g5, g6, g8, g7, g9, l1, l2, rfl, l3, l4, rfl, rfl⟩⟩,
      ⟨p1.eq (by unfold A11; grind), p2.eq (by unfold A21; grind), eX0, p3.eq (by unfold A12; grind), p4.eq (by unfold A22; grind), eY0, n8.mono (by decide +kernel), n9.mono (by decide +kernel), e1⟩⟩

end Go.Proofs.Ytaadklfendegfaa

/- Where the map of a grid takes a module's middle, in floats; all that the walk of FnZSLeaning asks. -/
namespace Go.Proofs.Ytaadklfendegfaa
open Go Fl Geo

theorem dot3_ap {p1 q1 p2 q2 p3 q3 : Nat} {v1 v2 v3 n1 n2 n3 e V N1 N2 N3 E1 E2 E3 E4 E5 : Rat} (h1 : Ap p1 v1 e) (k1 : Ap q1 n1 0) (h2 : Ap p2 v2 e) (k2 : Ap q2 n2 0) (h3 : Ap p3 v3 e) (k3 : Ap q3 n3 0)
    (b1 : Bd v1 V) (b2 : Bd v2 V) (b3 : Bd v3 V) (m1 : Bd n1 N1) (m2 : Bd n2 N2) (m3 : Bd n3 N3)
    (g1 : e * (N1 + 0) + V * 0 + (V + e) * (N1 + 0) * u53 + tny ≤ E1) (g2 : e * (N2 + 0) + V * 0 + (V + e) * (N2 + 0) * u53 + tny ≤ E2) (g3 : E1 + E2 + (V * N1 + V * N2 + E1 + E2) * u53 + tny ≤ E3)
    (g4 : e * (N3 + 0) + V * 0 + (V + e) * (N3 + 0) * u53 + tny ≤ E4) (g5 : E3 + E4 + (V * N1 + V * N2 + V * N3 + E3 + E4) * u53 + tny ≤ E5)
    (s1 : (V + e) * (N1 + 0) ≤ 10^200) (s2 : (V + e) * (N2 + 0) ≤ 10^200) (s3 : V * N1 + V * N2 + E1 + E2 ≤ 10^200) (s4 : (V + e) * (N3 + 0) ≤ 10^200) (s5 : V * N1 + V * N2 + V * N3 + E3 + E4 ≤ 10^200) :
    ∃ z, DotR p1 q1 p2 q2 p3 q3 z ∧ Ap z (v1 * n1 + v2 * n2 + v3 * n3) E5 := by
  obtain ⟨x, x1, x2⟩ := Ap.mul h1 k1 V N1 E1 b1 m1 g1 s1
  obtain ⟨y, y1, y2⟩ := Ap.mul h2 k2 V N2 E2 b2 m2 g2 s2
  obtain ⟨u, u1, u2⟩ := Ap.add x2 y2 (V * N1 + V * N2) E3 (Bd.add (Bd.mul b1 m1) (Bd.mul b2 m2)) g3 s3
  obtain ⟨v, w1, w2⟩ := Ap.mul h3 k3 V N3 E4 b3 m3 g4 s4
  obtain ⟨z, z1, z2⟩ := Ap.add u2 w2 (V * N1 + V * N2 + V * N3) E5 (Bd.add (Bd.add (Bd.mul b1 m1) (Bd.mul b2 m2)) (Bd.mul b3 m3)) g5 s5
  exact ⟨z, ⟨x, y, u, v, x1, y1, u1, w1, z1⟩, z2⟩

/-- the three products of a row of the map with the grid's way back -/
theorem row_ap {p1 p2 p3 qh q0 qw qd z1 z2 z3 z4 z5 : Nat} {v1 v2 v3 H W : Rat} (h1 : Ap p1 v1 eA) (h2 : Ap p2 v2 eA) (h3 : Ap p3 v3 eA) (b1 : Bd v1 620) (b2 : Bd v2 620) (b3 : Bd v3 620)
    (kh : Ap qh H 0) (kw : Ap qw W 0) (kd : Ap qd (W * H) 0) (k1 : Ap z1 0 0) (k2 : Ap z2 0 0) (k3 : Ap z3 0 0) (k4 : Ap z4 0 0) (k5 : Ap z5 0 0) (k0 : Ap q0 0 0) (bH : Bd H 13) (bW : Bd W 13) :
    (∃ r, DotR p1 qh p2 z1 p3 z2 r ∧ Ap r (v1 * H) (1/10^7)) ∧ (∃ r, DotR p1 z3 p2 qw p3 z4 r ∧ Ap r (v2 * W) (1/10^7)) ∧ (∃ r, DotR p1 z5 p2 q0 p3 qd r ∧ Ap r (v3 * (W * H)) (1/10^6)) := by
  have z : Bd (0:Rat) 0 := by unfold Bd; decide +kernel
  have bD : Bd (W * H) 169 := (Bd.mul bW bH).mono (by decide +kernel)
  obtain ⟨r, r1, r2⟩ := dot3_ap (E1 := 2/10^8) (E2 := 1/10^20) (E3 := 3/10^8) (E4 := 1/10^20) (E5 := 1/10^7) h1 kh h2 k1 h3 k2 b1 b2 b3 bH z z (by decide +kernel) (by decide +kernel) (by decide +kernel) (by decide +kernel) (by decide +kernel) (by decide +kernel) (by decide +kernel) (by decide +kernel) (by decide +kernel) (by decide +kernel)
  obtain ⟨s, s1, s2⟩ := dot3_ap (E1 := 1/10^20) (E2 := 2/10^8) (E3 := 3/10^8) (E4 := 1/10^20) (E5 := 1/10^7) h1 k3 h2 kw h3 k4 b1 b2 b3 z bW z (by decide +kernel) (by decide +kernel) (by decide +kernel) (by decide +kernel) (by decide +kernel) (by decide +kernel) (by decide +kernel) (by decide +kernel) (by decide +kernel) (by decide +kernel)
  obtain ⟨t, t1, t2⟩ := dot3_ap (E1 := 1/10^20) (E2 := 1/10^20) (E3 := 1/10^19) (E4 := 2/10^7) (E5 := 1/10^6) h1 k5 h2 k0 h3 kd b1 b2 b3 z z bD (by decide +kernel) (by decide +kernel) (by decide +kernel) (by decide +kernel) (by decide +kernel) (by decide +kernel) (by decide +kernel) (by decide +kernel) (by decide +kernel) (by decide +kernel)
  exact ⟨⟨r, r1, r2.eq (by grind)⟩, ⟨s, s1, s2.eq (by grind)⟩, ⟨t, t1, t2.eq (by grind)⟩⟩
theorem rowB_ap {p1 p2 p3 qh q0 qw qd z1 z2 z3 z4 z5 : Nat} {v1 v2 v3 H W : Rat} (h1 : Ap p1 v1 eB) (h2 : Ap p2 v2 eB) (h3 : Ap p3 v3 eB) (b1 : Bd v1 2) (b2 : Bd v2 2) (b3 : Bd v3 2)
    (kh : Ap qh H 0) (kw : Ap qw W 0) (kd : Ap qd (W * H) 0) (k1 : Ap z1 0 0) (k2 : Ap z2 0 0) (k3 : Ap z3 0 0) (k4 : Ap z4 0 0) (k5 : Ap z5 0 0) (k0 : Ap q0 0 0) (bH : Bd H 13) (bW : Bd W 13) :
    (∃ r, DotR p1 qh p2 z1 p3 z2 r ∧ Ap r (v1 * H) (1/10^9)) ∧ (∃ r, DotR p1 z3 p2 qw p3 z4 r ∧ Ap r (v2 * W) (1/10^9)) ∧ (∃ r, DotR p1 z5 p2 q0 p3 qd r ∧ Ap r (v3 * (W * H)) (1/10^8)) := by
  have z : Bd (0:Rat) 0 := by unfold Bd; decide +kernel
  have bD : Bd (W * H) 169 := (Bd.mul bW bH).mono (by decide +kernel)
  obtain ⟨r, r1, r2⟩ := dot3_ap (E1 := 2/10^10) (E2 := 1/10^20) (E3 := 3/10^10) (E4 := 1/10^20) (E5 := 1/10^9) h1 kh h2 k1 h3 k2 b1 b2 b3 bH z z (by decide +kernel) (by decide +kernel) (by decide +kernel) (by decide +kernel) (by decide +kernel) (by decide +kernel) (by decide +kernel) (by decide +kernel) (by decide +kernel) (by decide +kernel)
  obtain ⟨s, s1, s2⟩ := dot3_ap (E1 := 1/10^20) (E2 := 2/10^10) (E3 := 3/10^10) (E4 := 1/10^20) (E5 := 1/10^9) h1 k3 h2 kw h3 k4 b1 b2 b3 z bW z (by decide +kernel) (by decide +kernel) (by decide +kernel) (by decide +kernel) (by decide +kernel) (by decide +kernel) (by decide +kernel) (by decide +kernel) (by decide +kernel) (by decide +kernel)
  obtain ⟨t, t1, t2⟩ := dot3_ap (E1 := 1/10^20) (E2 := 1/10^20) (E3 := 1/10^19) (E4 := 2/10^9) (E5 := 1/10^8) h1 k5 h2 k0 h3 kd b1 b2 b3 z z bD (by decide +kernel) (by decide +kernel) (by decide +kernel) (by decide +kernel) (by decide +kernel) (by decide +kernel) (by decide +kernel) (by decide +kernel) (by decide +kernel) (by decide +kernel)
  exact ⟨⟨r, r1, r2.eq (by grind)⟩, ⟨s, s1, s2.eq (by grind)⟩, ⟨t, t1, t2.eq (by grind)⟩⟩

/-- a module's middle on the picture, by the exact map -/
theorem mod_px {q : Q8} {Q : Quad} {a1 a3 : Rat} (h : QZ q Q a1 a3) {s t : Rat} (s0 : 0 ≤ s) (s1 : s ≤ 1) (t0 : 0 ≤ t) (t1 : t ≤ 1) :
    1/5 ≤ 1 + (a1 - 1) * s + (a3 - 1) * t ∧ ((bilW s t).img (ts Q.str)).px Q.str * (1 + (a1 - 1) * s + (a3 - 1) * t) = A11 Q.str a1 * s + A21 Q.str a3 * t + Q.str.x0 ∧
      ((bilW s t).img (ts Q.str)).py Q.str * (1 + (a1 - 1) * s + (a3 - 1) * t) = A12 Q.str a1 * s + A22 Q.str a3 * t + Q.str.y0 := by
  have F := str_F h.F
  have r1 := h.r1
  have r3 := h.r3
  have r2 := h.r2
  unfold In at r1 r2 r3
  have hok := bilW_ok s0 s1 t0 t1
  have hD : 1/5 ≤ 1 + (a1 - 1) * s + (a3 - 1) * t := by
    have := mean_le hok (x := 1/5) (c0 := 1) (c1 := a1) (c2 := a1 + a3 - 1) (c3 := a3) (by decide +kernel) (by grind) (by grind) (by grind)
    unfold bilW at this
    dsimp only at this
    grind
  obtain ⟨m, hm⟩ := ts_ge h
  have htot : (bilW s t).tot (ts Q.str) = Q.str.d123 * (1 + (a1 - 1) * s + (a3 - 1) * t) := by
    unfold bilW ts Wt.tot
    dsimp only
    rw [← F.h1, ← F.h2, ← F.h3]; grind
  have hpos := F.pos
  have hp : 0 < (bilW s t).tot (ts Q.str) := by rw [htot]; exact Rat.mul_pos hpos (by grind)
  have e0 : (bilW s t).w0 * (ts Q.str).t0 / (bilW s t).tot (ts Q.str) * (bilW s t).tot (ts Q.str) = _ := div_mul' hp
  have e1 : (bilW s t).w1 * (ts Q.str).t1 / (bilW s t).tot (ts Q.str) * (bilW s t).tot (ts Q.str) = _ := div_mul' hp
  have e2 : (bilW s t).w2 * (ts Q.str).t2 / (bilW s t).tot (ts Q.str) * (bilW s t).tot (ts Q.str) = _ := div_mul' hp
  have e3 : (bilW s t).w3 * (ts Q.str).t3 / (bilW s t).tot (ts Q.str) * (bilW s t).tot (ts Q.str) = _ := div_mul' hp
  have fx := F.mx
  have fy := F.my
  refine ⟨hD, cancel hpos ?_, cancel hpos ?_⟩
  · have l : ((bilW s t).img (ts Q.str)).px Q.str * (1 + (a1 - 1) * s + (a3 - 1) * t) * Q.str.d123 = ((bilW s t).img (ts Q.str)).px Q.str * (bilW s t).tot (ts Q.str) := by rw [htot]; grind
    rw [l]
    unfold Wt.img Wt.px
    dsimp only
    have k : ∀ a b c d x0 x1 x2 x3 T : Rat, (a * x0 + b * x1 + c * x2 + d * x3) * T = (a * T) * x0 + (b * T) * x1 + (c * T) * x2 + (d * T) * x3 := by intro a b c d x0 x1 x2 x3 T; grind
    rw [k, e0, e1, e2, e3]
    unfold bilW ts
    dsimp only
    rw [← F.h1, ← F.h2, ← F.h3]
    have g : s * t * ((a1 + a3 - 1) * Q.str.d123) * Q.str.x2 = s * t * Q.str.d123 * ((a1 + a3 - 1) * Q.str.x2) := by grind
    rw [g, ← fx]; unfold A11 A21; grind
  · have l : ((bilW s t).img (ts Q.str)).py Q.str * (1 + (a1 - 1) * s + (a3 - 1) * t) * Q.str.d123 = ((bilW s t).img (ts Q.str)).py Q.str * (bilW s t).tot (ts Q.str) := by rw [htot]; grind
    rw [l]
    unfold Wt.img Wt.py
    dsimp only
    have k : ∀ a b c d x0 x1 x2 x3 T : Rat, (a * x0 + b * x1 + c * x2 + d * x3) * T = (a * T) * x0 + (b * T) * x1 + (c * T) * x2 + (d * T) * x3 := by intro a b c d x0 x1 x2 x3 T; grind
    rw [k, e0, e1, e2, e3]
    unfold bilW ts
    dsimp only
    rw [← F.h1, ← F.h2, ← F.h3]
    have g : s * t * ((a1 + a3 - 1) * Q.str.d123) * Q.str.y2 = s * t * Q.str.d123 * ((a1 + a3 - 1) * Q.str.y2) := by grind
    rw [g, ← fy]; unfold A12 A22; grind

theorem wh_ap {x : Nat} {n : Int} {M : Nat} {v : Rat} (h : Wh x n M) (e : (n : Rat) = v) : Ap x v 0 := by
  unfold Wh at h; exact e ▸ h.ap

/-- the map of the grid: where it takes the modules' middles -/
theorem grid_ap {q p : Q8} {Q : Quad} {a1 a3 : Rat} (h : QZ q Q a1 a3) (hp : PZ p Q.str) {W H : Nat} (hW : 2 ≤ W ∧ W ≤ 13) (hH : 2 ≤ H ∧ H ≤ 13) :
    ∃ a a' b r, S2QR (gridQ W H) a ∧ AdjR a a' ∧ S2QR p b ∧ TimesR b a' r ∧
      ∀ i j, i < W → j < H → ∃ x' y', TPtR r (hf i) (hf j) x' y' ∧ Ap x' ((modW Q.str W H i j).px Q.str) (1/10^4) ∧ Ap y' ((modW Q.str W H i j).py Q.str) (1/10^4) := by
  have z := wh0 400 (by omega)
  have wW : Wh (ofI (W : Int)) W 400 := wh_ofI _ _ (by omega) (by omega)
  have wH : Wh (ofI (H : Int)) H 400 := wh_ofI _ _ (by omega) (by omega)
  obtain ⟨a, h1, k1⟩ := s2q_wh (gridQ W H) 0 W W 0 0 0 H H z wW wW z z z wH wH (by omega) (by omega)
  obtain ⟨o, h2, k2⟩ := adj_wh k1 (by omega)
  obtain ⟨b, h3, k3⟩ := s2q_near h hp
  have rW0 : (2:Rat) ≤ (W : Rat) := by exact_mod_cast hW.1
  have rW1 : (W : Rat) ≤ 13 := by exact_mod_cast hW.2
  have rH0 : (2:Rat) ≤ (H : Rat) := by exact_mod_cast hH.1
  have rH1 : (H : Rat) ≤ 13 := by exact_mod_cast hH.2
  have bW : Bd (W : Rat) 13 := by unfold Bd; constructor <;> grind
  have bH : Bd (H : Rat) 13 := by unfold Bd; constructor <;> grind
  have cI : (((W : Int)) : Rat) = (W : Rat) ∧ (((H : Int)) : Rat) = (H : Rat) := ⟨rfl, rfl⟩
  have q11 : Ap o.a11 (H : Rat) 0 := wh_ap k2.h11 (by simp only [adjI]; have : ((H : Int) - 0) * 1 - 0 * 0 = (H : Int) := by omega
                                                      rw [this]; rfl)
  have q21 : Ap o.a21 0 0 := wh_ap k2.h21 (by simp only [adjI]; have : 0 * 0 - ((W : Int) - W) * 1 = 0 := by omega
                                              rw [this]; rfl)
  have q31 : Ap o.a31 0 0 := wh_ap k2.h31 (by simp only [adjI]; have : ((W : Int) - W) * 0 - ((H : Int) - 0) * 0 = 0 := by omega
                                              rw [this]; rfl)
  have q12 : Ap o.a12 0 0 := wh_ap k2.h12 (by simp only [adjI]; have : (0 : Int) * 0 - (0 - 0) * 1 = 0 := by omega
                                              rw [this]; rfl)
  have q22 : Ap o.a22 (W : Rat) 0 := wh_ap k2.h22 (by simp only [adjI]; have : ((W : Int) - 0) * 1 - 0 * 0 = (W : Int) := by omega
                                                      rw [this]; rfl)
  have q32 : Ap o.a32 0 0 := wh_ap k2.h32 (by simp only [adjI]; have : (0 - 0 : Int) * 0 - ((W : Int) - 0) * 0 = 0 := by omega
                                              rw [this]; rfl)
  have q13 : Ap o.a13 0 0 := wh_ap k2.h13 (by simp only [adjI]; have : (0 - 0 : Int) * 0 - 0 * ((H : Int) - 0) = 0 := by omega
                                              rw [this]; rfl)
  have q23 : Ap o.a23 0 0 := wh_ap k2.h23 (by simp only [adjI]; have : (0 : Int) * ((W : Int) - W) - ((W : Int) - 0) * 0 = 0 := by omega
                                              rw [this]; rfl)
  have q33 : Ap o.a33 ((W : Rat) * (H : Rat)) 0 := wh_ap k2.h33 (by
    simp only [adjI]
    have : ((W : Int) - 0) * ((H : Int) - 0) - (0 - 0) * ((W : Int) - W) = (W : Int) * (H : Int) := by simp
    rw [this, Rat.intCast_mul]; rfl)
  have hc := co_of h
  have r1 := h.r1
  have r3 := h.r3
  unfold In at r1 r3
  have t1 : Bd a1 3 := by unfold Bd; constructor <;> grind
  have t3 : Bd a3 3 := by unfold Bd; constructor <;> grind
  have bx0 : Bd Q.str.x0 41 := by have := hc.x0; unfold Bd; constructor <;> grind
  have by0 : Bd Q.str.y0 41 := by have := hc.y0; unfold Bd; constructor <;> grind
  have bx1 : Bd Q.str.x1 161 := by have := hc.x1; unfold Bd; constructor <;> grind
  have by1 : Bd Q.str.y1 161 := by have := hc.y1; unfold Bd; constructor <;> grind
  have bx3 : Bd Q.str.x3 161 := by have := hc.x3; unfold Bd; constructor <;> grind
  have by3 : Bd Q.str.y3 161 := by have := hc.y3; unfold Bd; constructor <;> grind
  have c11 : Bd (A11 Q.str a1) 620 := (Bd.sub (Bd.mul t1 bx1) bx0).mono (by decide +kernel)
  have c21 : Bd (A21 Q.str a3) 620 := (Bd.sub (Bd.mul t3 bx3) bx0).mono (by decide +kernel)
  have c12 : Bd (A12 Q.str a1) 620 := (Bd.sub (Bd.mul t1 by1) by0).mono (by decide +kernel)
  have c22 : Bd (A22 Q.str a3) 620 := (Bd.sub (Bd.mul t3 by3) by0).mono (by decide +kernel)
  have c13 : Bd (a1 - 1) 2 := by unfold Bd; constructor <;> grind
  have c23 : Bd (a3 - 1) 2 := by unfold Bd; constructor <;> grind
  have c33 : Bd (1:Rat) 2 := by unfold Bd; decide +kernel
  obtain ⟨⟨x11, d11, n11⟩, ⟨x21, d21, n21⟩, ⟨x31, d31, n31⟩⟩ := row_ap k3.a11 k3.a21 k3.a31 c11 c21 (bx0.mono (by decide +kernel)) q11 q22 q33 q12 q13 q21 q23 q31 q32 bH bW
  obtain ⟨⟨x12, d12, n12⟩, ⟨x22, d22, n22⟩, ⟨x32, d32, n32⟩⟩ := row_ap k3.a12 k3.a22 k3.a32 c12 c22 (by0.mono (by decide +kernel)) q11 q22 q33 q12 q13 q21 q23 q31 q32 bH bW
  obtain ⟨⟨x13, d13, n13⟩, ⟨x23, d23, n23⟩, ⟨x33, d33, n33⟩⟩ := rowB_ap k3.a13 k3.a23 k3.a33 c13 c23 c33 q11 q22 q33 q12 q13 q21 q23 q31 q32 bH bW
  refine ⟨a, o, b, ⟨x11, x21, x31, x12, x22, x32, x13, x23, x33⟩, h1, h2, h3, ⟨d11, d21, d31, d12, d22, d32, d13, d23, d33⟩, fun i j hi hj => ?_⟩
  have u := hf_ap i (by omega)
  have v := hf_ap j (by omega)
  have i0 : (0:Rat) ≤ (i : Rat) := by exact_mod_cast Nat.zero_le i
  have i1 : (i : Rat) ≤ 12 := by exact_mod_cast (show i ≤ 12 by omega)
  have j0 : (0:Rat) ≤ (j : Rat) := by exact_mod_cast Nat.zero_le j
  have j1 : (j : Rat) ≤ 12 := by exact_mod_cast (show j ≤ 12 by omega)
  have bu : Bd ((i : Rat) + 1/2) 13 := by unfold Bd; constructor <;> grind
  have bv : Bd ((j : Rat) + 1/2) 13 := by unfold Bd; constructor <;> grind
  have bD : Bd ((W : Rat) * (H : Rat)) 169 := (Bd.mul bW bH).mono (by decide +kernel)
  obtain ⟨den, g1, m1⟩ := dot2_apD (V := 26) (D := 13) (C := 338) (F := 2/10^8) (G := 5/10^8) (H := 1/10^7) n13 u n23 v n33 ((Bd.mul c13 bH).mono (by decide +kernel)) ((Bd.mul c23 bW).mono (by decide +kernel)) bu bv ((Bd.mul c33 bD).mono (by decide +kernel))
    (by decide +kernel) (by decide +kernel) (by decide +kernel) (by decide +kernel) (by decide +kernel) (by decide +kernel)
  obtain ⟨nx, g2, m2⟩ := dot2_apD (V := 8060) (D := 13) (C := 620 * 169) (F := 2/10^6) (G := 5/10^6) (H := 1/10^5) n11 u n21 v n31 ((Bd.mul c11 bH).mono (by decide +kernel)) ((Bd.mul c21 bW).mono (by decide +kernel)) bu bv (Bd.mul (bx0.mono (by decide +kernel)) bD)
    (by decide +kernel) (by decide +kernel) (by decide +kernel) (by decide +kernel) (by decide +kernel) (by decide +kernel)
  obtain ⟨ny, g3, m3⟩ := dot2_apD (V := 8060) (D := 13) (C := 620 * 169) (F := 2/10^6) (G := 5/10^6) (H := 1/10^5) n12 u n22 v n32 ((Bd.mul c12 bH).mono (by decide +kernel)) ((Bd.mul c22 bW).mono (by decide +kernel)) bu bv (Bd.mul (by0.mono (by decide +kernel)) bD)
    (by decide +kernel) (by decide +kernel) (by decide +kernel) (by decide +kernel) (by decide +kernel) (by decide +kernel)
  have s1 := sOf_in hi
  have s2 := sOf_in hj
  obtain ⟨hD, ex, ey⟩ := mod_px h s1.1 s1.2 s2.1 s2.2
  have es := sOf_mul (i := i) (show 0 < W by omega)
  have et := sOf_mul (i := j) (show 0 < H by omega)
  have hok := img_ok (bilW_ok s1.1 s1.2 s2.1 s2.2) (ts_ge h).choose_spec
  have eden : (a1 - 1) * (H : Rat) * ((i : Rat) + 1/2) + (a3 - 1) * (W : Rat) * ((j : Rat) + 1/2) + 1 * ((W : Rat) * (H : Rat)) = (W : Rat) * (H : Rat) * (1 + (a1 - 1) * sOf W i + (a3 - 1) * sOf H j) := by rw [← es, ← et]; grind
  have enx : A11 Q.str a1 * (H : Rat) * ((i : Rat) + 1/2) + A21 Q.str a3 * (W : Rat) * ((j : Rat) + 1/2) + Q.str.x0 * ((W : Rat) * (H : Rat)) = (W : Rat) * (H : Rat) * (A11 Q.str a1 * sOf W i + A21 Q.str a3 * sOf H j + Q.str.x0) := by rw [← es, ← et]; grind
  have eny : A12 Q.str a1 * (H : Rat) * ((i : Rat) + 1/2) + A22 Q.str a3 * (W : Rat) * ((j : Rat) + 1/2) + Q.str.y0 * ((W : Rat) * (H : Rat)) = (W : Rat) * (H : Rat) * (A12 Q.str a1 * sOf W i + A22 Q.str a3 * sOf H j + Q.str.y0) := by rw [← es, ← et]; grind
  rw [eden] at m1
  rw [enx, ← ex] at m2
  rw [eny, ← ey] at m3
  have hWH : 4 ≤ (W : Rat) * (H : Rat) := by
    have := mul4 rW0 rH0 (by decide +kernel) (by grind)
    grind
  have hden : 8/10 ≤ (W : Rat) * (H : Rat) * (1 + (a1 - 1) * sOf W i + (a3 - 1) * sOf H j) := by
    have := mul4 hWH hD (by decide +kernel) (by grind)
    grind
  have px : Bd ((modW Q.str W H i j).px Q.str) 162 ∧ Bd ((modW Q.str W H i j).py Q.str) 162 := by
    have q0 := hc.x0
    have q1 := hc.x1
    have q2 := hc.x2
    have q3 := hc.x3
    have p0 := hc.y0
    have p1 := hc.y1
    have p2 := hc.y2
    have p3 := hc.y3
    have l1 := mean_le hok (x := -(162:Rat)) (c0 := Q.str.x0) (c1 := Q.str.x1) (c2 := Q.str.x2) (c3 := Q.str.x3) (by grind) (by grind) (by grind) (by grind)
    have l2 := mean_le hok (x := -(162:Rat)) (c0 := -Q.str.x0) (c1 := -Q.str.x1) (c2 := -Q.str.x2) (c3 := -Q.str.x3) (by grind) (by grind) (by grind) (by grind)
    have l3 := mean_le hok (x := -(162:Rat)) (c0 := Q.str.y0) (c1 := Q.str.y1) (c2 := Q.str.y2) (c3 := Q.str.y3) (by grind) (by grind) (by grind) (by grind)
    have l4 := mean_le hok (x := -(162:Rat)) (c0 := -Q.str.y0) (c1 := -Q.str.y1) (c2 := -Q.str.y2) (c3 := -Q.str.y3) (by grind) (by grind) (by grind) (by grind)
    unfold modW Wt.px Wt.py Bd
    constructor <;> constructor <;> grind
  obtain ⟨x', f1, f2⟩ := Ap.div m2 m1 ((modW Q.str W H i j).px Q.str) 162 (8/10) (5/10^5) (1/10^4) (by unfold modW; grind) px.1 (Or.inl hden) (by decide +kernel) (by decide +kernel) (by decide +kernel) (by decide +kernel) (by decide +kernel)
  obtain ⟨y', f3, f4⟩ := Ap.div m3 m1 ((modW Q.str W H i j).py Q.str) 162 (8/10) (5/10^5) (1/10^4) (by unfold modW; grind) px.2 (Or.inl hden) (by decide +kernel) (by decide +kernel) (by decide +kernel) (by decide +kernel) (by decide +kernel)
  exact ⟨x', y', ⟨den, nx, ny, g1, g2, f1, g3, f3⟩, f2, f4⟩

end Go.Proofs.Ytaadklfendegfaa

/- All that the walk of FnZSLeaning asks of the numbers. -/
namespace Go.Proofs.Ytaadklfendegfaa
open Go Fl Geo

theorem trunc_ap {x : Nat} {v : Rat} (h : Ap x v (1/10^4)) (h0 : 7/10 ≤ v) (h1 : v ≤ 160) : ∃ n : Nat, floatToIntVal .f64 x .i64 = some (n : Int) ∧ n < 170 ∧ Bd ((n : Rat) + 1/2 - v) (5001/10000) := by
  have hn := h.near
  have e : (1/10^4 : Rat) = 1/10000 := by decide +kernel
  rw [e] at hn
  unfold Nr at hn
  obtain ⟨n, k1, k2, _⟩ := toInt_val h.fin
  obtain ⟨g1, g2, g3⟩ := k2 (by grind)
  obtain ⟨m, rfl⟩ := Int.eq_ofNat_of_zero_le g1
  have em : (((m : Int)) : Rat) = (m : Rat) := rfl
  rw [em] at g2 g3
  have hlt : (m : Rat) < ((170 : Nat) : Rat) := by
    have : ((170 : Nat) : Rat) = 170 := rfl
    rw [this]; grind
  have hm : m < 170 := by exact_mod_cast hlt
  refine ⟨m, ?_, hm, by unfold Bd; constructor <;> grind⟩
  unfold floatToIntVal
  have k1' : (FloatKind.f64.decode x).toInt .zero = some (m : Int) := k1
  rw [k1']
  have m1 : IntKind.i64.min = -9223372036854775808 := rfl
  have m2 : IntKind.i64.max = 9223372036854775807 := rfl
  show (if IntKind.i64.min ≤ (m : Int) ∧ (m : Int) ≤ IntKind.i64.max then some (m : Int) else none) = _
  rw [if_pos (by rw [m1, m2]; omega)]

theorem mod_in {q : Q8} {Q : Quad} {a1 a3 : Rat} (h : QZ q Q a1 a3) (hs : Sides Q) {W H i j : Nat} (hi : i < W) (hj : j < H) :
    (7/10 ≤ (modW Q.str W H i j).px Q.str ∧ (modW Q.str W H i j).px Q.str ≤ 160) ∧ 7/10 ≤ (modW Q.str W H i j).py Q.str ∧ (modW Q.str W H i j).py Q.str ≤ 160 := by
  have s1 := sOf_in hi
  have s2 := sOf_in hj
  have hok := img_ok (bilW_ok s1.1 s1.2 s2.1 s2.2) (ts_ge h).choose_spec
  have q0 := hs.ix0
  have q1 := hs.ix1
  have q2 := hs.ix2
  have q3 := hs.ix3
  have p0 := hs.iy0
  have p1 := hs.iy1
  have p2 := hs.iy2
  have p3 := hs.iy3
  have l1 := mean_le hok (x := 7/10) (c0 := Q.str.x0) (c1 := Q.str.x1) (c2 := Q.str.x2) (c3 := Q.str.x3) (by unfold Quad.str; dsimp only; grind) (by unfold Quad.str; dsimp only; grind) (by unfold Quad.str; dsimp only; grind) (by unfold Quad.str; dsimp only; grind)
  have l2 := mean_le hok (x := -(160:Rat)) (c0 := -Q.str.x0) (c1 := -Q.str.x1) (c2 := -Q.str.x2) (c3 := -Q.str.x3) (by unfold Quad.str; dsimp only; grind) (by unfold Quad.str; dsimp only; grind) (by unfold Quad.str; dsimp only; grind) (by unfold Quad.str; dsimp only; grind)
  have l3 := mean_le hok (x := 7/10) (c0 := Q.str.y0) (c1 := Q.str.y1) (c2 := Q.str.y2) (c3 := Q.str.y3) (by unfold Quad.str; dsimp only; grind) (by unfold Quad.str; dsimp only; grind) (by unfold Quad.str; dsimp only; grind) (by unfold Quad.str; dsimp only; grind)
  have l4 := mean_le hok (x := -(160:Rat)) (c0 := -Q.str.y0) (c1 := -Q.str.y1) (c2 := -Q.str.y2) (c3 := -Q.str.y3) (by unfold Quad.str; dsimp only; grind) (by unfold Quad.str; dsimp only; grind) (by unfold Quad.str; dsimp only; grind) (by unfold Quad.str; dsimp only; grind)
  clear q0 q1 q2 q3 p0 p1 p2 p3
  unfold modW Wt.px Wt.py
  refine ⟨⟨?_, ?_⟩, ?_, ?_⟩ <;> grind

def of4 (a b c d : Nat) : Nat → Nat
  | 0 => a
  | 1 => b
  | 2 => c
  | _ => d

theorem lean_ok (b : Nat → Int) (hb : ∀ i, i < 8 → -128 ≤ b i ∧ b i ≤ 127) {W H : Nat} (hW : 2 ≤ W ∧ W ≤ 13) (hH : 2 ≤ H ∧ H ≤ 13) :
    ∃ (Q : Q8) (X Y o : Nat → Nat) (PX PY : Nat → Nat → Nat), QuadR (b 0) (b 1) (b 2) (b 3) (b 4) (b 5) (b 6) (b 7) Q ∧
      (StretchR Q.x0 (X 0) ∧ StretchR Q.x1 (X 1) ∧ StretchR Q.x2 (X 2) ∧ StretchR Q.x3 (X 3)) ∧ (StretchR Q.y0 (Y 0) ∧ StretchR Q.y1 (Y 1) ∧ StretchR Q.y2 (Y 2) ∧ StretchR Q.y3 (Y 3)) ∧ LeanOK W H X Y o PX PY := by
  obtain ⟨q, Q, a1, a3, hq, hz, hs⟩ := quad_lw b hb
  have cv : ∀ v : Rat, In v 33 67 ∨ In v 133 167 → 33 ≤ v ∧ v ≤ 167 := fun v h => by unfold In at h; rcases h with h | h <;> constructor <;> grind
  obtain ⟨x0, p0, n0⟩ := stretch_ap hz.x0 (cv _ (Or.inl hz.ix0))
  obtain ⟨x1, p1, n1⟩ := stretch_ap hz.x1 (cv _ (Or.inr hz.ix1))
  obtain ⟨x2, p2, n2⟩ := stretch_ap hz.x2 (cv _ (Or.inr hz.ix2))
  obtain ⟨x3, p3, n3⟩ := stretch_ap hz.x3 (cv _ (Or.inl hz.ix3))
  obtain ⟨y0, r0, m0⟩ := stretch_ap hz.y0 (cv _ (Or.inl hz.iy0))
  obtain ⟨y1, r1, m1⟩ := stretch_ap hz.y1 (cv _ (Or.inl hz.iy1))
  obtain ⟨y2, r2, m2⟩ := stretch_ap hz.y2 (cv _ (Or.inr hz.iy2))
  obtain ⟨y3, r3, m3⟩ := stretch_ap hz.y3 (cv _ (Or.inr hz.iy3))
  have hX : ∀ i, i < 4 → Ap (of4 x0 x1 x2 x3 i) (Q.str.X i) (1/10^12) := fun i hi => by
    rcases (show i = 0 ∨ i = 1 ∨ i = 2 ∨ i = 3 by omega) with rfl | rfl | rfl | rfl
    · exact n0
    · exact n1
    · exact n2
    · exact n3
  have hY : ∀ i, i < 4 → Ap (of4 y0 y1 y2 y3 i) (Q.str.Y i) (1/10^12) := fun i hi => by
    rcases (show i = 0 ∨ i = 1 ∨ i = 2 ∨ i = 3 by omega) with rfl | rfl | rfl | rfl
    · exact m0
    · exact m1
    · exact m2
    · exact m3
  obtain ⟨o, z, J, e1, e2, e3, e4, e5⟩ := mapL_ex hz hW hH hX hY
  have hsol : SolL Q a1 a3 W H z J := ⟨e3, e4, e5⟩
  obtain ⟨a, a', b', r, g1, g2, g3, g4, g5⟩ := grid_ap (p := q8 (of4 x0 x1 x2 x3) (of4 y0 y1 y2 y3)) hz ⟨n0, m0, n1, m1, n2, m2, n3, m3⟩ hW hH
  have cell : ∀ ij : Nat × Nat, ∃ pq : Nat × Nat, ij.1 < W → ij.2 < H → (∃ x' y', TPtR r (hf ij.1) (hf ij.2) x' y' ∧ floatToIntVal .f64 x' .i64 = some (pq.1 : Int) ∧ floatToIntVal .f64 y' .i64 = some (pq.2 : Int)) ∧ (pq.1 < 170 ∧ pq.2 < 170) ∧
      Bd ((pq.1 : Rat) + 1/2 - (modW Q.str W H ij.1 ij.2).px Q.str) (5001/10000) ∧ Bd ((pq.2 : Rat) + 1/2 - (modW Q.str W H ij.1 ij.2).py Q.str) (5001/10000) := by
    intro ij
    by_cases hc : ij.1 < W ∧ ij.2 < H
    · obtain ⟨x', y', t1, t2, t3⟩ := g5 ij.1 ij.2 hc.1 hc.2
      obtain ⟨⟨k1, k2⟩, k3, k4⟩ := mod_in hz hs hc.1 hc.2
      obtain ⟨n, u1, u2, u3⟩ := trunc_ap t2 k1 k2
      obtain ⟨m, v1, v2, v3⟩ := trunc_ap t3 k3 k4
      exact ⟨(n, m), fun _ _ => ⟨⟨x', y', t1, u1, v1⟩, ⟨u2, v2⟩, u3, v3⟩⟩
    · exact ⟨(0, 0), fun h1 h2 => absurd ⟨h1, h2⟩ hc⟩
  obtain ⟨P, hP⟩ := Classical.axiomOfChoice cell
  refine ⟨q, of4 x0 x1 x2 x3, of4 y0 y1 y2 y3, o, fun i j => (P (i, j)).1, fun i j => (P (i, j)).2, hq, ⟨p0, p1, p2, p3⟩, ⟨r0, r1, r2, r3⟩, ⟨e1, ?_, ?_, ?_, ?_⟩⟩
  · intro x y hx hy
    obtain ⟨dx, dy, zz, n, m, k1, _⟩ := atL_ap hz e2 hsol hx hy
    exact ⟨dx, dy, zz, n, m, k1⟩
  · exact ⟨a, a', b', r, g1, g2, g3, g4, fun i j hi hj => (hP (i, j) hi hj).1⟩
  · exact fun i j hi hj => (hP (i, j) hi hj).2.1
  · intro i j hi hj
    obtain ⟨_, ⟨k1, k2⟩, k3, k4⟩ := hP (i, j) hi hj
    exact pixL hz hs hW hH e2 hsol hi hj k1 k2 k3 k4

end Go.Proofs.Ytaadklfendegfaa
