/- The numbers of a map between two quadrilaterals near a square: bounds, and the inverse's rows. -/
import Derived.Test.YtaadklfendegfaaFg
namespace Go.Proofs.Ytaadklfendegfaa
open Go Fl Geo

def e0M (t : Bool) (c : Nat) : Rat :=
  if t then (match c with | 0 => 76 | 1 => 76 | 2 => 1 | 3 => 0 | 4 => 0 | 5 => 0 | 6 => 12700 | 7 => 12700 | _ => 167)
  else (match c with | 0 => 0 | 1 => 0 | 2 => 0 | 3 => 76 | 4 => 76 | 5 => 1 | 6 => 12700 | 7 => 12700 | _ => 167)
def KM : Nat → Rat
  | 0 => 57/10 | 1 => 57/10 | 2 => 79 | 3 => 57/10 | 4 => 57/10 | 5 => 79 | _ => 1/131
def WlM : Nat → Rat
  | 0 => u53 * 229 | 1 => u53 * 689 | 2 => u53 * 22 | 3 => u53 * 460 | 4 => u53 * 922 | 5 => u53 * 25 | 6 => u53 * 893665 | 7 => u53 * 1519495 | _ => u53 * 19981
def WuM : Nat → Rat
  | 0 => u53 * 0 | 1 => u53 * 471 | 2 => u53 * 19 | 3 => u53 * 1266 | 4 => u53 * 2216 | 5 => u53 * 46 | 6 => u53 * 900837 | 7 => u53 * 1541222 | _ => u53 * 21471

theorem parM : Par e0M KM WlM WuM where
  sz := {
    z := fun t c hc => (by decide +kernel : ∀ t : Bool, ∀ c : Fin 9, e0M t c.1 = 0 ∨ 1 ≤ e0M t c.1) t ⟨c, hc⟩
    zero := fun t c hc h => (by decide +kernel : ∀ t : Bool, ∀ c : Fin 6, own t c.1 = false → e0M t c.1 = 0) t ⟨c, hc⟩ h
    same := fun t t' c h6 hc => (by decide +kernel : ∀ t t' : Bool, ∀ c : Fin 9, 6 ≤ c.1 → e0M t c.1 = e0M t' c.1) t t' ⟨c, hc⟩ h6
    hi := fun t c hc => (by decide +kernel : ∀ t : Bool, ∀ c : Fin 9, e0M t c.1 ≤ 10^6) t ⟨c, hc⟩ }
  Kp := fun r hr => (by decide +kernel : ∀ r : Fin 8, 0 < KM r.1) ⟨r, hr⟩
  Kh := fun r hr => (by decide +kernel : ∀ r : Fin 8, KM r.1 ≤ 5000) ⟨r, hr⟩
  wl0 := fun c hc => (by decide +kernel : ∀ c : Fin 9, 0 ≤ WlM c.1) ⟨c, hc⟩
  wu0 := fun c hc => (by decide +kernel : ∀ c : Fin 9, 0 ≤ WuM c.1) ⟨c, hc⟩
  wl := fun t j c hj hc => (by decide +kernel : ∀ t : Bool, ∀ j c : Fin 9, eL e0M t j.1 c.1 ≤ WlM c.1) t ⟨j, by omega⟩ ⟨c, hc⟩
  wu := fun t j c hj hc => (by decide +kernel : ∀ t : Bool, ∀ j c : Fin 9, eU e0M t j.1 c.1 ≤ WuM c.1) t ⟨j, by omega⟩ ⟨c, hc⟩
  om := by decide +kernel
  omk := fun c hc => (by decide +kernel : ∀ c : Fin 8, KM c.1 * (WlM c.1 + WuM c.1) ≤ 1/1000) ⟨c, hc⟩
  sm := fun c hc => (by decide +kernel : ∀ c : Fin 9, WlM c.1 + WuM c.1 ≤ 1/10^6) ⟨c, hc⟩

theorem lim_le {x m : Rat} (h : ∀ e, 0 < e → x ≤ m + e) : x ≤ m := by
  apply Classical.byContradiction; intro hn
  have := h ((x - m) / 2) (by grind)
  grind

theorem ph_even {x y u : Rat} {R : Nat → Nat} (h : EvenV x y u R) (f : Nat → Rat) : ph f R 0 - f 8 * val (R 8) = f 0 * x + f 1 * y + f 2 - (f 6 * (u * x) + f 7 * (u * y)) := by
  obtain ⟨h0, h1, h2, h3, h4, h5, h6, h7, h8⟩ := h
  unfold ph
  rw [h0, h1, h2, h3, h4, h5, h6, h7, h8]
  simp; grind
theorem ph_odd {x y v : Rat} {R : Nat → Nat} (h : OddV x y v R) (f : Nat → Rat) : ph f R 0 - f 8 * val (R 8) = f 3 * x + f 4 * y + f 5 - (f 6 * (v * x) + f 7 * (v * y)) := by
  obtain ⟨h0, h1, h2, h3, h4, h5, h6, h7, h8⟩ := h
  unfold ph
  rw [h0, h1, h2, h3, h4, h5, h6, h7, h8]
  simp; grind

theorem not_one4 {m e e0 e1 e2 e3 : Rat} (he : 0 < e) (h0 : Bd e0 m) (h1 : Bd e1 m) (h2 : Bd e2 m) (h3 : Bd e3 m) : ¬ One4 (m + e) e0 e1 e2 e3 := by
  unfold One4 Far Bd at *; grind

/-- a row's affine part, where the last two numbers are small -/
theorem aff_part {a b f g z x y u m : Rat} (hr : Bd (a * x + b * y + f - (g * (u * x) + z * (u * y))) m) (hg : Bd g (m / 131)) (hz : Bd z (m / 131)) (hx : Bd x 76) (hy : Bd y 76) (hu : Bd (u - 100) 67) :
    (a - 100 * g) * x + (b - 100 * z) * y + f ≤ 10315/131 * m ∧ -(10315/131 * m) ≤ (a - 100 * g) * x + (b - 100 * z) * y + f := by
  have h1 := Bd.mul hu (Bd.add (Bd.mul hg hx) (Bd.mul hz hy))
  have e : (a - 100 * g) * x + (b - 100 * z) * y + f = (a * x + b * y + f - (g * (u * x) + z * (u * y))) + (u - 100) * (g * x + z * y) := by grind
  rw [e]
  have e2 : 67 * (m / 131 * 76 + m / 131 * 76) = 10184/131 * m := by grind
  rw [e2] at h1
  unfold Bd at *
  constructor <;> grind

theorem cenX (Q : Quad) : Q.cen.X 0 = Q.cen.x0 ∧ Q.cen.X 1 = Q.cen.x1 ∧ Q.cen.X 2 = Q.cen.x2 ∧ Q.cen.X 3 = Q.cen.x3 ∧ Q.cen.Y 0 = Q.cen.y0 ∧ Q.cen.Y 1 = Q.cen.y1 ∧ Q.cen.Y 2 = Q.cen.y2 ∧ Q.cen.Y 3 = Q.cen.y3 := ⟨rfl, rfl, rfl, rfl, rfl, rfl, rfl, rfl⟩

/-- where all rows are small, all numbers are -/
theorem inveM {q p : Q8} {Q P : Quad} {a1 a3 b1 b3 : Rat} (h : QZ q Q a1 a3) (g : QZ p P b1 b3) (hp : Pairs Q.d123 Q.d023 Q.d013 Q.d012) {M0 : Nat → Nat → Nat}
    (he : ∀ i, i < 4 → EvenV (Q.cen.X i) (Q.cen.Y i) (P.X i) (M0 (2 * i))) (ho : ∀ i, i < 4 → OddV (Q.cen.X i) (Q.cen.Y i) (P.Y i) (M0 (2 * i + 1))) : Inve M0 KM := by
  intro f m hf
  have hm : 0 ≤ m := (hf 0 (by omega)).nonneg
  have hE : ∀ i, i < 4 → Bd (f 0 * Q.cen.X i + f 1 * Q.cen.Y i + f 2 - (f 6 * (P.X i * Q.cen.X i) + f 7 * (P.X i * Q.cen.Y i))) m := fun i hi => by
    have := hf (2 * i) (by omega)
    rw [ph_even (he i hi)] at this; exact this
  have hO : ∀ i, i < 4 → Bd (f 3 * Q.cen.X i + f 4 * Q.cen.Y i + f 5 - (f 6 * (P.Y i * Q.cen.X i) + f 7 * (P.Y i * Q.cen.Y i))) m := fun i hi => by
    have := hf (2 * i + 1) (by omega)
    rw [ph_odd (ho i hi)] at this; exact this
  clear hf he ho
  have hc := cen_of h
  have hk := ks_of h
  have key := fun e (he : 0 < e) => gh_small hc hk hp g.ix0 g.ix1 g.ix2 g.ix3 g.iy0 g.iy1 g.iy2 g.iy3 g.i123.1 g.i023.1 g.i013.1 g.i012.1 (f 0) (f 1) (f 2) (f 3) (f 4) (f 5) (f 6) (f 7) (m + e) (by grind)
    (not_one4 he (hE 0 (by omega)) (hE 1 (by omega)) (hE 2 (by omega)) (hE 3 (by omega))) (not_one4 he (hO 0 (by omega)) (hO 1 (by omega)) (hO 2 (by omega)) (hO 3 (by omega)))
  have k7 : Bd (f 7) (m / 131) := by
    have u1 : 131 * f 7 ≤ m := lim_le fun e he => (key e he).1.1
    have u2 : -(131 * f 7) ≤ m := lim_le fun e he => by have := (key e he).1.2; grind
    unfold Bd; constructor <;> grind
  have k6 : Bd (f 6) (m / 131) := by
    have u1 : 131 * f 6 ≤ m := lim_le fun e he => (key e he).2.1
    have u2 : -(131 * f 6) ≤ m := lim_le fun e he => by have := (key e he).2.2; grind
    unfold Bd; constructor <;> grind
  clear key
  have bx0 : Bd Q.cen.x0 76 := by have := hc.x0; unfold Bd; constructor <;> grind
  have bx1 : Bd Q.cen.x1 76 := by have := hc.x1; unfold Bd; constructor <;> grind
  have bx2 : Bd Q.cen.x2 76 := by have := hc.x2; unfold Bd; constructor <;> grind
  have bx3 : Bd Q.cen.x3 76 := by have := hc.x3; unfold Bd; constructor <;> grind
  have by0 : Bd Q.cen.y0 76 := by have := hc.y0; unfold Bd; constructor <;> grind
  have by1 : Bd Q.cen.y1 76 := by have := hc.y1; unfold Bd; constructor <;> grind
  have by2 : Bd Q.cen.y2 76 := by have := hc.y2; unfold Bd; constructor <;> grind
  have by3 : Bd Q.cen.y3 76 := by have := hc.y3; unfold Bd; constructor <;> grind
  have lo : ∀ u : Rat, In u 33 67 → Bd (u - 100) 67 := fun u h => by unfold In Bd at *; constructor <;> grind
  have hi : ∀ u : Rat, In u 133 167 → Bd (u - 100) 67 := fun u h => by unfold In Bd at *; constructor <;> grind
  have sE := affine_small h (a := f 0 - 100 * f 6) (b := f 1 - 100 * f 7) (f := f 2) (t := 10315/131 * m)
    (aff_part (hE 0 (by omega)) k6 k7 bx0 by0 (lo _ g.ix0)) (aff_part (hE 1 (by omega)) k6 k7 bx1 by1 (hi _ g.ix1)) (aff_part (hE 2 (by omega)) k6 k7 bx2 by2 (hi _ g.ix2)) (aff_part (hE 3 (by omega)) k6 k7 bx3 by3 (lo _ g.ix3))
  have sO := affine_small h (a := f 3 - 100 * f 6) (b := f 4 - 100 * f 7) (f := f 5) (t := 10315/131 * m)
    (aff_part (hO 0 (by omega)) k6 k7 bx0 by0 (lo _ g.iy0)) (aff_part (hO 1 (by omega)) k6 k7 bx1 by1 (lo _ g.iy1)) (aff_part (hO 2 (by omega)) k6 k7 bx2 by2 (hi _ g.iy2)) (aff_part (hO 3 (by omega)) k6 k7 bx3 by3 (hi _ g.iy3))
  clear hE hO hc hk bx0 bx1 bx2 bx3 by0 by1 by2 by3 lo hi
  intro r hr
  rcases (show r = 0 ∨ r = 1 ∨ r = 2 ∨ r = 3 ∨ r = 4 ∨ r = 5 ∨ r = 6 ∨ r = 7 by omega) with rfl | rfl | rfl | rfl | rfl | rfl | rfl | rfl
  · show Bd (f 0) (57/10 * m); unfold Bd at *; constructor <;> grind
  · show Bd (f 1) (57/10 * m); unfold Bd at *; constructor <;> grind
  · show Bd (f 2) (79 * m); unfold Bd at *; constructor <;> grind
  · show Bd (f 3) (57/10 * m); unfold Bd at *; constructor <;> grind
  · show Bd (f 4) (57/10 * m); unfold Bd at *; constructor <;> grind
  · show Bd (f 5) (79 * m); unfold Bd at *; constructor <;> grind
  · show Bd (f 6) (1/131 * m); unfold Bd at *; constructor <;> grind
  · show Bd (f 7) (1/131 * m); unfold Bd at *; constructor <;> grind

end Go.Proofs.Ytaadklfendegfaa
