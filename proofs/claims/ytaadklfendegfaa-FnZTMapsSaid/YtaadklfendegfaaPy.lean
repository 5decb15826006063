/- One step of the map on floats. -/
import Derived.Test.YtaadklfendegfaaPx
namespace Go.Proofs.Ytaadklfendegfaa
open Go Fl Geo

theorem spread {D m e s T : Rat} (he : 0 ≤ e) (hm : 0 < m) (hD : 999/1000 * m ≤ D) (h : Bd ((s - T) * D) (6/125 * e * 134 * (62 * m))) : Nr s T (400 * e) := by
  have hem := Rat.mul_nonneg he (show 0 ≤ m by grind)
  have hED := Rat.mul_le_mul_of_nonneg_left hD he
  have hp : 0 < D := by grind
  unfold Bd at h
  unfold Nr
  constructor
  · apply Classical.byContradiction; intro hc
    have : 0 < (s - T - 400 * e) * D := Rat.mul_pos (by grind) hp
    grind
  · apply Classical.byContradiction; intro hc
    have : 0 < (T - s - 400 * e) * D := Rat.mul_pos (by grind) hp
    grind

theorem bd_self {t : Rat} (h : 0 < t) : Bd t t := by unfold Bd; constructor <;> grind

theorem bd_cross {t u T : Rat} (h : 0 < t) (hu : In u 33 167) (hT : In T 33 167) : Bd (t * u - T * t) (134 * t) := by
  have k : Bd (u - T) 134 := by unfold In Bd at *; constructor <;> grind
  have := Bd.mul (bd_self h) k
  have e : t * u - T * t = t * (u - T) := by grind
  rw [e]; exact this.mono (by grind)

/-- a coordinate's spread: c's are the map's numbers for it, d's the divisor's -/
theorem step_one {q : Q8} {Q : Quad} {a1 a3 : Rat} (h : QZ q Q a1 a3) {t : Tau} {m : Rat} (ht : t.Ge m) (hs : t.t1 + 2 * t.t0 + t.t3 ≤ 62 * m) {c1 c2 c3 d1 d2 d3 u0 u1 u3 T dx dy e D N D0 : Rat}
    (k0 : c1 * Q.x0 + c2 * Q.y0 + c3 = t.t0 * u0) (k1 : c1 * Q.x1 + c2 * Q.y1 + c3 = t.t1 * u1) (k3 : c1 * Q.x3 + c2 * Q.y3 + c3 = t.t3 * u3)
    (l0 : d1 * Q.x0 + d2 * Q.y0 + d3 = t.t0) (l1 : d1 * Q.x1 + d2 * Q.y1 + d3 = t.t1) (l3 : d1 * Q.x3 + d2 * Q.y3 + d3 = t.t3)
    (hu0 : In u0 33 167) (hu1 : In u1 33 167) (hu3 : In u3 33 167) (hT : In T 33 167) (hx : Bd dx e) (hy : Bd dy e) (he1 : e ≤ 1/100000000)
    (hD0 : m ≤ D0) (hD : D = D0 + (d1 * dx + d2 * dy)) (hN : N = T * D0 + (c1 * dx + c2 * dy)) :
    999/1000 * m ≤ D ∧ Nr (N / D) T (400 * e) ∧ N / D * D = N := by
  have hm := ht.pos
  have p0 : 0 < t.t0 := by have := ht.g0; grind
  have p1 : 0 < t.t1 := by have := ht.g1; grind
  have p3 : 0 < t.t3 := by have := ht.g3; grind
  have he := hx.nonneg
  have hem := Rat.mul_nonneg he (show 0 ≤ m by grind)
  have b1 := lin_bd h hx hy (c1 := d1) (c2 := d2) (c3 := d3) (by rw [l0]; exact bd_self p0) (by rw [l1]; exact bd_self p1) (by rw [l3]; exact bd_self p3)
  have es := Rat.mul_le_mul_of_nonneg_left hs he
  have em := Rat.mul_le_mul_of_nonneg_right he1 (show 0 ≤ m by grind)
  have hDm : 999/1000 * m ≤ D := by
    unfold Bd at b1
    rw [hD]; grind
  have hp : 0 < D := by grind
  have b2 := lin_bd h hx hy (c1 := c1 - T * d1) (c2 := c2 - T * d2) (c3 := c3 - T * d3) (B0 := 134 * t.t0) (B1 := 134 * t.t1) (B3 := 134 * t.t3)
    (by have e : (c1 - T * d1) * Q.x0 + (c2 - T * d2) * Q.y0 + (c3 - T * d3) = (c1 * Q.x0 + c2 * Q.y0 + c3) - T * (d1 * Q.x0 + d2 * Q.y0 + d3) := (by grind)
        rw [e, k0, l0]; exact bd_cross p0 hu0 hT)
    (by have e : (c1 - T * d1) * Q.x1 + (c2 - T * d2) * Q.y1 + (c3 - T * d3) = (c1 * Q.x1 + c2 * Q.y1 + c3) - T * (d1 * Q.x1 + d2 * Q.y1 + d3) := (by grind)
        rw [e, k1, l1]; exact bd_cross p1 hu1 hT)
    (by have e : (c1 - T * d1) * Q.x3 + (c2 - T * d2) * Q.y3 + (c3 - T * d3) = (c1 * Q.x3 + c2 * Q.y3 + c3) - T * (d1 * Q.x3 + d2 * Q.y3 + d3) := (by grind)
        rw [e, k3, l3]; exact bd_cross p3 hu3 hT)
  have hq : N / D * D = N := div_mul' hp
  refine ⟨hDm, spread he hm hDm ?_, hq⟩
  have e1 : (N / D - T) * D = (c1 - T * d1) * dx + (c2 - T * d2) * dy := by
    have : (N / D - T) * D = N / D * D - T * D := by grind
    rw [this, hq, hN, hD]; grind
  rw [e1]
  exact b2.mono (by grind)

theorem step_ap {q p : Q8} {Q P : Quad} {a1 a3 b1 b3 : Rat} {r : M9} (h : QZ q Q a1 a3) (g : QZ p P b1 b3) (k : NearH r Q P a1 a3 b1 b3) {w : Wt} (hw : w.OK) {x y : Nat} {e : Rat} (he : e ≤ 1/100000000)
    (hx : Ap x (w.px Q) e) (hy : Ap y (w.py Q) e) :
    ∃ x' y', TPtR r x y x' y' ∧ Ap x' ((w.img (tau Q a1 a3 b1 b3)).px P) (400 * e + 3/2000000000) ∧ Ap y' ((w.img (tau Q a1 a3 b1 b3)).py P) (400 * e + 3/2000000000) := by
  obtain ⟨m, hm, ht, hs⟩ := tau_ge h g
  have hpx := px_in hw h
  have hok := img_ok hw ht
  have hT := px_in hok g
  have hD0 := tot_ge hw ht
  have n1 := hx.near
  have n2 := hy.near
  have bdx : Bd (val x - w.px Q) e := by unfold Nr at n1; unfold Bd; constructor <;> grind
  have bdy : Bd (val y - w.py Q) e := by unfold Nr at n2; unfold Bd; constructor <;> grind
  have lo : ∀ x : Rat, In x 33 67 → In x 33 167 := fun x h => by unfold In at *; grind
  have hi : ∀ x : Rat, In x 133 167 → In x 33 167 := fun x h => by unfold In at *; grind
  have dd : DD Q a1 a3 b1 b3 (val x) (val y) = w.tot (tau Q a1 a3 b1 b3) + (H13 Q a1 a3 b1 b3 * (val x - w.px Q) + H23 Q a1 a3 b1 b3 * (val y - w.py Q)) := by
    rw [← img_DD hw h]; unfold DD; grind
  have nx : NX Q P a1 a3 b1 b3 (val x) (val y) = (w.img (tau Q a1 a3 b1 b3)).px P * w.tot (tau Q a1 a3 b1 b3) + (H11 Q P a1 a3 b1 b3 * (val x - w.px Q) + H21 Q P a1 a3 b1 b3 * (val y - w.py Q)) := by
    rw [← img_NX hw h g ht]; unfold NX; grind
  have ny : NY Q P a1 a3 b1 b3 (val x) (val y) = (w.img (tau Q a1 a3 b1 b3)).py P * w.tot (tau Q a1 a3 b1 b3) + (H12 Q P a1 a3 b1 b3 * (val x - w.px Q) + H22 Q P a1 a3 b1 b3 * (val y - w.py Q)) := by
    rw [← img_NY hw h g ht]; unfold NY; grind
  obtain ⟨o1, o2, o3⟩ := step_one h ht hs (c3 := H31 Q P a1 a3 b1 b3) (d3 := H33 Q a1 a3 b1 b3) NX0 NX1 NX3 DD0 DD1 DD3 (lo _ g.ix0) (hi _ g.ix1) (lo _ g.ix3) hT.1 bdx bdy he hD0 dd nx
  obtain ⟨_, s2, s3⟩ := step_one h ht hs (c3 := H32 Q P a1 a3 b1 b3) (d3 := H33 Q a1 a3 b1 b3) NY0 NY1 NY3 DD0 DD1 DD3 (lo _ g.iy0) (lo _ g.iy1) (hi _ g.iy3) hT.2 bdx bdy he hD0 dd ny
  obtain ⟨x', y', t1, t2, t3⟩ := pt_ap k hx.fin hy.fin (by have := hpx.1; unfold In Bd at *; constructor <;> grind) (by have := hpx.2; unfold In Bd at *; constructor <;> grind) (by grind) o3 s3
    (by have := hT.1; unfold In Bd Nr at *; constructor <;> grind) (by have := hT.2; unfold In Bd Nr at *; constructor <;> grind)
  refine ⟨x', y', t1, ⟨t2.fin, ?_⟩, ⟨t3.fin, ?_⟩⟩
  · have := t2.near; unfold Nr at *; grind
  · have := t3.near; unfold Nr at *; grind

end Go.Proofs.Ytaadklfendegfaa
