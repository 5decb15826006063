/- The map found by elimination: it exists, and where it takes a point. -/
import Derived.Test.YtaadklfendegfaaFi
namespace Go.Proofs.Ytaadklfendegfaa
open Go Fl Geo

def dM : Nat → Rat
  | 0 => 28/10^11 | 1 => 28/10^11 | 2 => 38/10^10 | 3 => 28/10^11 | 4 => 28/10^11 | 5 => 38/10^10 | _ => 37/10^14

theorem even_low {x y u : Rat} {R : Nat → Nat} (hf : ∀ c, c < 9 → Fl.fin (R c)) (h : EvenV x y u R) (hx : Bd x 76) (hy : Bd y 76) (hu : Bd u 167) : LowRow e0M true 0 R := by
  obtain ⟨h0, h1, h2, h3, h4, h5, h6, h7, h8⟩ := h
  refine ⟨hf, fun c _ hc => ?_⟩
  have e : gr true 0 * e0M true c = e0M true c := Rat.one_mul _
  rw [e]
  rcases (show c = 0 ∨ c = 1 ∨ c = 2 ∨ c = 3 ∨ c = 4 ∨ c = 5 ∨ c = 6 ∨ c = 7 ∨ c = 8 by omega) with rfl | rfl | rfl | rfl | rfl | rfl | rfl | rfl | rfl
  · rw [h0]; exact hx
  · rw [h1]; exact hy
  · rw [h2]; exact bd_one4.1
  · rw [h3]; exact ⟨by decide +kernel, by decide +kernel⟩
  · rw [h4]; exact ⟨by decide +kernel, by decide +kernel⟩
  · rw [h5]; exact ⟨by decide +kernel, by decide +kernel⟩
  · rw [h6]; exact (Bd.mul hu hx).neg.mono (by decide +kernel)
  · rw [h7]; exact (Bd.mul hu hy).neg.mono (by decide +kernel)
  · rw [h8]; exact hu
theorem odd_low {x y u : Rat} {R : Nat → Nat} (hf : ∀ c, c < 9 → Fl.fin (R c)) (h : OddV x y u R) (hx : Bd x 76) (hy : Bd y 76) (hu : Bd u 167) : LowRow e0M false 0 R := by
  obtain ⟨h0, h1, h2, h3, h4, h5, h6, h7, h8⟩ := h
  refine ⟨hf, fun c _ hc => ?_⟩
  have e : gr false 0 * e0M false c = e0M false c := Rat.one_mul _
  rw [e]
  rcases (show c = 0 ∨ c = 1 ∨ c = 2 ∨ c = 3 ∨ c = 4 ∨ c = 5 ∨ c = 6 ∨ c = 7 ∨ c = 8 by omega) with rfl | rfl | rfl | rfl | rfl | rfl | rfl | rfl | rfl
  · rw [h0]; exact ⟨by decide +kernel, by decide +kernel⟩
  · rw [h1]; exact ⟨by decide +kernel, by decide +kernel⟩
  · rw [h2]; exact ⟨by decide +kernel, by decide +kernel⟩
  · rw [h3]; exact hx
  · rw [h4]; exact hy
  · rw [h5]; exact bd_one4.1
  · rw [h6]; exact (Bd.mul hu hx).neg.mono (by decide +kernel)
  · rw [h7]; exact (Bd.mul hu hy).neg.mono (by decide +kernel)
  · rw [h8]; exact hu

/-- what is known of the map's ten numbers -/
structure MapOK (o : Nat → Nat) (Q : Quad) (z : Nat → Rat) (d : Nat → Rat) : Prop where
  num : ∀ r, r < 8 → Ap (o r) (z r) (d r)
  mx : Ap (o 8) Q.mx 0
  my : Ap (o 9) Q.my 0

theorem map_ex {q p : Q8} {Q P : Quad} {a1 a3 b1 b3 : Rat} (h : QZ q Q a1 a3) (g : QZ p P b1 b3) (hp : Pairs Q.d123 Q.d023 Q.d013 Q.d012) {ax ay bx by' : Nat → Nat}
    (hax : ∀ i, i < 4 → Ex (ax i) (Q.X i) 3 1400) (hay : ∀ i, i < 4 → Ex (ay i) (Q.Y i) 3 1400) (hbx : ∀ i, i < 4 → Ex (bx i) (P.X i) 3 1400) (hby : ∀ i, i < 4 → Ex (by' i) (P.Y i) 3 1400) :
    ∃ o z, ScR ax ay bx by' o ∧ MapOK o Q z dM ∧ (∀ c, c < 9 → ab (z c) ≤ zbM c) ∧
      ∀ w : Wt, w.OK → ∃ Z, 999/10000 ≤ Z ∧ Z ≤ 4 ∧ z 6 * (w.px Q - Q.mx) + z 7 * (w.py Q - Q.my) + 1 = Z ∧
        z 0 * (w.px Q - Q.mx) + z 1 * (w.py Q - Q.my) + z 2 = (w.img (tau Q a1 a3 b1 b3)).px P * Z ∧ z 3 * (w.px Q - Q.mx) + z 4 * (w.py Q - Q.my) + z 5 = (w.img (tau Q a1 a3 b1 b3)).py P * Z := by
  obtain ⟨sx, m1, m2⟩ := mid_ex hax
  obtain ⟨sy, n1, n2⟩ := mid_ex hay
  have emx : (Q.X 0 + Q.X 1 + Q.X 2 + Q.X 3) / 4 = Q.mx := rfl
  have emy : (Q.Y 0 + Q.Y 1 + Q.Y 2 + Q.Y 3) / 4 = Q.my := rfl
  rw [emx] at m2
  rw [emy] at n2
  have cX : ∀ i, i < 4 → Q.X i - Q.mx = Q.cen.X i := fun i hi => by
    rcases (show i = 0 ∨ i = 1 ∨ i = 2 ∨ i = 3 by omega) with rfl | rfl | rfl | rfl <;> rfl
  have cY : ∀ i, i < 4 → Q.Y i - Q.my = Q.cen.Y i := fun i hi => by
    rcases (show i = 0 ∨ i = 1 ∨ i = 2 ∨ i = 3 by omega) with rfl | rfl | rfl | rfl <;> rfl
  have cell : ∀ i, ∃ X Y R S, i < 4 → fsub (ax i) (sx 4) = some X ∧ fsub (ay i) (sy 4) = some Y ∧ CornerR X Y (bx i) (by' i) R S ∧ EvenV (Q.cen.X i) (Q.cen.Y i) (P.X i) R ∧ OddV (Q.cen.X i) (Q.cen.Y i) (P.Y i) S ∧ (∀ c, c < 9 → Fl.fin (R c)) ∧ ∀ c, c < 9 → Fl.fin (S c) := by
    intro i
    by_cases hi : i < 4
    · obtain ⟨X, x1, x2⟩ := Ex.sub ((hax i hi).up 2) m2 (by omega) (by omega)
      obtain ⟨Y, y1, y2⟩ := Ex.sub ((hay i hi).up 2) n2 (by omega) (by omega)
      rw [cX i hi] at x2
      rw [cY i hi] at y2
      obtain ⟨R, S, r1, r2, r3, r4, r5⟩ := corner_ex x2 y2 (hbx i hi) (hby i hi)
      exact ⟨X, Y, R, S, fun _ => ⟨x1, y1, r1, r2, r3, r4, r5⟩⟩
    · exact ⟨0, 0, fun _ => 0, fun _ => 0, fun hh => absurd hh hi⟩
  obtain ⟨X, hX⟩ := Classical.axiomOfChoice cell
  obtain ⟨Y, hY⟩ := Classical.axiomOfChoice hX
  obtain ⟨R, hR⟩ := Classical.axiomOfChoice hY
  obtain ⟨S, hS⟩ := Classical.axiomOfChoice hR
  clear cell hX hY hR
  obtain ⟨M0, e1, e2⟩ : ∃ M0 : Nat → Nat → Nat, (∀ i, M0 (2 * i) = R i) ∧ ∀ i, M0 (2 * i + 1) = S i :=
    ⟨fun i => if i % 2 = 0 then R (i / 2) else S (i / 2), fun i => by
      have h1 : 2 * i % 2 = 0 := by omega
      have h2 : 2 * i / 2 = i := by omega
      show (if 2 * i % 2 = 0 then R (2 * i / 2) else S (2 * i / 2)) = R i
      rw [if_pos h1, h2], fun i => by
      have h1 : ¬ (2 * i + 1) % 2 = 0 := by omega
      have h2 : (2 * i + 1) / 2 = i := by omega
      show (if (2 * i + 1) % 2 = 0 then R ((2 * i + 1) / 2) else S ((2 * i + 1) / 2)) = S i
      rw [if_neg h1, h2]⟩
  have hE : ∀ i, i < 4 → EvenV (Q.cen.X i) (Q.cen.Y i) (P.X i) (M0 (2 * i)) := fun i hi => by rw [e1]; exact (hS i hi).2.2.2.1
  have hO : ∀ i, i < 4 → OddV (Q.cen.X i) (Q.cen.Y i) (P.Y i) (M0 (2 * i + 1)) := fun i hi => by rw [e2]; exact (hS i hi).2.2.2.2.1
  have hc := cen_of h
  have bX : ∀ i, i < 4 → Bd (Q.cen.X i) 76 := fun i hi => by
    have i0 := hc.x0
    have i1 := hc.x1
    have i2 := hc.x2
    have i3 := hc.x3
    rcases (show i = 0 ∨ i = 1 ∨ i = 2 ∨ i = 3 by omega) with rfl | rfl | rfl | rfl
    · show Bd Q.cen.x0 76; unfold Bd; constructor <;> grind
    · show Bd Q.cen.x1 76; unfold Bd; constructor <;> grind
    · show Bd Q.cen.x2 76; unfold Bd; constructor <;> grind
    · show Bd Q.cen.x3 76; unfold Bd; constructor <;> grind
  have bY : ∀ i, i < 4 → Bd (Q.cen.Y i) 76 := fun i hi => by
    have i0 := hc.y0
    have i1 := hc.y1
    have i2 := hc.y2
    have i3 := hc.y3
    rcases (show i = 0 ∨ i = 1 ∨ i = 2 ∨ i = 3 by omega) with rfl | rfl | rfl | rfl
    · show Bd Q.cen.y0 76; unfold Bd; constructor <;> grind
    · show Bd Q.cen.y1 76; unfold Bd; constructor <;> grind
    · show Bd Q.cen.y2 76; unfold Bd; constructor <;> grind
    · show Bd Q.cen.y3 76; unfold Bd; constructor <;> grind
  have bU : ∀ i, i < 4 → Bd (P.X i) 167 := fun i hi => by
    rcases (show i = 0 ∨ i = 1 ∨ i = 2 ∨ i = 3 by omega) with rfl | rfl | rfl | rfl
    · exact (near100 (Or.inl g.ix0)).2.2
    · exact (near100 (Or.inr g.ix1)).2.2
    · exact (near100 (Or.inr g.ix2)).2.2
    · exact (near100 (Or.inl g.ix3)).2.2
  have bV : ∀ i, i < 4 → Bd (P.Y i) 167 := fun i hi => by
    rcases (show i = 0 ∨ i = 1 ∨ i = 2 ∨ i = 3 by omega) with rfl | rfl | rfl | rfl
    · exact (near100 (Or.inl g.iy0)).2.2
    · exact (near100 (Or.inl g.iy1)).2.2
    · exact (near100 (Or.inr g.iy2)).2.2
    · exact (near100 (Or.inr g.iy3)).2.2
  have hi := inveM h g hp hE hO
  have hlow : ∀ i, i < 8 → LowRow e0M (i % 2 == 0) 0 (M0 i) := by
    intro i h8
    rcases (show i = 2 * (i / 2) ∨ i = 2 * (i / 2) + 1 by omega) with e | e
    · have e' : (i % 2 == 0) = true := by simp; omega
      rw [e', e]
      exact even_low (by rw [e1]; exact (hS (i / 2) (by omega)).2.2.2.2.2.1) (hE _ (by omega)) (bX _ (by omega)) (bY _ (by omega)) (bU _ (by omega))
    · have e' : (i % 2 == 0) = false := by simp; omega
      rw [e', e]
      exact odd_low (by rw [e2]; exact (hS (i / 2) (by omega)).2.2.2.2.2.2) (hO _ (by omega)) (bX _ (by omega)) (bY _ (by omega)) (bV _ (by omega))
  obtain ⟨M, o, k1, k2, k3, k4, k5, k6⟩ := elim_ex parM hi hlow
  obtain ⟨z, z1, z2, z3, z4⟩ := solM h g hE hO
  have hzt : ∀ W : Nat → Rat, (∀ c, c < 9 → 0 ≤ W c) → tot (wt z) W ≤ tot zbM W := fun W hW => tot_le fun c hc => Rat.mul_le_mul_of_nonneg_right (z3 c hc) (hW c hc)
  refine ⟨fun k => if k < 8 then o k else if k = 8 then sx 4 else sy 4, z, ⟨sx, sy, X, Y, M, m1, n1, rfl, rfl, fun i hi4 => ?_, k2, fun k hk => ?_, k4⟩, ⟨fun r hr => ?_, m2.ap, n2.ap⟩, z3, z4⟩
  · rw [k1, k1, e1, e2]
    obtain ⟨a, b, c, _⟩ := hS i hi4
    exact ⟨a, b, c⟩
  · show _ = some (if k < 8 then o k else _)
    rw [if_pos hk]; exact k3 k hk
  · show Ap (if r < 8 then o r else _) _ _
    rw [if_pos hr]
    refine ⟨k5 r hr, ?_⟩
    have hn := k6 z 0 z1 z2 r hr
    have a1 := hzt WlM parM.wl0
    have a2 := hzt WuM parM.wu0
    have a3 := Rat.mul_le_mul_of_nonneg_left (show 1004/1000 * (tot (wt z) WlM + tot (wt z) WuM + 0) ≤ 1004/1000 * (tot zbM WlM + tot zbM WuM) by grind) (Rat.le_of_lt (parM.Kp r hr))
    have a4 := Rat.mul_le_mul_of_nonneg_left (z3 r (by omega)) (show 0 ≤ 4 * u53 by decide +kernel)
    have a5 : KM r * (1004/1000 * (tot zbM WlM + tot zbM WuM)) + 4 * u53 * zbM r + tny ≤ dM r :=
      (by decide +kernel : ∀ r : Fin 8, KM r.1 * (1004/1000 * (tot zbM WlM + tot zbM WuM)) + 4 * u53 * zbM r.1 + tny ≤ dM r.1) ⟨r, hr⟩
    clear hzt k6 a1 a2
    generalize KM r * (1004/1000 * (tot (wt z) WlM + tot (wt z) WuM + 0)) = x1 at *
    generalize KM r * (1004/1000 * (tot zbM WlM + tot zbM WuM)) = x2 at *
    generalize 4 * u53 * ab (z r) = y1 at *
    generalize 4 * u53 * zbM r = y2 at *
    generalize tny = t at *
    generalize dM r = dd at *
    generalize val (o r) = v at *
    generalize z r = zr at *
    unfold Nr at *
    constructor <;> grind

theorem dot2_ap {p1 q1 p2 q2 c : Nat} {v1 v2 w1 w2 cv d e dc V C F G H : Rat} (h1 : Ap p1 v1 d) (k1 : Ap q1 w1 e) (h2 : Ap p2 v2 d) (k2 : Ap q2 w2 e) (hc : Ap c cv dc) (b1 : Bd v1 V) (b2 : Bd v2 V) (c1 : Bd w1 84) (c2 : Bd w2 84) (cb : Bd cv C)
    (hF : d * (84 + e) + V * e + (V + d) * (84 + e) * u53 + tny ≤ F) (hG : F + F + (V * 84 + V * 84 + F + F) * u53 + tny ≤ G) (hH : G + dc + (V * 84 + V * 84 + C + G + dc) * u53 + tny ≤ H)
    (s1 : (V + d) * (84 + e) ≤ 10^200) (s2 : V * 84 + V * 84 + F + F ≤ 10^200) (s3 : V * 84 + V * 84 + C + G + dc ≤ 10^200) : ∃ z, Dot2R p1 q1 p2 q2 c z ∧ Ap z (v1 * w1 + v2 * w2 + cv) H := by
  obtain ⟨x, x1, x2⟩ := Ap.mul h1 k1 V 84 F b1 c1 hF s1
  obtain ⟨y, y1, y2⟩ := Ap.mul h2 k2 V 84 F b2 c2 hF s1
  have bb := Bd.add (Bd.mul b1 c1) (Bd.mul b2 c2)
  obtain ⟨u, u1, u2⟩ := Ap.add x2 y2 (V * 84 + V * 84) G bb hG s2
  obtain ⟨z, z1, z2⟩ := Ap.add u2 hc (V * 84 + V * 84 + C) H (Bd.add bb cb) hH s3
  exact ⟨z, ⟨x, y, u, x1, y1, u1, z1⟩, z2⟩

/-- where the map takes a point: near where the exact one does -/
theorem at_ap {q p : Q8} {Q P : Quad} {a1 a3 b1 b3 : Rat} (h : QZ q Q a1 a3) (g : QZ p P b1 b3) {o : Nat → Nat} {z : Nat → Rat} (ho : MapOK o Q z dM) (hz : ∀ c, c < 9 → ab (z c) ≤ zbM c) {w : Wt} (hw : w.OK) {Z : Rat} (hZ0 : 999/10000 ≤ Z)
    (hZ : z 6 * (w.px Q - Q.mx) + z 7 * (w.py Q - Q.my) + 1 = Z) (hx : z 0 * (w.px Q - Q.mx) + z 1 * (w.py Q - Q.my) + z 2 = (w.img (tau Q a1 a3 b1 b3)).px P * Z) (hy : z 3 * (w.px Q - Q.mx) + z 4 * (w.py Q - Q.my) + z 5 = (w.img (tau Q a1 a3 b1 b3)).py P * Z)
    {x y : Nat} (px : Ap x (w.px Q) (91/100000000000000)) (py : Ap y (w.py Q) (91/100000000000000)) :
    ∃ x' y', ScAtR o x y x' y' ∧ Ap x' ((w.img (tau Q a1 a3 b1 b3)).px P) (72/100000000) ∧ Ap y' ((w.img (tau Q a1 a3 b1 b3)).py P) (72/100000000) := by
  obtain ⟨m, hge, _⟩ := tau_sum h g
  have hok := img_ok hw hge
  have hT := px_in hok g
  have hp := px_in hw h
  have mxb : In Q.mx 83 117 := by
    have := h.ix0
    have := h.ix1
    have := h.ix2
    have := h.ix3
    unfold In Quad.mx at *; constructor <;> grind
  have myb : In Q.my 83 117 := by
    have := h.iy0
    have := h.iy1
    have := h.iy2
    have := h.iy3
    unfold In Quad.my at *; constructor <;> grind
  have bx : Bd (w.px Q - Q.mx) 84 := by have := hp.1; unfold In Bd at *; constructor <;> grind
  have by' : Bd (w.py Q - Q.my) 84 := by have := hp.2; unfold In Bd at *; constructor <;> grind
  obtain ⟨dx, dx1, dx2⟩ := Ap.sub px ho.mx 84 (1/10^12) bx (by decide +kernel) (by decide +kernel)
  obtain ⟨dy, dy1, dy2⟩ := Ap.sub py ho.my 84 (1/10^12) by' (by decide +kernel) (by decide +kernel)
  have hb : ∀ c, c < 9 → Bd (z c) (zbM c) := fun c hc => (ab_bd (z c)).mono (hz c hc)
  obtain ⟨zz, zz1, zz2⟩ := dot2_ap (F := 4/10^11) (G := 9/10^11) (H := 1/10^10) (ho.num 6 (by omega)) dx2 (ho.num 7 (by omega)) dy2 f1_ex.ap (hb 6 (by omega)) (hb 7 (by omega)) bx by' bd_one4.1
    (by decide +kernel) (by decide +kernel) (by decide +kernel) (by decide +kernel) (by decide +kernel) (by decide +kernel)
  rw [hZ] at zz2
  obtain ⟨n, n1, n2⟩ := dot2_ap (F := 24/10^9) (G := 49/10^9) (H := 53/10^9) (ho.num 0 (by omega)) dx2 (ho.num 1 (by omega)) dy2 (ho.num 2 (by omega)) (hb 0 (by omega)) (hb 1 (by omega)) bx by' (hb 2 (by omega))
    (by decide +kernel) (by decide +kernel) (by decide +kernel) (by decide +kernel) (by decide +kernel) (by decide +kernel)
  rw [hx] at n2
  obtain ⟨k, k1, k2⟩ := dot2_ap (F := 24/10^9) (G := 49/10^9) (H := 53/10^9) (ho.num 3 (by omega)) dx2 (ho.num 4 (by omega)) dy2 (ho.num 5 (by omega)) (hb 3 (by omega)) (hb 4 (by omega)) bx by' (hb 5 (by omega))
    (by decide +kernel) (by decide +kernel) (by decide +kernel) (by decide +kernel) (by decide +kernel) (by decide +kernel)
  rw [hy] at k2
  obtain ⟨x', x1, x2⟩ := Ap.div n2 zz2 ((w.img (tau Q a1 a3 b1 b3)).px P) 167 (999/10000) (71/10^8) (72/100000000) rfl (by have := hT.1; unfold In Bd at *; constructor <;> grind) (Or.inl hZ0) (by decide +kernel) (by decide +kernel) (by decide +kernel) (by decide +kernel) (by decide +kernel)
  obtain ⟨y', y1, y2⟩ := Ap.div k2 zz2 ((w.img (tau Q a1 a3 b1 b3)).py P) 167 (999/10000) (71/10^8) (72/100000000) rfl (by have := hT.2; unfold In Bd at *; constructor <;> grind) (Or.inl hZ0) (by decide +kernel) (by decide +kernel) (by decide +kernel) (by decide +kernel) (by decide +kernel)
  exact ⟨x', y', ⟨dx, dy, zz, n, k, dx1, dy1, zz1, n1, x1, k1, y1⟩, x2, y2⟩

end Go.Proofs.Ytaadklfendegfaa
