/- The quadrilaterals that ztQuad makes, and floats that ztNear takes for the same. -/
import Derived.Test.YtaadklfendegfaaPy
namespace Go.Proofs.Ytaadklfendegfaa
open Go Fl Geo

theorem val_num {x m : Nat} {i : Int} {v : Rat} (h : x < 18446744073709551616) (hr : Ieee.double.read x = .number false m i) (hv : sg false * (m : Rat) * (2:Rat) ^ i = v) : Fl.fin x ∧ val x = v := by
  refine ⟨⟨h, _, _, _, hr⟩, ?_⟩
  unfold val; rw [hr]; exact hv

theorem val_f8 : Fl.fin f8 ∧ val f8 = 8 := val_num (m := 4503599627370496) (i := -49) (by decide) (by decide) (by decide +kernel)
theorem val_f50 : Fl.fin f50 ∧ val f50 = 50 := val_num (m := 7036874417766400) (i := -47) (by decide) (by decide) (by decide +kernel)
theorem val_f150 : Fl.fin f150 ∧ val f150 = 150 := val_num (m := 5277655813324800) (i := -45) (by decide) (by decide) (by decide +kernel)
theorem val_f65535 : Fl.fin f65535 ∧ val f65535 = 65535 := val_num (m := 9007061815787520) (i := -37) (by decide) (by decide) (by decide +kernel)
theorem val_fM : Fl.fin fMillionth ∧ 99/100000000 ≤ val fMillionth := by
  obtain ⟨h1, h2⟩ := val_num (x := fMillionth) (m := 4722366482869645) (i := -72) (by decide) (by decide) rfl
  exact ⟨h1, by rw [h2]; decide +kernel⟩

theorem Ex.mono {x : Nat} {v : Rat} {k M M' : Nat} (h : Ex x v k M) (hM : M ≤ M') : Ex x v k M' := by
  obtain ⟨N, h1, h2⟩ := h.dy
  exact ⟨h.fin, h.eq, N, h1, by omega⟩

theorem e8 : (2:Rat) ^ (-((3:Nat) : Int)) = 1/8 := by decide +kernel

theorem corn_ex {base : Nat} {Bv : Rat} {M : Nat} (hb : Ex base Bv 3 M) (hM : M ≤ 1200) (b : Int) (h1 : -128 ≤ b) (h2 : b ≤ 127) : ∃ z, CornR base b z ∧ Ex z (Bv + 100 * ((b : Rat) / 800)) 3 1400 := by
  have hi := ofI_ex b 128 (by omega) (by omega)
  obtain ⟨t, t1, t2, t3⟩ := Fl.div_exact hi.fin val_f8.1 (by rw [val_f8.2]; decide) b (-((3:Nat) : Int)) (by omega) (by decide) (by decide) (by rw [hi.eq, val_f8.2, e8]; grind)
  have ht : Ex t ((b : Rat) * (2:Rat) ^ (-((3:Nat) : Int))) 3 128 := ⟨t2, t3, b, rfl, by omega⟩
  obtain ⟨z, z1, z2⟩ := Ex.add hb ht (by decide) (by omega)
  refine ⟨z, ⟨t, t1, z1⟩, ?_⟩
  have := z2.mono (M' := 1400) (by omega)
  have e : Bv + (b : Rat) * (2:Rat) ^ (-((3:Nat) : Int)) = Bv + 100 * ((b : Rat) / 800) := by rw [e8]; grind
  exact e ▸ this

theorem f50_ex : Ex f50 50 3 400 := ⟨val_f50.1, val_f50.2, 400, by decide +kernel, by decide⟩
theorem f150_ex : Ex f150 150 3 1200 := ⟨val_f150.1, val_f150.2, 1200, by decide +kernel, by decide⟩

theorem small8 (b : Int) (h1 : -128 ≤ b) (h2 : b ≤ 127) : -rr ≤ (b : Rat) / 800 ∧ (b : Rat) / 800 ≤ rr := by
  have k1 : ((-128 : Int) : Rat) ≤ (b : Rat) := Rat.intCast_le_intCast.2 h1
  have k2 : (b : Rat) ≤ ((127 : Int) : Rat) := Rat.intCast_le_intCast.2 h2
  have e1 : ((-128 : Int) : Rat) = -128 := rfl
  have e2 : ((127 : Int) : Rat) = 127 := rfl
  rw [e1] at k1
  rw [e2] at k2
  unfold rr
  constructor <;> grind

theorem nonneg_of {c X : Rat} (hc : 0 < c) (h : 0 ≤ X * c) : 0 ≤ X := by
  apply Classical.byContradiction; intro hn
  have : 0 < (-X) * c := Rat.mul_pos (by grind) hc
  grind

/-- the quadrilateral that eight numbers make, of a side of 100 -/
def quadOf (a b c d e f g h : Rat) : Quad := ⟨50 + 100 * a, 50 + 100 * b, 150 + 100 * c, 50 + 100 * d, 150 + 100 * e, 150 + 100 * f, 50 + 100 * g, 150 + 100 * h⟩

theorem quad_geo {a b c d e f g h : Rat} (hi : In8 a b c d e f g h) {q : Q8} (Q : Quad) (hQ : Q = quadOf a b c d e f g h)
    (k0 : Ex q.x0 Q.x0 3 1400) (k1 : Ex q.y0 Q.y0 3 1400) (k2 : Ex q.x1 Q.x1 3 1400) (k3 : Ex q.y1 Q.y1 3 1400) (k4 : Ex q.x2 Q.x2 3 1400) (k5 : Ex q.y2 Q.y2 3 1400) (k6 : Ex q.x3 Q.x3 3 1400) (k7 : Ex q.y3 Q.y3 3 1400) :
    QZ q Q (Q.d023 / Q.d123) (Q.d012 / Q.d123) := by
  have e012 : Q.d012 = 10000 * t012 a b c d e f g h := by rw [hQ]; unfold Quad.d012 quadOf t012 tri; grind
  have e023 : Q.d023 = 10000 * t023 a b c d e f g h := by rw [hQ]; unfold Quad.d023 quadOf t023 tri; grind
  have e013 : Q.d013 = 10000 * t013 a b c d e f g h := by rw [hQ]; unfold Quad.d013 quadOf t013 tri; grind
  have e123 : Q.d123 = 10000 * t123 a b c d e f g h := by rw [hQ]; unfold Quad.d123 quadOf t123 tri; grind
  have l0 := lo012 hi
  have l1 := lo023 hi
  have l2 := lo013 hi
  have l3 := lo123 hi
  have u0 := hi012 hi
  have u1 := hi023 hi
  have u2 := hi013 hi
  have u3 := hi123 hi
  have m0 := q012x023 hi
  have m1 := q012x013 hi
  have m2 := q012x123 hi
  have m3 := q023x012 hi
  have m4 := q023x013 hi
  have m5 := q023x123 hi
  have m6 := q013x012 hi
  have m7 := q013x023 hi
  have m8 := q013x123 hi
  have m9 := q123x012 hi
  have m10 := q123x023 hi
  have m11 := q123x013 hi
  have hc : 0 < Q.d123 := by rw [e123]; grind
  have h1 : Q.d023 / Q.d123 * Q.d123 = Q.d023 := div_mul' hc
  have h3 : Q.d012 / Q.d123 * Q.d123 = Q.d012 := div_mul' hc
  have hF : QF Q (Q.d023 / Q.d123) (Q.d012 / Q.d123) := ⟨h1, h3, hc⟩
  have h2 := hF.h2
  generalize Q.d023 / Q.d123 = a1 at *
  generalize Q.d012 / Q.d123 = a3 at *
  obtain ⟨⟨z1, z2⟩, ⟨z3, z4⟩, ⟨z5, z6⟩, ⟨z7, z8⟩, ⟨z9, z10⟩, ⟨z11, z12⟩, ⟨z13, z14⟩, ⟨z15, z16⟩⟩ := hi
  unfold rr at *
  have lin : ∀ x y z : Rat, 0 ≤ x * Q.d023 + y * Q.d012 + z * Q.d123 → 0 ≤ x * a1 + y * a3 + z := by
    intro x y z hh
    refine nonneg_of hc ?_
    have : (x * a1 + y * a3 + z) * Q.d123 = x * (a1 * Q.d123) + y * (a3 * Q.d123) + z * Q.d123 := by grind
    rw [this, h1, h3]; exact hh
  have h2' : Q.d023 + Q.d012 - Q.d123 = Q.d013 := by rw [← h2, ← h1, ← h3]; grind
  have A1 := lin 1 0 (-(7/20)) (by grind)
  have A2 := lin (-1) 0 (20/7) (by grind)
  have A3 := lin 0 1 (-(7/20)) (by grind)
  have A4 := lin 0 (-1) (20/7) (by grind)
  have A5 := lin 1 1 (-1-21/100) (by grind)
  have A6 := lin (-1) (-1) (1+100/21) (by grind)
  have A7 := lin (-(21/100)) 1 0 (by grind)
  have A8 := lin 1 (-(21/100)) 0 (by grind)
  have A9 := lin (1 - 7/20) (-(7/20)) (7/20) (by grind)
  have A10 := lin (1 - 7/20) 1 (-1) (by grind)
  have A11 := lin (-(7/20)) (1 - 7/20) (7/20) (by grind)
  have A12 := lin 1 (1 - 7/20) (-1) (by grind)
  refine ⟨k0, k1, k2, k3, k4, k5, k6, k7, hF, ?_, ?_, ?_, ?_, ?_, ?_, ?_, ?_, ?_, ?_, ?_, ?_, ?_, ?_, ?_, ?_, ?_, ?_, ?_, ?_, ?_⟩
  · rw [hQ]; unfold quadOf In; dsimp only; constructor <;> grind
  · rw [hQ]; unfold quadOf In; dsimp only; constructor <;> grind
  · rw [hQ]; unfold quadOf In; dsimp only; constructor <;> grind
  · rw [hQ]; unfold quadOf In; dsimp only; constructor <;> grind
  · rw [hQ]; unfold quadOf In; dsimp only; constructor <;> grind
  · rw [hQ]; unfold quadOf In; dsimp only; constructor <;> grind
  · rw [hQ]; unfold quadOf In; dsimp only; constructor <;> grind
  · rw [hQ]; unfold quadOf In; dsimp only; constructor <;> grind
  · rw [e012]; unfold In; constructor <;> grind
  · rw [e023]; unfold In; constructor <;> grind
  · rw [e013]; unfold In; constructor <;> grind
  · rw [e123]; unfold In; constructor <;> grind
  · unfold In; constructor <;> grind
  · unfold In; constructor <;> grind
  · unfold In; constructor <;> grind
  · grind
  · grind
  · grind
  · grind
  · grind
  · grind

/-- eight small numbers make a quadrilateral -/
theorem quad_qz (b : Nat → Int) (hb : ∀ i, i < 8 → -128 ≤ b i ∧ b i ≤ 127) : ∃ q Q a1 a3, QuadR (b 0) (b 1) (b 2) (b 3) (b 4) (b 5) (b 6) (b 7) q ∧ QZ q Q a1 a3 := by
  obtain ⟨z0, c0, d0⟩ := corn_ex f50_ex (by decide) (b 0) (hb 0 (by decide)).1 (hb 0 (by decide)).2
  obtain ⟨z1, c1, d1⟩ := corn_ex f50_ex (by decide) (b 1) (hb 1 (by decide)).1 (hb 1 (by decide)).2
  obtain ⟨z2, c2, d2⟩ := corn_ex f150_ex (by decide) (b 2) (hb 2 (by decide)).1 (hb 2 (by decide)).2
  obtain ⟨z3, c3, d3⟩ := corn_ex f50_ex (by decide) (b 3) (hb 3 (by decide)).1 (hb 3 (by decide)).2
  obtain ⟨z4, c4, d4⟩ := corn_ex f150_ex (by decide) (b 4) (hb 4 (by decide)).1 (hb 4 (by decide)).2
  obtain ⟨z5, c5, d5⟩ := corn_ex f150_ex (by decide) (b 5) (hb 5 (by decide)).1 (hb 5 (by decide)).2
  obtain ⟨z6, c6, d6⟩ := corn_ex f50_ex (by decide) (b 6) (hb 6 (by decide)).1 (hb 6 (by decide)).2
  obtain ⟨z7, c7, d7⟩ := corn_ex f150_ex (by decide) (b 7) (hb 7 (by decide)).1 (hb 7 (by decide)).2
  have hi : In8 ((b 0 : Rat) / 800) ((b 1 : Rat) / 800) ((b 2 : Rat) / 800) ((b 3 : Rat) / 800) ((b 4 : Rat) / 800) ((b 5 : Rat) / 800) ((b 6 : Rat) / 800) ((b 7 : Rat) / 800) :=
    ⟨small8 _ (hb 0 (by decide)).1 (hb 0 (by decide)).2, small8 _ (hb 1 (by decide)).1 (hb 1 (by decide)).2, small8 _ (hb 2 (by decide)).1 (hb 2 (by decide)).2, small8 _ (hb 3 (by decide)).1 (hb 3 (by decide)).2,
     small8 _ (hb 4 (by decide)).1 (hb 4 (by decide)).2, small8 _ (hb 5 (by decide)).1 (hb 5 (by decide)).2, small8 _ (hb 6 (by decide)).1 (hb 6 (by decide)).2, small8 _ (hb 7 (by decide)).1 (hb 7 (by decide)).2⟩
  exact ⟨⟨z0, z1, z2, z3, z4, z5, z6, z7⟩, _, _, _, ⟨c0, c1, c2, c3, c4, c5, c6, c7⟩, quad_geo hi _ rfl d0 d1 d2 d3 d4 d5 d6 d7⟩

/-- floats that stand near one number are near one another -/
theorem near_ap {x y : Nat} {v e f : Rat} (hx : Ap x v e) (hy : Ap y v f) (h : e + f ≤ 9/10000000) : NearR x y := by
  have he := hx.near.nonneg
  have hf := hy.near.nonneg
  have hu : u53 ≤ 1/1000000 := by decide +kernel
  have hu0 : 0 ≤ u53 := by decide +kernel
  have ht : tny ≤ 1/100000000 := by decide +kernel
  have hbig : (1 : Rat) ≤ 10^200 := by decide +kernel
  have hm := Rat.mul_le_mul_of_nonneg_left hu (show 0 ≤ 0 + e + f by grind)
  obtain ⟨d, d1, d2⟩ := Ap.sub hx hy 0 (95/100000000) (by unfold Bd; constructor <;> grind) (by grind) (by grind)
  obtain ⟨a1, a2, a3⟩ := Fl.abs_val d2.fin
  refine ⟨d, d1, d2.fin.1, ?_⟩
  have hn := d2.near
  have hlt : val (d % 9223372036854775808) < val fMillionth := by
    have := val_fM.2
    unfold Nr at hn
    rcases (show 0 ≤ val d ∨ val d ≤ 0 by grind) with k | k
    · rw [a2 k]; grind
    · rw [a3 k]; grind
  have o := (Fl.order_val a1 val_fM.1).1 hlt
  have e : flt (d % 9223372036854775808) fMillionth = (Ieee.double.order (d % 9223372036854775808) fMillionth == some .lt) := rfl
  rw [e, o]; rfl

end Go.Proofs.Ytaadklfendegfaa
