/- The table of a map between two quadrilaterals: its floats. -/
import Derived.Test.YtaadklfendegfaaFf
import Derived.Test.YtaadklfendegfaaEi
namespace Go.Proofs.Ytaadklfendegfaa
open Go Fl Geo

theorem neg_val {x : Nat} (hx : Fl.fin x) : Fl.fin (fneg x) ∧ val (fneg x) = - val x := by
  obtain ⟨hlt, s, m, i, hx⟩ := hx
  have hw : fneg x = x ^^^ 2 ^ 63 := rfl
  have h1 : (x ^^^ 2 ^ 63) % 2 ^ 63 = x % 2 ^ 63 := by
    rw [Nat.xor_mod_two_pow]; simp
  have h2 : (x ^^^ 2 ^ 63) / 2 ^ 63 = (x / 2 ^ 63) ^^^ 1 := by
    rw [Nat.xor_div_two_pow]
  have e63 : (2:Nat) ^ 63 = 9223372036854775808 := by decide
  rw [e63] at h1 h2 hw
  generalize hy : x ^^^ 9223372036854775808 = y at *
  have hd : x / 9223372036854775808 = 0 ∨ x / 9223372036854775808 = 1 := by omega
  have hyd : y / 9223372036854775808 = 1 - x / 9223372036854775808 := by
    rcases hd with h | h <;> rw [h2, h] <;> rfl
  have hs : Ieee.double.signWeight = 9223372036854775808 := by decide
  have key : Ieee.double.read y = .number (!s) m i := by
    revert hx
    unfold Ieee.Format.read
    rw [hs]
    have a1 : y / 9223372036854775808 % 2 = 1 - x / 9223372036854775808 % 2 := by omega
    rw [a1, h1]
    dsimp only
    rcases hd with h | h <;> rw [h] <;>
    · split
      · intro h; injection h with h1 h2 h3; subst h1 h2 h3; rfl
      · split
        · intro h; injection h with h1 h2 h3; subst h1 h2 h3; rfl
        · split <;> intro h <;> cases h
  rw [hw]
  refine ⟨⟨by omega, _, _, _, key⟩, ?_⟩
  unfold val
  rw [key, hx]
  exact opp_val s m i

theorem Ex.neg {x : Nat} {v : Rat} {k M : Nat} (h : Ex x v k M) : Ex (fneg x) (-v) k M := by
  obtain ⟨h1, h2⟩ := neg_val h.fin
  obtain ⟨N, hN, hM⟩ := h.dy
  exact ⟨h1, by rw [h2, h.eq], -N, by rw [hN, Rat.intCast_neg]; grind, by omega⟩

theorem val_f4 : Fl.fin f4 ∧ val f4 = 4 := val_num (m := 4503599627370496) (i := -50) (by decide) (by decide) (by decide +kernel)

theorem Ex.div4 {x : Nat} {v : Rat} {k M : Nat} (h : Ex x v k M) (hk : k ≤ 900) (hM : M < 9007199254740992) : ∃ q, fdiv x f4 = some q ∧ Ex q (v / 4) (k + 2) M := by
  obtain ⟨N, hN, hNM⟩ := h.dy
  have e : (2:Rat) ^ (-(k : Int)) = (2:Rat) ^ (-((k + 2 : Nat) : Int)) * 4 := by
    have : (-(k : Int)) = -((k + 2 : Nat) : Int) + 2 := by omega
    rw [this, p2_add]; have : (2:Rat) ^ (2:Int) = 4 := by decide +kernel
    rw [this]
  obtain ⟨q, q1, q2, q3⟩ := Fl.div_exact h.fin val_f4.1 (by rw [val_f4.2]; decide) N (-((k + 2 : Nat) : Int)) (by omega) (by omega) (by omega) (by rw [h.eq, val_f4.2, hN, e]; grind)
  have hv : v / 4 = N * (2:Rat) ^ (-((k + 2 : Nat) : Int)) := by rw [hN, e]; grind
  exact ⟨q, q1, q2, by rw [q3, hv], N, hv, hNM⟩

theorem Ex.up {x : Nat} {v : Rat} {k M : Nat} (h : Ex x v k M) (d : Nat) : Ex x v (k + d) (M * 2 ^ d) := by
  obtain ⟨N, hN, hNM⟩ := h.dy
  refine ⟨h.fin, h.eq, N * 2 ^ d, ?_, ?_⟩
  · have : (-(k : Int)) = -((k + d : Nat) : Int) + (d : Int) := by omega
    rw [hN, this, p2_add, p2_nat, Rat.intCast_mul]
    have e : (((2:Int) ^ d : Int) : Rat) = ((2 ^ d : Nat) : Rat) := by norm_cast
    rw [e]; grind
  · rw [Int.natAbs_mul, Int.natAbs_pow]; exact Nat.mul_le_mul hNM (Nat.le_refl _)

theorem f0_ex : Ex f0 0 5 0 := by
  have hr : Ieee.double.read f0 = .number false 0 (-1074) := by decide +kernel
  refine ⟨⟨by decide, _, _, _, hr⟩, by unfold val; rw [hr]; decide +kernel, 0, by grind, by decide⟩
theorem f1_ex : Ex f1 1 0 1 := by
  obtain ⟨a, b⟩ := val_num (x := f1) (m := 4503599627370496) (i := -52) (v := 1) (by decide) (by decide) (by decide +kernel)
  exact ⟨a, b, 1, by decide +kernel, by decide⟩

/-- the middle of four numbers -/
theorem mid_ex {a : Nat → Nat} {v : Nat → Rat} (h : ∀ i, i < 4 → Ex (a i) (v i) 3 1400) : ∃ s, MidR a s ∧ Ex (s 4) ((v 0 + v 1 + v 2 + v 3) / 4) 5 5600 := by
  obtain ⟨q0, d0, e0⟩ := (h 0 (by omega)).div4 (by omega) (by omega)
  obtain ⟨q1, d1, e1⟩ := (h 1 (by omega)).div4 (by omega) (by omega)
  obtain ⟨q2, d2, e2⟩ := (h 2 (by omega)).div4 (by omega) (by omega)
  obtain ⟨q3, d3, e3⟩ := (h 3 (by omega)).div4 (by omega) (by omega)
  obtain ⟨s1, g1, x1⟩ := f0_ex.add e0 (by omega) (by omega)
  obtain ⟨s2, g2, x2⟩ := x1.add e1 (by omega) (by omega)
  obtain ⟨s3, g3, x3⟩ := x2.add e2 (by omega) (by omega)
  obtain ⟨s4, g4, x4⟩ := x3.add e3 (by omega) (by omega)
  refine ⟨fun i => match i with | 0 => f0 | 1 => s1 | 2 => s2 | 3 => s3 | _ => s4, ⟨rfl, fun i hi => ?_⟩, ?_⟩
  · rcases (show i = 0 ∨ i = 1 ∨ i = 2 ∨ i = 3 by omega) with rfl | rfl | rfl | rfl
    · exact ⟨q0, d0, g1⟩
    · exact ⟨q1, d1, g2⟩
    · exact ⟨q2, d2, g3⟩
    · exact ⟨q3, d3, g4⟩
  · have e : 0 + v 0 / 4 + v 1 / 4 + v 2 / 4 + v 3 / 4 = (v 0 + v 1 + v 2 + v 3) / 4 := by grind
    rw [e] at x4
    exact x4.mono (by omega)

def _root_.Geo.Quad.X (q : Quad) : Nat → Rat
  | 0 => q.x0
  | 1 => q.x1
  | 2 => q.x2
  | _ => q.x3
def _root_.Geo.Quad.Y (q : Quad) : Nat → Rat
  | 0 => q.y0
  | 1 => q.y1
  | 2 => q.y2
  | _ => q.y3

/-- the two rows of a corner, by their values -/
def EvenV (x y u : Rat) (R : Nat → Nat) : Prop := val (R 0) = x ∧ val (R 1) = y ∧ val (R 2) = 1 ∧ val (R 3) = 0 ∧ val (R 4) = 0 ∧ val (R 5) = 0 ∧ val (R 6) = -(u * x) ∧ val (R 7) = -(u * y) ∧ val (R 8) = u
def OddV (x y v : Rat) (R : Nat → Nat) : Prop := val (R 0) = 0 ∧ val (R 1) = 0 ∧ val (R 2) = 0 ∧ val (R 3) = x ∧ val (R 4) = y ∧ val (R 5) = 1 ∧ val (R 6) = -(v * x) ∧ val (R 7) = -(v * y) ∧ val (R 8) = v

def rowE (x y u p q : Nat) : Nat → Nat
  | 0 => x | 1 => y | 2 => f1 | 3 => f0 | 4 => f0 | 5 => f0 | 6 => p | 7 => q | _ => u
def rowO (x y u p q : Nat) : Nat → Nat
  | 0 => f0 | 1 => f0 | 2 => f0 | 3 => x | 4 => y | 5 => f1 | 6 => p | 7 => q | _ => u

theorem corner_ex {x y u v : Nat} {X Y U V : Rat} (hx : Ex x X 5 11200) (hy : Ex y Y 5 11200) (hu : Ex u U 3 1400) (hv : Ex v V 3 1400) :
    ∃ R S, CornerR x y u v R S ∧ EvenV X Y U R ∧ OddV X Y V S ∧ (∀ c, c < 9 → Fl.fin (R c)) ∧ ∀ c, c < 9 → Fl.fin (S c) := by
  obtain ⟨a, a1, a2⟩ := hu.neg.mul hx (by omega) (by omega)
  obtain ⟨b, b1, b2⟩ := hu.neg.mul hy (by omega) (by omega)
  obtain ⟨c, c1, c2⟩ := hv.neg.mul hx (by omega) (by omega)
  obtain ⟨d, d1, d2⟩ := hv.neg.mul hy (by omega) (by omega)
  refine ⟨rowE x y u a b, rowO x y v c d, ⟨⟨rfl, rfl, rfl, rfl, rfl, rfl, a1, b1, rfl⟩, rfl, rfl, rfl, rfl, rfl, rfl, c1, d1, rfl⟩,
    ⟨hx.eq, hy.eq, f1_ex.eq, f0_ex.eq, f0_ex.eq, f0_ex.eq, ?_, ?_, hu.eq⟩, ⟨f0_ex.eq, f0_ex.eq, f0_ex.eq, hx.eq, hy.eq, f1_ex.eq, ?_, ?_, hv.eq⟩, ?_, ?_⟩
  · show val a = _; rw [a2.eq]; grind
  · show val b = _; rw [b2.eq]; grind
  · show val c = _; rw [c2.eq]; grind
  · show val d = _; rw [d2.eq]; grind
  · intro j hj
    rcases (show j = 0 ∨ j = 1 ∨ j = 2 ∨ j = 3 ∨ j = 4 ∨ j = 5 ∨ j = 6 ∨ j = 7 ∨ j = 8 by omega) with rfl | rfl | rfl | rfl | rfl | rfl | rfl | rfl | rfl
    · exact hx.fin
    · exact hy.fin
    · exact f1_ex.fin
    · exact f0_ex.fin
    · exact f0_ex.fin
    · exact f0_ex.fin
    · exact a2.fin
    · exact b2.fin
    · exact hu.fin
  · intro j hj
    rcases (show j = 0 ∨ j = 1 ∨ j = 2 ∨ j = 3 ∨ j = 4 ∨ j = 5 ∨ j = 6 ∨ j = 7 ∨ j = 8 by omega) with rfl | rfl | rfl | rfl | rfl | rfl | rfl | rfl | rfl
    · exact f0_ex.fin
    · exact f0_ex.fin
    · exact f0_ex.fin
    · exact hx.fin
    · exact hy.fin
    · exact f1_ex.fin
    · exact c2.fin
    · exact d2.fin
    · exact hv.fin

end Go.Proofs.Ytaadklfendegfaa
