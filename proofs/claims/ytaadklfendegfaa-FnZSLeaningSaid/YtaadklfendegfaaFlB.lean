/- Floats that stand near rational numbers, and how the distance grows. -/
import Derived.Test.YtaadklfendegfaaFlA
import Derived.Test.YtaadklfendegfaaPt
namespace Fl
theorem Nr.nonneg {a b e : Rat} (h : Nr a b e) : 0 ≤ e := by unfold Nr at h; grind
theorem Nr.bd {a b e B : Rat} (h : Nr a b e) (hb : Bd b B) : Bd a (B + e) := by unfold Nr Bd at *; grind
theorem Nr.trans {a b c e f : Rat} (h : Nr a b e) (k : Nr b c f) : Nr a c (e + f) := by unfold Nr at *; grind
theorem Bd.mono {a A B : Rat} (h : Bd a A) (hb : A ≤ B) : Bd a B := by unfold Bd at *; grind
theorem Bd.nonneg {a A : Rat} (h : Bd a A) : 0 ≤ A := by unfold Bd at h; grind
theorem Bd.add {a b A B : Rat} (h : Bd a A) (k : Bd b B) : Bd (a + b) (A + B) := by unfold Bd at *; grind
theorem Bd.sub {a b A B : Rat} (h : Bd a A) (k : Bd b B) : Bd (a - b) (A + B) := by unfold Bd at *; grind
theorem Bd.neg {a A : Rat} (h : Bd a A) : Bd (-a) A := by unfold Bd at *; grind
theorem Bd.mul {a b A B : Rat} (h : Bd a A) (k : Bd b B) : Bd (a * b) (A * B) := by
  obtain ⟨h1, h2⟩ := h
  obtain ⟨k1, k2⟩ := k
  have hA : 0 ≤ A := by grind
  have p1 := Rat.mul_nonneg (a := A - a) (b := B - b) (by grind) (by grind)
  have p2 := Rat.mul_nonneg (a := A + a) (b := B - b) (by grind) (by grind)
  have p3 := Rat.mul_nonneg (a := A - a) (b := B + b) (by grind) (by grind)
  have p4 := Rat.mul_nonneg (a := A + a) (b := B + b) (by grind) (by grind)
  unfold Bd
  constructor <;> grind

theorem Nr.mul {a b v w e f V W : Rat} (h : Nr a v e) (k : Nr b w f) (hv : Bd v V) (hw : Bd w W) : Nr (a * b) (v * w) (e * (W + f) + V * f) := by
  have h1 : Bd (a - v) e := by unfold Nr Bd at *; grind
  have k1 : Bd (b - w) f := by unfold Nr Bd at *; grind
  have m1 := Bd.mul h1 (k.bd hw)
  have m2 := Bd.mul hv k1
  have m3 := Bd.add m1 m2
  unfold Bd Nr at *
  constructor <;> grind

end Fl

namespace Go.Proofs.Ytaadklfendegfaa
open Go Fl

def u53 : Rat := 1/9007199254740992
def tny : Rat := 1/10^60

theorem u_eq : (2:Rat) ^ (-53:Int) = u53 := by decide +kernel
theorem tny_le : (2:Rat) ^ (-1075:Int) ≤ tny := by decide +kernel
theorem big_le : (10^200 : Rat) ≤ (2:Rat) ^ (999:Int) := by decide +kernel
theorem big_le' : (10^200 : Rat) ≤ (2:Rat) ^ (1000:Int) := by decide +kernel

/-- a finite float that stands near a number -/
structure Ap (x : Nat) (v e : Rat) : Prop where
  fin : fin x
  near : Nr (val x) v e

theorem Ap.lt64 {x : Nat} {v e : Rat} (h : Ap x v e) : x < 18446744073709551616 := h.fin.1
theorem Ap.self {x : Nat} (h : Fl.fin x) : Ap x (val x) 0 := ⟨h, by unfold Nr; grind⟩
theorem Ap.mono {x : Nat} {v e e' : Rat} (h : Ap x v e) (he : e ≤ e') : Ap x v e' := ⟨h.fin, by have := h.near; unfold Nr at *; grind⟩
theorem Ap.eq {x : Nat} {v w e : Rat} (h : Ap x v e) (he : v = w) : Ap x w e := he ▸ h
theorem Ap.add {x y : Nat} {v w e f : Rat} (hx : Ap x v e) (hy : Ap y w f) (B E : Rat) (hb : Bd (v + w) B) (hE : e + f + (B + e + f) * u53 + tny ≤ E) (hB : B + e + f ≤ 10^200) : ∃ z, fadd x y = some z ∧ Ap z (v + w) E := by
  have hb' : Bd (val x + val y) (B + e + f) := by
    have h1 := hx.near; have h2 := hy.near
    unfold Bd Nr at *; constructor <;> grind
  obtain ⟨z, h1, h2, h3⟩ := add_near hx.fin hy.fin hb' (Rat.le_trans hB big_le')
  refine ⟨z, h1, h2, ?_⟩
  rw [u_eq] at h3
  have ht := tny_le
  have n1 := hx.near; have n2 := hy.near
  generalize (2:Rat) ^ (-1075:Int) = t at *
  generalize (B + e + f) * u53 = q at *
  unfold Nr at *
  constructor <;> grind

theorem Ap.sub {x y : Nat} {v w e f : Rat} (hx : Ap x v e) (hy : Ap y w f) (B E : Rat) (hb : Bd (v - w) B) (hE : e + f + (B + e + f) * u53 + tny ≤ E) (hB : B + e + f ≤ 10^200) : ∃ z, fsub x y = some z ∧ Ap z (v - w) E := by
  have hb' : Bd (val x - val y) (B + e + f) := by
    have h1 := hx.near; have h2 := hy.near
    unfold Bd Nr at *; constructor <;> grind
  obtain ⟨z, h1, h2, h3⟩ := sub_near hx.fin hy.fin hb' (Rat.le_trans hB big_le')
  refine ⟨z, h1, h2, ?_⟩
  rw [u_eq] at h3
  have ht := tny_le
  have n1 := hx.near; have n2 := hy.near
  generalize (2:Rat) ^ (-1075:Int) = t at *
  generalize (B + e + f) * u53 = q at *
  unfold Nr at *
  constructor <;> grind

theorem Ap.mul {x y : Nat} {v w e f : Rat} (hx : Ap x v e) (hy : Ap y w f) (V W E : Rat) (hv : Bd v V) (hw : Bd w W) (hE : e * (W + f) + V * f + (V + e) * (W + f) * u53 + tny ≤ E) (hB : (V + e) * (W + f) ≤ 10^200) : ∃ z, fmul x y = some z ∧ Ap z (v * w) E := by
  have hb' : Bd (val x * val y) ((V + e) * (W + f)) := Bd.mul (hx.near.bd hv) (hy.near.bd hw)
  obtain ⟨z, h1, h2, h3⟩ := mul_near hx.fin hy.fin hb' (Rat.le_trans hB big_le')
  refine ⟨z, h1, h2, ?_⟩
  rw [u_eq] at h3
  have ht := tny_le
  have n := Nr.mul hx.near hy.near hv hw
  generalize (2:Rat) ^ (-1075:Int) = t at *
  generalize (V + e) * (W + f) * u53 = q at *
  generalize e * (W + f) + V * f = q2 at *
  unfold Nr at *
  constructor <;> grind

/-- a quotient: Q bounds it, m is below the divisor's magnitude, k what the operands' distances make -/
theorem Ap.div {x y : Nat} {v w e f : Rat} (hx : Ap x v e) (hy : Ap y w f) (q Q m k E : Rat) (hq : q * w = v) (hQ : Bd q Q) (hw : m ≤ w ∨ w ≤ -m) (hm : f < m) (hk : e + Q * f ≤ k * (m - f)) (hk0 : 0 ≤ k) (hE : k + 3 * (Q + k) * u53 + tny ≤ E) (hB : Q + k ≤ 10^200) :
    ∃ z, fdiv x y = some z ∧ Ap z q E := by
  have n1 := hx.near; have n2 := hy.near
  have hf := n2.nonneg
  have hy0 : val y ≠ 0 := by
    unfold Nr at n2
    rcases hw with h | h <;> intro h0 <;> grind
  -- the quotient of the floats is near q
  have hdiv : val x / val y * val y = val x := Rat.div_mul_cancel hy0
  have hnear : Nr (val x / val y) q k := by
    generalize val x / val y = p at *
    have h1 : Bd (val x - v) e := by unfold Nr Bd at *; grind
    have h2 : Bd (w - val y) f := by unfold Nr Bd at *; grind
    have h3 := Bd.add h1 (Bd.mul hQ h2)
    have h4 : (p - q) * val y = val x - v + q * (w - val y) := by grind
    rw [← h4] at h3
    have h5 : Bd ((p - q) * val y) (k * (m - f)) := h3.mono hk
    have hmf : 0 < m - f := by grind
    have h6 : m - f ≤ val y ∨ val y ≤ -(m - f) := by
      unfold Nr at n2
      rcases hw with h | h
      · left; grind
      · right; grind
    have h7 : p - q ≤ k ∧ q - p ≤ k := by
      unfold Bd at h5
      constructor
      · apply Classical.byContradiction; intro hc
        have hc : k < p - q := by grind
        rcases h6 with h | h
        · have := Rat.mul_le_mul_of_nonneg_left h (c := p - q) (by grind)
          have := Rat.mul_lt_mul_of_pos_right hc hmf
          grind
        · have := Rat.mul_le_mul_of_nonneg_left h (c := p - q) (by grind)
          have := Rat.mul_lt_mul_of_pos_right hc hmf
          grind
      · apply Classical.byContradiction; intro hc
        have hc : k < q - p := by grind
        rcases h6 with h | h
        · have := Rat.mul_le_mul_of_nonneg_left h (c := q - p) (by grind)
          have := Rat.mul_lt_mul_of_pos_right hc hmf
          grind
        · have := Rat.mul_le_mul_of_nonneg_left h (c := q - p) (by grind)
          have := Rat.mul_lt_mul_of_pos_right hc hmf
          grind
    unfold Nr; constructor <;> grind
  obtain ⟨z, g1, g2, g3⟩ := div_near hx.fin hy.fin hy0 (hnear.bd hQ) (Rat.le_trans hB big_le)
  refine ⟨z, g1, g2, ?_⟩
  rw [u_eq] at g3
  have ht := tny_le
  generalize (2:Rat) ^ (-1075:Int) = t at *
  generalize 3 * (Q + k) * u53 = qq at *
  unfold Nr at *
  constructor <;> grind

/-- so many halves of a half, whole -/
def Dy (v : Rat) (k : Nat) (M : Nat) : Prop := ∃ N : Int, v = N * (2:Rat) ^ (-(k : Int)) ∧ N.natAbs ≤ M

theorem Dy.add {v w : Rat} {k M M' : Nat} (h : Dy v k M) (h' : Dy w k M') : Dy (v + w) k (M + M') := by
  obtain ⟨N, rfl, hN⟩ := h
  obtain ⟨N', rfl, hN'⟩ := h'
  exact ⟨N + N', by rw [Rat.intCast_add]; grind, by omega⟩
theorem Dy.sub {v w : Rat} {k M M' : Nat} (h : Dy v k M) (h' : Dy w k M') : Dy (v - w) k (M + M') := by
  obtain ⟨N, rfl, hN⟩ := h
  obtain ⟨N', rfl, hN'⟩ := h'
  exact ⟨N - N', by rw [Rat.intCast_sub]; grind, by omega⟩
theorem Dy.mul {v w : Rat} {k k' M M' : Nat} (h : Dy v k M) (h' : Dy w k' M') : Dy (v * w) (k + k') (M * M') := by
  obtain ⟨N, rfl, hN⟩ := h
  obtain ⟨N', rfl, hN'⟩ := h'
  refine ⟨N * N', ?_, ?_⟩
  · have : (-((k + k' : Nat) : Int)) = -(k : Int) + -(k' : Int) := by omega
    rw [Rat.intCast_mul, this, p2_add]; grind
  · rw [Int.natAbs_mul]; exact Nat.mul_le_mul hN hN'

/-- a float that is such a number -/
structure Ex (x : Nat) (v : Rat) (k M : Nat) : Prop where
  fin : Fl.fin x
  eq : val x = v
  dy : Dy v k M

theorem Ex.ap {x : Nat} {v : Rat} {k M : Nat} (h : Ex x v k M) : Ap x v 0 := ⟨h.fin, by rw [h.eq]; unfold Nr; grind⟩

theorem Ex.add {x y : Nat} {v w : Rat} {k M M' : Nat} (hx : Ex x v k M) (hy : Ex y w k M') (hk : k ≤ 900) (hM : M + M' < 9007199254740992) : ∃ z, fadd x y = some z ∧ Ex z (v + w) k (M + M') := by
  have hd := hx.dy.add hy.dy
  obtain ⟨N, hN, hNM⟩ := hd
  obtain ⟨z, h1, h2, h3⟩ := add_exact hx.fin hy.fin N (-(k : Int)) (by omega) (by omega) (by omega) (by rw [hx.eq, hy.eq, hN])
  exact ⟨z, h1, h2, by rw [h3, hx.eq, hy.eq], N, hN, hNM⟩
theorem Ex.sub {x y : Nat} {v w : Rat} {k M M' : Nat} (hx : Ex x v k M) (hy : Ex y w k M') (hk : k ≤ 900) (hM : M + M' < 9007199254740992) : ∃ z, fsub x y = some z ∧ Ex z (v - w) k (M + M') := by
  have hd := hx.dy.sub hy.dy
  obtain ⟨N, hN, hNM⟩ := hd
  obtain ⟨z, h1, h2, h3⟩ := sub_exact hx.fin hy.fin N (-(k : Int)) (by omega) (by omega) (by omega) (by rw [hx.eq, hy.eq, hN])
  exact ⟨z, h1, h2, by rw [h3, hx.eq, hy.eq], N, hN, hNM⟩
theorem Ex.mul {x y : Nat} {v w : Rat} {k k' M M' : Nat} (hx : Ex x v k M) (hy : Ex y w k' M') (hk : k + k' ≤ 900) (hM : M * M' < 9007199254740992) : ∃ z, fmul x y = some z ∧ Ex z (v * w) (k + k') (M * M') := by
  have hd := hx.dy.mul hy.dy
  obtain ⟨N, hN, hNM⟩ := hd
  obtain ⟨z, h1, h2, h3⟩ := mul_exact hx.fin hy.fin N (-((k + k' : Nat) : Int)) (by omega) (by omega) (by omega) (by rw [hx.eq, hy.eq, hN])
  exact ⟨z, h1, h2, by rw [h3, hx.eq, hy.eq], N, hN, hNM⟩

theorem ofI_ex (n : Int) (M : Nat) (hn : n.natAbs ≤ M) (hM : M < 9007199254740992) : Ex (ofI n) n 0 M := by
  obtain ⟨h1, h2⟩ := ofInt_val n (by omega)
  have e : (2:Rat) ^ (-((0:Nat) : Int)) = 1 := rfl
  exact ⟨h1, h2, n, by rw [e]; grind, hn⟩

end Go.Proofs.Ytaadklfendegfaa
