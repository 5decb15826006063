/- The value of a double as a rational number, and how far the rounded operations are from the exact ones. -/
import Derived.Laws.FloatBits
namespace Fl
open Ieee

/-- the sign as a number -/
def sg (s : Bool) : Rat := if s then -1 else 1
def dval : Datum → Rat
  | .number s m e => sg s * (m : Rat) * (2:Rat) ^ e
  | _ => 0
def fin (x : Nat) : Prop := x < 18446744073709551616 ∧ ∃ s m e, double.read x = .number s m e
def val (x : Nat) : Rat := dval (double.read x)

theorem two_ne : (2:Rat) ≠ 0 := by decide
theorem p2_pos (e : Int) : (0:Rat) < (2:Rat) ^ e := Rat.zpow_pos (by decide)
theorem p2_add (a b : Int) : (2:Rat) ^ (a + b) = (2:Rat) ^ a * (2:Rat) ^ b := Rat.zpow_add two_ne a b
theorem p2_nat (n : Nat) : (2:Rat) ^ (n : Int) = ((2 ^ n : Nat) : Rat) := by
  rw [Rat.zpow_natCast, Rat.natCast_pow]; rfl
theorem p2_mono {a b : Int} (h : a ≤ b) : (2:Rat) ^ a ≤ (2:Rat) ^ b := by
  have e : b = a + ((b - a).toNat : Int) := by omega
  rw [e, p2_add, p2_nat]
  have := p2_pos a
  have h1 : (1:Rat) ≤ ((2 ^ (b - a).toNat : Nat) : Rat) := by
    have : 1 ≤ 2 ^ (b - a).toNat := Nat.one_le_two_pow
    exact_mod_cast this
  have := Rat.mul_le_mul_of_nonneg_left h1 (Rat.le_of_lt this)
  grind

theorem signed_val (s : Bool) (m up : Nat) : ((signed s m up : Int) : Rat) = sg s * m * 2 ^ (up : Int) := by
  rw [p2_nat]
  unfold signed sg
  rw [Nat.shiftLeft_eq]
  have h : (((m * 2 ^ up : Nat) : Int) : Rat) = (m : Rat) * ((2 ^ up : Nat) : Rat) := by
    rw [Rat.intCast_natCast, Rat.natCast_mul]
  cases s
  · simp only [Bool.false_eq_true, if_false]; rw [h]; grind
  · simp only [if_true]; rw [Rat.intCast_neg, h]; grind

/-- 'cut' to the nearest whole number. -/
theorem cut_near (neg : Bool) (n drop : Nat) :
    2 * (Toward.even.cut neg n drop : Int) * 2 ^ drop ≤ 2 * n + 2 ^ drop ∧ 2 * (n : Int) ≤ 2 * (Toward.even.cut neg n drop) * 2 ^ drop + 2 ^ drop := by
  unfold Toward.cut
  by_cases hd : drop ≤ n.log2 + 2
  · have hm : min drop (n.log2 + 2) = drop := by omega
    simp only [hm, Nat.one_shiftLeft]
    have hg : 0 < 2 ^ drop := Nat.two_pow_pos drop
    have hcast : ((2:Int) ^ drop) = ((2 ^ drop : Nat) : Int) := by simp
    rw [hcast]
    generalize 2 ^ drop = g at *
    have hdm := Nat.div_add_mod n g
    have hlt := Nat.mod_lt n hg
    generalize n / g = q at *
    generalize n % g = r at *
    have hc : ∀ b : Bool, (b = true → g ≤ 2 * r) → (b = false → 2 * r ≤ g) → 2 * ((q + b.toNat : Nat) : Int) * (g : Int) ≤ 2 * n + g ∧ 2 * (n : Int) ≤ 2 * ((q + b.toNat : Nat) : Int) * (g : Int) + g := by
      intro b h1 h2
      have hn : (n : Int) = g * q + r := by rw [← hdm]; simp
      cases b with
      | true =>
        have := h1 rfl
        simp only [Bool.toNat_true]
        push_cast
        rw [hn]
        grind
      | false =>
        have := h2 rfl
        simp only [Bool.toNat_false, Nat.add_zero]
        rw [hn]
        grind
    apply hc
    · intro h; simp at h; omega
    · intro h; simp at h; omega
  · have hm : min drop (n.log2 + 2) = n.log2 + 2 := by omega
    simp only [hm, Nat.one_shiftLeft]
    have hlt : n < 2 ^ (n.log2 + 1) := Nat.lt_log2_self
    have h4 : 2 ^ (n.log2 + 2) = 2 * 2 ^ (n.log2 + 1) := by rw [Nat.pow_succ]; omega
    have hle : 2 ^ (n.log2 + 2) ≤ 2 ^ drop := Nat.pow_le_pow_right (by decide) (by omega)
    rw [h4] at hle ⊢
    have h0 : n / (2 * 2 ^ (n.log2 + 1)) = 0 := Nat.div_eq_of_lt (by omega)
    have h1 : n % (2 * 2 ^ (n.log2 + 1)) = n := Nat.mod_eq_of_lt (by omega)
    rw [h0, h1]
    have hcast : ((2:Int) ^ drop) = ((2 ^ drop : Nat) : Int) := by simp
    rw [hcast]
    generalize 2 ^ drop = g at *
    generalize 2 ^ (n.log2 + 1) = k at *
    have hb : (decide (2 * k < 2 * n) || 2 * k == 2 * n && 0 % 2 == 1) = false := by simp; omega
    rw [hb]
    simp
    omega


/-- the value of a rung -/
theorem read_word (neg : Bool) (a kept : Nat) (h1 : kept ≤ 2 ^ 53) (h2 : 0 < a → 2 ^ 52 ≤ kept) (ha : a ≤ 2044) :
    ∃ m e, double.read (double.word neg (min (a * double.binade + kept) double.infRung)) = .number neg m e ∧ (m : Rat) * (2:Rat) ^ e = (kept : Rat) * (2:Rat) ^ ((a : Int) - 1074) := by
  have hb : double.binade = 4503599627370496 := by decide
  have hi : double.infRung = 9218868437227405312 := by decide
  have hs : double.signWeight = 9223372036854775808 := by decide
  have hl : double.leastPlace = -1074 := by decide
  have e53 : (2:Nat) ^ 53 = 9007199254740992 := by decide
  have e52 : (2:Nat) ^ 52 = 4503599627370496 := by decide
  rw [e53] at h1
  rw [e52] at h2
  have hmin : min (a * 4503599627370496 + kept) 9218868437227405312 = a * 4503599627370496 + kept := by omega
  have hr : (double.word neg (a * 4503599627370496 + kept)) / 9223372036854775808 % 2 = neg.toNat := by
    unfold Format.word; rw [hs]; cases neg <;> simp <;> omega
  have hq : (double.word neg (a * 4503599627370496 + kept)) % 9223372036854775808 = a * 4503599627370496 + kept := by
    unfold Format.word; rw [hs]; cases neg <;> simp <;> omega
  have hneg : (neg.toNat == 1) = neg := by cases neg <;> rfl
  unfold Format.read
  rw [hb, hi, hmin, hs, hl, hr, hq]
  dsimp only
  rw [hneg]
  by_cases c1 : a * 4503599627370496 + kept < 4503599627370496
  · rw [if_pos c1]
    have : a = 0 := by omega
    subst this
    exact ⟨_, _, rfl, by rw [Nat.zero_mul, Nat.zero_add]; rfl⟩
  · rw [if_neg c1, if_pos (by omega)]
    refine ⟨_, _, rfl, ?_⟩
    by_cases c2 : kept = 9007199254740992
    · subst c2
      have d1 : (a * 4503599627370496 + 9007199254740992) / 4503599627370496 = a + 2 := by omega
      have d2 : (a * 4503599627370496 + 9007199254740992) % 4503599627370496 = 0 := by omega
      rw [d1, d2]
      have e : (-1074 + ((a + 2 - 1 : Nat) : Int)) = ((a : Int) - 1074) + 1 := by omega
      rw [e, p2_add, show (2:Rat) ^ (1:Int) = 2 by decide]
      have : ((4503599627370496 + 0 : Nat) : Rat) * 2 = ((9007199254740992 : Nat) : Rat) := by grind
      grind
    · have d1 : (a * 4503599627370496 + kept) / 4503599627370496 = a + 1 := by omega
      have d2 : (a * 4503599627370496 + kept) % 4503599627370496 = kept - 4503599627370496 := by omega
      rw [d1, d2]
      have e : (-1074 + ((a + 1 - 1 : Nat) : Int)) = ((a : Int) - 1074) := by omega
      have e2 : 4503599627370496 + (kept - 4503599627370496) = kept := by omega
      rw [e, e2]

theorem scale1 (k m D U P L : Rat) (hU : 0 < U) (hP : 0 ≤ P) (h : D * P = U * L) (q : 2 * k * D ≤ 2 * (m * U) + D) : 2 * (k * L) ≤ 2 * (m * P) + L := by
  have t := Rat.mul_le_mul_of_nonneg_right q hP
  have e1 : U * (2 * (k * L)) = 2 * k * D * P := by grind
  have e2 : (2 * (m * U) + D) * P = U * (2 * (m * P) + L) := by grind
  have t2 : U * (2 * (k * L)) ≤ U * (2 * (m * P) + L) := by rw [e1, ← e2]; exact t
  exact Rat.le_of_mul_le_mul_left t2 hU
theorem scale2 (k m D U P L : Rat) (hU : 0 < U) (hP : 0 ≤ P) (h : D * P = U * L) (q : 2 * (m * U) ≤ 2 * k * D + D) : 2 * (m * P) ≤ 2 * (k * L) + L := by
  have t := Rat.mul_le_mul_of_nonneg_right q hP
  have e1 : U * (2 * (m * P)) = 2 * (m * U) * P := by grind
  have e2 : (2 * k * D + D) * P = U * (2 * (k * L) + L) := by grind
  have t2 : U * (2 * (m * P)) ≤ U * (2 * (k * L) + L) := by rw [e1, ← e2]; exact t
  exact Rat.le_of_mul_le_mul_left t2 hU

theorem word_lt64 (neg : Bool) (a kept : Nat) : double.word neg (min (a * double.binade + kept) double.infRung) < 18446744073709551616 := by
  have h := double.word_lt neg (rung := min (a * double.binade + kept) double.infRung) (by
    have := double.infRung_lt
    omega)
  have e : 2 ^ double.width = 18446744073709551616 := by decide
  rw [e] at h
  exact h

/-- To be finite, and off from a number by at most so much. -/
theorem nearest_near (neg : Bool) (mag : Nat) (place : Int) (hx : (mag : Rat) * (2:Rat) ^ place < (2:Rat) ^ (1022:Int)) :
    fin (double.nearest neg mag place) ∧
    val (double.nearest neg mag place) - sg neg * mag * (2:Rat) ^ place ≤ mag * (2:Rat) ^ place * (2:Rat) ^ (-53:Int) + (2:Rat) ^ (-1075:Int) ∧
    sg neg * mag * (2:Rat) ^ place - val (double.nearest neg mag place) ≤ mag * (2:Rat) ^ place * (2:Rat) ^ (-53:Int) + (2:Rat) ^ (-1075:Int) ∧
    ∀ (k : Nat) (e : Int), k < 9007199254740992 → -1074 ≤ e → (mag : Rat) * (2:Rat) ^ place = k * (2:Rat) ^ e → val (double.nearest neg mag place) = sg neg * mag * (2:Rat) ^ place := by
  have hl : double.leastPlace = -1074 := by decide
  have hf : double.fractionBits = 52 := rfl
  unfold Format.nearest
  by_cases h0 : mag = 0
  · subst h0
    rw [if_pos rfl]
    obtain ⟨m, e, h1, h2⟩ := read_word neg 0 0 (by omega) (by omega) (by omega)
    have hz : double.word neg (min (0 * double.binade + 0) double.infRung) = double.word neg 0 := by
      congr 1
    rw [hz] at h1
    refine ⟨⟨by rw [← hz]; exact word_lt64 _ _ _, _, _, _, h1⟩, ?_⟩
    unfold val
    rw [h1]
    have := p2_pos (-1075)
    have h3 : (m : Rat) * 2 ^ e = 0 := by rw [h2]; grind
    have h4 : dval (Datum.number neg m e) = 0 := by unfold dval; grind
    rw [h4]
    refine ⟨by grind, by grind, fun k e hk he h => by grind⟩
  · rw [if_neg h0, hl, hf]
    dsimp only
    have hm1 : 2 ^ mag.log2 ≤ mag := Nat.log2_self_le h0
    have hm2 : mag < 2 ^ (mag.log2 + 1) := Nat.lt_log2_self
    obtain ⟨a, ha⟩ : ∃ a : Nat, max (place + (mag.log2 : Int) - ((52 : Nat) : Int)) (-1074) = (a : Int) - 1074 := ⟨(max (place + (mag.log2 : Int) - ((52 : Nat) : Int)) (-1074) + 1074).toNat, by omega⟩
    rw [ha]
    have ea : ((a : Int) - 1074 - -1074).toNat = a := by omega
    rw [ea]
    obtain ⟨k1, k2⟩ := cut_near neg (mag <<< (place - ((a : Int) - 1074)).toNat) ((a : Int) - 1074 - place).toNat
    generalize Toward.even.cut neg (mag <<< (place - ((a : Int) - 1074)).toNat) ((a : Int) - 1074 - place).toNat = kept at *
    rw [Nat.shiftLeft_eq] at k1 k2
    -- the same, as rational numbers
    generalize hup : (place - ((a : Int) - 1074)).toNat = up at *
    generalize hdr : ((a : Int) - 1074 - place).toNat = drop at *
    have hpl : place + (drop : Int) = ((a : Int) - 1074) + (up : Int) := by omega
    have q1 : 2 * (kept : Rat) * (2:Rat) ^ (drop : Int) ≤ 2 * ((mag : Rat) * (2:Rat) ^ (up : Int)) + (2:Rat) ^ (drop : Int) := by
      rw [p2_nat, p2_nat]; exact_mod_cast k1
    have q2 : 2 * ((mag : Rat) * (2:Rat) ^ (up : Int)) ≤ 2 * (kept : Rat) * (2:Rat) ^ (drop : Int) + (2:Rat) ^ (drop : Int) := by
      rw [p2_nat, p2_nat]; exact_mod_cast k2
    have hP := p2_pos place
    have hU := p2_pos (up : Int)
    have hL := p2_pos ((a : Int) - 1074)
    have hPL : (2:Rat) ^ (drop : Int) * (2:Rat) ^ place = (2:Rat) ^ (up : Int) * (2:Rat) ^ ((a : Int) - 1074) := by
      rw [← p2_add, ← p2_add]; congr 1; omega
    have b1 : (mag : Rat) * (2:Rat) ^ place < (2:Rat) ^ (53:Int) * (2:Rat) ^ ((a : Int) - 1074) := by
      have t1 : (mag : Rat) < (2:Rat) ^ ((mag.log2 + 1 : Nat) : Int) := by rw [p2_nat]; exact_mod_cast hm2
      have t2 := Rat.mul_lt_mul_of_pos_right t1 hP
      have t3 : (2:Rat) ^ ((mag.log2 + 1 : Nat) : Int) * (2:Rat) ^ place ≤ (2:Rat) ^ (53:Int) * (2:Rat) ^ ((a : Int) - 1074) := by
        rw [← p2_add, ← p2_add]; exact p2_mono (by omega)
      grind
    have b2 : (2:Rat) ^ (mag.log2 : Int) * (2:Rat) ^ place ≤ (mag : Rat) * (2:Rat) ^ place := by
      have t1 : (2:Rat) ^ (mag.log2 : Int) ≤ (mag : Rat) := by rw [p2_nat]; exact_mod_cast hm1
      exact Rat.mul_le_mul_of_nonneg_right t1 (Rat.le_of_lt hP)
    have e53 : (2:Rat) ^ (53:Int) = 9007199254740992 := by rfl
    have hS : (sg neg = 1 ∨ sg neg = -1) := by unfold sg; cases neg <;> simp
    -- q1, q2 at the scale of the last place
    have r1 := scale1 kept mag _ _ _ _ hU (Rat.le_of_lt hP) hPL q1
    have r2 := scale2 kept mag _ _ _ _ hU (Rat.le_of_lt hP) hPL q2
    have c1 : kept ≤ 2 ^ 53 := by
      have t : (2 * (kept : Rat)) * (2:Rat) ^ ((a : Int) - 1074) < (2 * 9007199254740992 + 1) * (2:Rat) ^ ((a : Int) - 1074) := by grind
      have t2 := Rat.lt_of_mul_lt_mul_right t (Rat.le_of_lt hL)
      have t3 : 2 * kept < 2 * 9007199254740992 + 1 := by exact_mod_cast t2
      have : (2:Nat) ^ 53 = 9007199254740992 := by decide
      omega
    have c2 : 0 < a → 2 ^ 52 ≤ kept := by
      intro hapos
      have t0 : (2:Rat) ^ (52:Int) * (2:Rat) ^ ((a : Int) - 1074) = (2:Rat) ^ (mag.log2 : Int) * (2:Rat) ^ place := by
        rw [← p2_add, ← p2_add]; congr 1; omega
      have e52 : (2:Rat) ^ (52:Int) = 4503599627370496 := by rfl
      have t : (2 * 4503599627370496) * (2:Rat) ^ ((a : Int) - 1074) ≤ (2 * (kept : Rat) + 1) * (2:Rat) ^ ((a : Int) - 1074) := by grind
      have t2 := Rat.le_of_mul_le_mul_right t hL
      have t3 : 2 * 4503599627370496 ≤ 2 * kept + 1 := by exact_mod_cast t2
      have : (2:Nat) ^ 52 = 4503599627370496 := by decide
      omega
    have c3 : a ≤ 2044 := by
      apply Classical.byContradiction
      intro hc
      have t0 : (2:Rat) ^ (1022:Int) ≤ (2:Rat) ^ (mag.log2 : Int) * (2:Rat) ^ place := by
        rw [← p2_add]; exact p2_mono (by omega)
      grind
    obtain ⟨m, e, h1, h2⟩ := read_word neg a kept c1 c2 c3
    refine ⟨⟨word_lt64 _ _ _, _, _, _, h1⟩, ?_⟩
    have hv : val (double.word neg (min (a * double.binade + kept) double.infRung)) = sg neg * ((kept : Rat) * (2:Rat) ^ ((a : Int) - 1074)) := by
      unfold val; rw [h1]; unfold dval; rw [← h2]; grind
    rw [hv]
    -- half of the last place
    have hh : (2:Rat) ^ ((a : Int) - 1074) ≤ 2 * ((mag : Rat) * (2:Rat) ^ place * (2:Rat) ^ (-53:Int) + (2:Rat) ^ (-1075:Int)) := by
      have p75 := p2_pos (-1075)
      have p53 := p2_pos (-53)
      have pm : (0:Rat) ≤ (mag : Rat) * (2:Rat) ^ place := by have := p2_pos ((mag.log2 : Int)); have := Rat.mul_pos this hP; grind
      have pm2 := Rat.mul_nonneg pm (Rat.le_of_lt p53)
      by_cases hapos : 0 < a
      · have t0 : (2:Rat) ^ ((a : Int) - 1074) = 2 * ((2:Rat) ^ (mag.log2 : Int) * (2:Rat) ^ place * (2:Rat) ^ (-53:Int)) := by
          have e2 : (2:Rat) = (2:Rat) ^ (1:Int) := by rfl
          rw [← p2_add, ← p2_add]
          conv => rhs; lhs; rw [e2]
          rw [← p2_add]; congr 1; omega
        have := Rat.mul_le_mul_of_nonneg_right b2 (Rat.le_of_lt p53)
        grind
      · have : a = 0 := by omega
        subst this
        have t0 : (2:Rat) ^ (((0:Nat) : Int) - 1074) = 2 * (2:Rat) ^ (-1075:Int) := by
          have e2 : (2:Rat) = (2:Rat) ^ (1:Int) := by rfl
          conv => rhs; lhs; rw [e2]
          rw [← p2_add]; congr 1
        grind
    refine ⟨?_, ?_, ?_⟩
    · rcases hS with hS | hS <;> rw [hS] <;> grind
    · rcases hS with hS | hS <;> rw [hS] <;> grind
    · intro k e hk he hke
      have hN : ∃ N : Nat, (N : Rat) * (2:Rat) ^ ((a : Int) - 1074) = (mag : Rat) * (2:Rat) ^ place := by
        by_cases hc : (a : Int) - 1074 ≤ e
        · refine ⟨k * 2 ^ (e - ((a : Int) - 1074)).toNat, ?_⟩
          rw [hke, Rat.natCast_mul, ← p2_nat, Rat.mul_assoc, ← p2_add]; congr 2; omega
        · exfalso
          have t0 : (2:Rat) ^ (52:Int) * (2:Rat) ^ ((a : Int) - 1074) = (2:Rat) ^ (mag.log2 : Int) * (2:Rat) ^ place := by
            rw [← p2_add, ← p2_add]; congr 1; omega
          have t1 : (2:Rat) ^ (53:Int) * (2:Rat) ^ e ≤ (2:Rat) ^ (52:Int) * (2:Rat) ^ ((a : Int) - 1074) := by
            rw [← p2_add, ← p2_add]; exact p2_mono (by omega)
          have t2 : (9007199254740992 : Rat) * (2:Rat) ^ e ≤ (k : Rat) * (2:Rat) ^ e := by rw [← e53]; grind
          have t3 := Rat.le_of_mul_le_mul_right t2 (p2_pos e)
          have t4 : 9007199254740992 ≤ k := by exact_mod_cast t3
          omega
      obtain ⟨N, hN⟩ := hN
      have n1 : (2 * (kept : Rat)) * (2:Rat) ^ ((a : Int) - 1074) ≤ (2 * N + 1) * (2:Rat) ^ ((a : Int) - 1074) := by grind
      have n2 : (2 * (N : Rat)) * (2:Rat) ^ ((a : Int) - 1074) ≤ (2 * kept + 1) * (2:Rat) ^ ((a : Int) - 1074) := by grind
      have n3 := Rat.le_of_mul_le_mul_right n1 hL
      have n4 := Rat.le_of_mul_le_mul_right n2 hL
      have n5 : 2 * kept ≤ 2 * N + 1 := by exact_mod_cast n3
      have n6 : 2 * N ≤ 2 * kept + 1 := by exact_mod_cast n4
      have : kept = N := by omega
      subst this
      rw [hN]; grind


/-- to differ by at most so much -/
def Nr (a b e : Rat) : Prop := a ≤ b + e ∧ b ≤ a + e
/-- to lie between -B and B -/
def Bd (a B : Rat) : Prop := -B ≤ a ∧ a ≤ B

theorem dval_num (s : Bool) (m : Nat) (e : Int) : dval (.number s m e) = sg s * (m : Rat) * (2:Rat) ^ e := rfl
theorem sg_t : sg true = -1 := rfl
theorem sg_f : sg false = 1 := rfl

/-- what is written of a number -/
theorem write_near (neg : Bool) (mag : Nat) (place : Int) (B : Rat) (hb : Bd (dval (.number neg mag place)) B) (hB : B ≤ (2:Rat) ^ (1000:Int)) :
    fin (double.write (.number neg mag place)) ∧ Nr (val (double.write (.number neg mag place))) (dval (.number neg mag place)) (B * (2:Rat) ^ (-53:Int) + (2:Rat) ^ (-1075:Int)) := by
  have hx : (mag : Rat) * (2:Rat) ^ place ≤ B := by
    unfold Bd dval sg at hb; revert hb; cases neg <;> simp <;> intro h1 h2 <;> grind
  have hlt : (2:Rat) ^ (1000:Int) < (2:Rat) ^ (1022:Int) := by decide +kernel
  obtain ⟨h1, h2, h3, _⟩ := nearest_near neg mag place (by grind)
  have p53 := p2_pos (-53)
  have := Rat.mul_le_mul_of_nonneg_right hx (Rat.le_of_lt p53)
  refine ⟨h1, ?_⟩
  show Nr (val (double.nearest neg mag place)) (sg neg * mag * (2:Rat) ^ place) _
  unfold Nr
  generalize val (double.nearest neg mag place) = v at *
  generalize (2:Rat) ^ (-53:Int) = u at *
  generalize (2:Rat) ^ (-1075:Int) = u' at *
  generalize hw : sg neg * mag * (2:Rat) ^ place = w at *
  generalize hq : (mag : Rat) * (2:Rat) ^ place = q at *
  constructor <;> grind

/-- what is written of a number that the format has -/
theorem write_exact (neg : Bool) (mag : Nat) (place : Int) (N : Int) (e : Int) (h1 : N.natAbs < 9007199254740992) (h2 : -1074 ≤ e) (h3 : e ≤ 900) (h : dval (.number neg mag place) = N * (2:Rat) ^ e) :
    fin (double.write (.number neg mag place)) ∧ val (double.write (.number neg mag place)) = N * (2:Rat) ^ e := by
  have hk : (mag : Rat) * (2:Rat) ^ place = (N.natAbs : Rat) * (2:Rat) ^ e := by
    have hm0 : (0:Rat) ≤ (mag : Rat) := by exact_mod_cast Nat.zero_le mag
    have a1 := Rat.mul_nonneg hm0 (Rat.le_of_lt (p2_pos place))
    have hN0 : (0:Rat) ≤ (N.natAbs : Rat) := by exact_mod_cast Nat.zero_le _
    have a2 := Rat.mul_nonneg hN0 (Rat.le_of_lt (p2_pos e))
    have a3 : (N : Rat) = N.natAbs ∨ (N : Rat) = -(N.natAbs : Rat) := by
      rcases Int.natAbs_eq N with hN | hN
      · left; conv => lhs; rw [hN]
        rw [Rat.intCast_natCast]
      · right; conv => lhs; rw [hN]
        rw [Rat.intCast_neg, Rat.intCast_natCast]
    rw [dval_num, Rat.mul_assoc] at h
    generalize (mag : Rat) * (2:Rat) ^ place = x at *
    have a4 : (sg neg = 1 ∨ sg neg = -1) := by unfold sg; cases neg <;> simp
    generalize (2:Rat) ^ e = y at *
    rcases a3 with a3 | a3 <;> rw [a3] at h <;> rcases a4 with a4 | a4 <;> rw [a4] at h <;> grind
  have hlt : (mag : Rat) * (2:Rat) ^ place < (2:Rat) ^ (1022:Int) := by
    rw [hk]
    have t1 : (N.natAbs : Rat) < (2:Rat) ^ (53:Int) := by
      rw [show (2:Rat) ^ (53:Int) = ((9007199254740992 : Nat) : Rat) from rfl]; exact_mod_cast h1
    have t2 := Rat.mul_lt_mul_of_pos_right t1 (p2_pos e)
    have t3 : (2:Rat) ^ (53:Int) * (2:Rat) ^ e ≤ (2:Rat) ^ (1022:Int) := by rw [← p2_add]; exact p2_mono (by omega)
    exact Std.lt_of_lt_of_le t2 t3
  obtain ⟨g1, _, _, g2⟩ := nearest_near neg mag place hlt
  have := g2 _ _ h1 h2 hk
  rw [dval_num] at h
  rw [h] at this
  exact ⟨g1, this⟩

theorem sum_val (s t : Bool) (m n : Nat) (i j : Int) : ∃ g k p, (Datum.number s m i).sum (.number t n j) = some (.number g k p) ∧ dval (.number g k p) = dval (.number s m i) + dval (.number t n j) := by
  refine ⟨_, _, _, rfl, ?_⟩
  generalize hb : min i j = base
  generalize ht : signed s m (i - base).toNat + signed t n (j - base).toNat = total
  have hT : (total : Rat) = sg s * m * (2:Rat) ^ (((i - base).toNat : Nat) : Int) + sg t * n * (2:Rat) ^ (((j - base).toNat : Nat) : Int) := by
    rw [← ht, Rat.intCast_add, signed_val, signed_val]
  have hsg : sg (if total = 0 then s && t else decide (total < 0)) * (total.natAbs : Rat) = (total : Rat) := by
    by_cases h0 : total = 0
    · subst h0; simp
    · rw [if_neg h0]
      by_cases hn : total < 0
      · have e : ((total.natAbs : Int) : Rat) = ((-total : Int) : Rat) := by congr 1; omega
        rw [Rat.intCast_natCast, Rat.intCast_neg] at e
        rw [e]; simp [hn, sg]; grind
      · have e : ((total.natAbs : Int) : Rat) = ((total : Int) : Rat) := by congr 1; omega
        rw [Rat.intCast_natCast] at e
        rw [e]; simp [hn, sg]
  have e1 : (2:Rat) ^ (((i - base).toNat : Nat) : Int) * (2:Rat) ^ base = (2:Rat) ^ i := by rw [← p2_add]; congr 1; omega
  have e2 : (2:Rat) ^ (((j - base).toNat : Nat) : Int) * (2:Rat) ^ base = (2:Rat) ^ j := by rw [← p2_add]; congr 1; omega
  rw [dval_num, dval_num, dval_num, hsg, hT, ← e1, ← e2]
  generalize (2:Rat) ^ (((i - base).toNat : Nat) : Int) = a
  generalize (2:Rat) ^ (((j - base).toNat : Nat) : Int) = b
  grind

theorem opp_val (s : Bool) (m : Nat) (i : Int) : dval (Datum.number s m i).opposite = - dval (.number s m i) := by
  unfold Datum.opposite dval sg; cases s <;> simp <;> grind

theorem product_val (s t : Bool) (m n : Nat) (i j : Int) : ∃ g k p, (Datum.number s m i).product (.number t n j) = some (.number g k p) ∧ dval (.number g k p) = dval (.number s m i) * dval (.number t n j) := by
  refine ⟨_, _, _, rfl, ?_⟩
  rw [dval_num, dval_num, dval_num, p2_add, Rat.natCast_mul]
  have : sg (s ^^ t) = sg s * sg t := by cases s <;> cases t <;> decide +kernel
  rw [this]
  generalize (2:Rat) ^ i = a
  generalize (2:Rat) ^ j = b
  grind

/-- '+' -/
theorem add_near {x y : Nat} (hx : fin x) (hy : fin y) {B : Rat} (hb : Bd (val x + val y) B) (hB : B ≤ (2:Rat) ^ (1000:Int)) :
    ∃ z, double.add x y = some z ∧ fin z ∧ Nr (val z) (val x + val y) (B * (2:Rat) ^ (-53:Int) + (2:Rat) ^ (-1075:Int)) := by
  obtain ⟨_, s, m, i, hx⟩ := hx
  obtain ⟨_, t, n, j, hy⟩ := hy
  unfold val at hb ⊢
  unfold Format.add
  rw [hx, hy] at hb ⊢
  obtain ⟨g, k, p, h1, h2⟩ := sum_val s t m n i j
  rw [h1]
  refine ⟨_, rfl, ?_⟩
  rw [← h2] at hb ⊢
  exact write_near g k p B hb hB

/-- '-' -/
theorem sub_near {x y : Nat} (hx : fin x) (hy : fin y) {B : Rat} (hb : Bd (val x - val y) B) (hB : B ≤ (2:Rat) ^ (1000:Int)) :
    ∃ z, double.sub x y = some z ∧ fin z ∧ Nr (val z) (val x - val y) (B * (2:Rat) ^ (-53:Int) + (2:Rat) ^ (-1075:Int)) := by
  obtain ⟨_, s, m, i, hx⟩ := hx
  obtain ⟨_, t, n, j, hy⟩ := hy
  unfold val at hb ⊢
  unfold Format.sub
  rw [hx, hy] at hb ⊢
  obtain ⟨g, k, p, h1, h2⟩ := sum_val s (!t) m n i j
  have h3 := opp_val t n j
  have h4 : (Datum.number t n j).opposite = .number (!t) n j := rfl
  rw [h4] at h3 ⊢
  rw [h1]
  refine ⟨_, rfl, ?_⟩
  have h5 : dval (.number s m i) - dval (.number t n j) = dval (.number g k p) := by rw [h2, h3]; grind
  rw [h5] at hb ⊢
  exact write_near g k p B hb hB

/-- '*' -/
theorem mul_near {x y : Nat} (hx : fin x) (hy : fin y) {B : Rat} (hb : Bd (val x * val y) B) (hB : B ≤ (2:Rat) ^ (1000:Int)) :
    ∃ z, double.mul x y = some z ∧ fin z ∧ Nr (val z) (val x * val y) (B * (2:Rat) ^ (-53:Int) + (2:Rat) ^ (-1075:Int)) := by
  obtain ⟨_, s, m, i, hx⟩ := hx
  obtain ⟨_, t, n, j, hy⟩ := hy
  unfold val at hb ⊢
  unfold Format.mul
  rw [hx, hy] at hb ⊢
  obtain ⟨g, k, p, h1, h2⟩ := product_val s t m n i j
  rw [h1]
  refine ⟨_, rfl, ?_⟩
  rw [← h2] at hb ⊢
  exact write_near g k p B hb hB


theorem frac_near (q r n : Rat) (hn : 0 < n) (h0 : 0 ≤ r) (h1 : r < n) (b : Rat) (hb : (b = 0 ∧ r = 0) ∨ b = 1) : Nr (2 * q + b) (2 * ((n * q + r) / n)) 1 := by
  have e : (n * q + r) / n = q + r / n := by grind
  have hi : 0 < n⁻¹ := Rat.inv_pos.mpr hn
  have e1 : r / n = r * n⁻¹ := Rat.div_def r n
  have e2 : n * n⁻¹ = 1 := Rat.mul_inv_cancel n (by grind)
  have p1 := Rat.mul_nonneg h0 (Rat.le_of_lt hi)
  have p2 := Rat.mul_lt_mul_of_pos_right h1 hi
  unfold Nr
  rw [e, e1]
  rcases hb with ⟨b0, r0⟩ | b1
  · subst b0; subst r0; constructor <;> grind
  · subst b1; constructor <;> grind

theorem quo_fin (sg2 K Q L L2 R u : Rat) (hs : sg2 = 1 ∨ sg2 = -1) (hk : Nr K (2 * Q) 1) (hL : L = 2 * L2) (h0 : 0 < L2) (hR : R = Q * L) (hu : L2 ≤ R * u) : Nr (sg2 * K * L2) (sg2 * R) (R * u) := by
  obtain ⟨k1, k2⟩ := hk
  have p1 := Rat.mul_le_mul_of_nonneg_right k1 (Rat.le_of_lt h0)
  have p2 := Rat.mul_le_mul_of_nonneg_right k2 (Rat.le_of_lt h0)
  have e : R = 2 * Q * L2 := by rw [hR, hL]; grind
  unfold Nr
  rcases hs with hs | hs <;> subst hs <;> constructor <;> grind

/-- the quotient, almost: off by at most 2^-53 of it -/
theorem quo_val (s t : Bool) (m n : Nat) (i j : Int) (hn : n ≠ 0) : ∃ g k p, (Datum.number s m i).quotient 54 (.number t n j) = some (.number g k p) ∧
    ∃ q : Rat, q * dval (.number t n j) = dval (.number s m i) ∧ ∃ r : Rat, 0 ≤ r ∧ Bd q r ∧ (0 ≤ q → r ≤ q) ∧ (q ≤ 0 → r ≤ -q) ∧ Nr (dval (.number g k p)) q (r * (2:Rat) ^ (-53:Int)) := by
  unfold Datum.quotient
  simp only [if_neg hn]
  refine ⟨_, _, _, rfl, ?_⟩
  generalize hmore : 54 + n.log2 - m.log2 = more
  rw [Nat.shiftLeft_eq]
  have hnpos : 0 < n := Nat.pos_of_ne_zero hn
  have hdm := Nat.div_add_mod (m * 2 ^ more) n
  have hlt := Nat.mod_lt (m * 2 ^ more) hnpos
  have hbig : m = 0 ∨ n * 2 ^ 53 ≤ m * 2 ^ more := by
    by_cases h0 : m = 0
    · exact Or.inl h0
    · right
      have a1 : 2 ^ m.log2 ≤ m := Nat.log2_self_le h0
      have a2 : n < 2 ^ (n.log2 + 1) := Nat.lt_log2_self
      have a3 : 2 ^ m.log2 * 2 ^ more ≤ m * 2 ^ more := Nat.mul_le_mul_right _ a1
      have a4 : 2 ^ (n.log2 + 1) * 2 ^ 53 ≤ 2 ^ m.log2 * 2 ^ more := by
        rw [← Nat.pow_add, ← Nat.pow_add]; exact Nat.pow_le_pow_right (by decide) (by omega)
      have a5 : n * 2 ^ 53 ≤ 2 ^ (n.log2 + 1) * 2 ^ 53 := Nat.mul_le_mul_right _ (by omega)
      exact Nat.le_trans a5 (Nat.le_trans a4 a3)
  generalize hq : m * 2 ^ more / n = q at *
  generalize hr : m * 2 ^ more % n = r at *
  have hnQ : (0:Rat) < (n : Rat) := by exact_mod_cast hnpos
  have hD : (m : Rat) * (2:Rat) ^ (more : Int) = (n : Rat) * q + r := by rw [p2_nat]; exact_mod_cast hdm.symm
  have hk := frac_near q r n hnQ (by exact_mod_cast Nat.zero_le r) (by exact_mod_cast hlt) ((r != 0).toNat : Rat) (by
    by_cases h : r = 0
    · left; subst h; simp
    · right; have h2 : (r != 0) = true := by simp [h]
      rw [h2]; rfl)
  rw [← hD] at hk
  have hL : (2:Rat) ^ (i - j - (more : Int)) = 2 * (2:Rat) ^ (i - j - (more : Int) - 1) := by
    have e2 : (2:Rat) = (2:Rat) ^ (1:Int) := by rfl
    conv => rhs; lhs; rw [e2]
    rw [← p2_add]; congr 1; omega
  have hL2 := p2_pos (i - j - (more : Int) - 1)
  have hs2 : sg (s ^^ t) = 1 ∨ sg (s ^^ t) = -1 := by unfold sg; cases s <;> cases t <;> simp
  have hst : sg (s ^^ t) * sg t = sg s := by cases s <;> cases t <;> decide +kernel
  have hi : (0:Rat) < (n : Rat)⁻¹ := Rat.inv_pos.mpr hnQ
  have hin : (n : Rat) * (n : Rat)⁻¹ = 1 := Rat.mul_inv_cancel _ (by grind)
  have hdiv : ∀ a : Rat, a / n = a * (n : Rat)⁻¹ := fun a => Rat.div_def a n
  have hR0 : (0:Rat) ≤ (m : Rat) * (2:Rat) ^ (more : Int) / n := by
    rw [hdiv]
    refine Rat.mul_nonneg (Rat.mul_nonneg (by exact_mod_cast Nat.zero_le m) (Rat.le_of_lt (p2_pos _))) (Rat.le_of_lt hi)
  have hL3 := p2_pos (i - j - (more : Int))
  have hRR := Rat.mul_nonneg hR0 (Rat.le_of_lt hL3)
  refine ⟨sg (s ^^ t) * ((m : Rat) * (2:Rat) ^ (more : Int) / n * (2:Rat) ^ (i - j - (more : Int))), ?_, (m : Rat) * (2:Rat) ^ (more : Int) / n * (2:Rat) ^ (i - j - (more : Int)), hRR, ?_, ?_, ?_, ?_⟩
  · rw [dval_num, dval_num, hdiv]
    have e : (2:Rat) ^ (more : Int) * (2:Rat) ^ (i - j - (more : Int)) * (2:Rat) ^ j = (2:Rat) ^ i := by
      rw [← p2_add, ← p2_add]; congr 1; omega
    rw [← e, ← hst]
    generalize (2:Rat) ^ (more : Int) = a
    generalize (2:Rat) ^ (i - j - (more : Int)) = b
    generalize (2:Rat) ^ j = c
    generalize sg (s ^^ t) = d
    generalize sg t = e
    have : d * (m * a * (n : Rat)⁻¹ * b) * (e * n * c) = ((n : Rat) * (n : Rat)⁻¹) * (d * e * m * (a * b * c)) := by grind
    rw [this, hin]; grind
  · generalize (m : Rat) * (2:Rat) ^ (more : Int) / n * (2:Rat) ^ (i - j - (more : Int)) = R at *
    unfold Bd
    rcases hs2 with h | h <;> rw [h] <;> constructor <;> grind
  · generalize (m : Rat) * (2:Rat) ^ (more : Int) / n * (2:Rat) ^ (i - j - (more : Int)) = R at *
    rcases hs2 with h | h <;> rw [h] <;> intro h3 <;> grind
  · generalize (m : Rat) * (2:Rat) ^ (more : Int) / n * (2:Rat) ^ (i - j - (more : Int)) = R at *
    rcases hs2 with h | h <;> rw [h] <;> intro h3 <;> grind
  · rw [dval_num]
    have hK : ((2 * q + (r != 0).toNat : Nat) : Rat) = 2 * (q : Rat) + ((r != 0).toNat : Rat) := by
      rw [Rat.natCast_add, Rat.natCast_mul]; rfl
    rw [hK]
    rcases hbig with h0 | hbig
    · subst h0
      have hq0 : q = 0 := by rw [← hq]; simp
      have hr0 : r = 0 := by rw [← hr]; simp
      subst hq0 hr0
      have z : ((0:Nat) : Rat) = 0 := rfl
      have z2 : ((((0:Nat) != 0).toNat : Nat) : Rat) = 0 := rfl
      rw [hdiv, z, z2]
      generalize (2:Rat) ^ (more : Int) = a
      generalize (2:Rat) ^ (i - j - (more : Int)) = b
      generalize (2:Rat) ^ (i - j - (more : Int) - 1) = c
      generalize (2:Rat) ^ (-53:Int) = d
      unfold Nr; constructor <;> grind
    · refine quo_fin _ _ _ _ _ _ _ hs2 hk hL hL2 rfl ?_
      have b1 : (n : Rat) * (2:Rat) ^ (53:Int) ≤ (m : Rat) * (2:Rat) ^ (more : Int) := by
        rw [p2_nat, show (53:Int) = ((53:Nat):Int) from rfl, p2_nat]; exact_mod_cast hbig
      have b2 := Rat.mul_le_mul_of_nonneg_right b1 (Rat.le_of_lt hi)
      rw [← hdiv, ← hdiv] at b2
      have b3 : (n : Rat) * (2:Rat) ^ (53:Int) / n = (2:Rat) ^ (53:Int) := by
        rw [hdiv]; generalize (2:Rat) ^ (53:Int) = a
        have : (n : Rat) * a * (n : Rat)⁻¹ = a * ((n : Rat) * (n : Rat)⁻¹) := by grind
        rw [this, hin]; grind
      rw [b3] at b2
      have b4 := Rat.mul_le_mul_of_nonneg_right b2 (Rat.le_of_lt hL3)
      have b5 := Rat.mul_le_mul_of_nonneg_right b4 (Rat.le_of_lt (p2_pos (-53)))
      have e : (2:Rat) ^ (53:Int) * (2:Rat) ^ (i - j - (more : Int)) * (2:Rat) ^ (-53:Int) = (2:Rat) ^ (i - j - (more : Int)) := by
        rw [← p2_add, ← p2_add]; congr 1; omega
      rw [e] at b5
      refine Rat.le_trans ?_ b5
      rw [hL]; generalize (2:Rat) ^ (i - j - (more : Int) - 1) = a at *; grind


/-- '/' -/
theorem div_near {x y : Nat} (hx : fin x) (hy : fin y) (h0 : val y ≠ 0) {B : Rat} (hb : Bd (val x / val y) B) (hB : B ≤ (2:Rat) ^ (999:Int)) :
    ∃ z, double.div x y = some z ∧ fin z ∧ Nr (val z) (val x / val y) (3 * B * (2:Rat) ^ (-53:Int) + (2:Rat) ^ (-1075:Int)) := by
  obtain ⟨_, s, m, i, hx⟩ := hx
  obtain ⟨_, t, n, j, hy⟩ := hy
  unfold val at hb h0 ⊢
  unfold Format.div
  rw [hx, hy] at hb ⊢
  rw [hy] at h0
  have hn : n ≠ 0 := by
    intro h; subst h; apply h0; rw [dval_num]
    have z : ((0:Nat) : Rat) = 0 := rfl
    rw [z]; generalize (2:Rat) ^ j = a; grind
  obtain ⟨g, k, p, h1, q, h2, r, r0, r1, r2, r3, h3⟩ := quo_val s t m n i j hn
  have e54 : double.fractionBits + 2 = 54 := rfl
  rw [e54, h1]
  refine ⟨_, rfl, ?_⟩
  have hq : dval (.number s m i) / dval (.number t n j) = q := by
    rw [← h2, Rat.div_def, Rat.mul_assoc, Rat.mul_inv_cancel _ h0]; grind
  rw [hq] at hb ⊢
  have hrB : r ≤ B := by
    obtain ⟨b1, b2⟩ := hb
    by_cases hc : 0 ≤ q
    · have := r2 hc; grind
    · have := r3 (by grind); grind
  have p53 := p2_pos (-53)
  have u53 : (2:Rat) ^ (-53:Int) ≤ 1 := by decide +kernel
  have e99 : (2:Rat) ^ (1000:Int) = 2 * (2:Rat) ^ (999:Int) := by decide +kernel
  have t1 := Rat.mul_le_mul_of_nonneg_right hrB (Rat.le_of_lt p53)
  have t2 := Rat.mul_le_mul_of_nonneg_left u53 (Rat.le_trans r0 hrB)
  generalize dval (.number s m i) = dx at *
  generalize dval (.number t n j) = dy at *
  generalize hd : dval (.number g k p) = d at *
  have hbd : Bd d (2 * B) := by
    unfold Bd Nr at *
    generalize (2:Rat) ^ (-53:Int) = u at *
    obtain ⟨b1, b2⟩ := hb
    obtain ⟨c1, c2⟩ := h3
    constructor <;> grind
  have := write_near g k p (2 * B) (by rw [hd]; exact hbd) (by rw [e99]; generalize (2:Rat) ^ (999:Int) = a at *; grind)
  obtain ⟨w1, w2⟩ := this
  refine ⟨w1, ?_⟩
  rw [hd] at w2
  show Nr (val (double.write (.number g k p))) _ _
  generalize val (double.write (.number g k p)) = v at *
  have hg : Nr v q (3 * B * (2:Rat) ^ (-53:Int) + (2:Rat) ^ (-1075:Int)) := by
    unfold Nr at *
    generalize (2:Rat) ^ (-53:Int) = u at *
    generalize (2:Rat) ^ (-1075:Int) = u' at *
    obtain ⟨c1, c2⟩ := h3
    obtain ⟨d1, d2⟩ := w2
    constructor <;> grind
  exact hg

/-- how two finite numbers stand to each other -/
theorem order_val {x y : Nat} (hx : fin x) (hy : fin y) :
    (val x < val y → double.order x y = some .lt) ∧ (val x = val y → double.order x y = some .eq) ∧ (val y < val x → double.order x y = some .gt) := by
  obtain ⟨_, s, m, i, hx⟩ := hx
  obtain ⟨_, t, n, j, hy⟩ := hy
  unfold val Format.order
  rw [hx, hy]
  generalize hb : min i j = base
  have hA : ((signed s m (i - base).toNat : Int) : Rat) * (2:Rat) ^ base = dval (.number s m i) := by
    rw [signed_val, dval_num, Rat.mul_assoc, ← p2_add]; congr 2; omega
  have hB : ((signed t n (j - base).toNat : Int) : Rat) * (2:Rat) ^ base = dval (.number t n j) := by
    rw [signed_val, dval_num, Rat.mul_assoc, ← p2_add]; congr 2; omega
  have hp := p2_pos base
  rw [← hA, ← hB]
  unfold Datum.order
  simp only [hb]
  generalize signed s m (i - base).toNat = a
  generalize signed t n (j - base).toNat = b
  generalize (2:Rat) ^ base = c at *
  refine ⟨fun h => ?_, fun h => ?_, fun h => ?_⟩
  · have := Rat.lt_of_mul_lt_mul_right h (Rat.le_of_lt hp)
    have : a < b := by exact_mod_cast this
    rw [Int.compare_eq_lt.mpr this]
  · have h1 : a = b := by
      have h2 : (a : Rat) ≤ b := Rat.le_of_mul_le_mul_right (by grind) hp
      have h3 : (b : Rat) ≤ a := Rat.le_of_mul_le_mul_right (by grind) hp
      have h4 : a ≤ b := by exact_mod_cast h2
      have h5 : b ≤ a := by exact_mod_cast h3
      omega
    rw [h1]; simp
  · have := Rat.lt_of_mul_lt_mul_right h (Rat.le_of_lt hp)
    have : b < a := by exact_mod_cast this
    rw [Int.compare_eq_gt.mpr this]


/-- the sign struck -/
theorem abs_val {x : Nat} (hx : fin x) : fin (x % 9223372036854775808) ∧ (0 ≤ val x → val (x % 9223372036854775808) = val x) ∧ (val x ≤ 0 → val (x % 9223372036854775808) = - val x) := by
  obtain ⟨_, s, m, i, hx⟩ := hx
  have hs : double.signWeight = 9223372036854775808 := by decide
  have key : double.read (x % 9223372036854775808) = .number false m i := by
    revert hx
    unfold Format.read
    rw [hs]
    have a1 : x % 9223372036854775808 / 9223372036854775808 % 2 = 0 := by omega
    have a2 : x % 9223372036854775808 % 9223372036854775808 = x % 9223372036854775808 := by omega
    rw [a1, a2]
    dsimp only
    split
    · intro h; injection h with h1 h2 h3; subst h2 h3; rfl
    · split
      · intro h; injection h with h1 h2 h3; subst h2 h3; rfl
      · split <;> intro h <;> cases h
  have hp := p2_pos i
  have hm : (0:Rat) ≤ (m : Rat) := by exact_mod_cast Nat.zero_le m
  have hmp := Rat.mul_nonneg hm (Rat.le_of_lt hp)
  refine ⟨⟨by omega, _, _, _, key⟩, ?_⟩
  unfold val
  rw [key, hx, dval_num, dval_num, sg_f]
  unfold sg
  generalize (2:Rat) ^ i = a at *
  cases s
  · simp only [Bool.false_eq_true, if_false]; exact ⟨fun h => by grind, fun h => by grind⟩
  · simp only [if_true]; exact ⟨fun h => by grind, fun h => by grind⟩

theorem cut_zero (s : Bool) (n drop : Nat) : Toward.zero.cut s n drop * 2 ^ drop ≤ n ∧ n < (Toward.zero.cut s n drop + 1) * 2 ^ drop := by
  unfold Toward.cut
  simp only [Bool.toNat_false, Nat.add_zero, Nat.one_shiftLeft]
  by_cases hd : drop ≤ n.log2 + 2
  · have hm : min drop (n.log2 + 2) = drop := by omega
    rw [hm]
    have hg : 0 < 2 ^ drop := Nat.two_pow_pos drop
    generalize 2 ^ drop = g at *
    have hdm := Nat.div_add_mod n g
    have hlt := Nat.mod_lt n hg
    generalize n / g = q at *
    generalize n % g = r at *
    constructor <;> grind
  · have hm : min drop (n.log2 + 2) = n.log2 + 2 := by omega
    rw [hm]
    have hlt : n < 2 ^ (n.log2 + 1) := Nat.lt_log2_self
    have h2 : 2 ^ (n.log2 + 1) ≤ 2 ^ (n.log2 + 2) := Nat.pow_le_pow_right (by decide) (by omega)
    have h3 : 2 ^ (n.log2 + 2) ≤ 2 ^ drop := Nat.pow_le_pow_right (by decide) (by omega)
    rw [Nat.div_eq_of_lt (by omega)]
    generalize 2 ^ drop = g at *
    omega

/-- cut towards zero -/
theorem toInt_val {x : Nat} (hx : fin x) : ∃ n : Int, (double.read x).toInt .zero = some n ∧
    (0 ≤ val x → 0 ≤ n ∧ (n : Rat) ≤ val x ∧ val x < n + 1) ∧ (val x ≤ 0 → n ≤ 0 ∧ (n : Rat) - 1 < val x ∧ val x ≤ n) := by
  obtain ⟨_, s, m, i, hx⟩ := hx
  unfold val
  rw [hx]
  refine ⟨_, rfl, ?_⟩
  obtain ⟨k1, k2⟩ := cut_zero s (m <<< i.toNat) (-i).toNat
  generalize hk : Toward.zero.cut s (m <<< i.toNat) (-i).toNat = k at *
  rw [Nat.shiftLeft_eq] at k1 k2
  have hq : (m : Rat) * (2:Rat) ^ (i.toNat : Int) = (m : Rat) * (2:Rat) ^ i * (2:Rat) ^ ((-i).toNat : Int) := by
    rw [Rat.mul_assoc, ← p2_add]; congr 2; omega
  have q1 : (k : Rat) * (2:Rat) ^ ((-i).toNat : Int) ≤ (m : Rat) * (2:Rat) ^ (i.toNat : Int) := by
    rw [p2_nat, p2_nat]; exact_mod_cast k1
  have q2 : (m : Rat) * (2:Rat) ^ (i.toNat : Int) < ((k : Rat) + 1) * (2:Rat) ^ ((-i).toNat : Int) := by
    rw [p2_nat, p2_nat]; exact_mod_cast k2
  rw [hq] at q1 q2
  have hp := p2_pos ((-i).toNat : Int)
  have r1 := Rat.le_of_mul_le_mul_right q1 hp
  have r2 := Rat.lt_of_mul_lt_mul_right q2 (Rat.le_of_lt hp)
  have hk0 : (0:Rat) ≤ (k : Rat) := by exact_mod_cast Nat.zero_le k
  rw [dval_num, Rat.mul_assoc]
  generalize (m : Rat) * (2:Rat) ^ i = v at *
  have hsg : ((signed s k 0 : Int) : Rat) = sg s * k := by rw [signed_val]; simp
  have hk00 : ((k : Rat) = 0) → k = 0 := by intro h; exact_mod_cast h
  cases s
  · rw [sg_f] at *
    have e1 : (signed false k 0 : Int) = k := by simp [signed]
    rw [e1] at hsg ⊢
    rw [hsg]
    refine ⟨fun h => ⟨by omega, by grind, by grind⟩, fun h => ?_⟩
    have : (k : Rat) = 0 := by grind
    have := hk00 this
    subst this
    refine ⟨by omega, by grind, by grind⟩
  · rw [sg_t] at *
    have e1 : (signed true k 0 : Int) = -k := by simp [signed]
    rw [e1] at hsg ⊢
    rw [hsg]
    refine ⟨fun h => ?_, fun h => ⟨by omega, by grind, by grind⟩⟩
    have : (k : Rat) = 0 := by grind
    have := hk00 this
    subst this
    refine ⟨by omega, by grind, by grind⟩

/-- a whole number as a float -/
theorem ofInt_val (n : Int) (hn : n.natAbs < 9007199254740992) : fin (double.write (.number (n < 0) n.natAbs 0)) ∧ val (double.write (.number (n < 0) n.natAbs 0)) = n := by
  have hv : dval (.number (n < 0) n.natAbs 0) = n := by
    rw [dval_num]
    have h0 : (2:Rat) ^ (0:Int) = 1 := rfl
    rw [h0]
    by_cases hneg : n < 0
    · have e : ((n.natAbs : Int) : Rat) = ((-n : Int) : Rat) := by congr 1; omega
      rw [Rat.intCast_natCast, Rat.intCast_neg] at e
      rw [e]; simp [hneg, sg]; grind
    · have e : ((n.natAbs : Int) : Rat) = ((n : Int) : Rat) := by congr 1; omega
      rw [Rat.intCast_natCast] at e
      rw [e]; simp [hneg, sg]
  have h0 : (2:Rat) ^ (0:Int) = 1 := rfl
  have h := write_exact (n < 0) n.natAbs 0 n 0 hn (by omega) (by omega) (by rw [hv, h0]; grind)
  rw [h0, Rat.mul_one] at h
  exact h

theorem add_exact {x y : Nat} (hx : fin x) (hy : fin y) (N e : Int) (h1 : N.natAbs < 9007199254740992) (h2 : -1074 ≤ e) (h3 : e ≤ 900) (h : val x + val y = N * (2:Rat) ^ e) :
    ∃ z, double.add x y = some z ∧ fin z ∧ val z = val x + val y := by
  obtain ⟨_, s, m, i, hx⟩ := hx
  obtain ⟨_, t, n, j, hy⟩ := hy
  rw [h]
  unfold val at h ⊢
  unfold Format.add
  rw [hx, hy] at h ⊢
  obtain ⟨g, k, p, g1, g2⟩ := sum_val s t m n i j
  rw [g1]
  refine ⟨_, rfl, ?_⟩
  rw [← g2] at h
  exact write_exact g k p N e h1 h2 h3 h

theorem mul_exact {x y : Nat} (hx : fin x) (hy : fin y) (N e : Int) (h1 : N.natAbs < 9007199254740992) (h2 : -1074 ≤ e) (h3 : e ≤ 900) (h : val x * val y = N * (2:Rat) ^ e) :
    ∃ z, double.mul x y = some z ∧ fin z ∧ val z = val x * val y := by
  obtain ⟨_, s, m, i, hx⟩ := hx
  obtain ⟨_, t, n, j, hy⟩ := hy
  rw [h]
  unfold val at h ⊢
  unfold Format.mul
  rw [hx, hy] at h ⊢
  obtain ⟨g, k, p, g1, g2⟩ := product_val s t m n i j
  rw [g1]
  refine ⟨_, rfl, ?_⟩
  rw [← g2] at h
  exact write_exact g k p N e h1 h2 h3 h

theorem sub_exact {x y : Nat} (hx : fin x) (hy : fin y) (N e : Int) (h1 : N.natAbs < 9007199254740992) (h2 : -1074 ≤ e) (h3 : e ≤ 900) (h : val x - val y = N * (2:Rat) ^ e) :
    ∃ z, double.sub x y = some z ∧ fin z ∧ val z = val x - val y := by
  obtain ⟨_, s, m, i, hx⟩ := hx
  obtain ⟨_, t, n, j, hy⟩ := hy
  rw [h]
  unfold val at h ⊢
  unfold Format.sub
  rw [hx, hy] at h ⊢
  obtain ⟨g, k, p, g1, g2⟩ := sum_val s (!t) m n i j
  have g3 := opp_val t n j
  have g4 : (Datum.number t n j).opposite = .number (!t) n j := rfl
  rw [g4] at g3 ⊢
  rw [g1]
  refine ⟨_, rfl, ?_⟩
  have h5 : dval (.number s m i) - dval (.number t n j) = dval (.number g k p) := by rw [g2, g3]; grind
  rw [h5] at h
  exact write_exact g k p N e h1 h2 h3 h

/-- a quotient that the format has -/
theorem div_exact {x y : Nat} (hx : fin x) (hy : fin y) (h0 : val y ≠ 0) (N e : Int) (h1 : N.natAbs < 9007199254740992) (h2 : -1074 ≤ e) (h3 : e ≤ 900) (h : val x = N * (2:Rat) ^ e * val y) :
    ∃ z, double.div x y = some z ∧ fin z ∧ val z = N * (2:Rat) ^ e := by
  obtain ⟨_, s, m, i, hx⟩ := hx
  obtain ⟨_, t, n, j, hy⟩ := hy
  unfold val at h h0 ⊢
  unfold Format.div
  rw [hx, hy] at h ⊢
  rw [hy] at h0
  have hn : n ≠ 0 := by
    intro h; subst h; apply h0; rw [dval_num]
    have z : ((0:Nat) : Rat) = 0 := rfl
    rw [z]; generalize (2:Rat) ^ j = a; grind
  have e54 : double.fractionBits + 2 = 54 := rfl
  rw [e54]
  unfold Datum.quotient
  simp only [if_neg hn]
  generalize hmore : 54 + n.log2 - m.log2 = more
  rw [Nat.shiftLeft_eq]
  have hnpos : 0 < n := Nat.pos_of_ne_zero hn
  have hnQ : (0:Rat) < (n : Rat) := by exact_mod_cast hnpos
  -- the signs and the magnitudes
  have hst : sg (s ^^ t) * sg t = sg s := by cases s <;> cases t <;> decide +kernel
  have hS : ∀ b, sg b = 1 ∨ sg b = -1 := by intro b; unfold sg; cases b <;> simp
  have hN : (N : Rat) = N.natAbs ∨ (N : Rat) = -(N.natAbs : Rat) := by
    rcases Int.natAbs_eq N with hN | hN
    · left; conv => lhs; rw [hN]
      rw [Rat.intCast_natCast]
    · right; conv => lhs; rw [hN]
      rw [Rat.intCast_neg, Rat.intCast_natCast]
  rw [dval_num, dval_num] at h
  have hm0 : (0:Rat) ≤ (m : Rat) := by exact_mod_cast Nat.zero_le m
  have hN0 : (0:Rat) ≤ (N.natAbs : Rat) := by exact_mod_cast Nat.zero_le _
  have pi := p2_pos i
  have pj := p2_pos j
  have pe := p2_pos e
  have habs : (m : Rat) * (2:Rat) ^ i = (N.natAbs : Rat) * (2:Rat) ^ e * ((n : Rat) * (2:Rat) ^ j) := by
    have p1 := Rat.mul_nonneg hm0 (Rat.le_of_lt pi)
    have p2 := Rat.mul_nonneg (Rat.mul_nonneg hN0 (Rat.le_of_lt pe)) (Rat.mul_nonneg (Rat.le_of_lt hnQ) (Rat.le_of_lt pj))
    have h' : sg s * ((m : Rat) * (2:Rat) ^ i) = N * (2:Rat) ^ e * sg t * ((n : Rat) * (2:Rat) ^ j) := by
      have e1 : sg s * ((m : Rat) * (2:Rat) ^ i) = sg s * m * (2:Rat) ^ i := by grind
      rw [e1, h]; grind
    generalize (m : Rat) * (2:Rat) ^ i = X at *
    generalize (n : Rat) * (2:Rat) ^ j = Y at *
    generalize (2:Rat) ^ e = Z at *
    rcases hS s with hs | hs <;> rcases hS t with ht | ht <;> rcases hN with hN | hN <;> rw [hs, ht, hN] at h' <;> grind
  by_cases hm : m = 0
  · subst hm
    have hNz : N = 0 := by
      have z : ((0:Nat) : Rat) = 0 := rfl
      rw [z] at habs
      have : (N.natAbs : Rat) * ((2:Rat) ^ e * ((n : Rat) * (2:Rat) ^ j)) = 0 := by grind
      rcases Rat.mul_eq_zero.1 this with h4 | h4
      · have : N.natAbs = 0 := by exact_mod_cast h4
        omega
      · have := Rat.mul_pos pe (Rat.mul_pos hnQ pj)
        grind
    subst hNz
    refine ⟨_, rfl, ?_⟩
    refine write_exact _ _ _ 0 e h1 h2 h3 ?_
    rw [dval_num]
    have z : ((2 * (0 * 2 ^ more / n) + (0 * 2 ^ more % n != 0).toNat : Nat) : Rat) = 0 := by simp
    rw [z]; generalize (2:Rat) ^ (i - j - (more : Int) - 1) = q
    simp
  · -- the dividend is a multiple of the divisor
    have a1 : 2 ^ m.log2 ≤ m := Nat.log2_self_le hm
    have a2 : n < 2 ^ (n.log2 + 1) := Nat.lt_log2_self
    have hbig : n * 2 ^ 53 ≤ m * 2 ^ more := by
      have a3 : 2 ^ m.log2 * 2 ^ more ≤ m * 2 ^ more := Nat.mul_le_mul_right _ a1
      have a4 : 2 ^ (n.log2 + 1) * 2 ^ 53 ≤ 2 ^ m.log2 * 2 ^ more := by
        rw [← Nat.pow_add, ← Nat.pow_add]; exact Nat.pow_le_pow_right (by decide) (by omega)
      have a5 : n * 2 ^ 53 ≤ 2 ^ (n.log2 + 1) * 2 ^ 53 := Nat.mul_le_mul_right _ (by omega)
      exact Nat.le_trans a5 (Nat.le_trans a4 a3)
    have hT : (m : Rat) * (2:Rat) ^ (more : Int) = (n : Rat) * ((N.natAbs : Rat) * (2:Rat) ^ (e + j - i + more)) := by
      have k1 : (2:Rat) ^ (more : Int) = (2:Rat) ^ i * (2:Rat) ^ ((more : Int) - i) := by rw [← p2_add]; congr 1; omega
      have k2 : (2:Rat) ^ (e + j - i + more) = (2:Rat) ^ e * (2:Rat) ^ j * (2:Rat) ^ ((more : Int) - i) := by rw [← p2_add, ← p2_add]; congr 1; omega
      rw [k1, k2]
      generalize (2:Rat) ^ ((more : Int) - i) = q
      have : (m : Rat) * ((2:Rat) ^ i * q) = (m : Rat) * (2:Rat) ^ i * q := by grind
      rw [this, habs]; grind
    have hpos : 0 ≤ e + j - i + (more : Int) := by
      apply Classical.byContradiction
      intro hc
      have b1 : (n : Rat) * (2:Rat) ^ (53:Int) ≤ (n : Rat) * ((N.natAbs : Rat) * (2:Rat) ^ (e + j - i + more)) := by
        rw [← hT, p2_nat, show (53:Int) = ((53:Nat):Int) from rfl, p2_nat]; exact_mod_cast hbig
      have b2 := Rat.le_of_mul_le_mul_left b1 hnQ
      have b3 : (2:Rat) ^ (e + j - i + more) ≤ (2:Rat) ^ (0:Int) := p2_mono (by omega)
      have b4 := Rat.mul_le_mul_of_nonneg_left b3 hN0
      have b5 : (N.natAbs : Rat) < (2:Rat) ^ (53:Int) := by
        rw [show (2:Rat) ^ (53:Int) = ((9007199254740992 : Nat) : Rat) from rfl]; exact_mod_cast h1
      have b6 : (2:Rat) ^ (0:Int) = 1 := rfl
      grind
    obtain ⟨k, hk⟩ : ∃ k : Nat, e + j - i + (more : Int) = k := ⟨(e + j - i + (more : Int)).toNat, by omega⟩
    rw [hk, p2_nat, p2_nat] at hT
    have hTn : m * 2 ^ more = n * (N.natAbs * 2 ^ k) := by exact_mod_cast hT
    rw [hTn]
    have d1 : n * (N.natAbs * 2 ^ k) / n = N.natAbs * 2 ^ k := Nat.mul_div_cancel_left _ hnpos
    have d2 : n * (N.natAbs * 2 ^ k) % n = 0 := Nat.mul_mod_right _ _
    rw [d1, d2]
    refine ⟨_, rfl, ?_⟩
    refine write_exact _ _ _ N e h1 h2 h3 ?_
    rw [dval_num]
    have z : ((2 * (N.natAbs * 2 ^ k) + ((0:Nat) != 0).toNat : Nat) : Rat) = 2 * ((N.natAbs : Rat) * (2:Rat) ^ (k : Int)) := by
      have : ((0:Nat) != 0).toNat = 0 := rfl
      rw [this, Nat.add_zero, Rat.natCast_mul, Rat.natCast_mul, p2_nat]; rfl
    rw [z]
    have k3 : 2 * (2:Rat) ^ (k : Int) * (2:Rat) ^ (i - j - (more : Int) - 1) = (2:Rat) ^ e := by
      have e2 : (2:Rat) = (2:Rat) ^ (1:Int) := by rfl
      conv => lhs; lhs; lhs; rw [e2]
      rw [← p2_add, ← p2_add]; congr 1; omega
    have k4 : sg (s ^^ t) * (N.natAbs : Rat) = N := by
      have pY := Rat.mul_pos pe (Rat.mul_pos hnQ pj)
      have hNpos : 0 < (N.natAbs : Rat) := by
        have : N.natAbs ≠ 0 := by
          intro h0
          rw [h0] at hTn
          have : 0 < m * 2 ^ more := Nat.mul_pos (Nat.pos_of_ne_zero hm) (Nat.two_pow_pos _)
          simp at hTn
          omega
        exact_mod_cast Nat.pos_of_ne_zero this
      have h' : sg s * ((N.natAbs : Rat) * ((2:Rat) ^ e * ((n : Rat) * (2:Rat) ^ j))) = N * sg t * ((2:Rat) ^ e * ((n : Rat) * (2:Rat) ^ j)) := by
        have e1 : sg s * ((N.natAbs : Rat) * ((2:Rat) ^ e * ((n : Rat) * (2:Rat) ^ j))) = sg s * ((m : Rat) * (2:Rat) ^ i) := by rw [habs]; grind
        have e2 : sg s * ((m : Rat) * (2:Rat) ^ i) = sg s * m * (2:Rat) ^ i := by grind
        rw [e1, e2, h]; grind
      have h'' : (sg s * (N.natAbs : Rat)) * ((2:Rat) ^ e * ((n : Rat) * (2:Rat) ^ j)) = (N * sg t) * ((2:Rat) ^ e * ((n : Rat) * (2:Rat) ^ j)) := by grind
      have h3 : sg s * (N.natAbs : Rat) = N * sg t := by
        generalize (2:Rat) ^ e * ((n : Rat) * (2:Rat) ^ j) = Y at *
        have h4 : (sg s * (N.natAbs : Rat) - N * sg t) * Y = 0 := by grind
        rcases Rat.mul_eq_zero.1 h4 with h5 | h5
        · grind
        · grind
      rw [← hst] at h3
      rcases hS t with ht | ht <;> rw [ht] at h3 <;> grind
    rw [← k4, ← k3]
    generalize (2:Rat) ^ (k : Int) = q1
    generalize (2:Rat) ^ (i - j - (more : Int) - 1) = q2
    grind

end Fl
