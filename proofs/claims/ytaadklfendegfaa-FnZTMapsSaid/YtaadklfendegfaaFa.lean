/- One round of an elimination in floats, as a whole: it exists, and what it is near. -/
import Derived.Test.YtaadklfendegfaaEe
namespace Go.Proofs.Ytaadklfendegfaa
open Go Fl

def ab (x : Rat) : Rat := if 0 ≤ x then x else -x
theorem ab_nonneg (x : Rat) : 0 ≤ ab x := by unfold ab; split <;> grind
theorem ab_bd (x : Rat) : Bd x (ab x) := by unfold ab Bd; split <;> constructor <;> grind
theorem ab_le {x X : Rat} (h : Bd x X) : ab x ≤ X := by unfold ab Bd at *; split <;> grind
theorem ab_mul (x y : Rat) : ab x * ab y = ab (x * y) := by
  have key : ∀ a b : Rat, 0 ≤ a → 0 ≤ b → 0 ≤ a * b := fun a b ha hb => Rat.mul_nonneg ha hb
  by_cases hx : 0 ≤ x <;> by_cases hy : 0 ≤ y
  · have := key x y hx hy; unfold ab; rw [if_pos hx, if_pos hy, if_pos this]
  · have h := key x (-y) hx (by grind)
    by_cases h0 : x * y = 0
    · unfold ab; rw [if_pos hx, if_neg hy, if_pos (by grind)]; grind
    · unfold ab; rw [if_pos hx, if_neg hy, if_neg (by grind)]; grind
  · have h := key (-x) y (by grind) hy
    by_cases h0 : x * y = 0
    · unfold ab; rw [if_neg hx, if_pos hy, if_pos (by grind)]; grind
    · unfold ab; rw [if_neg hx, if_pos hy, if_neg (by grind)]; grind
  · have h := key (-x) (-y) (by grind) (by grind)
    unfold ab; rw [if_neg hx, if_neg hy, if_pos (by grind)]; grind

/-- what is known of a row behind a round -/
structure StepRow (A P R : Nat → Nat) (k : Nat) (b : Rat) : Prop where
  fin : ∀ c, c < 9 → Fl.fin (R c)
  old : ∀ c, c < k → R c = A c
  near : ∀ c, k ≤ c → c < 9 → ∀ X Y, Bd (b * val (P c)) X → Bd (val (A c)) Y → Nr (val (R c)) (val (A c) - b * val (P c)) (u53 * (2001/1000 * X + Y) + 3 * tny)
  zero : ∀ c, k ≤ c → c < 9 → b * val (P c) = 0 → val (A c) = 0 → val (R c) = 0
  fall : ∀ X Y, Bd (val (A k)) X → Bd (val (P k)) Y → Bd (val (A k) - b * val (P k)) (3 * u53 * X + tny * Y)
  none : val (A k) = 0 → b = 0

theorem row_ex {A P : Nat → Nat} {k : Nat} (hk : k < 8) (hA : ∀ c, c < 9 → Fl.fin (A c)) (hP : ∀ c, c < 9 → Fl.fin (P c)) {K : Rat} (hp0 : 0 < K) (hK : K ≤ 10^30) (h1 : 1/10000 ≤ val (P k) ∨ val (P k) ≤ -(1/10000))
    (bA : ∀ c, k ≤ c → c < 9 → Bd (val (A c)) K) (bP : ∀ c, k ≤ c → c < 9 → Bd (val (P c)) K) :
    ∃ by' R, fdiv (A k) (P k) = some by' ∧ (∀ j, j < k → R j = A j) ∧ (∀ j, k ≤ j → j < 9 → ∃ t, fmul by' (P j) = some t ∧ fsub (A j) t = some (R j)) ∧ StepRow A P R k (val by') ∧ Nr (val by') (val (A k) / val (P k)) (3 * ab (val (A k) / val (P k)) * u53 + tny) := by
  have hne : val (P k) ≠ 0 := by rcases h1 with h | h <;> grind
  have hq : Bd (val (A k) / val (P k)) (10000 * K) := by
    have hb := bA k (Nat.le_refl _) (by omega)
    have hm : val (A k) / val (P k) * val (P k) = val (A k) := by
      rw [Rat.div_def, Rat.mul_assoc, Rat.inv_mul_cancel _ hne, Rat.mul_one]
    generalize val (A k) / val (P k) = q at *
    generalize val (P k) = p at *
    generalize val (A k) = a at *
    subst hm
    unfold Bd at *
    rcases h1 with h | h
    · constructor
      · apply Classical.byContradiction; intro hn
        have := Rat.mul_nonneg (show 0 ≤ -q by grind) (show 0 ≤ p - 1/10000 by grind); grind
      · apply Classical.byContradiction; intro hn
        have := Rat.mul_nonneg (show 0 ≤ q by grind) (show 0 ≤ p - 1/10000 by grind); grind
    · constructor
      · apply Classical.byContradiction; intro hn
        have := Rat.mul_nonneg (show 0 ≤ -q by grind) (show 0 ≤ -p - 1/10000 by grind); grind
      · apply Classical.byContradiction; intro hn
        have := Rat.mul_nonneg (show 0 ≤ q by grind) (show 0 ≤ -p - 1/10000 by grind); grind
  have h30 : (10:Rat)^30 ≤ 10^100 := by decide +kernel
  have h34 : 10000 * K ≤ 10^100 := by
    have e : 10000 * (10:Rat)^30 ≤ 10^100 := by decide +kernel
    grind
  obtain ⟨by', d1, d2, d3⟩ := div_step (hA k (by omega)) (hP k (by omega)) hne (ab_bd _) (Rat.le_trans (ab_le hq) h34)
  have hbq : Bd (val by') (20000 * K + 1) := by
    have h := d3.bd hq
    have h2 := ab_le hq
    have h3 := ab_nonneg (val (A k) / val (P k))
    refine h.mono ?_
    have e1 : 3 * ab (val (A k) / val (P k)) * u53 ≤ 10000 * K := by
      have := Rat.mul_le_mul_of_nonneg_left (show 3 * u53 ≤ 1 by decide +kernel) h3
      grind
    have e2 : tny ≤ 1 := by decide +kernel
    grind
  have cell : ∀ c, ∃ t r, k ≤ c → c < 9 → fmul by' (P c) = some t ∧ fsub (A c) t = some r ∧ Fl.fin r ∧ Nr (val r) (val (A c) - val by' * val (P c)) (u53 * (2001/1000 * (ab (val by') * ab (val (P c))) + ab (val (A c))) + 3 * tny) := by
    intro c
    by_cases hc : k ≤ c ∧ c < 9
    · have hb1 := ab_le hbq
      have hb2 := ab_le (bP c hc.1 hc.2)
      have hb3 := ab_le (bA c hc.1 hc.2)
      have hprod : ab (val by') * ab (val (P c)) ≤ 10^100 := by
        have m1 := Rat.mul_le_mul_of_nonneg_right hb1 (ab_nonneg (val (P c)))
        have m2 := Rat.mul_le_mul_of_nonneg_left hb2 (show 0 ≤ 20000 * K + 1 by grind)
        have m3 := Rat.mul_le_mul_of_nonneg_left hK (show 0 ≤ 20000 * K + 1 by grind)
        have m4 := Rat.mul_le_mul_of_nonneg_right (show 20000 * K + 1 ≤ 20000 * 10^30 + 1 by grind) (show (0:Rat) ≤ 10^30 by decide +kernel)
        have e : (20000 * (10:Rat)^30 + 1) * 10^30 ≤ 10^100 := by decide +kernel
        exact Rat.le_trans m1 (Rat.le_trans m2 (Rat.le_trans m3 (Rat.le_trans m4 e)))
      obtain ⟨t, r, c1, c2, c3, c4⟩ := cell_step d2 (hP c hc.2) (hA c hc.2) (ab_bd (val by')) (ab_bd (val (P c))) (ab_bd (val (A c))) hprod (Rat.le_trans hb3 (Rat.le_trans hK h30))
      exact ⟨t, r, fun _ _ => ⟨c1, c2, c3, c4⟩⟩
    · exact ⟨0, 0, fun h1 h2 => absurd ⟨h1, h2⟩ hc⟩
  obtain ⟨t, ht⟩ := Classical.axiomOfChoice cell
  obtain ⟨r, hr⟩ := Classical.axiomOfChoice ht
  refine ⟨by', fun c => if c < k then A c else r c, d1, fun j hj => if_pos hj, ?_, ?_, d3⟩
  · intro j h1 h2
    obtain ⟨c1, c2, _⟩ := hr j h1 h2
    exact ⟨t j, c1, by dsimp only; rw [if_neg (by omega)]; exact c2⟩
  · refine ⟨?_, fun c hc => if_pos hc, ?_, ?_, ?_, ?_⟩
    · intro c hc
      by_cases h : c < k
      · rw [if_pos h]; exact hA c hc
      · rw [if_neg h]; exact (hr c (by omega) hc).2.2.1
    · intro c h1 h2 X Y hX hY
      rw [if_neg (by omega)]
      have h := (hr c h1 h2).2.2.2
      rw [ab_mul] at h
      have e1 := ab_le hX
      have e2 := ab_le hY
      have hle : u53 * (2001/1000 * ab (val by' * val (P c)) + ab (val (A c))) ≤ u53 * (2001/1000 * X + Y) := Rat.mul_le_mul_of_nonneg_left (by grind) (Rat.le_of_lt u53_pos)
      unfold Nr at *
      constructor <;> grind
    · intro c h1 h2 h3 h4
      rw [if_neg (by omega)]
      obtain ⟨c1, c2, _⟩ := hr c h1 h2
      obtain ⟨t', r', z1, z2, z3, z4⟩ := zero_cell d2 (hP c h2) (hA c h2) h3 h4
      rw [c1] at z1; obtain rfl := Option.some.inj z1
      rw [c2] at z2; obtain rfl := Option.some.inj z2
      exact z4
    · intro X Y hX hY
      have hm : val (A k) / val (P k) * val (P k) = val (A k) := by
        rw [Rat.div_def, Rat.mul_assoc, Rat.inv_mul_cancel _ hne, Rat.mul_one]
      have h := ab_nonneg (val (A k) / val (P k))
      have hd : Bd (val by' - val (A k) / val (P k)) (3 * ab (val (A k) / val (P k)) * u53 + tny) := by unfold Nr Bd at *; constructor <;> grind
      have hm2 := Bd.mul hd (ab_bd (val (P k)))
      have e : (3 * ab (val (A k) / val (P k)) * u53 + tny) * ab (val (P k)) = 3 * u53 * ab (val (A k)) + tny * ab (val (P k)) := by
        have : ab (val (A k) / val (P k)) * ab (val (P k)) = ab (val (A k)) := by rw [ab_mul, hm]
        rw [← this]; grind
      rw [e] at hm2
      have e2 : (val by' - val (A k) / val (P k)) * val (P k) = val by' * val (P k) - val (A k) := by
        have : (val by' - val (A k) / val (P k)) * val (P k) = val by' * val (P k) - val (A k) / val (P k) * val (P k) := by grind
        rw [this, hm]
      rw [e2] at hm2
      have a1 := Rat.mul_le_mul_of_nonneg_left (ab_le hX) (show 0 ≤ 3 * u53 by decide +kernel)
      have a2 := Rat.mul_le_mul_of_nonneg_left (ab_le hY) (Rat.le_of_lt tny_pos)
      unfold Bd at *
      constructor <;> grind
    · intro h0
      obtain ⟨z, z1, z2, z3⟩ := zero_div (hA k (by omega)) (hP k (by omega)) h0 hne
      rw [d1] at z1; obtain rfl := Option.some.inj z1
      exact z3

end Go.Proofs.Ytaadklfendegfaa
