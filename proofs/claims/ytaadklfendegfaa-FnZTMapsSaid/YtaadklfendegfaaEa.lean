/- One row's step of an elimination in floats, and how far it is from the exact one. -/
import Derived.Test.YtaadklfendegfaaFlB
import Derived.Test.YtaadklfendegfaaSc
namespace Go.Proofs.Ytaadklfendegfaa
open Go Fl

theorem nr_bd {a b e B : Rat} (h : Nr a b e) (hb : Bd b B) : Bd a (B + e) := h.bd hb

/-- a quotient of two floats, by the exact quotient's bound -/
theorem div_step {a p : Nat} (ha : Fl.fin a) (hp : Fl.fin p) {β : Rat} (hp0 : val p ≠ 0) (hβ : Bd (val a / val p) β) (hβ1 : β ≤ 10^100) :
    ∃ z, fdiv a p = some z ∧ Fl.fin z ∧ Nr (val z) (val a / val p) (3 * β * u53 + tny) := by
  obtain ⟨z, h1, h2, h3⟩ := div_near ha hp hp0 hβ (Rat.le_trans (Rat.le_trans hβ1 (by decide +kernel)) big_le)
  refine ⟨z, h1, h2, ?_⟩
  rw [u_eq] at h3
  have ht := tny_le
  generalize (2:Rat) ^ (-1075:Int) = t at *
  generalize 3 * β * u53 = q at *
  unfold Nr at *
  constructor <;> grind

theorem mul_step {x y : Nat} (hx : Fl.fin x) (hy : Fl.fin y) {B : Rat} (hb : Bd (val x * val y) B) (hB : B ≤ 10^150) : ∃ z, fmul x y = some z ∧ Fl.fin z ∧ Nr (val z) (val x * val y) (B * u53 + tny) := by
  obtain ⟨z, h1, h2, h3⟩ := mul_near hx hy hb (Rat.le_trans (Rat.le_trans hB (by decide +kernel)) big_le')
  refine ⟨z, h1, h2, ?_⟩
  rw [u_eq] at h3
  have ht := tny_le
  generalize (2:Rat) ^ (-1075:Int) = t at *
  generalize B * u53 = q at *
  unfold Nr at *
  constructor <;> grind

theorem sub_step {x y : Nat} (hx : Fl.fin x) (hy : Fl.fin y) {B : Rat} (hb : Bd (val x - val y) B) (hB : B ≤ 10^150) : ∃ z, fsub x y = some z ∧ Fl.fin z ∧ Nr (val z) (val x - val y) (B * u53 + tny) := by
  obtain ⟨z, h1, h2, h3⟩ := sub_near hx hy hb (Rat.le_trans (Rat.le_trans hB (by decide +kernel)) big_le')
  refine ⟨z, h1, h2, ?_⟩
  rw [u_eq] at h3
  have ht := tny_le
  generalize (2:Rat) ^ (-1075:Int) = t at *
  generalize B * u53 = q at *
  unfold Nr at *
  constructor <;> grind

theorem u53_pos : (0:Rat) < u53 := by decide +kernel
theorem u53_lt : u53 ≤ 1/1000000000000000 := by decide +kernel
theorem tny_pos : (0:Rat) < tny := by decide +kernel
theorem tny_lt : tny ≤ u53 := by decide +kernel

/-- n - b q, in two steps: q within K, n within L, b within β -/
theorem cell_step {b q n : Nat} (hb : Fl.fin b) (hq : Fl.fin q) (hn : Fl.fin n) {β K L : Rat} (Bb : Bd (val b) β) (Bq : Bd (val q) K) (Bn : Bd (val n) L) (h1 : β * K ≤ 10^100) (h2 : L ≤ 10^100) :
    ∃ t r, fmul b q = some t ∧ fsub n t = some r ∧ Fl.fin r ∧ Nr (val r) (val n - val b * val q) (u53 * (2001/1000 * (β * K) + L) + 3 * tny) := by
  obtain ⟨t, t1, t2, t3⟩ := mul_step hb hq (Bd.mul Bb Bq) (Rat.le_trans h1 (by decide +kernel))
  have hbk := Bd.mul Bb Bq
  have hBt := t3.bd hbk
  have hsub := Bd.sub Bn hBt
  have h0 := Bd.nonneg hbk
  have hL0 := Bd.nonneg Bn
  have hu := u53_pos
  have hu2 := u53_lt
  have ht := tny_pos
  have htu := tny_lt
  have hku : β * K * u53 ≤ β * K * (1/1000000000000000) := Rat.mul_le_mul_of_nonneg_left hu2 h0
  have hkp : 0 ≤ β * K * u53 := Rat.mul_nonneg h0 (Rat.le_of_lt hu)
  generalize β * K = P at *
  have hbig : L + (P + (P * u53 + tny)) ≤ 10^150 := by
    have e1 : (10:Rat)^100 * 4 ≤ 10^150 := by decide +kernel
    have e2 : u53 ≤ (1:Rat) := by decide +kernel
    have e3 : (1:Rat) ≤ 10^100 := by decide +kernel
    generalize (10:Rat)^100 = A at *
    generalize (10:Rat)^150 = C at *
    grind
  obtain ⟨r, r1, r2, r3⟩ := sub_step hn t2 hsub hbig
  refine ⟨t, r, t1, r1, r2, ?_⟩
  have hexp : (L + (P + (P * u53 + tny))) * u53 + tny + (P * u53 + tny) ≤ u53 * (2001/1000 * P + L) + 3 * tny := by
    have e1 : P * u53 * u53 ≤ P * u53 * (1/1000) := Rat.mul_le_mul_of_nonneg_left (by decide +kernel) hkp
    have e2 : tny * u53 ≤ tny * 1 := Rat.mul_le_mul_of_nonneg_left (by decide +kernel) (Rat.le_of_lt ht)
    grind
  unfold Nr at *
  generalize val b * val q = bq at *
  generalize (L + (P + (P * u53 + tny))) * u53 = X at *
  generalize u53 * (2001/1000 * P + L) = Y at *
  constructor <;> grind

/-- a factor that is nothing changes nothing that is nothing -/
theorem zero_div {a p : Nat} (ha : Fl.fin a) (hp : Fl.fin p) (h0 : val a = 0) (hp0 : val p ≠ 0) : ∃ z, fdiv a p = some z ∧ Fl.fin z ∧ val z = 0 := by
  have e : (((0:Int)) : Rat) = 0 := rfl
  obtain ⟨z, h1, h2, h3⟩ := div_exact ha hp hp0 0 0 (by decide) (by omega) (by omega) (by rw [h0, e]; grind)
  exact ⟨z, h1, h2, by rw [h3, e]; grind⟩
theorem zero_cell {b q n : Nat} (hb : Fl.fin b) (hq : Fl.fin q) (hn : Fl.fin n) (h0 : val b * val q = 0) (hn0 : val n = 0) : ∃ t r, fmul b q = some t ∧ fsub n t = some r ∧ Fl.fin r ∧ val r = 0 := by
  have e : (((0:Int)) : Rat) = 0 := rfl
  obtain ⟨t, h1, h2, h3⟩ := mul_exact hb hq 0 0 (by decide) (by omega) (by omega) (by rw [h0, e]; grind)
  obtain ⟨r, h4, h5, h6⟩ := sub_exact hn h2 0 0 (by decide) (by omega) (by omega) (by rw [hn0, h3, h0, e]; grind)
  exact ⟨t, r, h1, h4, h5, by rw [h6, hn0, h3, h0]; grind⟩

end Go.Proofs.Ytaadklfendegfaa
