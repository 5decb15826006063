/- An elimination in floats, as a whole; the numbers of the map of a picture to a grid. -/
import Derived.Test.YtaadklfendegfaaKa
import Derived.Test.YtaadklfendegfaaSc

/- One row's step of an elimination in floats, and how far it is from the exact one. -/
namespace Go.Proofs.Ytaadklfendegfaa
open Go Fl

theorem nr_bd {a b e B : Rat} (h : Nr a b e) (hb : Bd b B) : Bd a (B + e) := h.bd hb

/-- a quotient of two floats, by the exact quotient's bound -/
theorem div_step {a p : Nat} (ha : Fl.fin a) (hp : Fl.fin p) {β : Rat} (hp0 : val p ≠ 0) (hβ : Bd (val a / val p) β) (hβ1 : β ≤ 10^100) :
    ∃ z, fdiv a p = some z ∧ Fl.fin z ∧ Nr (val z) (val a / val p) (3 * β * u53 + tny) := by
  obtain ⟨z, h1, h2, h3⟩ := div_near ha hp hp0 hβ (Rat.le_trans (Rat.le_trans hβ1 (by decide +kernel)) big_le)
  refine ⟨z, h1, h2, ?_⟩
  rw [u_eq] at h3
  have ht := tny_le
  generalize (2:Rat) ^ (-1075:Int) = t at *
  generalize 3 * β * u53 = q at *
  unfold Nr at *
  constructor <;> grind

theorem mul_step {x y : Nat} (hx : Fl.fin x) (hy : Fl.fin y) {B : Rat} (hb : Bd (val x * val y) B) (hB : B ≤ 10^150) : ∃ z, fmul x y = some z ∧ Fl.fin z ∧ Nr (val z) (val x * val y) (B * u53 + tny) := by
  obtain ⟨z, h1, h2, h3⟩ := mul_near hx hy hb (Rat.le_trans (Rat.le_trans hB (by decide +kernel)) big_le')
  refine ⟨z, h1, h2, ?_⟩
  rw [u_eq] at h3
  have ht := tny_le
  generalize (2:Rat) ^ (-1075:Int) = t at *
  generalize B * u53 = q at *
  unfold Nr at *
  constructor <;> grind

theorem sub_step {x y : Nat} (hx : Fl.fin x) (hy : Fl.fin y) {B : Rat} (hb : Bd (val x - val y) B) (hB : B ≤ 10^150) : ∃ z, fsub x y = some z ∧ Fl.fin z ∧ Nr (val z) (val x - val y) (B * u53 + tny) := by
  obtain ⟨z, h1, h2, h3⟩ := sub_near hx hy hb (Rat.le_trans (Rat.le_trans hB (by decide +kernel)) big_le')
  refine ⟨z, h1, h2, ?_⟩
  rw [u_eq] at h3
  have ht := tny_le
  generalize (2:Rat) ^ (-1075:Int) = t at *
  generalize B * u53 = q at *
  unfold Nr at *
  constructor <;> grind

theorem u53_pos : (0:Rat) < u53 := by decide +kernel
theorem u53_lt : u53 ≤ 1/1000000000000000 := by decide +kernel
theorem tny_pos : (0:Rat) < tny := by decide +kernel
theorem tny_lt : tny ≤ u53 := by decide +kernel

/-- n - b q, in two steps: q within K, n within L, b within β -/
theorem cell_step {b q n : Nat} (hb : Fl.fin b) (hq : Fl.fin q) (hn : Fl.fin n) {β K L : Rat} (Bb : Bd (val b) β) (Bq : Bd (val q) K) (Bn : Bd (val n) L) (h1 : β * K ≤ 10^100) (h2 : L ≤ 10^100) :
    ∃ t r, fmul b q = some t ∧ fsub n t = some r ∧ Fl.fin r ∧ Nr (val r) (val n - val b * val q) (u53 * (2001/1000 * (β * K) + L) + 3 * tny) := by
  obtain ⟨t, t1, t2, t3⟩ := mul_step hb hq (Bd.mul Bb Bq) (Rat.le_trans h1 (by decide +kernel))
  have hbk := Bd.mul Bb Bq
  have hBt := t3.bd hbk
  have hsub := Bd.sub Bn hBt
  have h0 := Bd.nonneg hbk
  have hL0 := Bd.nonneg Bn
  have hu := u53_pos
  have hu2 := u53_lt
  have ht := tny_pos
  have htu := tny_lt
  have hku : β * K * u53 ≤ β * K * (1/1000000000000000) := Rat.mul_le_mul_of_nonneg_left hu2 h0
  have hkp : 0 ≤ β * K * u53 := Rat.mul_nonneg h0 (Rat.le_of_lt hu)
  generalize β * K = P at *
  have hbig : L + (P + (P * u53 + tny)) ≤ 10^150 := by
    have e1 : (10:Rat)^100 * 4 ≤ 10^150 := by decide +kernel
    have e2 : u53 ≤ (1:Rat) := by decide +kernel
    have e3 : (1:Rat) ≤ 10^100 := by decide +kernel
    generalize (10:Rat)^100 = A at *
    generalize (10:Rat)^150 = C at *
    grind
  obtain ⟨r, r1, r2, r3⟩ := sub_step hn t2 hsub hbig
  refine ⟨t, r, t1, r1, r2, ?_⟩
  have hexp : (L + (P + (P * u53 + tny))) * u53 + tny + (P * u53 + tny) ≤ u53 * (2001/1000 * P + L) + 3 * tny := by
    have e1 : P * u53 * u53 ≤ P * u53 * (1/1000) := Rat.mul_le_mul_of_nonneg_left (by decide +kernel) hkp
    have e2 : tny * u53 ≤ tny * 1 := Rat.mul_le_mul_of_nonneg_left (by decide +kernel) (Rat.le_of_lt ht)
    grind
  unfold Nr at *
  generalize val b * val q = bq at *
  generalize (L + (P + (P * u53 + tny))) * u53 = X at *
  generalize u53 * (2001/1000 * P + L) = Y at *
  constructor <;> grind

/-- a factor that is nothing changes nothing that is nothing -/
theorem zero_div {a p : Nat} (ha : Fl.fin a) (hp : Fl.fin p) (h0 : val a = 0) (hp0 : val p ≠ 0) : ∃ z, fdiv a p = some z ∧ Fl.fin z ∧ val z = 0 := by
  have e : (((0:Int)) : Rat) = 0 := rfl
  obtain ⟨z, h1, h2, h3⟩ := div_exact ha hp hp0 0 0 (by decide) (by omega) (by omega) (by rw [h0, e]; grind)
  exact ⟨z, h1, h2, by rw [h3, e]; grind⟩
theorem zero_cell {b q n : Nat} (hb : Fl.fin b) (hq : Fl.fin q) (hn : Fl.fin n) (h0 : val b * val q = 0) (hn0 : val n = 0) : ∃ t r, fmul b q = some t ∧ fsub n t = some r ∧ Fl.fin r ∧ val r = 0 := by
  have e : (((0:Int)) : Rat) = 0 := rfl
  obtain ⟨t, h1, h2, h3⟩ := mul_exact hb hq 0 0 (by decide) (by omega) (by omega) (by rw [h0, e]; grind)
  obtain ⟨r, h4, h5, h6⟩ := sub_exact hn h2 0 0 (by decide) (by omega) (by omega) (by rw [hn0, h3, h0, e]; grind)
  exact ⟨t, r, h1, h4, h5, by rw [h6, hn0, h3, h0]; grind⟩

end Go.Proofs.Ytaadklfendegfaa

/- Functionals on the rows of an elimination in floats; the greatest of a column. -/
namespace Go.Proofs.Ytaadklfendegfaa
open Go Fl

/-- a row's value by weights, from a column on -/
def ph (f : Nat → Rat) (R : Nat → Nat) (j : Nat) : Rat :=
  (if j ≤ 0 then f 0 * val (R 0) else 0) + (if j ≤ 1 then f 1 * val (R 1) else 0) + (if j ≤ 2 then f 2 * val (R 2) else 0) + (if j ≤ 3 then f 3 * val (R 3) else 0) + (if j ≤ 4 then f 4 * val (R 4) else 0) +
    (if j ≤ 5 then f 5 * val (R 5) else 0) + (if j ≤ 6 then f 6 * val (R 6) else 0) + (if j ≤ 7 then f 7 * val (R 7) else 0) + (if j ≤ 8 then f 8 * val (R 8) else 0)

def tot (F E : Nat → Rat) : Rat := F 0 * E 0 + F 1 * E 1 + F 2 * E 2 + F 3 * E 3 + F 4 * E 4 + F 5 * E 5 + F 6 * E 6 + F 7 * E 7 + F 8 * E 8

theorem ph_split (f : Nat → Rat) (R : Nat → Nat) {k : Nat} (hk : k < 8) : ph f R k = f k * val (R k) + ph f R (k + 1) := by
  unfold ph
  rcases (show k = 0 ∨ k = 1 ∨ k = 2 ∨ k = 3 ∨ k = 4 ∨ k = 5 ∨ k = 6 ∨ k = 7 by omega) with rfl | rfl | rfl | rfl | rfl | rfl | rfl | rfl <;> simp <;> grind

theorem ph_last (f : Nat → Rat) (R : Nat → Nat) : ph f R 8 = f 8 * val (R 8) := by unfold ph; simp; try grind

/-- how far a row's value is from the exact one, column by column -/
theorem ph_near {f F E : Nat → Rat} {R A P : Nat → Nat} {b : Rat} (hf : ∀ c, c < 9 → Bd (f c) (F c)) (hE : ∀ c, c < 9 → 0 ≤ E c) {j : Nat} (h : ∀ c, j ≤ c → c < 9 → Nr (val (R c)) (val (A c) - b * val (P c)) (E c)) :
    Nr (ph f R j) (ph f A j - b * ph f P j) (tot F E) := by
  have key : ∀ c, c < 9 → Bd ((if j ≤ c then f c * val (R c) else 0) - ((if j ≤ c then f c * val (A c) else 0) - b * (if j ≤ c then f c * val (P c) else 0))) (F c * E c) := by
    intro c hc
    by_cases hjc : j ≤ c
    · rw [if_pos hjc, if_pos hjc, if_pos hjc]
      have h1 : Bd (val (R c) - (val (A c) - b * val (P c))) (E c) := by have := h c hjc hc; unfold Nr Bd at *; grind
      have h2 := Bd.mul (hf c hc) h1
      have e : f c * val (R c) - (f c * val (A c) - b * (f c * val (P c))) = f c * (val (R c) - (val (A c) - b * val (P c))) := by grind
      rw [e]; exact h2
    · rw [if_neg hjc, if_neg hjc, if_neg hjc]
      have := Rat.mul_nonneg (Bd.nonneg (hf c hc)) (hE c hc)
      unfold Bd; constructor <;> grind
  have k0 := key 0 (by omega)
  have k1 := key 1 (by omega)
  have k2 := key 2 (by omega)
  have k3 := key 3 (by omega)
  have k4 := key 4 (by omega)
  have k5 := key 5 (by omega)
  have k6 := key 6 (by omega)
  have k7 := key 7 (by omega)
  have k8 := key 8 (by omega)
  clear key h hf hE
  unfold ph tot
  unfold Bd at *
  unfold Nr
  constructor <;> grind

/-- one step: the column k falls away -/
theorem ph_step {f F E : Nat → Rat} {R A P : Nat → Nat} {b d : Rat} (hf : ∀ c, c < 9 → Bd (f c) (F c)) (hE : ∀ c, c < 9 → 0 ≤ E c) {k : Nat} (hk : k < 8) (h : ∀ c, k < c → c < 9 → Nr (val (R c)) (val (A c) - b * val (P c)) (E c))
    (hd : Bd (val (A k) - b * val (P k)) d) : Nr (ph f R (k + 1)) (ph f A k - b * ph f P k) (tot F E + F k * d) := by
  have h1 := ph_near hf hE (j := k + 1) (fun c hc hc9 => h c (by omega) hc9)
  have h2 := Bd.mul (hf k (by omega)) hd
  rw [ph_split f A hk, ph_split f P hk]
  unfold Nr Bd at *
  constructor <;> grind

/-- the greatest of a column is found -/
theorem best_max {M : Nat → Nat → Nat} {k : Nat} (hfin : ∀ r, r < 8 → Fl.fin (M r k)) (n : Nat) (hn : k + n ≤ 8) (hk : k < 8) :
    ∀ i, i < n → ∃ B, Bd (val (M (k + i) k)) B ∧ (B ≤ val (M (bestOf M k n) k) ∨ B ≤ -val (M (bestOf M k n) k)) := by
  have habs : ∀ {x : Nat}, Fl.fin x → Fl.fin (fabs x) ∧ 0 ≤ val (fabs x) ∧ Bd (val x) (val (fabs x)) ∧ (val (fabs x) = val x ∨ val (fabs x) = -val x) := by
    intro x hx
    obtain ⟨a1, a2, a3⟩ := Fl.abs_val hx
    unfold fabs
    by_cases h0 : 0 ≤ val x
    · have := a2 h0
      exact ⟨a1, by grind, by unfold Bd; constructor <;> grind, Or.inl this⟩
    · have := a3 (by grind)
      exact ⟨a1, by grind, by unfold Bd; constructor <;> grind, Or.inr this⟩
  induction n with
  | zero => intro i hi; omega
  | succ n ih =>
    have hb := bestOf_lt M k n (by omega) hk
    obtain ⟨b1, b2, b3, b4⟩ := habs (hfin _ hb)
    obtain ⟨c1, c2, c3, c4⟩ := habs (hfin (k + n) (by omega))
    obtain ⟨o1, o2, o3⟩ := Fl.order_val c1 b1
    intro i hi
    unfold bestOf
    by_cases hg : fgt (fabs (M (k + n) k)) (fabs (M (bestOf M k n) k)) = true
    · rw [if_pos hg]
      have hlt : val (fabs (M (bestOf M k n) k)) ≤ val (fabs (M (k + n) k)) := by
        apply Classical.byContradiction; intro hh
        have hg' : (Ieee.double.order (fabs (M (k + n) k)) (fabs (M (bestOf M k n) k)) == some .gt) = true := hg
        rw [o1 (by grind)] at hg'; simp at hg'
      refine ⟨val (fabs (M (k + n) k)), ?_, by grind⟩
      by_cases e : i = n
      · subst e; exact c3
      · obtain ⟨B, d1, d2⟩ := ih (by omega) i (by omega)
        unfold Bd at *; constructor <;> grind
    · rw [if_neg hg]
      have hle : val (fabs (M (k + n) k)) ≤ val (fabs (M (bestOf M k n) k)) := by
        apply Classical.byContradiction; intro hh
        apply hg
        show (Ieee.double.order (fabs (M (k + n) k)) (fabs (M (bestOf M k n) k)) == some .gt) = true
        rw [o3 (by grind)]; rfl
      refine ⟨val (fabs (M (bestOf M k n) k)), ?_, by grind⟩
      by_cases e : i = n
      · subst e; unfold Bd at *; constructor <;> grind
      · obtain ⟨B, d1, d2⟩ := ih (by omega) i (by omega)
        unfold Bd at *; constructor <;> grind

end Go.Proofs.Ytaadklfendegfaa

/- One round of an elimination in floats, as a whole: it exists, and what it is near. -/
namespace Go.Proofs.Ytaadklfendegfaa
open Go Fl

def ab (x : Rat) : Rat := if 0 ≤ x then x else -x
theorem ab_nonneg (x : Rat) : 0 ≤ ab x := by unfold ab; split <;> grind
theorem ab_bd (x : Rat) : Bd x (ab x) := by unfold ab Bd; split <;> constructor <;> grind
theorem ab_le {x X : Rat} (h : Bd x X) : ab x ≤ X := by unfold ab Bd at *; split <;> grind
theorem ab_mul (x y : Rat) : ab x * ab y = ab (x * y) := by
  have key : ∀ a b : Rat, 0 ≤ a → 0 ≤ b → 0 ≤ a * b := fun a b ha hb => Rat.mul_nonneg ha hb
  by_cases hx : 0 ≤ x <;> by_cases hy : 0 ≤ y
  · have := key x y hx hy; unfold ab; rw [if_pos hx, if_pos hy, if_pos this]
  · have h := key x (-y) hx (by grind)
    by_cases h0 : x * y = 0
    · unfold ab; rw [if_pos hx, if_neg hy, if_pos (by grind)]; grind
    · unfold ab; rw [if_pos hx, if_neg hy, if_neg (by grind)]; grind
  · have h := key (-x) y (by grind) hy
    by_cases h0 : x * y = 0
    · unfold ab; rw [if_neg hx, if_pos hy, if_pos (by grind)]; grind
    · unfold ab; rw [if_neg hx, if_pos hy, if_neg (by grind)]; grind
  · have h := key (-x) (-y) (by grind) (by grind)
    unfold ab; rw [if_neg hx, if_neg hy, if_pos (by grind)]; grind

/-- what is known of a row behind a round -/
structure StepRow (A P R : Nat → Nat) (k : Nat) (b : Rat) : Prop where
  fin : ∀ c, c < 9 → Fl.fin (R c)
  old : ∀ c, c < k → R c = A c
  near : ∀ c, k ≤ c → c < 9 → ∀ X Y, Bd (b * val (P c)) X → Bd (val (A c)) Y → Nr (val (R c)) (val (A c) - b * val (P c)) (u53 * (2001/1000 * X + Y) + 3 * tny)
  zero : ∀ c, k ≤ c → c < 9 → b * val (P c) = 0 → val (A c) = 0 → val (R c) = 0
  fall : ∀ X Y, Bd (val (A k)) X → Bd (val (P k)) Y → Bd (val (A k) - b * val (P k)) (3 * u53 * X + tny * Y)
  none : val (A k) = 0 → b = 0

theorem row_ex {A P : Nat → Nat} {k : Nat} (hk : k < 8) (hA : ∀ c, c < 9 → Fl.fin (A c)) (hP : ∀ c, c < 9 → Fl.fin (P c)) {K : Rat} (hp0 : 0 < K) (hK : K ≤ 10^30) (h1 : 1/10000 ≤ val (P k) ∨ val (P k) ≤ -(1/10000))
    (bA : ∀ c, k ≤ c → c < 9 → Bd (val (A c)) K) (bP : ∀ c, k ≤ c → c < 9 → Bd (val (P c)) K) :
    ∃ by' R, fdiv (A k) (P k) = some by' ∧ (∀ j, j < k → R j = A j) ∧ (∀ j, k ≤ j → j < 9 → ∃ t, fmul by' (P j) = some t ∧ fsub (A j) t = some (R j)) ∧ StepRow A P R k (val by') ∧ Nr (val by') (val (A k) / val (P k)) (3 * ab (val (A k) / val (P k)) * u53 + tny) := by
  have hne : val (P k) ≠ 0 := by rcases h1 with h | h <;> grind
  have hq : Bd (val (A k) / val (P k)) (10000 * K) := by
    have hb := bA k (Nat.le_refl _) (by omega)
    have hm : val (A k) / val (P k) * val (P k) = val (A k) := by
      rw [Rat.div_def, Rat.mul_assoc, Rat.inv_mul_cancel _ hne, Rat.mul_one]
    generalize val (A k) / val (P k) = q at *
    generalize val (P k) = p at *
    generalize val (A k) = a at *
    subst hm
    unfold Bd at *
    rcases h1 with h | h
    · constructor
      · apply Classical.byContradiction; intro hn
        have := Rat.mul_nonneg (show 0 ≤ -q by grind) (show 0 ≤ p - 1/10000 by grind); grind
      · apply Classical.byContradiction; intro hn
        have := Rat.mul_nonneg (show 0 ≤ q by grind) (show 0 ≤ p - 1/10000 by grind); grind
    · constructor
      · apply Classical.byContradiction; intro hn
        have := Rat.mul_nonneg (show 0 ≤ -q by grind) (show 0 ≤ -p - 1/10000 by grind); grind
      · apply Classical.byContradiction; intro hn
        have := Rat.mul_nonneg (show 0 ≤ q by grind) (show 0 ≤ -p - 1/10000 by grind); grind
  have h30 : (10:Rat)^30 ≤ 10^100 := by decide +kernel
  have h34 : 10000 * K ≤ 10^100 := by
    have e : 10000 * (10:Rat)^30 ≤ 10^100 := by decide +kernel
    grind
  obtain ⟨by', d1, d2, d3⟩ := div_step (hA k (by omega)) (hP k (by omega)) hne (ab_bd _) (Rat.le_trans (ab_le hq) h34)
  have hbq : Bd (val by') (20000 * K + 1) := by
    have h := d3.bd hq
    have h2 := ab_le hq
    have h3 := ab_nonneg (val (A k) / val (P k))
    refine h.mono ?_
    have e1 : 3 * ab (val (A k) / val (P k)) * u53 ≤ 10000 * K := by
      have := Rat.mul_le_mul_of_nonneg_left (show 3 * u53 ≤ 1 by decide +kernel) h3
      grind
    have e2 : tny ≤ 1 := by decide +kernel
    grind
  have cell : ∀ c, ∃ t r, k ≤ c → c < 9 → fmul by' (P c) = some t ∧ fsub (A c) t = some r ∧ Fl.fin r ∧ Nr (val r) (val (A c) - val by' * val (P c)) (u53 * (2001/1000 * (ab (val by') * ab (val (P c))) + ab (val (A c))) + 3 * tny) := by
    intro c
    by_cases hc : k ≤ c ∧ c < 9
    · have hb1 := ab_le hbq
      have hb2 := ab_le (bP c hc.1 hc.2)
      have hb3 := ab_le (bA c hc.1 hc.2)
      have hprod : ab (val by') * ab (val (P c)) ≤ 10^100 := by
        have m1 := Rat.mul_le_mul_of_nonneg_right hb1 (ab_nonneg (val (P c)))
        have m2 := Rat.mul_le_mul_of_nonneg_left hb2 (show 0 ≤ 20000 * K + 1 by grind)
        have m3 := Rat.mul_le_mul_of_nonneg_left hK (show 0 ≤ 20000 * K + 1 by grind)
        have m4 := Rat.mul_le_mul_of_nonneg_right (show 20000 * K + 1 ≤ 20000 * 10^30 + 1 by grind) (show (0:Rat) ≤ 10^30 by decide +kernel)
        have e : (20000 * (10:Rat)^30 + 1) * 10^30 ≤ 10^100 := by decide +kernel
        exact Rat.le_trans m1 (Rat.le_trans m2 (Rat.le_trans m3 (Rat.le_trans m4 e)))
      obtain ⟨t, r, c1, c2, c3, c4⟩ := cell_step d2 (hP c hc.2) (hA c hc.2) (ab_bd (val by')) (ab_bd (val (P c))) (ab_bd (val (A c))) hprod (Rat.le_trans hb3 (Rat.le_trans hK h30))
      exact ⟨t, r, fun _ _ => ⟨c1, c2, c3, c4⟩⟩
    · exact ⟨0, 0, fun h1 h2 => absurd ⟨h1, h2⟩ hc⟩
  obtain ⟨t, ht⟩ := Classical.axiomOfChoice cell
  obtain ⟨r, hr⟩ := Classical.axiomOfChoice ht
  refine ⟨by', fun c => if c < k then A c else r c, d1, fun j hj => if_pos hj, ?_, ?_, d3⟩
  · intro j h1 h2
    obtain ⟨c1, c2, _⟩ := hr j h1 h2
    exact ⟨t j, c1, by dsimp only; rw [if_neg (by omega)]; exact c2⟩
  · refine ⟨?_, fun c hc => if_pos hc, ?_, ?_, ?_, ?_⟩
    · intro c hc
      by_cases h : c < k
      · rw [if_pos h]; exact hA c hc
      · rw [if_neg h]; exact (hr c (by omega) hc).2.2.1
    · intro c h1 h2 X Y hX hY
      rw [if_neg (by omega)]
      have h := (hr c h1 h2).2.2.2
      rw [ab_mul] at h
      have e1 := ab_le hX
      have e2 := ab_le hY
      have hle : u53 * (2001/1000 * ab (val by' * val (P c)) + ab (val (A c))) ≤ u53 * (2001/1000 * X + Y) := Rat.mul_le_mul_of_nonneg_left (by grind) (Rat.le_of_lt u53_pos)
      unfold Nr at *
      constructor <;> grind
    · intro c h1 h2 h3 h4
      rw [if_neg (by omega)]
      obtain ⟨c1, c2, _⟩ := hr c h1 h2
      obtain ⟨t', r', z1, z2, z3, z4⟩ := zero_cell d2 (hP c h2) (hA c h2) h3 h4
      rw [c1] at z1; obtain rfl := Option.some.inj z1
      rw [c2] at z2; obtain rfl := Option.some.inj z2
      exact z4
    · intro X Y hX hY
      have hm : val (A k) / val (P k) * val (P k) = val (A k) := by
        rw [Rat.div_def, Rat.mul_assoc, Rat.inv_mul_cancel _ hne, Rat.mul_one]
      have h := ab_nonneg (val (A k) / val (P k))
      have hd : Bd (val by' - val (A k) / val (P k)) (3 * ab (val (A k) / val (P k)) * u53 + tny) := by unfold Nr Bd at *; constructor <;> grind
      have hm2 := Bd.mul hd (ab_bd (val (P k)))
      have e : (3 * ab (val (A k) / val (P k)) * u53 + tny) * ab (val (P k)) = 3 * u53 * ab (val (A k)) + tny * ab (val (P k)) := by
        have : ab (val (A k) / val (P k)) * ab (val (P k)) = ab (val (A k)) := by rw [ab_mul, hm]
        rw [← this]; grind
      rw [e] at hm2
      have e2 : (val by' - val (A k) / val (P k)) * val (P k) = val by' * val (P k) - val (A k) := by
        have : (val by' - val (A k) / val (P k)) * val (P k) = val by' * val (P k) - val (A k) / val (P k) * val (P k) := by grind
        rw [this, hm]
      rw [e2] at hm2
      have a1 := Rat.mul_le_mul_of_nonneg_left (ab_le hX) (show 0 ≤ 3 * u53 by decide +kernel)
      have a2 := Rat.mul_le_mul_of_nonneg_left (ab_le hY) (Rat.le_of_lt tny_pos)
      unfold Bd at *
      constructor <;> grind
    · intro h0
      obtain ⟨z, z1, z2, z3⟩ := zero_div (hA k (by omega)) (hP k (by omega)) h0 hne
      rw [d1] at z1; obtain rfl := Option.some.inj z1
      exact z3

end Go.Proofs.Ytaadklfendegfaa

/- Sums over nine columns; a row's round with its error; how the lower rows grow. -/
namespace Go.Proofs.Ytaadklfendegfaa
open Go Fl

theorem tot_le {F E G H : Nat → Rat} (h : ∀ c, c < 9 → F c * E c ≤ G c * H c) : tot F E ≤ tot G H := by
  have h0 := h 0 (by omega)
  have h1 := h 1 (by omega)
  have h2 := h 2 (by omega)
  have h3 := h 3 (by omega)
  have h4 := h 4 (by omega)
  have h5 := h 5 (by omega)
  have h6 := h 6 (by omega)
  have h7 := h 7 (by omega)
  have h8 := h 8 (by omega)
  unfold tot; grind
theorem tot_mono {F E E' : Nat → Rat} (hF : ∀ c, c < 9 → 0 ≤ F c) (h : ∀ c, c < 9 → E c ≤ E' c) : tot F E ≤ tot F E' :=
  tot_le fun c hc => Rat.mul_le_mul_of_nonneg_left (h c hc) (hF c hc)
theorem tot_nonneg {F E : Nat → Rat} (hF : ∀ c, c < 9 → 0 ≤ F c) (h : ∀ c, c < 9 → 0 ≤ E c) : 0 ≤ tot F E := by
  have := tot_le (F := fun _ => 0) (E := fun _ => 0) (G := F) (H := E) (fun c hc => by have := Rat.mul_nonneg (hF c hc) (h c hc); grind)
  unfold tot at *; grind
theorem tot_add (F E E' : Nat → Rat) : tot F (fun c => E c + E' c) = tot F E + tot F E' := by unfold tot; grind
theorem tot_add' (F G E : Nat → Rat) : tot (fun c => F c + G c) E = tot F E + tot G E := by unfold tot; grind
theorem tot_sc (F E : Nat → Rat) (Q : Rat) : tot (fun c => F c * Q) E = tot F E * Q := by unfold tot; grind
theorem tot_one (E : Nat → Rat) {c : Nat} (hc : c < 9) : tot (fun j => if j = c then 1 else 0) E = E c := by
  unfold tot
  rcases (show c = 0 ∨ c = 1 ∨ c = 2 ∨ c = 3 ∨ c = 4 ∨ c = 5 ∨ c = 6 ∨ c = 7 ∨ c = 8 by omega) with rfl | rfl | rfl | rfl | rfl | rfl | rfl | rfl | rfl <;> simp <;> try grind
theorem tot_at (F E : Nat → Rat) {k : Nat} (hk : k < 8) : tot F (fun c => if c ≤ k then 0 else E c) + F k * E k = tot F (fun c => if c < k then 0 else E c) := by
  unfold tot
  rcases (show k = 0 ∨ k = 1 ∨ k = 2 ∨ k = 3 ∨ k = 4 ∨ k = 5 ∨ k = 6 ∨ k = 7 by omega) with rfl | rfl | rfl | rfl | rfl | rfl | rfl | rfl <;> simp <;> try grind

/-- by how much a row's value by weights is off -/
abbrev wt (f : Nat → Rat) : Nat → Rat := fun c => ab (f c)
theorem wt_nonneg (f : Nat → Rat) (c : Nat) (_ : c < 9) : 0 ≤ wt f c := ab_nonneg _

theorem bd_zero {x B : Rat} (h : Bd x B) (h0 : B = 0) : x = 0 := by unfold Bd at h; grind

theorem row_err {A P R : Nat → Nat} {k : Nat} {b : Rat} (hk : k < 8) (h : StepRow A P R k b) {B : Rat} {p a E : Nat → Rat} (hb : Bd b B) (hp : ∀ c, k ≤ c → c < 9 → Bd (val (P c)) (p c)) (ha : ∀ c, k ≤ c → c < 9 → Bd (val (A c)) (a c))
    (hE0 : ∀ c, c < 9 → 0 ≤ E c) (hE : ∀ c, k ≤ c → c < 9 → (B * p c = 0 ∧ a c = 0) ∨ u53 * (2001/1000 * (B * p c) + a c) + 3 * tny ≤ E c)
    {ak pk : Rat} (hak : Bd (val (A k)) ak) (hpk : Bd (val (P k)) pk) (hEk : (B * pk = 0 ∧ ak = 0) ∨ 3 * u53 * ak + tny * pk ≤ E k) :
    (∀ c, k < c → c < 9 → Nr (val (R c)) (val (A c) - b * val (P c)) (E c)) ∧
      ∀ f, Bd (ph f R (k + 1) - (ph f A k - b * ph f P k)) (tot (wt f) (fun c => if c < k then 0 else E c)) := by
  have hn : ∀ c, k < c → c < 9 → Nr (val (R c)) (val (A c) - b * val (P c)) (E c) := by
    intro c h1 h2
    have hbp := Bd.mul hb (hp c (by omega) h2)
    rcases hE c (by omega) h2 with ⟨z1, z2⟩ | hle
    · have e1 := bd_zero hbp z1
      have e2 := bd_zero (ha c (by omega) h2) z2
      have e3 := h.zero c (by omega) h2 e1 e2
      have := hE0 c h2
      rw [e1, e2, e3]; unfold Nr; constructor <;> grind
    · have := h.near c (by omega) h2 _ _ hbp (ha c (by omega) h2)
      unfold Nr at *; constructor <;> grind
  refine ⟨hn, fun f => ?_⟩
  have hd : Bd (val (A k) - b * val (P k)) (E k) := by
    rcases hEk with ⟨z1, z2⟩ | hle
    · have e1 := bd_zero (Bd.mul hb hpk) z1
      have e2 := bd_zero hak z2
      have := hE0 k (by omega)
      rw [e1, e2]; unfold Bd; constructor <;> grind
    · exact (h.fall _ _ hak hpk).mono hle
  have hs := ph_step (f := f) (F := wt f) (E := fun c => if c ≤ k then 0 else E c) (R := R) (A := A) (P := P) (b := b) (d := E k) (fun c _ => ab_bd _)
    (fun c hc => by split; exact Rat.le_refl; exact hE0 c hc) hk
    (fun c h1 h2 => by rw [if_neg (by omega)]; exact hn c h1 h2) hd
  rw [tot_at _ _ hk] at hs
  unfold Nr Bd at *
  constructor <;> grind

/-- does a round concern rows of a kind? -/
def own (t : Bool) (k : Nat) : Bool := if k < 3 then t else if k < 6 then !t else true
/-- by how much the rows of a kind have grown ahead of a round -/
def gr (t : Bool) : Nat → Rat
  | 0 => 1
  | k + 1 => (if own t k then 201/100 else 1001/1000) * gr t k
/-- the error of a row's value so far, in parts of the columns' bounds -/
def lw (t : Bool) : Nat → Nat → Rat
  | 0, _ => 0
  | k + 1, c => lw t k c + (if c < k then 0 else (if own t k then 301/100 else 101/100) * gr t k)

theorem gr_ge (t : Bool) (k : Nat) : 1 ≤ gr t k := by
  induction k with
  | zero => exact Rat.le_refl
  | succ k ih => unfold gr; split <;> grind
theorem gr_le (t : Bool) {k : Nat} (hk : k ≤ 8) : gr t k ≤ 40 := by
  rcases (show k = 0 ∨ k = 1 ∨ k = 2 ∨ k = 3 ∨ k = 4 ∨ k = 5 ∨ k = 6 ∨ k = 7 ∨ k = 8 by omega) with rfl | rfl | rfl | rfl | rfl | rfl | rfl | rfl | rfl <;> cases t <;> decide +kernel
theorem gr_true (t : Bool) {k : Nat} (hk : k ≤ 8) : gr t k ≤ gr true k := by
  rcases (show k = 0 ∨ k = 1 ∨ k = 2 ∨ k = 3 ∨ k = 4 ∨ k = 5 ∨ k = 6 ∨ k = 7 ∨ k = 8 by omega) with rfl | rfl | rfl | rfl | rfl | rfl | rfl | rfl | rfl <;> cases t <;> decide +kernel
theorem gr_same (t t' : Bool) {k : Nat} (h6 : 6 ≤ k) (hk : k ≤ 8) : gr t k = gr t' k := by
  rcases (show k = 6 ∨ k = 7 ∨ k = 8 by omega) with rfl | rfl | rfl <;> cases t <;> cases t' <;> decide +kernel
theorem own_same {t t' : Bool} {k : Nat} (hk : k < 6) (h : own t k = true) (h' : own t' k = true) : t = t' := by
  unfold own at *
  by_cases h3 : k < 3
  · rw [if_pos h3] at h h'; rw [h, h']
  · rw [if_neg h3, if_pos hk] at h h'; cases t <;> cases t' <;> simp_all

/-- what bounds the columns have, by a row's kind -/
structure Sz (e0 : Bool → Nat → Rat) : Prop where
  z : ∀ t c, c < 9 → e0 t c = 0 ∨ 1 ≤ e0 t c
  zero : ∀ t k, k < 6 → own t k = false → e0 t k = 0
  same : ∀ t t' c, 6 ≤ c → c < 9 → e0 t c = e0 t' c
  hi : ∀ t c, c < 9 → e0 t c ≤ 10^6
theorem Sz.nonneg {e0 : Bool → Nat → Rat} (h : Sz e0) (t : Bool) {c : Nat} (hc : c < 9) : 0 ≤ e0 t c := by
  rcases h.z t c hc with h | h <;> grind

structure LowRow (e0 : Bool → Nat → Rat) (t : Bool) (k : Nat) (R : Nat → Nat) : Prop where
  fin : ∀ c, c < 9 → Fl.fin (R c)
  bd : ∀ c, k ≤ c → c < 9 → Bd (val (R c)) (gr t k * e0 t c)

theorem gr_hi {e0 : Bool → Nat → Rat} (hz : Sz e0) (t : Bool) {k c : Nat} (hk : k < 8) (hc : c < 9) : gr t k * e0 t c ≤ 40 * 10^6 := by
  have h1 := Rat.mul_le_mul_of_nonneg_left (hz.hi t c hc) (show 0 ≤ gr t k by have := gr_ge t k; grind)
  have h2 := Rat.mul_le_mul_of_nonneg_right (gr_le t (show k ≤ 8 by omega)) (show (0:Rat) ≤ 10^6 by decide +kernel)
  exact Rat.le_trans h1 h2
theorem LowRow.small {e0 : Bool → Nat → Rat} {t : Bool} {k c : Nat} {R : Nat → Nat} (_ : LowRow e0 t k R) (hz : Sz e0) (hk : k < 8) (hc : c < 9) : gr t k * e0 t c ≤ 10^30 :=
  Rat.le_trans (gr_hi hz t hk hc) (by decide +kernel)

/-- a pivot's row concerns rows of its own kind, or the round is one of the last two -/
theorem piv_own {e0 : Bool → Nat → Rat} (hz : Sz e0) {t : Bool} {k : Nat} {P : Nat → Nat} (hk : k < 8) (hP : LowRow e0 t k P) (piv : 1/10000 ≤ val (P k) ∨ val (P k) ≤ -(1/10000)) : own t k = true := by
  by_cases h6 : k < 6
  · apply Classical.byContradiction; intro hn
    have h0 := hz.zero t k h6 (by simpa using hn)
    have hb := hP.bd k (Nat.le_refl _) (by omega)
    rw [h0, Rat.mul_zero] at hb
    have := bd_zero hb rfl
    rcases piv with h | h <;> grind
  · unfold own; rw [if_neg (by omega), if_neg h6]

/-- the pivot's row in a row's own bounds -/
theorem piv_bd {e0 : Bool → Nat → Rat} (hz : Sz e0) {t t' : Bool} {k : Nat} {P : Nat → Nat} (hk : k < 8) (hP : LowRow e0 t' k P) (h : own t k = true) (h' : own t' k = true) : ∀ c, k ≤ c → c < 9 → Bd (val (P c)) (gr t k * e0 t c) := by
  intro c h1 h2
  have hb := hP.bd c h1 h2
  by_cases h6 : k < 6
  · rw [own_same h6 h h']; exact hb
  · rw [gr_same t t' (by omega) (by omega), hz.same t t' c (by omega) h2]; exact hb


theorem bd_one {x p : Rat} (hp : p ≠ 0) (h : Bd x (ab p)) : Bd (x / p) 1 := by
  have hm : x / p * p = x := by rw [Rat.div_def, Rat.mul_assoc, Rat.inv_mul_cancel _ hp, Rat.mul_one]
  generalize x / p = q at *
  subst hm
  unfold Bd ab at *
  by_cases h0 : 0 ≤ p
  · rw [if_pos h0] at h
    constructor
    · apply Classical.byContradiction; intro hn
      have := Rat.mul_pos (show 0 < -q - 1 by grind) (show 0 < p by grind); grind
    · apply Classical.byContradiction; intro hn
      have := Rat.mul_pos (show 0 < q - 1 by grind) (show 0 < p by grind); grind
  · rw [if_neg h0] at h
    constructor
    · apply Classical.byContradiction; intro hn
      have := Rat.mul_pos (show 0 < -q - 1 by grind) (show 0 < -p by grind); grind
    · apply Classical.byContradiction; intro hn
      have := Rat.mul_pos (show 0 < q - 1 by grind) (show 0 < -p by grind); grind

theorem tny_small : 1000 * tny ≤ u53 := by decide +kernel

/-- a round of a row that has not been a pivot's yet -/
theorem low_row {e0 : Bool → Nat → Rat} (hz : Sz e0) {k : Nat} (hk : k < 8) {t t' : Bool} {A P : Nat → Nat} (hA : LowRow e0 t k A) (hP : LowRow e0 t' k P) (piv : 1/10000 ≤ val (P k) ∨ val (P k) ≤ -(1/10000)) (hle : Bd (val (A k)) (ab (val (P k)))) :
    ∃ by' R, fdiv (A k) (P k) = some by' ∧ (∀ j, j < k → R j = A j) ∧ (∀ j, k ≤ j → j < 9 → ∃ t, fmul by' (P j) = some t ∧ fsub (A j) t = some (R j)) ∧ LowRow e0 t (k + 1) R ∧
      ∀ f, Bd (ph f R (k + 1) - (ph f A k - val by' * ph f P k)) (tot (wt f) (fun c => u53 * ((if c < k then 0 else (if own t k then 301/100 else 101/100) * gr t k) * e0 t c))) := by
  have bA : ∀ c, k ≤ c → c < 9 → Bd (val (A c)) (10^30) := fun c h1 h2 => (hA.bd c h1 h2).mono (hA.small hz hk h2)
  have bP : ∀ c, k ≤ c → c < 9 → Bd (val (P c)) (10^30) := fun c h1 h2 => (hP.bd c h1 h2).mono (hP.small hz hk h2)
  obtain ⟨by', R, r1, r2, r3, r4, r5⟩ := row_ex hk hA.fin hP.fin (K := 10^30) (by decide +kernel) Rat.le_refl piv bA bP
  have hne : val (P k) ≠ 0 := by rcases piv with h | h <;> grind
  have hq := bd_one hne hle
  have hb1 : Bd (val by') (1001/1000) := by
    have h1 := ab_le hq
    have h2 := ab_nonneg (val (A k) / val (P k))
    have h3 := r5.bd hq
    refine h3.mono ?_
    have e1 : 3 * ab (val (A k) / val (P k)) * u53 ≤ 3 * u53 := by
      have := Rat.mul_le_mul_of_nonneg_right h1 (show 0 ≤ 3 * u53 by decide +kernel)
      grind
    have e2 : 1 + (3 * u53 + tny) ≤ 1001/1000 := by decide +kernel
    grind
  have hPo := piv_own hz hk hP piv
  have hg := gr_ge t k
  have hgl := gr_le t (show k ≤ 8 by omega)
  have hu := u53_pos
  have hul := u53_lt
  have hts := tny_small
  have htp := tny_pos
  have hge : ∀ c, c < 9 → 0 ≤ gr t k * e0 t c := fun c hc => Rat.mul_nonneg (by grind) (hz.nonneg t hc)
  have hgz : ∀ c, c < 9 → gr t k * e0 t c = 0 ∨ 1 ≤ gr t k * e0 t c := fun c hc => by
    rcases hz.z t c hc with h | h
    · left; rw [h, Rat.mul_zero]
    · right; have := Rat.mul_le_mul_of_nonneg_left h (show 0 ≤ gr t k by grind); grind
  refine ⟨by', R, r1, r2, r3, ?_⟩
  by_cases ho : own t k = true
  · rw [if_pos ho]
    have hPb := piv_bd hz hk hP ho hPo
    obtain ⟨n1, n2⟩ := row_err hk r4 (B := 1001/1000) (p := fun c => gr t k * e0 t c) (a := fun c => gr t k * e0 t c) (E := fun c => u53 * ((301/100 * gr t k) * e0 t c)) hb1 hPb hA.bd
      (fun c hc => by
        have := Rat.mul_nonneg (Rat.le_of_lt hu) (hge c hc)
        have e : u53 * (301/100 * gr t k * e0 t c) = 301/100 * (u53 * (gr t k * e0 t c)) := by grind
        rw [e]; grind)
      (fun c h1 h2 => by
        rcases hgz c h2 with h | h
        · left; rw [h]; constructor <;> grind
        · right
          have := Rat.mul_le_mul_of_nonneg_left h (Rat.le_of_lt hu)
          have e : u53 * (301/100 * gr t k * e0 t c) = 301/100 * (u53 * (gr t k * e0 t c)) := by grind
          rw [e]
          have e2 : u53 * (2001/1000 * (1001/1000 * (gr t k * e0 t c)) + gr t k * e0 t c) = (1 + 2001/1000 * (1001/1000)) * (u53 * (gr t k * e0 t c)) := by grind
          rw [e2]; grind)
      (hA.bd k (Nat.le_refl _) (by omega)) (hPb k (Nat.le_refl _) (by omega))
      (by
        rcases hgz k (by omega) with h | h
        · left; rw [h]; constructor <;> grind
        · right
          have := Rat.mul_le_mul_of_nonneg_left h (Rat.le_of_lt hu)
          have h2 := Rat.mul_le_mul_of_nonneg_right hts (hge k (by omega))
          have e : u53 * (301/100 * gr t k * e0 t k) = 301/100 * (u53 * (gr t k * e0 t k)) := by grind
          rw [e]
          have e2 : 3 * u53 * (gr t k * e0 t k) = 3 * (u53 * (gr t k * e0 t k)) := by grind
          rw [e2]
          have h3 := Rat.mul_nonneg (Rat.le_of_lt htp) (hge k (by omega))
          have e3 : 1000 * tny * (gr t k * e0 t k) = 1000 * (tny * (gr t k * e0 t k)) := by grind
          rw [e3] at h2; grind)
    refine ⟨⟨r4.fin, fun c h1 h2 => ?_⟩, fun f => ?_⟩
    · have hn := n1 c (by omega) h2
      have hb2 := Bd.mul hb1 (hPb c (by omega) h2)
      have ha := hA.bd c (by omega) h2
      have hx := Rat.mul_le_mul_of_nonneg_right hul (hge c h2)
      show Bd (val (R c)) ((if own t k = true then 201/100 else 1001/1000) * gr t k * e0 t c)
      rw [if_pos ho]
      have e : u53 * (301/100 * gr t k * e0 t c) = 301/100 * (u53 * (gr t k * e0 t c)) := by grind
      rw [e] at hn
      have e2 : 201/100 * gr t k * e0 t c = 201/100 * (gr t k * e0 t c) := by grind
      rw [e2]
      have := hge c h2
      unfold Nr Bd at *
      constructor <;> grind
    · have := n2 f
      have e : (fun c => if c < k then 0 else u53 * (301/100 * gr t k * e0 t c)) = (fun c => u53 * ((if c < k then 0 else 301/100 * gr t k) * e0 t c)) := by
        funext c; split <;> grind
      rw [e] at this; exact this
  · rw [if_neg ho]
    have ho' : own t k = false := by simpa using ho
    have h6 : k < 6 := by
      apply Classical.byContradiction; intro hn
      unfold own at ho'; rw [if_neg (by omega), if_neg hn] at ho'; cases ho'
    have hA0 : val (A k) = 0 := by
      have h := hA.bd k (Nat.le_refl _) (by omega)
      rw [hz.zero t k h6 ho', Rat.mul_zero] at h
      exact bd_zero h rfl
    have hb0 := r4.none hA0
    have hb00 : Bd (val by') 0 := by rw [hb0]; unfold Bd; constructor <;> grind
    obtain ⟨n1, n2⟩ := row_err hk r4 (B := 0) (p := fun c => 10^30) (a := fun c => gr t k * e0 t c) (E := fun c => u53 * ((101/100 * gr t k) * e0 t c)) hb00 bP hA.bd
      (fun c hc => by
        have := Rat.mul_nonneg (Rat.le_of_lt hu) (hge c hc)
        have e : u53 * (101/100 * gr t k * e0 t c) = 101/100 * (u53 * (gr t k * e0 t c)) := by grind
        rw [e]; grind)
      (fun c h1 h2 => by
        rcases hgz c h2 with h | h
        · left; rw [h]; constructor <;> grind
        · right
          have := Rat.mul_le_mul_of_nonneg_left h (Rat.le_of_lt hu)
          have e : u53 * (101/100 * gr t k * e0 t c) = 101/100 * (u53 * (gr t k * e0 t c)) := by grind
          rw [e]
          have e2 : u53 * (2001/1000 * (0 * 10^30) + gr t k * e0 t c) = u53 * (gr t k * e0 t c) := by grind
          rw [e2]; grind)
      (hA.bd k (Nat.le_refl _) (by omega)) (bP k (Nat.le_refl _) (by omega))
      (by left; rw [hz.zero t k h6 ho']; constructor <;> grind)
    refine ⟨⟨r4.fin, fun c h1 h2 => ?_⟩, fun f => ?_⟩
    · have hn := n1 c (by omega) h2
      have ha := hA.bd c (by omega) h2
      have hx := Rat.mul_le_mul_of_nonneg_right hul (hge c h2)
      show Bd (val (R c)) ((if own t k = true then 201/100 else 1001/1000) * gr t k * e0 t c)
      rw [if_neg ho]
      have e : u53 * (101/100 * gr t k * e0 t c) = 101/100 * (u53 * (gr t k * e0 t c)) := by grind
      rw [e, hb0, Rat.zero_mul] at hn
      have e2 : 1001/1000 * gr t k * e0 t c = 1001/1000 * (gr t k * e0 t c) := by grind
      rw [e2]
      have := hge c h2
      unfold Nr Bd at *
      constructor <;> grind
    · have := n2 f
      have e : (fun c => if c < k then 0 else u53 * (101/100 * gr t k * e0 t c)) = (fun c => u53 * ((if c < k then 0 else 101/100 * gr t k) * e0 t c)) := by
        funext c; split <;> grind
      rw [e] at this; exact this

end Go.Proofs.Ytaadklfendegfaa

/- The way down of an elimination in floats: the pivots are never small, the rows stay near what they were. -/
namespace Go.Proofs.Ytaadklfendegfaa
open Go Fl

def swpT (τ : Nat → Bool) (k b : Nat) : Nat → Bool := fun i => if i = b then τ k else if i = k then τ b else τ i
abbrev bst (T : Nat → Nat → Nat) (k : Nat) : Nat := bestOf T k (8 - k)

def eL (e0 : Bool → Nat → Rat) (t : Bool) (k : Nat) : Nat → Rat := fun c => u53 * (lw t k c * e0 t c)
def dL (e0 : Bool → Nat → Rat) (t : Bool) (k : Nat) : Nat → Rat := fun c => u53 * ((if c < k then 0 else (if own t k then 301/100 else 101/100) * gr t k) * e0 t c)
theorem eL_succ (e0 : Bool → Nat → Rat) (t : Bool) (k : Nat) : eL e0 t (k + 1) = fun c => eL e0 t k c + dL e0 t k c := by
  funext c
  unfold eL dL
  show u53 * ((lw t k c + _) * _) = _
  grind
theorem lw_nonneg (t : Bool) (k c : Nat) : 0 ≤ lw t k c := by
  induction k with
  | zero => exact Rat.le_refl
  | succ k ih =>
    unfold lw
    have := gr_ge t k
    by_cases hc : c < k
    · rw [if_pos hc]; grind
    · rw [if_neg hc]; split <;> grind
theorem eL_nonneg {e0 : Bool → Nat → Rat} (hz : Sz e0) (t : Bool) (k c : Nat) (hc : c < 9) : 0 ≤ eL e0 t k c :=
  Rat.mul_nonneg (Rat.le_of_lt u53_pos) (Rat.mul_nonneg (lw_nonneg t k c) (hz.nonneg t hc))

structure LStep (e0 : Bool → Nat → Rat) (T : Nat → Nat → Nat) (τ : Nat → Bool) (T' : Nat → Nat → Nat) (τ' : Nat → Bool) (k : Nat) : Prop where
  top : T' k = swp T k (bst T k) k
  pty : τ' k = swpT τ k (bst T k) k
  ty : ∀ i, k < i → i < 8 → τ' i = swpT τ k (bst T k) i
  piv : 1/10000 ≤ val (T' k k) ∨ val (T' k k) ≤ -(1/10000)
  rows : ∀ i, k < i → i < 8 → ∃ by', fdiv (swp T k (bst T k) i k) (T' k k) = some by' ∧ RowR (swp T k (bst T k)) k i by' (T' i) ∧
    ∀ f, Bd (ph f (T' i) (k + 1) - (ph f (swp T k (bst T k) i) k - val by' * ph f (T' k) k)) (tot (wt f) (dL e0 (τ' i) k))

structure Chain (e0 : Bool → Nat → Rat) (M0 : Nat → Nat → Nat) (L : Nat → Nat → Nat → Nat) (τ : Nat → Nat → Bool) (k : Nat) : Prop where
  z : L 0 = M0
  row : ∀ j, j ≤ k → ∀ i, j ≤ i → i < 8 → LowRow e0 (τ j i) j (L j i)
  step : ∀ j, j < k → LStep e0 (L j) (τ j) (L (j + 1)) (τ (j + 1)) j

/-- weights that the pivots' rows do not see -/
def Kills (L : Nat → Nat → Nat → Nat) (f : Nat → Rat) (k : Nat) : Prop := ∀ j, j < k → ph f (L (j + 1) j) j = 0

theorem low_fun {e0 : Bool → Nat → Rat} (hz : Sz e0) {M0 : Nat → Nat → Nat} {L : Nat → Nat → Nat → Nat} {τ : Nat → Nat → Bool} {k : Nat} (hk : k ≤ 8) (h : Chain e0 M0 L τ k) {f : Nat → Rat} (hf : Kills L f k) {W : Nat → Rat} (hW : ∀ t j c, j ≤ 8 → c < 9 → eL e0 t j c ≤ W c) :
    ∀ j, j ≤ k → ∀ i0, i0 < 8 → (∃ i, j ≤ i ∧ i < 8 ∧ Bd (ph f (M0 i0) 0 - ph f (L j i) j) (tot (wt f) (eL e0 (τ j i) j))) ∨ Bd (ph f (M0 i0) 0) (tot (wt f) W) := by
  intro j
  induction j with
  | zero =>
    intro _ i0 h0
    left
    refine ⟨i0, Nat.zero_le _, h0, ?_⟩
    have := tot_nonneg (wt_nonneg f) (fun c hc => eL_nonneg hz (τ 0 i0) 0 c hc)
    rw [h.z]
    unfold Bd; constructor <;> grind
  | succ j ih =>
    intro hj i0 h0
    rcases ih (by omega) i0 h0 with ⟨i, i1, i2, i3⟩ | hr
    · have hs := h.step j (by omega)
      have hb1 := bestOf_ge (L j) j (8 - j)
      have hb2 := bestOf_lt (L j) j (8 - j) (by omega) (by omega)
      have hkill := hf j (by omega)
      have htop := hs.top
      by_cases hib : i = bst (L j) j
      · right
        have e : swp (L j) j (bst (L j) j) j = L j i := by
          unfold swp
          by_cases e : j = bst (L j) j
          · rw [if_pos e, hib, ← e]
          · rw [if_neg e, if_pos rfl, hib]
        rw [htop, e] at hkill
        rw [hkill] at i3
        have := tot_mono (F := wt f) (E := eL e0 (τ j i) j) (E' := W) (wt_nonneg f) (fun c hc => hW _ _ c (by omega) hc)
        unfold Bd at *; constructor <;> grind
      · left
        obtain ⟨i', j1, j2, j3, j4⟩ : ∃ i', j < i' ∧ i' < 8 ∧ swp (L j) j (bst (L j) j) i' = L j i ∧ τ (j + 1) i' = τ j i := by
          by_cases e : i = j
          · have hlt : j < bst (L j) j := by
              have : j ≤ bst (L j) j := hb1
              omega
            refine ⟨bst (L j) j, hlt, hb2, ?_, ?_⟩
            · unfold swp; rw [if_pos rfl, e]
            · rw [hs.ty _ hlt hb2]; unfold swpT; rw [if_pos rfl, e]
          · refine ⟨i, by omega, i2, ?_, ?_⟩
            · unfold swp; rw [if_neg hib, if_neg e]
            · rw [hs.ty i (by omega) i2]; unfold swpT; rw [if_neg hib, if_neg e]
        obtain ⟨by', r1, r2, r3⟩ := hs.rows i' j1 j2
        have hr := r3 f
        rw [hkill, j3, j4] at hr
        refine ⟨i', by omega, j2, ?_⟩
        rw [j4, eL_succ, tot_add]
        unfold Bd at *; constructor <;> grind
    · exact Or.inr hr

theorem ph_congr {f g : Nat → Rat} {R : Nat → Nat} {j : Nat} (h : ∀ c, j ≤ c → c < 9 → f c = g c) : ph f R j = ph g R j := by
  have key : ∀ c, c < 9 → (if j ≤ c then f c * val (R c) else 0) = (if j ≤ c then g c * val (R c) else 0) := by
    intro c hc
    by_cases hjc : j ≤ c
    · rw [if_pos hjc, if_pos hjc, h c hjc hc]
    · rw [if_neg hjc, if_neg hjc]
  unfold ph
  rw [key 0 (by omega), key 1 (by omega), key 2 (by omega), key 3 (by omega), key 4 (by omega), key 5 (by omega), key 6 (by omega), key 7 (by omega), key 8 (by omega)]

theorem ph_one (R : Nat → Nat) {k c : Nat} (h1 : k ≤ c) (h2 : c < 9) : ph (fun j => if j = c then 1 else 0) R k = val (R c) := by
  unfold ph
  rcases (show c = 0 ∨ c = 1 ∨ c = 2 ∨ c = 3 ∨ c = 4 ∨ c = 5 ∨ c = 6 ∨ c = 7 ∨ c = 8 by omega) with rfl | rfl | rfl | rfl | rfl | rfl | rfl | rfl | rfl <;> simp [h1] <;> try grind

theorem ph_unit {f : Nat → Rat} (R : Nat → Nat) {k c : Nat} (h1 : k ≤ c) (h2 : c < 9) (hc : f c = 1) (h0 : ∀ j, k ≤ j → j ≠ c → f j = 0) : ph f R k = val (R c) := by
  rw [← ph_one R h1 h2]
  refine ph_congr fun j hj _ => ?_
  by_cases e : j = c
  · rw [if_pos e, e, hc]
  · rw [if_neg e, h0 j hj e]

theorem back_sub (P : Nat → Nat → Nat) {k : Nat} (hk : k ≤ 8) (hd : ∀ j, j < k → val (P j j) ≠ 0) (g : Nat → Rat) : ∀ n, n ≤ k → ∃ f : Nat → Rat, (∀ c, k ≤ c → f c = g c) ∧ ∀ j, k - n ≤ j → j < k → ph f (P j) j = 0 := by
  intro n
  induction n with
  | zero => exact fun _ => ⟨g, fun _ _ => rfl, fun j h1 h2 => by omega⟩
  | succ n ih =>
    intro hn
    obtain ⟨f, f1, f2⟩ := ih (by omega)
    have hne := hd (k - n - 1) (by omega)
    refine ⟨fun c => if c = k - n - 1 then -(ph f (P (k - n - 1)) (k - n - 1 + 1)) / val (P (k - n - 1) (k - n - 1)) else f c, fun c hc => ?_, fun j h1 h2 => ?_⟩
    · show (if c = k - n - 1 then _ else f c) = _
      rw [if_neg (by omega)]; exact f1 c hc
    · by_cases e : j = k - n - 1
      · rw [e, ph_split _ _ (show k - n - 1 < 8 by omega), if_pos rfl]
        have e2 : ph (fun c => if c = k - n - 1 then -(ph f (P (k - n - 1)) (k - n - 1 + 1)) / val (P (k - n - 1) (k - n - 1)) else f c) (P (k - n - 1)) (k - n - 1 + 1) = ph f (P (k - n - 1)) (k - n - 1 + 1) :=
          ph_congr fun c hc _ => by rw [if_neg (by omega)]
        rw [e2, Rat.div_def, Rat.mul_assoc, Rat.inv_mul_cancel _ hne, Rat.mul_one]
        grind
      · rw [ph_congr (g := f) (fun c hc _ => by rw [if_neg (by omega)])]
        exact f2 j (by omega) h2

/-- the error of the value of a row that has been a pivot's, in parts of the columns' bounds -/
def uw (t : Bool) : Nat → Nat → Rat
  | 0, _ => 0
  | k + 1, c => uw t k c + (if k = 0 ∨ c < k then 0 else (if own t k then 205/100 * gr t k else 0) + 103/100 * (gr true k + (if c = 8 then 1 else 0)))
def eU (e0 : Bool → Nat → Rat) (t : Bool) (k : Nat) : Nat → Rat := fun c => u53 * (uw t k c * e0 t c)

def KK (K : Nat → Rat) : Nat → Rat := fun c => if c < 8 then K c else 0

/-- the sizes that the estimate needs: columns' bounds, the inverse's rows, the errors -/
structure Par (e0 : Bool → Nat → Rat) (K Wl Wu : Nat → Rat) : Prop where
  sz : Sz e0
  Kp : ∀ r, r < 8 → 0 < K r
  Kh : ∀ r, r < 8 → K r ≤ 5000
  wl0 : ∀ c, c < 9 → 0 ≤ Wl c
  wu0 : ∀ c, c < 9 → 0 ≤ Wu c
  wl : ∀ t j c, j ≤ 8 → c < 9 → eL e0 t j c ≤ Wl c
  wu : ∀ t j c, j ≤ 8 → c < 9 → eU e0 t j c ≤ Wu c
  om : tot (KK K) Wl + tot (KK K) Wu ≤ 1/1000
  omk : ∀ c, c < 8 → K c * (Wl c + Wu c) ≤ 1/1000
  sm : ∀ c, c < 9 → Wl c + Wu c ≤ 1/10^6

/-- rows that are all small make small weights -/
def Inve (M0 : Nat → Nat → Nat) (K : Nat → Rat) : Prop := ∀ (f : Nat → Rat) (m : Rat), (∀ i, i < 8 → Bd (ph f (M0 i) 0 - f 8 * val (M0 i 8)) m) → ∀ r, r < 8 → Bd (f r) (K r * m)

theorem low_vec {e0 : Bool → Nat → Rat} {K Wl Wu : Nat → Rat} (hp : Par e0 K Wl Wu) {M0 : Nat → Nat → Nat} (hi : Inve M0 K) {L : Nat → Nat → Nat → Nat} {τ : Nat → Nat → Bool} {k : Nat} (hk : k ≤ 8) (h : Chain e0 M0 L τ k) {c : Nat} (h1 : k ≤ c) (h2 : c < 9)
    {μ s : Rat} (hμ0 : 0 ≤ μ) (hμ : ∀ i, k ≤ i → i < 8 → Bd (val (L k i c)) μ) (hs0 : 0 ≤ s) (hs : c = 8 → ∀ i, i < 8 → Bd (val (M0 i 8)) s) :
    ∃ f Q, f c = 1 ∧ (∀ c', k ≤ c' → c' ≠ c → f c' = 0) ∧ Kills L f k ∧ 0 ≤ Q ∧ 999 * Q ≤ 1000 * (μ + s + Wl c) ∧ (∀ r, r < 8 → Bd (f r) (K r * Q)) ∧ (∀ i, i < 8 → Bd (ph f (M0 i) 0) (μ + tot (wt f) Wl)) ∧
      ∀ W : Nat → Rat, (∀ c, c < 9 → 0 ≤ W c) → tot (wt f) W ≤ tot (KK K) W * Q + W c := by
  obtain ⟨f, f1, f2⟩ := back_sub (fun j => L (j + 1) j) hk (fun j hj => by rcases (h.step j hj).piv with h | h <;> grind) (fun j => if j = c then 1 else 0) k (Nat.le_refl _)
  have hc1 : f c = 1 := by rw [f1 c h1, if_pos rfl]
  have hc0 : ∀ c', k ≤ c' → c' ≠ c → f c' = 0 := fun c' a b => by rw [f1 c' a, if_neg b]
  have hkill : Kills L f k := fun j hj => f2 j (by omega) hj
  have hfun := low_fun hp.sz hk h hkill hp.wl k (Nat.le_refl _)
  have hT := tot_nonneg (wt_nonneg f) hp.wl0
  have hrows : ∀ i, i < 8 → Bd (ph f (M0 i) 0) (μ + tot (wt f) Wl) := by
    intro i0 h0
    rcases hfun i0 h0 with ⟨i, i1, i2, i3⟩ | hr
    · rw [ph_unit (L k i) h1 h2 hc1 hc0] at i3
      have hm := hμ i i1 i2
      have hle := tot_mono (F := wt f) (E := eL e0 (τ k i) k) (E' := Wl) (wt_nonneg f) (fun c hc => hp.wl _ _ c hk hc)
      unfold Bd at *; constructor <;> grind
    · exact hr.mono (by grind)
  have hb : ∀ r, r < 8 → Bd (f r) (K r * (μ + tot (wt f) Wl + s)) := by
    refine hi f _ fun i h0 => ?_
    have hr := hrows i h0
    by_cases e : c = 8
    · have h8 := hs e i h0
      have : f 8 = 1 := by rw [← e]; exact hc1
      rw [this]
      unfold Bd at *; constructor <;> grind
    · have : f 8 = 0 := hc0 8 hk (fun h => e h.symm)
      rw [this]
      unfold Bd at *; constructor <;> grind
  have hQ0 : 0 ≤ μ + tot (wt f) Wl + s := by grind
  have hW : ∀ W : Nat → Rat, (∀ c, c < 9 → 0 ≤ W c) → tot (wt f) W ≤ tot (KK K) W * (μ + tot (wt f) Wl + s) + W c := by
    intro W hW0
    rw [← tot_one W h2, ← tot_sc, ← tot_add']
    refine tot_le fun j hj => Rat.mul_le_mul_of_nonneg_right ?_ (hW0 j hj)
    have hkk : 0 ≤ KK K j * (μ + tot (wt f) Wl + s) := by
      unfold KK
      by_cases h8 : j < 8
      · rw [if_pos h8]; exact Rat.mul_nonneg (Rat.le_of_lt (hp.Kp j h8)) hQ0
      · rw [if_neg h8, Rat.zero_mul]; exact Rat.le_refl
    by_cases hjk : j < k
    · have hb' := ab_le (hb j (by omega))
      have e : KK K j = K j := by unfold KK; rw [if_pos (by omega)]
      rw [e] at hkk ⊢
      show ab (f j) ≤ _
      split <;> grind
    · by_cases e : j = c
      · rw [if_pos e]
        show ab (f j) ≤ _
        have : ab (f j) = 1 := by rw [e, hc1]; decide +kernel
        grind
      · rw [if_neg e]
        show ab (f j) ≤ _
        have : ab (f j) = 0 := by rw [hc0 j (by omega) e]; decide +kernel
        grind
  have hself := hW Wl hp.wl0
  have hom := hp.om
  have hku : 0 ≤ tot (KK K) Wu := tot_nonneg (fun c hc => by
    unfold KK
    by_cases h8 : c < 8
    · rw [if_pos h8]; exact Rat.le_of_lt (hp.Kp c h8)
    · rw [if_neg h8]; exact Rat.le_refl) hp.wu0
  have h3 := Rat.mul_le_mul_of_nonneg_right (show tot (KK K) Wl ≤ 1/1000 by grind) hQ0
  exact ⟨f, _, hc1, hc0, hkill, hQ0, by grind, hb, hrows, hW⟩

/-- the pivot that is chosen is not small -/
theorem piv_lo {e0 : Bool → Nat → Rat} {K Wl Wu : Nat → Rat} (hp : Par e0 K Wl Wu) {M0 : Nat → Nat → Nat} (hi : Inve M0 K) {L : Nat → Nat → Nat → Nat} {τ : Nat → Nat → Bool} {k : Nat} (hk : k < 8) (h : Chain e0 M0 L τ k) :
    (∀ i, k ≤ i → i < 8 → Bd (val (L k i k)) (ab (val (L k (bst (L k) k) k)))) ∧ 998/1000 ≤ K k * ab (val (L k (bst (L k) k) k)) := by
  have hlt := bestOf_lt (L k) k (8 - k) (by omega) hk
  have hge := bestOf_ge (L k) k (8 - k)
  have hall : ∀ i, k ≤ i → i < 8 → Bd (val (L k i k)) (ab (val (L k (bst (L k) k) k))) := by
    intro i i1 i2
    -- the rows above are not looked at: the column is taken as nothing there
    have key := best_max (M := fun r c => if k ≤ r then L k r c else 0) (k := k) (fun r hr => by
      show Fl.fin (if k ≤ r then L k r k else 0)
      split
      · rename_i hkr; exact (h.row k (Nat.le_refl _) r hkr hr).fin k (by omega)
      · exact ⟨by decide, _, _, _, (by rfl : Ieee.double.read 0 = .number false 0 _)⟩) (8 - k) (by omega) hk (i - k) (by omega)
    have e : ∀ n, bestOf (fun r c => if k ≤ r then L k r c else 0) k n = bestOf (L k) k n := by
      intro n
      induction n with
      | zero => rfl
      | succ n ih =>
        unfold bestOf
        rw [ih]
        have g := bestOf_ge (L k) k n
        rw [if_pos (show k ≤ k + n by omega), if_pos g]
    obtain ⟨B, b1, b2⟩ := key
    rw [e] at b2
    have ek : k + (i - k) = i := by omega
    rw [ek] at b1
    simp only [if_pos i1] at b1
    simp only [if_pos hge] at b2
    have := ab_bd (val (L k (bst (L k) k) k))
    show Bd _ (ab (val (L k (bestOf (L k) k (8 - k)) k)))
    unfold Bd at *
    constructor <;> grind
  refine ⟨hall, ?_⟩
  obtain ⟨f, Q, q1, q2, q3, q4, q5, q6, _⟩ := low_vec hp hi (by omega) h (Nat.le_refl k) (by omega) (ab_nonneg _) hall Rat.le_refl (fun e => by omega)
  have h1 := (q6 k hk).2
  rw [q1] at h1
  have h2 := Rat.mul_le_mul_of_nonneg_left q5 (Rat.le_of_lt (hp.Kp k hk))
  have h3 := hp.omk k hk
  have h4 := Rat.mul_nonneg (Rat.le_of_lt (hp.Kp k hk)) (hp.wu0 k (by omega))
  grind

end Go.Proofs.Ytaadklfendegfaa

/- The way down exists; the rows above a pivot stay in bounds. -/
namespace Go.Proofs.Ytaadklfendegfaa
open Go Fl

theorem swp_at (T : Nat → Nat → Nat) (k b : Nat) : swp T k b k = T b := by
  unfold swp
  by_cases e : k = b
  · rw [if_pos e, e]
  · rw [if_neg e, if_pos rfl]
theorem swpT_at (τ : Nat → Bool) (k b : Nat) : swpT τ k b k = τ b := by
  unfold swpT
  by_cases e : k = b
  · rw [if_pos e, e]
  · rw [if_neg e, if_pos rfl]

theorem far_of {K p : Rat} (hK : K ≤ 5000) (h : 998/1000 ≤ K * ab p) : 1/10000 ≤ p ∨ p ≤ -(1/10000) := by
  have h1 := Rat.mul_le_mul_of_nonneg_right hK (ab_nonneg p)
  unfold ab at *
  by_cases h0 : 0 ≤ p
  · rw [if_pos h0] at *; left; grind
  · rw [if_neg h0] at *; right; grind

theorem chain_step {e0 : Bool → Nat → Rat} {K Wl Wu : Nat → Rat} (hp : Par e0 K Wl Wu) {M0 : Nat → Nat → Nat} (hi : Inve M0 K) {L : Nat → Nat → Nat → Nat} {τ : Nat → Nat → Bool} {k : Nat} (hk : k < 8) (h : Chain e0 M0 L τ k) :
    ∃ T' τ', LStep e0 (L k) (τ k) T' τ' k ∧ ∀ i, k + 1 ≤ i → i < 8 → LowRow e0 (τ' i) (k + 1) (T' i) := by
  obtain ⟨hall, hlo⟩ := piv_lo hp hi hk h
  have hlt := bestOf_lt (L k) k (8 - k) (by omega) hk
  have hge := bestOf_ge (L k) k (8 - k)
  have hrow := h.row k (Nat.le_refl _)
  have hfar := far_of (hp.Kh k hk) hlo
  have hN : ∀ i, k ≤ i → i < 8 → LowRow e0 (swpT (τ k) k (bst (L k) k) i) k (swp (L k) k (bst (L k) k) i) := by
    intro i i1 i2
    unfold swp swpT
    by_cases e : i = bst (L k) k
    · rw [if_pos e, if_pos e]; exact hrow k (Nat.le_refl _) hk
    · rw [if_neg e, if_neg e]
      by_cases e2 : i = k
      · rw [if_pos e2, if_pos e2]; exact hrow _ hge hlt
      · rw [if_neg e2, if_neg e2]; exact hrow i i1 i2
  have hNb : ∀ i, k ≤ i → i < 8 → Bd (val (swp (L k) k (bst (L k) k) i k)) (ab (val (swp (L k) k (bst (L k) k) k k))) := by
    intro i i1 i2
    rw [swp_at]
    unfold swp
    by_cases e : i = bst (L k) k
    · rw [if_pos e]; exact hall k (Nat.le_refl _) hk
    · rw [if_neg e]
      by_cases e2 : i = k
      · rw [if_pos e2]; exact hall _ hge hlt
      · rw [if_neg e2]; exact hall i i1 i2
  have hfar' : 1/10000 ≤ val (swp (L k) k (bst (L k) k) k k) ∨ val (swp (L k) k (bst (L k) k) k k) ≤ -(1/10000) := by rw [swp_at]; exact hfar
  have cell : ∀ i, ∃ by' R, k < i → i < 8 → fdiv (swp (L k) k (bst (L k) k) i k) (swp (L k) k (bst (L k) k) k k) = some by' ∧ RowR (swp (L k) k (bst (L k) k)) k i by' R ∧ LowRow e0 (swpT (τ k) k (bst (L k) k) i) (k + 1) R ∧
      ∀ f, Bd (ph f R (k + 1) - (ph f (swp (L k) k (bst (L k) k) i) k - val by' * ph f (swp (L k) k (bst (L k) k) k) k)) (tot (wt f) (dL e0 (swpT (τ k) k (bst (L k) k) i) k)) := by
    intro i
    by_cases hc : k < i ∧ i < 8
    · obtain ⟨by', R, r1, r2, r3, r4, r5⟩ := low_row hp.sz hk (hN i (by omega) hc.2) (hN k (Nat.le_refl _) hk) hfar' (hNb i (by omega) hc.2)
      exact ⟨by', R, fun _ _ => ⟨r1, ⟨r2, r3⟩, r4, r5⟩⟩
    · exact ⟨0, fun _ => 0, fun a b => absurd ⟨a, b⟩ hc⟩
  obtain ⟨bs, hb⟩ := Classical.axiomOfChoice cell
  obtain ⟨Rs, hR⟩ := Classical.axiomOfChoice hb
  refine ⟨fun i => if k < i then Rs i else swp (L k) k (bst (L k) k) i, swpT (τ k) k (bst (L k) k), ⟨?_, rfl, fun _ _ _ => rfl, ?_, ?_⟩, ?_⟩
  · show (if k < k then _ else _) = _; rw [if_neg (by omega)]
  · show 1/10000 ≤ val ((if k < k then Rs k else swp (L k) k (bst (L k) k) k) k) ∨ _ ≤ _
    rw [if_neg (by omega)]; exact hfar'
  · intro i i1 i2
    obtain ⟨c1, c2, c3, c4⟩ := hR i i1 i2
    rw [if_neg (show ¬ k < k by omega), if_pos i1]
    exact ⟨bs i, c1, c2, c4⟩
  · intro i i1 i2
    show LowRow e0 _ (k + 1) (if k < i then Rs i else _)
    rw [if_pos (show k < i by omega)]
    exact (hR i (by omega) i2).2.2.1

theorem chain_ex {e0 : Bool → Nat → Rat} {K Wl Wu : Nat → Rat} (hp : Par e0 K Wl Wu) {M0 : Nat → Nat → Nat} (hi : Inve M0 K) {ty : Nat → Bool} (h0 : ∀ i, i < 8 → LowRow e0 (ty i) 0 (M0 i)) :
    ∀ k, k ≤ 8 → ∃ L τ, Chain e0 M0 L τ k := by
  intro k
  induction k with
  | zero =>
    refine fun _ => ⟨fun _ => M0, fun _ => ty, rfl, fun j hj i _ h8 => ?_, fun j hj => by omega⟩
    obtain rfl : j = 0 := by omega
    exact h0 i h8
  | succ k ih =>
    intro hk
    obtain ⟨L, τ, h⟩ := ih (by omega)
    obtain ⟨T', τ', s1, s2⟩ := chain_step hp hi (by omega) h
    refine ⟨fun j => if j ≤ k then L j else T', fun j => if j ≤ k then τ j else τ', ?_, ?_, ?_⟩
    · show (if 0 ≤ k then L 0 else T') = M0; rw [if_pos (Nat.zero_le _)]; exact h.z
    · intro j hj i i1 i2
      by_cases e : j ≤ k
      · rw [if_pos e, if_pos e]; exact h.row j e i i1 i2
      · obtain rfl : j = k + 1 := by omega
        rw [if_neg e, if_neg e]; exact s2 i i1 i2
    · intro j hj
      by_cases e : j < k
      · rw [if_pos (by omega), if_pos (by omega), if_pos (by omega), if_pos (by omega)]; exact h.step j e
      · obtain rfl : j = k := by omega
        rw [if_pos (Nat.le_refl _), if_pos (Nat.le_refl _), if_neg (by omega), if_neg (by omega)]; exact s1

theorem Chain.mono {e0 : Bool → Nat → Rat} {M0 : Nat → Nat → Nat} {L : Nat → Nat → Nat → Nat} {τ : Nat → Nat → Bool} {k n : Nat} (h : Chain e0 M0 L τ n) (hk : k ≤ n) : Chain e0 M0 L τ k :=
  ⟨h.z, fun j hj => h.row j (by omega), fun j hj => h.step j (by omega)⟩

/-- the pivots' rows -/
theorem Chain.prow {e0 : Bool → Nat → Rat} {M0 : Nat → Nat → Nat} {L : Nat → Nat → Nat → Nat} {τ : Nat → Nat → Bool} {k : Nat} (h : Chain e0 M0 L τ 8) (hk : k < 8) : LowRow e0 (τ (k + 1) k) k (L (k + 1) k) := by
  have hs := h.step k hk
  rw [hs.top, hs.pty, swp_at, swpT_at]
  exact h.row k (by omega) _ (bestOf_ge _ _ _) (bestOf_lt _ _ _ (by omega) hk)

theorem bd_div {x p X : Rat} (hp : p ≠ 0) (h : Bd x (X * ab p)) : Bd (x / p) X := by
  have hm : x / p * p = x := by rw [Rat.div_def, Rat.mul_assoc, Rat.inv_mul_cancel _ hp, Rat.mul_one]
  generalize x / p = q at *
  subst hm
  unfold Bd ab at *
  by_cases h0 : 0 ≤ p
  · rw [if_pos h0] at h
    constructor
    · apply Classical.byContradiction; intro hn
      have := Rat.mul_pos (show 0 < -q - X by grind) (show 0 < p by grind); grind
    · apply Classical.byContradiction; intro hn
      have := Rat.mul_pos (show 0 < q - X by grind) (show 0 < p by grind); grind
  · rw [if_neg h0] at h
    constructor
    · apply Classical.byContradiction; intro hn
      have := Rat.mul_pos (show 0 < -q - X by grind) (show 0 < -p by grind); grind
    · apply Classical.byContradiction; intro hn
      have := Rat.mul_pos (show 0 < q - X by grind) (show 0 < -p by grind); grind

def dU (e0 : Bool → Nat → Rat) (t : Bool) (k : Nat) : Nat → Rat := fun c => u53 * ((if k = 0 ∨ c < k then 0 else (if own t k then 205/100 * gr t k else 0) + 103/100 * (gr true k + (if c = 8 then 1 else 0))) * e0 t c)
theorem eU_succ (e0 : Bool → Nat → Rat) (t : Bool) (k : Nat) : eU e0 t (k + 1) = fun c => eU e0 t k c + dU e0 t k c := by
  funext c
  unfold eU dU
  show u53 * ((uw t k c + _) * _) = _
  grind
theorem tot_mulr (F E : Nat → Rat) (D : Rat) : tot F (fun c => D * E c) = D * tot F E := by unfold tot; grind

/-- what is known of a row that has been a pivot's, ahead of round k -/
structure UpRow (e0 : Bool → Nat → Rat) (K : Nat → Rat) (L : Nat → Nat → Nat → Nat) (r : Nat) (t : Bool) (k : Nat) (R : Nat → Nat) : Prop where
  fin : ∀ c, c < 9 → Fl.fin (R c)
  same : R r = L (r + 1) r r
  zero : ∀ c, k ≤ c → c < 9 → e0 t c = 0 → val (R c) = 0
  near : ∀ f, Kills L f k → Bd (f r * val (L (r + 1) r r) + ph f R k) (K r * ab (val (L (r + 1) r r)) * tot (wt f) (eU e0 t k))

theorem e0_top {e0 : Bool → Nat → Rat} (hz : Sz e0) {t t' : Bool} {c : Nat} (hc : c < 9) (h : e0 t c ≠ 0) : e0 t' c ≤ e0 t c := by
  by_cases h6 : c < 6
  · by_cases ho : own t' c = true
    · by_cases ho2 : own t c = true
      · rw [own_same h6 ho ho2]; exact Rat.le_refl
      · exact absurd (hz.zero t c h6 (by simpa using ho2)) h
    · rw [hz.zero t' c h6 (by simpa using ho)]; exact hz.nonneg t hc
  · rw [hz.same t' t c (by omega) hc]; exact Rat.le_refl

theorem lim {D Q X Y : Rat} (hD : 0 ≤ D) (h : Q ≤ X) (h2 : X ≤ Y) : D * Q ≤ D * Y := Rat.mul_le_mul_of_nonneg_left (Rat.le_trans h h2) hD

/-- an entry of a row that has been a pivot's, by the lower rows' entries of its column -/
theorem up_entry {e0 : Bool → Nat → Rat} {K Wl Wu : Nat → Rat} (hp : Par e0 K Wl Wu) {M0 : Nat → Nat → Nat} (hi : Inve M0 K) {L : Nat → Nat → Nat → Nat} {τ : Nat → Nat → Bool} (h : Chain e0 M0 L τ 8) {r k : Nat} (hrk : r < k) (hk : k ≤ 8) {t : Bool} {R : Nat → Nat} (hR : UpRow e0 K L r t k R)
    {c : Nat} (h1 : k ≤ c) (h2 : c < 9) {μ s : Rat} (hμ0 : 0 ≤ μ) (hμ : ∀ i, k ≤ i → i < 8 → Bd (val (L k i c)) μ) (hs0 : 0 ≤ s) (hs : c = 8 → ∀ i, i < 8 → Bd (val (M0 i 8)) s) :
    Bd (val (R c)) (K r * ab (val (L (r + 1) r r)) * (1003/1000 * (μ + s) + 2 * (Wl c + Wu c))) := by
  obtain ⟨f, Q, f1, f2, f3, f4, f5, f6, f7, f8⟩ := low_vec hp hi hk (h.mono hk) h1 h2 hμ0 hμ hs0 hs
  have hn := hR.near f f3
  rw [ph_unit R h1 h2 f1 f2] at hn
  have hb := Bd.mul (f6 r (by omega)) (ab_bd (val (L (r + 1) r r)))
  have hD : 0 ≤ K r * ab (val (L (r + 1) r r)) := Rat.mul_nonneg (Rat.le_of_lt (hp.Kp r (by omega))) (ab_nonneg _)
  have hle := tot_mono (F := wt f) (E := eU e0 t k) (E' := Wu) (wt_nonneg f) (fun c hc => hp.wu t k c hk hc)
  have h8 := f8 Wu hp.wu0
  have hom := hp.om
  have hkl : 0 ≤ tot (KK K) Wl := tot_nonneg (fun c hc => by
    unfold KK
    by_cases h8 : c < 8
    · rw [if_pos h8]; exact Rat.le_of_lt (hp.Kp c h8)
    · rw [if_neg h8]; exact Rat.le_refl) hp.wl0
  have h9 := Rat.mul_le_mul_of_nonneg_right (show tot (KK K) Wu ≤ 1/1000 by grind) f4
  have hlo := hp.wl0 c h2
  have hlo2 := hp.wu0 c h2
  have hfin : Q + tot (wt f) (eU e0 t k) ≤ 1003/1000 * (μ + s) + 2 * (Wl c + Wu c) := by grind
  have hfin' := Rat.mul_le_mul_of_nonneg_left hfin hD
  have e : K r * Q * ab (val (L (r + 1) r r)) = K r * ab (val (L (r + 1) r r)) * Q := by grind
  rw [e] at hb
  rw [Rat.mul_add] at hfin'
  unfold Bd at *
  constructor <;> grind

end Go.Proofs.Ytaadklfendegfaa

/- A round of a row that has been a pivot's: it exists and stays in bounds. -/
namespace Go.Proofs.Ytaadklfendegfaa
open Go Fl

def gU (e0 : Bool → Nat → Rat) (t : Bool) (k c : Nat) : Rat := (gr true k + (if c = 8 then 1 else 0)) * e0 t c

theorem gU_nonneg {e0 : Bool → Nat → Rat} (hz : Sz e0) (t : Bool) (k : Nat) {c : Nat} (hc : c < 9) : 0 ≤ gU e0 t k c := by
  have := gr_ge true k
  exact Rat.mul_nonneg (by split <;> grind) (hz.nonneg t hc)
theorem gU_cases {e0 : Bool → Nat → Rat} (hz : Sz e0) (t : Bool) (k : Nat) {c : Nat} (hc : c < 9) : (e0 t c = 0 ∧ gU e0 t k c = 0) ∨ (e0 t c ≠ 0 ∧ 1 ≤ gU e0 t k c) := by
  have hg := gr_ge true k
  rcases hz.z t c hc with h | h
  · left; exact ⟨h, by unfold gU; rw [h, Rat.mul_zero]⟩
  · right
    refine ⟨by grind, ?_⟩
    have h1 := Rat.mul_le_mul_of_nonneg_left h (show 0 ≤ gr true k + (if c = 8 then (1:Rat) else 0) by split <;> grind)
    have h2 : 1 ≤ gr true k + (if c = 8 then (1:Rat) else 0) := by split <;> grind
    unfold gU; grind
theorem gU_hi {e0 : Bool → Nat → Rat} (hz : Sz e0) (t : Bool) {k c : Nat} (hk : k < 8) (hc : c < 9) : gU e0 t k c ≤ 41 * 10^6 := by
  have h1 := Rat.mul_le_mul_of_nonneg_left (hz.hi t c hc) (show 0 ≤ gr true k + (if c = 8 then (1:Rat) else 0) by have := gr_ge true k; split <;> grind)
  have h2 := Rat.mul_le_mul_of_nonneg_right (show gr true k + (if c = 8 then (1:Rat) else 0) ≤ 41 by have := gr_le true (show k ≤ 8 by omega); split <;> grind) (show (0:Rat) ≤ 10^6 by decide +kernel)
  exact Rat.le_trans h1 h2
theorem gU_own {e0 : Bool → Nat → Rat} (hz : Sz e0) (t : Bool) {k c : Nat} (hk : k < 8) (hc : c < 9) : gr t k * e0 t c ≤ gU e0 t k c := by
  refine Rat.mul_le_mul_of_nonneg_right ?_ (hz.nonneg t hc)
  have := gr_true t (show k ≤ 8 by omega)
  split <;> grind

theorem up_step {e0 : Bool → Nat → Rat} {K Wl Wu : Nat → Rat} (hp : Par e0 K Wl Wu) {M0 : Nat → Nat → Nat} (hi : Inve M0 K) (h8 : ∀ i, i < 8 → Bd (val (M0 i 8)) (e0 true 8)) {L : Nat → Nat → Nat → Nat} {τ : Nat → Nat → Bool} (h : Chain e0 M0 L τ 8) {r k : Nat} (hrk : r < k) (hk : k < 8) {t : Bool} {R : Nat → Nat} (hR : UpRow e0 K L r t k R) :
    ∃ by' R', fdiv (R k) (L (k + 1) k k) = some by' ∧ (∀ j, j < k → R' j = R j) ∧ (∀ j, k ≤ j → j < 9 → ∃ t, fmul by' (L (k + 1) k j) = some t ∧ fsub (R j) t = some (R' j)) ∧ UpRow e0 K L r t (k + 1) R' := by
  have hz := hp.sz
  have hPr := h.prow hk
  have hpiv := (h.step k hk).piv
  have hne : val (L (k + 1) k k) ≠ 0 := by rcases hpiv with h | h <;> grind
  have hPo := piv_own hz hk hPr hpiv
  obtain ⟨hall, hplo⟩ := piv_lo hp hi hk (h.mono (show k ≤ 8 by omega))
  have ep : L (k + 1) k = L k (bst (L k) k) := by rw [(h.step k hk).top, swp_at]
  rw [← ep] at hall hplo
  have hD1 : 998/1000 ≤ K r * ab (val (L (r + 1) r r)) := by
    have hr8 : r < 8 := by omega
    have := (piv_lo hp hi hr8 (h.mono (show r ≤ 8 by omega))).2
    have er : L (r + 1) r = L r (bst (L r) r) := by rw [(h.step r hr8).top, swp_at]
    rw [← er] at this
    exact this
  have hD2 : K r * ab (val (L (r + 1) r r)) ≤ 5000 * (40 * 10^6) := by
    have hr8 : r < 8 := by omega
    have h1 := ab_le ((h.prow hr8).bd r (Nat.le_refl _) (by omega))
    have h2 := Rat.le_trans h1 (gr_hi hz _ hr8 (show r < 9 by omega))
    have h3 := Rat.mul_le_mul_of_nonneg_left h2 (Rat.le_of_lt (hp.Kp r hr8))
    have h4 := Rat.mul_le_mul_of_nonneg_right (hp.Kh r hr8) (show (0:Rat) ≤ 40 * 10^6 by decide +kernel)
    exact Rat.le_trans h3 h4
  have hgen := fun c (h1 : k ≤ c) (h2 : c < 9) μ s => up_entry hp hi h hrk (show k ≤ 8 by omega) hR h1 h2 (μ := μ) (s := s)
  have hnear := hR.near
  obtain ⟨D, hDe⟩ : ∃ D, D = K r * ab (val (L (r + 1) r r)) := ⟨_, rfl⟩
  rw [← hDe] at hD1 hD2 hnear
  rw [← hDe] at hgen
  have hD0 : 0 ≤ D := by grind
  have hDG : ∀ c, c < 9 → 0 ≤ D * gU e0 t k c := fun c hc => Rat.mul_nonneg hD0 (gU_nonneg hz t k hc)
  -- the entries
  have hent : ∀ c, k ≤ c → c < 9 → Bd (val (R c)) (102/100 * (D * gU e0 t k c)) := by
    intro c h1 h2
    rcases gU_cases hz t k h2 with ⟨z1, z2⟩ | ⟨z1, z2⟩
    · rw [hR.zero c h1 h2 z1, z2]; unfold Bd; constructor <;> grind
    · have hg0 : 0 ≤ gr true k * e0 t c := Rat.mul_nonneg (by have := gr_ge true k; grind) (hz.nonneg t h2)
      have key := hgen c h1 h2 (gr true k * e0 t c) ((if c = 8 then 1 else 0) * e0 t c) hg0
        (fun i i1 i2 => ((h.row k (by omega) i i1 i2).bd c h1 h2).mono (by
          have e1 := e0_top hz (t' := τ k i) h2 z1
          have e2 := gr_true (τ k i) (show k ≤ 8 by omega)
          have e3 := Rat.mul_le_mul_of_nonneg_left e1 (show 0 ≤ gr (τ k i) k by have := gr_ge (τ k i) k; grind)
          have e4 := Rat.mul_le_mul_of_nonneg_right e2 (hz.nonneg t h2)
          exact Rat.le_trans e3 e4))
        (Rat.mul_nonneg (by split <;> decide) (hz.nonneg t h2))
        (fun ec i i2 => by rw [if_pos ec, ec, Rat.one_mul, hz.same t true 8 (by omega) (by omega)]; exact h8 i i2)
      have eG : gr true k * e0 t c + (if c = 8 then 1 else 0) * e0 t c = gU e0 t k c := by unfold gU; grind
      rw [eG] at key
      refine key.mono ?_
      have hsm := hp.sm c h2
      have e5 := Rat.mul_le_mul_of_nonneg_left (show 1003/1000 * gU e0 t k c + 2 * (Wl c + Wu c) ≤ 102/100 * gU e0 t k c by grind) hD0
      grind
  have hbig : ∀ c, k ≤ c → c < 9 → Bd (val (R c)) (10^30) := fun c h1 h2 => (hent c h1 h2).mono (by
    have e1 := Rat.mul_le_mul_of_nonneg_left (gU_hi hz t hk h2) hD0
    have e2 := Rat.mul_le_mul_of_nonneg_right hD2 (show (0:Rat) ≤ 41 * 10^6 by decide +kernel)
    have e3 : 102/100 * (5000 * (40 * 10^6) * (41 * 10^6)) ≤ (10:Rat)^30 := by decide +kernel
    grind)
  obtain ⟨by', R', r1, r2, r3, r4, r5⟩ := row_ex hk hR.fin hPr.fin (K := 10^30) (by decide +kernel) Rat.le_refl hpiv hbig (fun c h1 h2 => (hPr.bd c h1 h2).mono (hPr.small hz hk h2))
  refine ⟨by', R', r1, r2, r3, ?_⟩
  have hu := u53_pos
  have hts := tny_small
  have htp := tny_pos
  have hu0 := Rat.le_of_lt hu
  have hDu : ∀ c, c < 9 → 1 ≤ gU e0 t k c → 998/1000 * u53 ≤ u53 * (D * gU e0 t k c) := fun c hc h1 => by
    have e1 := Rat.mul_le_mul_of_nonneg_left h1 hD0
    have e2 := Rat.mul_le_mul_of_nonneg_left (show 998/1000 ≤ D * gU e0 t k c by grind) hu0
    grind
  have hDuk : ∀ c, c < 9 → 0 ≤ u53 * (D * gU e0 t k c) := fun c hc => Rat.mul_nonneg hu0 (hDG c hc)
  have hk0 : ¬ k = 0 := by omega
  have hrzero : ∀ c, k < c → c < 9 → e0 t c = 0 → val by' * val (L (k + 1) k c) = 0 → val (R' c) = 0 := fun c h1 h2 h3 h4 => r4.zero c (by omega) h2 h4 (hR.zero c (by omega) h2 h3)
  have hstep : (∀ c, k < c → c < 9 → e0 t c = 0 → val (R' c) = 0) ∧ ∀ f, Bd (ph f R' (k + 1) - (ph f R k - val by' * ph f (L (k + 1) k) k)) (D * tot (wt f) (dU e0 t k)) := by
    by_cases ho : own t k = true
    · have hPb := piv_bd hz hk hPr ho hPo
      have hk9 : k < 9 := by omega
      have hRk := hgen k (Nat.le_refl _) hk9 (ab (val (L (k + 1) k k))) 0 (ab_nonneg _) (fun i i1 i2 => hall i i1 i2) Rat.le_refl (fun e => by omega)
      have hw : 998 * (Wl k + Wu k) ≤ ab (val (L (k + 1) k k)) := by
        apply Classical.byContradiction; intro hn
        have := Rat.mul_pos (hp.Kp k hk) (show 0 < 998 * (Wl k + Wu k) - ab (val (L (k + 1) k k)) by grind)
        have := hp.omk k hk
        grind
      have hRk' : Bd (val (R k)) (101/100 * D * ab (val (L (k + 1) k k))) := hRk.mono (by
        have e := Rat.mul_le_mul_of_nonneg_left (show 1003/1000 * (ab (val (L (k + 1) k k)) + 0) + 2 * (Wl k + Wu k) ≤ 101/100 * ab (val (L (k + 1) k k)) by have := ab_nonneg (val (L (k + 1) k k)); grind) hD0
        grind)
      have hq := bd_div hne hRk'
      have hb : Bd (val by') (102/100 * D) := by
        have h1 := ab_le hq
        have h3 := r5.bd hq
        refine h3.mono ?_
        have e1 := Rat.mul_le_mul_of_nonneg_right h1 (show 0 ≤ 3 * u53 by grind)
        have e2 := Rat.mul_le_mul_of_nonneg_left u53_lt hD0
        have e3 : tny ≤ 1/1000 := by decide +kernel
        grind
      have hg0 : ∀ c, c < 9 → 0 ≤ gr t k * e0 t c := fun c hc => Rat.mul_nonneg (by have := gr_ge t k; grind) (hz.nonneg t hc)
      have hz0 : ∀ c, e0 t c = 0 → gr t k * e0 t c = 0 := fun c hc => by rw [hc, Rat.mul_zero]
      have hDg : ∀ c, c < 9 → u53 * (D * (gr t k * e0 t c)) ≤ u53 * (D * gU e0 t k c) := fun c hc =>
        Rat.mul_le_mul_of_nonneg_left (Rat.mul_le_mul_of_nonneg_left (gU_own hz t hk hc) hD0) hu0
      obtain ⟨n1, n2⟩ := row_err hk r4 (B := 102/100 * D) (p := fun c => gr t k * e0 t c) (a := fun c => 102/100 * (D * gU e0 t k c)) (E := fun c => D * (u53 * (205/100 * (gr t k * e0 t c) + 103/100 * gU e0 t k c))) hb hPb hent
        (fun c hc => Rat.mul_nonneg hD0 (Rat.mul_nonneg hu0 (by have := hg0 c hc; have := gU_nonneg hz t k hc; grind)))
        (fun c h1 h2 => by
          rcases gU_cases hz t k h2 with ⟨z1, z2⟩ | ⟨z1, z2⟩
          · left; rw [z2, hz0 c z1]; constructor <;> grind
          · right
            have i1 := hDu c h2 z2
            have i3 := hDuk c h2
            have i4 : 0 ≤ u53 * (D * (gr t k * e0 t c)) := Rat.mul_nonneg hu0 (Rat.mul_nonneg hD0 (hg0 c h2))
            have e : D * (u53 * (205/100 * (gr t k * e0 t c) + 103/100 * gU e0 t k c)) = 205/100 * (u53 * (D * (gr t k * e0 t c))) + 103/100 * (u53 * (D * gU e0 t k c)) := by grind
            have e2 : u53 * (2001/1000 * (102/100 * D * (gr t k * e0 t c)) + 102/100 * (D * gU e0 t k c)) = 2001/1000 * (102/100) * (u53 * (D * (gr t k * e0 t c))) + 102/100 * (u53 * (D * gU e0 t k c)) := by grind
            rw [e, e2]; grind)
        hRk' (hPb k (Nat.le_refl _) hk9)
        (by
          right
          have i0 := ab_le (hPb k (Nat.le_refl _) hk9)
          have i1 := Rat.mul_le_mul_of_nonneg_left (Rat.mul_le_mul_of_nonneg_left i0 hD0) hu0
          have i2 := hDg k hk9
          have i4 : 0 ≤ u53 * (D * (gr t k * e0 t k)) := Rat.mul_nonneg hu0 (Rat.mul_nonneg hD0 (hg0 k hk9))
          have i5 : 1000 * tny ≤ u53 * (D * 2) := by
            have := Rat.mul_le_mul_of_nonneg_left (show 1 ≤ D * 2 by grind) hu0
            grind
          have i6 := Rat.mul_le_mul_of_nonneg_right i5 (hg0 k hk9)
          have e : D * (u53 * (205/100 * (gr t k * e0 t k) + 103/100 * gU e0 t k k)) = 205/100 * (u53 * (D * (gr t k * e0 t k))) + 103/100 * (u53 * (D * gU e0 t k k)) := by grind
          have e2 : 3 * u53 * (101/100 * D * ab (val (L (k + 1) k k))) = 303/100 * (u53 * (D * ab (val (L (k + 1) k k)))) := by grind
          have e3 : u53 * (D * 2) * (gr t k * e0 t k) = 2 * (u53 * (D * (gr t k * e0 t k))) := by grind
          have e4 : 1000 * tny * (gr t k * e0 t k) = 1000 * (tny * (gr t k * e0 t k)) := by grind
          rw [e3, e4] at i6
          rw [e, e2]; grind)
      refine ⟨fun c h1 h2 h3 => hrzero c h1 h2 h3 ?_, fun f => ?_⟩
      · have hb := hPb c (by omega) h2
        rw [h3, Rat.mul_zero] at hb
        rw [bd_zero hb rfl, Rat.mul_zero]
      · have := n2 f
        rw [← tot_mulr]
        have e : (fun c => if c < k then 0 else D * (u53 * (205/100 * (gr t k * e0 t c) + 103/100 * gU e0 t k c))) = (fun c => D * dU e0 t k c) := by
          funext c
          unfold dU gU
          by_cases hc : c < k
          · rw [if_pos hc, if_pos (Or.inr hc)]; grind
          · rw [if_neg hc, if_neg (show ¬ (k = 0 ∨ c < k) by omega), if_pos ho]; grind
        rw [e] at this; exact this
    · have ho' : own t k = false := by simpa using ho
      have h6 : k < 6 := by
        apply Classical.byContradiction; intro hn
        unfold own at ho'; rw [if_neg (by omega), if_neg hn] at ho'; cases ho'
      have hb0 := r4.none (hR.zero k (Nat.le_refl _) (by omega) (hz.zero t k h6 ho'))
      have hb00 : Bd (val by') 0 := by rw [hb0]; unfold Bd; constructor <;> grind
      obtain ⟨n1, n2⟩ := row_err hk r4 (B := 0) (p := fun c => ab (val (L (k + 1) k c))) (a := fun c => 102/100 * (D * gU e0 t k c)) (E := fun c => D * (u53 * (103/100 * gU e0 t k c))) hb00 (fun c _ _ => ab_bd _) hent
        (fun c hc => by
          have := hDuk c hc
          have e : D * (u53 * (103/100 * gU e0 t k c)) = 103/100 * (u53 * (D * gU e0 t k c)) := by grind
          rw [e]; grind)
        (fun c h1 h2 => by
          rcases gU_cases hz t k h2 with ⟨z1, z2⟩ | ⟨z1, z2⟩
          · left; rw [z2]; constructor <;> grind
          · right
            have i1 := hDu c h2 z2
            have i3 := hDuk c h2
            have e : D * (u53 * (103/100 * gU e0 t k c)) = 103/100 * (u53 * (D * gU e0 t k c)) := by grind
            have e2 : u53 * (2001/1000 * (0 * ab (val (L (k + 1) k c))) + 102/100 * (D * gU e0 t k c)) = 102/100 * (u53 * (D * gU e0 t k c)) := by grind
            rw [e, e2]; grind)
        (hent k (Nat.le_refl _) (by omega)) (ab_bd (val (L (k + 1) k k)))
        (by
          rcases gU_cases hz t k (show k < 9 by omega) with ⟨z1, z2⟩ | ⟨z1, z2⟩
          · left; rw [z2]; constructor <;> grind
          · exact absurd (hz.zero t k h6 ho') z1)
      refine ⟨fun c h1 h2 h3 => hrzero c h1 h2 h3 (by rw [hb0, Rat.zero_mul]), fun f => ?_⟩
      have := n2 f
      rw [← tot_mulr]
      have e : (fun c => if c < k then 0 else D * (u53 * (103/100 * gU e0 t k c))) = (fun c => D * dU e0 t k c) := by
        funext c
        unfold dU gU
        by_cases hc : c < k
        · rw [if_pos hc, if_pos (Or.inr hc)]; grind
        · rw [if_neg hc, if_neg (show ¬ (k = 0 ∨ c < k) by omega), if_neg ho]; grind
      rw [e] at this; exact this
  obtain ⟨s1, s2⟩ := hstep
  refine ⟨r4.fin, ?_, fun c h1 h2 h3 => s1 c (by omega) h2 h3, fun f hf => ?_⟩
  · rw [r2 r hrk]; exact hR.same
  · have h1 := hnear f (fun j hj => hf j (by omega))
    have h2 := s2 f
    rw [hf k (by omega), Rat.mul_zero] at h2
    rw [← hDe, eU_succ, tot_add, Rat.mul_add]
    unfold Bd at *
    constructor <;> grind

end Go.Proofs.Ytaadklfendegfaa

/- An elimination in floats, as a whole: it exists, and what it finds is near what solves the table. -/
namespace Go.Proofs.Ytaadklfendegfaa
open Go Fl

/-- all rounds of a row behind its own -/
theorem up_ex {e0 : Bool → Nat → Rat} {K Wl Wu : Nat → Rat} (hp : Par e0 K Wl Wu) {M0 : Nat → Nat → Nat} (hi : Inve M0 K) (h8 : ∀ i, i < 8 → Bd (val (M0 i 8)) (e0 true 8)) {L : Nat → Nat → Nat → Nat} {τ : Nat → Nat → Bool} (h : Chain e0 M0 L τ 8) {r : Nat} (hr : r < 8) :
    ∀ n, r + 1 + n ≤ 8 → ∃ U : Nat → Nat → Nat, U (r + 1) = L (r + 1) r ∧ (∀ k, r < k → k < r + 1 + n → ∃ by', fdiv (U k k) (L (k + 1) k k) = some by' ∧ (∀ j, j < k → U (k + 1) j = U k j) ∧ ∀ j, k ≤ j → j < 9 → ∃ t, fmul by' (L (k + 1) k j) = some t ∧ fsub (U k j) t = some (U (k + 1) j)) ∧
      ∀ k, r < k → k ≤ r + 1 + n → UpRow e0 K L r (τ (r + 1) r) k (U k) := by
  intro n
  induction n with
  | zero =>
    intro _
    refine ⟨fun _ => L (r + 1) r, rfl, fun k h1 h2 => by omega, fun k h1 h2 => ?_⟩
    obtain rfl : k = r + 1 := by omega
    have hP := h.prow hr
    refine ⟨hP.fin, rfl, fun c h1 h2 h3 => ?_, fun f hf => ?_⟩
    · have := hP.bd c (by omega) h2
      rw [h3, Rat.mul_zero] at this
      exact bd_zero this rfl
    · have hk := hf r (by omega)
      rw [ph_split f _ hr] at hk
      rw [hk]
      have e : tot (wt f) (eU e0 (τ (r + 1) r) (r + 1)) = tot (wt f) (eU e0 (τ (r + 1) r) (r + 1)) := rfl
      have h0 : 0 ≤ tot (wt f) (eU e0 (τ (r + 1) r) (r + 1)) := tot_nonneg (wt_nonneg f) fun c hc => by
        have hn : ∀ k, 0 ≤ uw (τ (r + 1) r) k c := by
          intro k
          induction k with
          | zero => exact Rat.le_refl
          | succ k ih =>
            unfold uw
            have := gr_ge true k
            have e0 : (0:Rat) ≤ (if c = 8 then 1 else 0) := by split <;> decide
            have e1 : (0:Rat) ≤ (if own (τ (r + 1) r) k then 205/100 * gr (τ (r + 1) r) k else 0) := by
              have := gr_ge (τ (r + 1) r) k
              split <;> grind
            by_cases hc : k = 0 ∨ c < k
            · rw [if_pos hc]; grind
            · rw [if_neg hc]; grind
        exact Rat.mul_nonneg (Rat.le_of_lt u53_pos) (Rat.mul_nonneg (hn _) (hp.sz.nonneg _ hc))
      have := Rat.mul_nonneg (Rat.mul_nonneg (Rat.le_of_lt (hp.Kp r hr)) (ab_nonneg (val (L (r + 1) r r)))) h0
      unfold Bd; constructor <;> grind
  | succ n ih =>
    intro hn
    obtain ⟨U, u1, u2, u3⟩ := ih (by omega)
    obtain ⟨by', R', s1, s2, s3, s4⟩ := up_step hp hi h8 h (show r < r + 1 + n by omega) (show r + 1 + n < 8 by omega) (u3 (r + 1 + n) (by omega) (Nat.le_refl _))
    obtain ⟨V, ea, eb⟩ : ∃ V : Nat → Nat → Nat, (∀ k, k ≤ r + 1 + n → V k = U k) ∧ V (r + 1 + n + 1) = R' :=
      ⟨fun k => if k ≤ r + 1 + n then U k else R', fun k hk => if_pos hk, if_neg (by omega)⟩
    refine ⟨V, ?_, ?_, ?_⟩
    · rw [ea _ (by omega)]; exact u1
    · intro k h1 h2
      rw [ea k (by omega)]
      by_cases e : k < r + 1 + n
      · rw [ea (k + 1) (by omega)]; exact u2 k h1 e
      · obtain rfl : k = r + 1 + n := by omega
        rw [eb]
        exact ⟨by', s1, s2, s3⟩
    · intro k h1 h2
      by_cases e : k ≤ r + 1 + n
      · rw [ea k e]; exact u3 k h1 e
      · obtain rfl : k = r + 1 + n + 1 := by omega
        rw [eb]; exact s4

theorem bestOf_congr {M N : Nat → Nat → Nat} {k : Nat} (h : ∀ i, k ≤ i → M i = N i) : ∀ n, bestOf M k n = bestOf N k n := by
  intro n
  induction n with
  | zero => rfl
  | succ n ih =>
    unfold bestOf
    rw [ih, h _ (bestOf_ge N k n), h (k + n) (by omega)]

theorem small_val : Fl.fin fSmall ∧ val fSmall ≤ 1/10000000 := by
  have hr : Ieee.double.read fSmall = .number false 4835703278458517 (-82) := by decide +kernel
  refine ⟨⟨by decide, _, _, _, hr⟩, ?_⟩
  unfold val; rw [hr]; decide +kernel

theorem not_small {p : Nat} (hp : Fl.fin p) (h : 1/10000 ≤ val p ∨ val p ≤ -(1/10000)) : flt (fabs p) fSmall = false := by
  obtain ⟨a1, a2, a3⟩ := Fl.abs_val hp
  obtain ⟨b1, b2⟩ := small_val
  obtain ⟨o1, o2, o3⟩ := Fl.order_val a1 b1
  have hgt : val fSmall < val (p % 9223372036854775808) := by
    rcases h with h | h
    · rw [a2 (by grind)]; grind
    · rw [a3 (by grind)]; grind
  show (Ieee.double.order (fabs p) fSmall == some .lt) = false
  rw [o3 hgt]; rfl

theorem ph_add (f g : Nat → Rat) (R : Nat → Nat) : ph (fun c => f c + g c) R 0 = ph f R 0 + ph g R 0 := by
  unfold ph; simp; grind

theorem elim_ex {e0 : Bool → Nat → Rat} {K Wl Wu : Nat → Rat} (hp : Par e0 K Wl Wu) {M0 : Nat → Nat → Nat} (hi : Inve M0 K) {ty : Nat → Bool} (h0 : ∀ i, i < 8 → LowRow e0 (ty i) 0 (M0 i)) :
    ∃ (M : Nat → Nat → Nat → Nat) (o : Nat → Nat), (∀ i, M 0 i = M0 i) ∧ (∀ k, k < 8 → RoundR (M k) (M (k + 1)) k) ∧ (∀ k, k < 8 → fdiv (M 8 k 8) (M 8 k k) = some (o k)) ∧
      (∀ k, k ≤ 8 → ∀ i, i < 8 → ∀ j, j < 9 → M k i j < 18446744073709551616) ∧
      (∀ r, r < 8 → Fl.fin (o r)) ∧
      ∀ (z : Nat → Rat) (ρ : Rat), z 8 = -1 → (∀ i, i < 8 → Bd (ph z (M0 i) 0) ρ) → ∀ r, r < 8 → Nr (val (o r)) (z r) (K r * (1004/1000 * (tot (wt z) Wl + tot (wt z) Wu + ρ)) + 4 * u53 * ab (z r) + tny) := by
  obtain ⟨L, τ, h⟩ := chain_ex hp hi h0 8 (Nat.le_refl _)
  have hz := hp.sz
  have h8 : ∀ i, i < 8 → Bd (val (M0 i 8)) (e0 true 8) := fun i h => by
    have := (h0 i h).bd 8 (by omega) (by omega)
    rw [hz.same (ty i) true 8 (by omega) (by omega)] at this
    have e : gr (ty i) 0 * e0 true 8 = e0 true 8 := Rat.one_mul _
    rw [e] at this; exact this
  have cell : ∀ r, ∃ U : Nat → Nat → Nat, r < 8 → U (r + 1) = L (r + 1) r ∧ (∀ k, r < k → k < 8 → ∃ by', fdiv (U k k) (L (k + 1) k k) = some by' ∧ (∀ j, j < k → U (k + 1) j = U k j) ∧ ∀ j, k ≤ j → j < 9 → ∃ t, fmul by' (L (k + 1) k j) = some t ∧ fsub (U k j) t = some (U (k + 1) j)) ∧
      ∀ k, r < k → k ≤ 8 → UpRow e0 K L r (τ (r + 1) r) k (U k) := by
    intro r
    by_cases hr : r < 8
    · obtain ⟨U, u1, u2, u3⟩ := up_ex hp hi h8 h hr (8 - (r + 1)) (by omega)
      have e : r + 1 + (8 - (r + 1)) = 8 := by omega
      rw [e] at u2 u3
      exact ⟨U, fun _ => ⟨u1, u2, u3⟩⟩
    · exact ⟨fun _ _ => 0, fun h => absurd h hr⟩
  obtain ⟨U, hU⟩ := Classical.axiomOfChoice cell
  clear cell
  obtain ⟨M, ma, mb⟩ : ∃ M : Nat → Nat → Nat → Nat, (∀ k i, i < k → M k i = U i k) ∧ ∀ k i, k ≤ i → M k i = L k i :=
    ⟨fun k i => if i < k then U i k else L k i, fun k i h => if_pos h, fun k i h => if_neg (by omega)⟩
  -- the weights that all pivots' rows do not see
  obtain ⟨f, Q, f1, f2, f3, f4, f5, f6, f7, f8⟩ := low_vec hp hi (Nat.le_refl 8) h (Nat.le_refl 8) (by omega) (μ := 0) (s := e0 true 8) Rat.le_refl (fun i h1 h2 => by omega) (hz.nonneg true (by omega)) (fun _ i h => h8 i h)
  have hy0 : 0 ≤ tot (wt f) Wu := tot_nonneg (wt_nonneg f) hp.wu0
  have hx0 : 0 ≤ tot (wt f) Wl := tot_nonneg (wt_nonneg f) hp.wl0
  have hKK : ∀ c, c < 9 → 0 ≤ KK K c := fun c hc => by
    unfold KK
    by_cases h8 : c < 8
    · rw [if_pos h8]; exact Rat.le_of_lt (hp.Kp c h8)
    · rw [if_neg h8]; exact Rat.le_refl
  have ol := tot_nonneg hKK hp.wl0
  have ou := tot_nonneg hKK hp.wu0
  have hom := hp.om
  have hdiag : ∀ r, r < 8 → Fl.fin (U r 8 8) ∧ Fl.fin (U r 8 r) ∧ val (U r 8 r) ≠ 0 ∧ Bd (val (U r 8 8) / val (U r 8 r) + f r) (K r * tot (wt f) Wu) := by
    intro r hr
    obtain ⟨_, _, u3⟩ := hU r hr
    have hu := u3 8 hr (Nat.le_refl _)
    have hpiv := (h.step r hr).piv
    have hne : val (U r 8 r) ≠ 0 := by rw [hu.same]; rcases hpiv with h | h <;> grind
    refine ⟨hu.fin 8 (by omega), hu.fin r (by omega), hne, ?_⟩
    have hn := hu.near f f3
    rw [ph_last, f1, Rat.one_mul, ← hu.same] at hn
    have hle := tot_mono (F := wt f) (E := eU e0 (τ (r + 1) r) 8) (E' := Wu) (wt_nonneg f) (fun c hc => hp.wu _ _ c (Nat.le_refl _) hc)
    have hn2 : Bd (f r * val (U r 8 r) + val (U r 8 8)) (K r * tot (wt f) Wu * ab (val (U r 8 r))) := hn.mono (by
      have := Rat.mul_le_mul_of_nonneg_left hle (Rat.mul_nonneg (Rat.le_of_lt (hp.Kp r hr)) (ab_nonneg (val (U r 8 r))))
      grind)
    have hq := bd_div hne hn2
    have e : (f r * val (U r 8 r) + val (U r 8 8)) / val (U r 8 r) = val (U r 8 8) / val (U r 8 r) + f r := by
      rw [Rat.div_def, Rat.div_def, Rat.add_mul, Rat.mul_assoc, Rat.mul_inv_cancel _ hne]; grind
    rw [e] at hq; exact hq
  have hquo : ∀ r, ∃ o, r < 8 → fdiv (U r 8 8) (U r 8 r) = some o ∧ Fl.fin o ∧ Nr (val o) (val (U r 8 8) / val (U r 8 r)) (3 * ab (val (U r 8 8) / val (U r 8 r)) * u53 + tny) := by
    intro r
    by_cases hr : r < 8
    · obtain ⟨d1, d2, d3, d4⟩ := hdiag r hr
      obtain ⟨o, o1, o2, o3⟩ := div_step d1 d2 d3 (ab_bd _) (by
        have g1 := f6 r hr
        have g2 := hp.Kp r hr
        have g3 := hp.Kh r hr
        have g4 := f8 Wu hp.wu0
        have g5 := hp.sm 8 (by omega)
        have g6 := hp.wl0 8 (by omega)
        have g7 := hp.wu0 8 (by omega)
        have g8 := hz.hi true 8 (by omega)
        have g9 := Rat.mul_le_mul_of_nonneg_right (show tot (KK K) Wu ≤ 1 by grind) f4
        have hQ : Q ≤ 2 * 10^6 := by grind
        have hy : tot (wt f) Wu ≤ 3 * 10^6 := by grind
        have p1 := Rat.mul_le_mul_of_nonneg_left hQ (Rat.le_of_lt g2)
        have p2 := Rat.mul_le_mul_of_nonneg_left hy (Rat.le_of_lt g2)
        have e : (100000000000000 : Rat) ≤ 10^100 := by decide +kernel
        refine Rat.le_trans (ab_le (X := 100000000000000) ?_) e
        unfold Bd at *
        constructor <;> grind)
      exact ⟨o, fun _ => ⟨o1, o2, o3⟩⟩
    · exact ⟨0, fun h => absurd h hr⟩
  obtain ⟨o, ho⟩ := Classical.axiomOfChoice hquo
  clear hquo
  refine ⟨M, o, fun i => by rw [mb 0 i (Nat.zero_le _), h.z], ?_, ?_, ?_, fun r hr => (ho r hr).2.1, ?_⟩
  · intro k hk
    have hb : bestOf (M k) k (8 - k) = bst (L k) k := bestOf_congr (fun i hi => mb k i hi) _
    have hge := bestOf_ge (L k) k (8 - k)
    have hs := h.step k hk
    unfold RoundR
    rw [hb]
    have eN : swp (M k) k (bst (L k) k) k = L (k + 1) k := by rw [swp_at, mb k _ hge, hs.top, swp_at]
    have eHi : ∀ i, k < i → swp (M k) k (bst (L k) k) i = swp (L k) k (bst (L k) k) i := by
      intro i hi
      unfold swp
      rw [mb k k (Nat.le_refl _), mb k _ hge, mb k i (by omega)]
    have eLo : ∀ i, i < k → swp (M k) k (bst (L k) k) i = U i k := by
      intro i hi
      unfold swp
      rw [if_neg (show ¬ i = bst (L k) k by have : k ≤ bst (L k) k := hge; omega), if_neg (by omega), ma k i hi]
    have ek1 : M (k + 1) k = L (k + 1) k := by rw [ma (k + 1) k (by omega)]; exact (hU k hk).1
    refine ⟨?_, fun j _ => by rw [ek1, eN], fun i hi8 hik => ?_⟩
    · rw [eN]; exact not_small ((h.prow hk).fin k (by omega)) hs.piv
    · by_cases hlt : i < k
      · obtain ⟨by', b1, b2, b3⟩ := (hU i hi8).2.1 k hlt hk
        refine ⟨by', ?_, ?_, ?_⟩
        · rw [eLo i hlt, eN]; exact b1
        · intro j hj; rw [eLo i hlt, ma (k + 1) i (by omega)]; exact b2 j hj
        · intro j j1 j2; rw [eLo i hlt, eN, ma (k + 1) i (by omega)]; exact b3 j j1 j2
      · obtain ⟨by', b1, ⟨b2, b3⟩, _⟩ := hs.rows i (by omega) hi8
        have eT : swp (L k) k (bst (L k) k) k = L (k + 1) k := hs.top.symm
        refine ⟨by', ?_, ?_, ?_⟩
        · rw [eHi i (by omega), eN]; exact b1
        · intro j hj; rw [eHi i (by omega), mb (k + 1) i (by omega)]; exact b2 j hj
        · intro j j1 j2
          have := b3 j j1 j2
          rw [eT] at this
          rw [eHi i (by omega), eN, mb (k + 1) i (by omega)]; exact this
  · intro k hk
    rw [ma 8 k hk]; exact (ho k hk).1
  · intro k hk i hi8 j hj
    by_cases hlt : i < k
    · rw [ma k i hlt]; exact (((hU i hi8).2.2 k hlt hk).fin j hj).1
    · rw [mb k i (by omega)]; exact ((h.row k hk i (by omega) hi8).fin j hj).1
  · intro z ρ z8 hρ r hr
    have hρ0 : 0 ≤ ρ := (hρ 0 (by omega)).nonneg
    have hh := hi (fun c => f c + z c) (tot (wt f) Wl + ρ) (fun i hi8 => by
      have a1 := f7 i hi8
      have a2 := hρ i hi8
      have e8 : f 8 + z 8 = 0 := by rw [f1, z8]; grind
      rw [ph_add]
      show Bd (ph f (M0 i) 0 + ph z (M0 i) 0 - (f 8 + z 8) * _) _
      rw [e8]
      unfold Bd at *; constructor <;> grind)
    have hwf : ∀ W : Nat → Rat, (∀ c, c < 9 → 0 ≤ W c) → tot (wt f) W ≤ tot (wt z) W + tot (KK K) W * (tot (wt f) Wl + ρ) := by
      intro W hW
      rw [← tot_sc, ← tot_add']
      refine tot_le fun c hc => Rat.mul_le_mul_of_nonneg_right ?_ (hW c hc)
      show ab (f c) ≤ ab (z c) + KK K c * _
      by_cases h8 : c < 8
      · have e : KK K c = K c := by unfold KK; rw [if_pos h8]
        rw [e]
        refine ab_le ?_
        have b1 := hh c h8
        have b2 := ab_bd (z c)
        unfold Bd at *; constructor <;> grind
      · obtain rfl : c = 8 := by omega
        rw [f1, z8]
        have e : KK K 8 = 0 := by unfold KK; rw [if_neg (by omega)]
        rw [e, Rat.zero_mul]
        have : ab 1 = 1 ∧ ab (-1) = 1 := by constructor <;> decide +kernel
        grind
    have w1 := hwf Wl hp.wl0
    have w2 := hwf Wu hp.wu0
    have hY : 0 ≤ tot (wt f) Wl + ρ := by grind
    have w3 := Rat.mul_le_mul_of_nonneg_right hom hY
    rw [Rat.add_mul] at w3
    have hb := hh r hr
    obtain ⟨_, _, _, d4⟩ := hdiag r hr
    obtain ⟨_, _, o3⟩ := ho r hr
    have hKr := hp.Kp r hr
    generalize val (U r 8 8) / val (U r 8 r) = q at *
    have hq : Bd (q - z r) (K r * (1002/1000 * (tot (wt z) Wl + tot (wt z) Wu + ρ))) := by
      have hsum : tot (wt f) Wl + tot (wt f) Wu + ρ ≤ 1002/1000 * (tot (wt z) Wl + tot (wt z) Wu + ρ) := by grind
      have := Rat.mul_le_mul_of_nonneg_left hsum (Rat.le_of_lt hKr)
      unfold Bd at *
      constructor <;> grind
    have hqa : ab q ≤ ab (z r) + K r * (1002/1000 * (tot (wt z) Wl + tot (wt z) Wu + ρ)) := by
      refine ab_le ?_
      have b2 := ab_bd (z r)
      unfold Bd at *; constructor <;> grind
    have hE := hq.nonneg
    generalize hEe : tot (wt z) Wl + tot (wt z) Wu + ρ = E at *
    have hq3 := Rat.mul_le_mul_of_nonneg_left hqa (show 0 ≤ 3 * u53 by decide +kernel)
    have hul := Rat.mul_le_mul_of_nonneg_right u53_lt hE
    have hzr := Rat.mul_nonneg (Rat.le_of_lt u53_pos) (ab_nonneg (z r))
    unfold Bd Nr at *
    constructor <;> grind

end Go.Proofs.Ytaadklfendegfaa

/- The table of a map between two quadrilaterals: its floats. -/
namespace Go.Proofs.Ytaadklfendegfaa
open Go Fl Geo

theorem neg_val {x : Nat} (hx : Fl.fin x) : Fl.fin (fneg x) ∧ val (fneg x) = - val x := by
  obtain ⟨hlt, s, m, i, hx⟩ := hx
  have hw : fneg x = x ^^^ 2 ^ 63 := rfl
  have h1 : (x ^^^ 2 ^ 63) % 2 ^ 63 = x % 2 ^ 63 := by
    rw [Nat.xor_mod_two_pow]; simp
  have h2 : (x ^^^ 2 ^ 63) / 2 ^ 63 = (x / 2 ^ 63) ^^^ 1 := by
    rw [Nat.xor_div_two_pow]
  have e63 : (2:Nat) ^ 63 = 9223372036854775808 := by decide
  rw [e63] at h1 h2 hw
  generalize hy : x ^^^ 9223372036854775808 = y at *
  have hd : x / 9223372036854775808 = 0 ∨ x / 9223372036854775808 = 1 := by omega
  have hyd : y / 9223372036854775808 = 1 - x / 9223372036854775808 := by
    rcases hd with h | h <;> rw [h2, h] <;> rfl
  have hs : Ieee.double.signWeight = 9223372036854775808 := by decide
  have key : Ieee.double.read y = .number (!s) m i := by
    revert hx
    unfold Ieee.Format.read
    rw [hs]
    have a1 : y / 9223372036854775808 % 2 = 1 - x / 9223372036854775808 % 2 := by omega
    rw [a1, h1]
    dsimp only
    rcases hd with h | h <;> rw [h] <;>
    · split
      · intro h; injection h with h1 h2 h3; subst h1 h2 h3; rfl
      · split
        · intro h; injection h with h1 h2 h3; subst h1 h2 h3; rfl
        · split <;> intro h <;> cases h
  rw [hw]
  refine ⟨⟨by omega, _, _, _, key⟩, ?_⟩
  unfold val
  rw [key, hx]
  exact opp_val s m i

theorem Ex.neg {x : Nat} {v : Rat} {k M : Nat} (h : Ex x v k M) : Ex (fneg x) (-v) k M := by
  obtain ⟨h1, h2⟩ := neg_val h.fin
  obtain ⟨N, hN, hM⟩ := h.dy
  exact ⟨h1, by rw [h2, h.eq], -N, by rw [hN, Rat.intCast_neg]; grind, by omega⟩

theorem val_f4 : Fl.fin f4 ∧ val f4 = 4 := val_num (m := 4503599627370496) (i := -50) (by decide) (by decide) (by decide +kernel)

theorem Ex.div4 {x : Nat} {v : Rat} {k M : Nat} (h : Ex x v k M) (hk : k ≤ 900) (hM : M < 9007199254740992) : ∃ q, fdiv x f4 = some q ∧ Ex q (v / 4) (k + 2) M := by
  obtain ⟨N, hN, hNM⟩ := h.dy
  have e : (2:Rat) ^ (-(k : Int)) = (2:Rat) ^ (-((k + 2 : Nat) : Int)) * 4 := by
    have : (-(k : Int)) = -((k + 2 : Nat) : Int) + 2 := by omega
    rw [this, p2_add]; have : (2:Rat) ^ (2:Int) = 4 := by decide +kernel
    rw [this]
  obtain ⟨q, q1, q2, q3⟩ := Fl.div_exact h.fin val_f4.1 (by rw [val_f4.2]; decide) N (-((k + 2 : Nat) : Int)) (by omega) (by omega) (by omega) (by rw [h.eq, val_f4.2, hN, e]; grind)
  have hv : v / 4 = N * (2:Rat) ^ (-((k + 2 : Nat) : Int)) := by rw [hN, e]; grind
  exact ⟨q, q1, q2, by rw [q3, hv], N, hv, hNM⟩

theorem Ex.up {x : Nat} {v : Rat} {k M : Nat} (h : Ex x v k M) (d : Nat) : Ex x v (k + d) (M * 2 ^ d) := by
  obtain ⟨N, hN, hNM⟩ := h.dy
  refine ⟨h.fin, h.eq, N * 2 ^ d, ?_, ?_⟩
  · have : (-(k : Int)) = -((k + d : Nat) : Int) + (d : Int) := by omega
    rw [hN, this, p2_add, p2_nat, Rat.intCast_mul]
    have e : (((2:Int) ^ d : Int) : Rat) = ((2 ^ d : Nat) : Rat) := by norm_cast
    rw [e]; grind
  · rw [Int.natAbs_mul, Int.natAbs_pow]; exact Nat.mul_le_mul hNM (Nat.le_refl _)

theorem f0_ex : Ex f0 0 5 0 := by
  have hr : Ieee.double.read f0 = .number false 0 (-1074) := by decide +kernel
  refine ⟨⟨by decide, _, _, _, hr⟩, by unfold val; rw [hr]; decide +kernel, 0, by grind, by decide⟩
theorem f1_ex : Ex f1 1 0 1 := by
  obtain ⟨a, b⟩ := val_num (x := f1) (m := 4503599627370496) (i := -52) (v := 1) (by decide) (by decide) (by decide +kernel)
  exact ⟨a, b, 1, by decide +kernel, by decide⟩

/-- the middle of four numbers -/
theorem mid_ex {a : Nat → Nat} {v : Nat → Rat} (h : ∀ i, i < 4 → Ex (a i) (v i) 3 1400) : ∃ s, MidR a s ∧ Ex (s 4) ((v 0 + v 1 + v 2 + v 3) / 4) 5 5600 := by
  obtain ⟨q0, d0, e0⟩ := (h 0 (by omega)).div4 (by omega) (by omega)
  obtain ⟨q1, d1, e1⟩ := (h 1 (by omega)).div4 (by omega) (by omega)
  obtain ⟨q2, d2, e2⟩ := (h 2 (by omega)).div4 (by omega) (by omega)
  obtain ⟨q3, d3, e3⟩ := (h 3 (by omega)).div4 (by omega) (by omega)
  obtain ⟨s1, g1, x1⟩ := f0_ex.add e0 (by omega) (by omega)
  obtain ⟨s2, g2, x2⟩ := x1.add e1 (by omega) (by omega)
  obtain ⟨s3, g3, x3⟩ := x2.add e2 (by omega) (by omega)
  obtain ⟨s4, g4, x4⟩ := x3.add e3 (by omega) (by omega)
  refine ⟨fun i => match i with | 0 => f0 | 1 => s1 | 2 => s2 | 3 => s3 | _ => s4, ⟨rfl, fun i hi => ?_⟩, ?_⟩
  · rcases (show i = 0 ∨ i = 1 ∨ i = 2 ∨ i = 3 by omega) with rfl | rfl | rfl | rfl
    · exact ⟨q0, d0, g1⟩
    · exact ⟨q1, d1, g2⟩
    · exact ⟨q2, d2, g3⟩
    · exact ⟨q3, d3, g4⟩
  · have e : 0 + v 0 / 4 + v 1 / 4 + v 2 / 4 + v 3 / 4 = (v 0 + v 1 + v 2 + v 3) / 4 := by grind
    rw [e] at x4
    exact x4.mono (by omega)

def _root_.Geo.Quad.X (q : Quad) : Nat → Rat
  | 0 => q.x0
  | 1 => q.x1
  | 2 => q.x2
  | _ => q.x3
def _root_.Geo.Quad.Y (q : Quad) : Nat → Rat
  | 0 => q.y0
  | 1 => q.y1
  | 2 => q.y2
  | _ => q.y3

/-- the two rows of a corner, by their values -/
def EvenV (x y u : Rat) (R : Nat → Nat) : Prop := val (R 0) = x ∧ val (R 1) = y ∧ val (R 2) = 1 ∧ val (R 3) = 0 ∧ val (R 4) = 0 ∧ val (R 5) = 0 ∧ val (R 6) = -(u * x) ∧ val (R 7) = -(u * y) ∧ val (R 8) = u
def OddV (x y v : Rat) (R : Nat → Nat) : Prop := val (R 0) = 0 ∧ val (R 1) = 0 ∧ val (R 2) = 0 ∧ val (R 3) = x ∧ val (R 4) = y ∧ val (R 5) = 1 ∧ val (R 6) = -(v * x) ∧ val (R 7) = -(v * y) ∧ val (R 8) = v

def rowE (x y u p q : Nat) : Nat → Nat
  | 0 => x | 1 => y | 2 => f1 | 3 => f0 | 4 => f0 | 5 => f0 | 6 => p | 7 => q | _ => u
def rowO (x y u p q : Nat) : Nat → Nat
  | 0 => f0 | 1 => f0 | 2 => f0 | 3 => x | 4 => y | 5 => f1 | 6 => p | 7 => q | _ => u

theorem corner_ex {x y u v : Nat} {X Y U V : Rat} (hx : Ex x X 5 11200) (hy : Ex y Y 5 11200) (hu : Ex u U 3 1400) (hv : Ex v V 3 1400) :
    ∃ R S, CornerR x y u v R S ∧ EvenV X Y U R ∧ OddV X Y V S ∧ (∀ c, c < 9 → Fl.fin (R c)) ∧ ∀ c, c < 9 → Fl.fin (S c) := by
  obtain ⟨a, a1, a2⟩ := hu.neg.mul hx (by omega) (by omega)
  obtain ⟨b, b1, b2⟩ := hu.neg.mul hy (by omega) (by omega)
  obtain ⟨c, c1, c2⟩ := hv.neg.mul hx (by omega) (by omega)
  obtain ⟨d, d1, d2⟩ := hv.neg.mul hy (by omega) (by omega)
  refine ⟨rowE x y u a b, rowO x y v c d, ⟨⟨rfl, rfl, rfl, rfl, rfl, rfl, a1, b1, rfl⟩, rfl, rfl, rfl, rfl, rfl, rfl, c1, d1, rfl⟩,
    ⟨hx.eq, hy.eq, f1_ex.eq, f0_ex.eq, f0_ex.eq, f0_ex.eq, ?_, ?_, hu.eq⟩, ⟨f0_ex.eq, f0_ex.eq, f0_ex.eq, hx.eq, hy.eq, f1_ex.eq, ?_, ?_, hv.eq⟩, ?_, ?_⟩
  · show val a = _; rw [a2.eq]; grind
  · show val b = _; rw [b2.eq]; grind
  · show val c = _; rw [c2.eq]; grind
  · show val d = _; rw [d2.eq]; grind
  · intro j hj
    rcases (show j = 0 ∨ j = 1 ∨ j = 2 ∨ j = 3 ∨ j = 4 ∨ j = 5 ∨ j = 6 ∨ j = 7 ∨ j = 8 by omega) with rfl | rfl | rfl | rfl | rfl | rfl | rfl | rfl | rfl
    · exact hx.fin
    · exact hy.fin
    · exact f1_ex.fin
    · exact f0_ex.fin
    · exact f0_ex.fin
    · exact f0_ex.fin
    · exact a2.fin
    · exact b2.fin
    · exact hu.fin
  · intro j hj
    rcases (show j = 0 ∨ j = 1 ∨ j = 2 ∨ j = 3 ∨ j = 4 ∨ j = 5 ∨ j = 6 ∨ j = 7 ∨ j = 8 by omega) with rfl | rfl | rfl | rfl | rfl | rfl | rfl | rfl | rfl
    · exact f0_ex.fin
    · exact f0_ex.fin
    · exact f0_ex.fin
    · exact hx.fin
    · exact hy.fin
    · exact f1_ex.fin
    · exact c2.fin
    · exact d2.fin
    · exact hv.fin

end Go.Proofs.Ytaadklfendegfaa

/- The map of a picture's quadrilateral to a grid: its numbers, the inverse's rows, where a pixel's middle goes. Plain rational numbers. -/
namespace Go.Proofs.Ytaadklfendegfaa
open Go Fl Geo

/-- the point of four corners by two numbers -/
def bilW (s t : Rat) : Wt := ⟨(1 - s) * (1 - t), s * (1 - t), s * t, (1 - s) * t⟩
theorem bilW_ok {s t : Rat} (h0 : 0 ≤ s) (h1 : s ≤ 1) (k0 : 0 ≤ t) (k1 : t ≤ 1) : (bilW s t).OK :=
  ⟨Rat.mul_nonneg (by grind) (by grind), Rat.mul_nonneg h0 (by grind), Rat.mul_nonneg h0 k0, Rat.mul_nonneg (by grind) k0, by unfold bilW; dsimp only; grind⟩
def ts (S : Quad) : Tau := ⟨S.d123, S.d023, S.d013, S.d012⟩

section
variable {q : Q8} {Q : Quad} {a1 a3 : Rat}

/-- the four corners' numbers of the way back -/
structure Wis (S : Quad) (a1 a3 : Rat) (m : Rat) : Prop where
  pos : 0 < m
  g0 : m ≤ a1 * a3 * S.d013
  g1 : m ≤ a3 * S.d013
  g2 : m ≤ a1 * S.d012
  g3 : m ≤ a1 * S.d013
  sum : a1 * a3 * S.d013 + a3 * S.d013 + a1 * S.d012 + a1 * S.d013 ≤ 12 * m

theorem wis (h : QZ q Q a1 a3) : ∃ m, Wis Q.str a1 a3 m := by
  have F := str_F h.F
  have A1 := h.r1
  have A3 := h.r3
  have A2 := h.r2
  have u1 := h.u1
  have u1' := h.u1'
  have u3 := h.u3
  have u3' := h.u3'
  have r13 := h.r13
  have r31 := h.r31
  have f3 := F.h3
  have f2 := F.h2
  have pos := F.pos
  rw [show (∃ m, Wis Q.str a1 a3 m) = ∃ m, Wis Q.str a1 a3 m from rfl]
  unfold In at A1 A2 A3
  have p1 : 0 ≤ a1 := by grind
  have p3 : 0 ≤ a3 := by grind
  have p2 : 0 ≤ a1 + a3 - 1 := by grind
  have pc : 0 ≤ Q.str.d123 := by grind
  have a13c := Rat.mul_nonneg (Rat.mul_nonneg p1 p3) pc
  have a12c := Rat.mul_nonneg (Rat.mul_nonneg p1 p2) pc
  have a32c := Rat.mul_nonneg (Rat.mul_nonneg p3 p2) pc
  have a1c := Rat.mul_nonneg p1 pc
  have a3c := Rat.mul_nonneg p3 pc
  have a2c := Rat.mul_nonneg p2 pc
  have k : ∀ W0 W1 W2 W3 : Rat, W0 = a1 * a3 * Q.str.d013 → W1 = a3 * Q.str.d013 → W2 = a1 * Q.str.d012 → W3 = a1 * Q.str.d013 → 0 < W0 → 0 < W1 → 0 < W2 → 0 < W3 →
      (W1 ≤ 20/7 * W0 ∧ W3 ≤ 20/7 * W0 ∧ W2 ≤ 100/21 * W0) → (W0 ≤ 20/7 * W1 ∧ W2 ≤ 20/7 * W1 ∧ W3 ≤ 100/21 * W1) → (W0 ≤ 100/21 * W2 ∧ W1 ≤ 20/7 * W2 ∧ W3 ≤ 20/7 * W2) → (W0 ≤ 20/7 * W3 ∧ W1 ≤ 100/21 * W3 ∧ W2 ≤ 20/7 * W3) → ∃ m, Wis Q.str a1 a3 m := by
    intro W0 W1 W2 W3 e0 e1 e2 e3 q0 q1 q2 q3 c0 c1 c2 c3
    rcases min4 W0 W1 W2 W3 with ⟨m1, m2, m3⟩ | ⟨m1, m2, m3⟩ | ⟨m1, m2, m3⟩ | ⟨m1, m2, m3⟩
    · exact ⟨W0, q0, by grind, by grind, by grind, by grind, by grind⟩
    · exact ⟨W1, q1, by grind, by grind, by grind, by grind, by grind⟩
    · exact ⟨W2, q2, by grind, by grind, by grind, by grind, by grind⟩
    · exact ⟨W3, q3, by grind, by grind, by grind, by grind, by grind⟩
  have pp1 : 0 < a1 := by grind
  have pp3 : 0 < a3 := by grind
  have pp2 : 0 < a1 + a3 - 1 := by grind
  refine k (a1 * a3 * ((a1 + a3 - 1) * Q.str.d123)) (a3 * ((a1 + a3 - 1) * Q.str.d123)) (a1 * (a3 * Q.str.d123)) (a1 * ((a1 + a3 - 1) * Q.str.d123)) (by rw [f2]) (by rw [f2]) (by rw [f3]) (by rw [f2])
    (Rat.mul_pos (Rat.mul_pos pp1 pp3) (Rat.mul_pos pp2 pos)) (Rat.mul_pos pp3 (Rat.mul_pos pp2 pos)) (Rat.mul_pos pp1 (Rat.mul_pos pp3 pos)) (Rat.mul_pos pp1 (Rat.mul_pos pp2 pos)) ?_ ?_ ?_ ?_
  · have g1 := Rat.mul_le_mul_of_nonneg_right (show 1 ≤ 20/7 * a1 by grind) a32c
    have g2 := Rat.mul_le_mul_of_nonneg_right (show 1 ≤ 20/7 * a3 by grind) a12c
    have g3 := Rat.mul_le_mul_of_nonneg_right (show 1 ≤ 100/21 * (a1 + a3 - 1) by grind) a13c
    clear k u1 u1' u3 u3' r13 r31 A1 A2 A3
    refine ⟨?_, ?_, ?_⟩ <;> grind
  · have g1 := Rat.mul_le_mul_of_nonneg_right (show a1 ≤ 20/7 by grind) a32c
    have g2 := Rat.mul_le_mul_of_nonneg_right (show a1 ≤ 20/7 * (a1 + a3 - 1) by grind) a3c
    have g3 := Rat.mul_le_mul_of_nonneg_right (show a1 ≤ 100/21 * a3 by grind) a2c
    clear k u1 u1' u3 u3' r13 r31 A1 A2 A3
    refine ⟨?_, ?_, ?_⟩ <;> grind
  · have g1 := Rat.mul_le_mul_of_nonneg_right (show a1 + a3 - 1 ≤ 100/21 by grind) a13c
    have g2 := Rat.mul_le_mul_of_nonneg_right (show a1 + a3 - 1 ≤ 20/7 * a1 by grind) a3c
    have g3 := Rat.mul_le_mul_of_nonneg_right (show a1 + a3 - 1 ≤ 20/7 * a3 by grind) a1c
    clear k u1 u1' u3 u3' r13 r31 A1 A2 A3
    refine ⟨?_, ?_, ?_⟩ <;> grind
  · have g1 := Rat.mul_le_mul_of_nonneg_right (show a3 ≤ 20/7 by grind) a12c
    have g2 := Rat.mul_le_mul_of_nonneg_right (show a3 ≤ 100/21 * a1 by grind) a2c
    have g3 := Rat.mul_le_mul_of_nonneg_right (show a3 ≤ 20/7 * (a1 + a3 - 1) by grind) a1c
    clear k u1 u1' u3 u3' r13 r31 A1 A2 A3
    refine ⟨?_, ?_, ?_⟩ <;> grind

theorem ts_ge (h : QZ q Q a1 a3) : ∃ m, (ts Q.str).Ge m := by
  obtain ⟨e012, e023, e013, e123⟩ := str_d Q
  have i0 := h.i012.1
  have i1 := h.i023.1
  have i2 := h.i013.1
  have i3 := h.i123.1
  exact ⟨3500, by grind, by show _ ≤ Q.str.d123; grind, by show _ ≤ Q.str.d023; grind, by show _ ≤ Q.str.d013; grind, by show _ ≤ Q.str.d012; grind⟩

theorem XX_w {w : Wt} (hw : w.OK) (S : Quad) (a1 a3 : Rat) (F : QF S a1 a3) : XX S a1 a3 (w.px S) (w.py S) = w.w1 * (a3 * S.d013) + w.w2 * (a1 * S.d012) := by
  have e : XX S a1 a3 (w.px S) (w.py S) = w.w0 * XX S a1 a3 S.x0 S.y0 + w.w1 * XX S a1 a3 S.x1 S.y1 + w.w2 * XX S a1 a3 S.x2 S.y2 + w.w3 * XX S a1 a3 S.x3 S.y3 := by
    unfold XX; exact aff_w hw S _ _ _
  rw [e, XX0, XX1, XX2 F, XX3]; grind
theorem YY_w {w : Wt} (hw : w.OK) (S : Quad) (a1 a3 : Rat) : YY S a1 a3 (w.px S) (w.py S) = w.w2 * (a1 * S.d012) + w.w3 * (a1 * S.d013) := by
  have e : YY S a1 a3 (w.px S) (w.py S) = w.w0 * YY S a1 a3 S.x0 S.y0 + w.w1 * YY S a1 a3 S.x1 S.y1 + w.w2 * YY S a1 a3 S.x2 S.y2 + w.w3 * YY S a1 a3 S.x3 S.y3 := by
    unfold YY; exact aff_w hw S _ _ _
  rw [e, YY0, YY1, YY2, YY3]; grind

/-- the way back from a point of the grid is where it was -/
theorem back_st (h : QZ q Q a1 a3) {s t : Rat} (h0 : 0 ≤ s) (h1 : s ≤ 1) (k0 : 0 ≤ t) (k1 : t ≤ 1) :
    XX Q.str a1 a3 (((bilW s t).img (ts Q.str)).px Q.str) (((bilW s t).img (ts Q.str)).py Q.str) = s * WW Q.str a1 a3 (((bilW s t).img (ts Q.str)).px Q.str) (((bilW s t).img (ts Q.str)).py Q.str) ∧
    YY Q.str a1 a3 (((bilW s t).img (ts Q.str)).px Q.str) (((bilW s t).img (ts Q.str)).py Q.str) = t * WW Q.str a1 a3 (((bilW s t).img (ts Q.str)).px Q.str) (((bilW s t).img (ts Q.str)).py Q.str) := by
  obtain ⟨m, hm⟩ := ts_ge h
  have hok := bilW_ok h0 h1 k0 k1
  have hi := img_ok hok hm
  have F := str_F h.F
  rw [XX_w hi _ _ _ F, YY_w hi, WW_w hi _ _ _ F]
  have f1 := F.h1
  have f3 := F.h3
  have f2 := F.h2
  unfold Wt.img ts
  dsimp only
  generalize (bilW s t).tot ⟨Q.str.d123, Q.str.d023, Q.str.d013, Q.str.d012⟩ = D
  unfold bilW
  dsimp only
  rw [← f1, ← f3, ← f2]
  generalize Q.str.d123 = c
  simp only [Rat.div_def]
  generalize D⁻¹ = I
  constructor <;> grind

theorem WW_pos (h : QZ q Q a1 a3) {J : Rat} (hJ : J * WW Q.str a1 a3 Q.str.mx Q.str.my = 1) : 0 < J ∧ ∀ w : Wt, w.OK → 0 < WW Q.str a1 a3 (w.px Q.str) (w.py Q.str) ∧ 1/3 ≤ J * WW Q.str a1 a3 (w.px Q.str) (w.py Q.str) := by
  obtain ⟨m, hm⟩ := wis h
  have F := str_F h.F
  have hmid : (⟨1/4, 1/4, 1/4, 1/4⟩ : Wt).OK := ⟨by decide +kernel, by decide +kernel, by decide +kernel, by decide +kernel, by decide +kernel⟩
  have e := WW_w hmid Q.str a1 a3 F
  have ex : (⟨1/4, 1/4, 1/4, 1/4⟩ : Wt).px Q.str = Q.str.mx := by unfold Wt.px Quad.mx; dsimp only; grind
  have ey : (⟨1/4, 1/4, 1/4, 1/4⟩ : Wt).py Q.str = Q.str.my := by unfold Wt.py Quad.my; dsimp only; grind
  rw [ex, ey] at e
  dsimp only at e
  have hc : WW Q.str a1 a3 Q.str.mx Q.str.my ≤ 3 * m := by have := hm.sum; grind
  have hp := hm.pos
  have hcp : 0 < WW Q.str a1 a3 Q.str.mx Q.str.my := by
    have := hm.g0
    have := hm.g1
    have := hm.g2
    have := hm.g3
    grind
  have hJp : 0 < J := by
    apply Classical.byContradiction; intro hn
    have := Rat.mul_nonneg (show 0 ≤ -J by grind) (Rat.le_of_lt hcp)
    grind
  refine ⟨hJp, fun w hw => ?_⟩
  have hge := mean_le hw hm.g0 hm.g1 hm.g2 hm.g3
  rw [← WW_w hw _ _ _ F] at hge
  have h1 := Rat.mul_le_mul_of_nonneg_left hge (Rat.le_of_lt hJp)
  have h2 := Rat.mul_le_mul_of_nonneg_left hc (Rat.le_of_lt hJp)
  exact ⟨by grind, by grind⟩

theorem mix {s A B E : Rat} (h0 : 0 ≤ s) (h1 : s ≤ 1) (hA : Bd A E) (hB : Bd B E) : Bd ((1 - s) * A + s * B) E := by
  unfold Bd at *
  have a1 := Rat.mul_le_mul_of_nonneg_left hA.1 (show 0 ≤ 1 - s by grind)
  have a2 := Rat.mul_le_mul_of_nonneg_left hA.2 (show 0 ≤ 1 - s by grind)
  have b1 := Rat.mul_le_mul_of_nonneg_left hB.1 h0
  have b2 := Rat.mul_le_mul_of_nonneg_left hB.2 h0
  constructor <;> grind

/-- a point half a pixel from a module's middle stays well within the module -/
theorem module_at (h : QZ q Q a1 a3) (hs : Sides Q) {s t : Rat} (h0 : 0 ≤ s) (h1 : s ≤ 1) (k0 : 0 ≤ t) (k1 : t ≤ 1) {x y : Rat}
    (hx : Bd (x - ((bilW s t).img (ts Q.str)).px Q.str) (5001/10000)) (hy : Bd (y - ((bilW s t).img (ts Q.str)).py Q.str) (5001/10000)) {J : Rat} (hJ : J * WW Q.str a1 a3 Q.str.mx Q.str.my = 1) :
    ∃ x' y', 3/10 ≤ J * WW Q.str a1 a3 x y ∧ J * XX Q.str a1 a3 x y = x' * (J * WW Q.str a1 a3 x y) ∧ J * YY Q.str a1 a3 x y = y' * (J * WW Q.str a1 a3 x y) ∧ Bd (x' - s) (360/10000) ∧ Bd (y' - t) (360/10000) := by
  obtain ⟨m, hm⟩ := ts_ge h
  have hok := img_ok (bilW_ok h0 h1 k0 k1) hm
  obtain ⟨hJp, hW⟩ := WW_pos h hJ
  obtain ⟨g1, g2⟩ := hW _ hok
  obtain ⟨b1, b2⟩ := back_st h h0 h1 k0 k1
  obtain ⟨s1, s2, s3, s4⟩ := strays h hs hok hx hy
  generalize ((bilW s t).img (ts Q.str)).px Q.str = px at *
  generalize ((bilW s t).img (ts Q.str)).py Q.str = py at *
  have eW : WW Q.str a1 a3 x y = WW Q.str a1 a3 px py + (O13 Q.str a1 a3 * (x - px) + O23 Q.str a1 a3 * (y - py)) := by unfold WW; grind
  have eX : XX Q.str a1 a3 x y = XX Q.str a1 a3 px py + (O11 Q.str a1 a3 * (x - px) + O21 Q.str a1 a3 * (y - py)) := by unfold XX; grind
  have eY : YY Q.str a1 a3 x y = YY Q.str a1 a3 px py + (O12 Q.str a1 a3 * (x - px) + O22 Q.str a1 a3 * (y - py)) := by unfold YY; grind
  have m1 := mix h0 h1 s1 s2
  have m2 := mix k0 k1 s3 s4
  have dX : XX Q.str a1 a3 x y - s * WW Q.str a1 a3 x y = (1 - s) * (O11 Q.str a1 a3 * (x - px) + O21 Q.str a1 a3 * (y - py)) + s * ((O11 Q.str a1 a3 - O13 Q.str a1 a3) * (x - px) + (O21 Q.str a1 a3 - O23 Q.str a1 a3) * (y - py)) := by rw [eX, eW, b1]; grind
  have dY : YY Q.str a1 a3 x y - t * WW Q.str a1 a3 x y = (1 - t) * (O12 Q.str a1 a3 * (x - px) + O22 Q.str a1 a3 * (y - py)) + t * ((O12 Q.str a1 a3 - O13 Q.str a1 a3) * (x - px) + (O22 Q.str a1 a3 - O23 Q.str a1 a3) * (y - py)) := by rw [eY, eW, b2]; grind
  rw [← dX] at m1
  rw [← dY] at m2
  have hWq : 93/100 * WW Q.str a1 a3 px py ≤ WW Q.str a1 a3 x y := by
    have e : WW Q.str a1 a3 x y = WW Q.str a1 a3 px py + ((O11 Q.str a1 a3 * (x - px) + O21 Q.str a1 a3 * (y - py)) - ((O11 Q.str a1 a3 - O13 Q.str a1 a3) * (x - px) + (O21 Q.str a1 a3 - O23 Q.str a1 a3) * (y - py))) := by rw [eW]; grind
    rw [e]
    unfold Bd at s1 s2
    grind
  clear s1 s2 s3 s4 eW eX eY dX dY b1 b2
  generalize WW Q.str a1 a3 px py = Wp at *
  generalize WW Q.str a1 a3 x y = Wq at *
  generalize XX Q.str a1 a3 x y = Xq at *
  generalize YY Q.str a1 a3 x y = Yq at *
  have hq0 : 0 < Wq := by grind
  have hne : Wq ≠ 0 := by grind
  have hab : ab Wq = Wq := by unfold ab; rw [if_pos (by grind)]
  have q1 : Bd ((Xq - s * Wq) / Wq) (360/10000) := bd_div hne (m1.mono (by rw [hab]; grind))
  have q2 : Bd ((Yq - t * Wq) / Wq) (360/10000) := bd_div hne (m2.mono (by rw [hab]; grind))
  have e1 : (Xq - s * Wq) / Wq = Xq / Wq - s := by
    rw [Rat.div_def, Rat.div_def, Rat.sub_eq_add_neg, Rat.add_mul]
    have : -(s * Wq) * Wq⁻¹ = -(s * (Wq * Wq⁻¹)) := by grind
    rw [this, Rat.mul_inv_cancel _ hne]; grind
  have e2 : (Yq - t * Wq) / Wq = Yq / Wq - t := by
    rw [Rat.div_def, Rat.div_def, Rat.sub_eq_add_neg, Rat.add_mul]
    have : -(t * Wq) * Wq⁻¹ = -(t * (Wq * Wq⁻¹)) := by grind
    rw [this, Rat.mul_inv_cancel _ hne]; grind
  rw [e1] at q1
  rw [e2] at q2
  have c1 : Xq / Wq * Wq = Xq := div_mul' hq0
  have c2 : Yq / Wq * Wq = Yq := div_mul' hq0
  have hJW := Rat.mul_le_mul_of_nonneg_left hWq (Rat.le_of_lt hJp)
  refine ⟨Xq / Wq, Yq / Wq, by grind, ?_, ?_, q1, q2⟩
  · have : Xq / Wq * (J * Wq) = J * (Xq / Wq * Wq) := by grind
    rw [this, c1]
  · have : Yq / Wq * (J * Wq) = J * (Yq / Wq * Wq) := by grind
    rw [this, c2]
end

def KL : Nat → Rat
  | 0 => 17 | 1 => 17 | 2 => 313 | 3 => 17 | 4 => 17 | 5 => 313 | _ => 13/10

theorem sum4 {k0 k1 k2 k3 m e0 e1 e2 e3 : Rat} (p0 : 0 ≤ k0) (p1 : 0 ≤ k1) (p2 : 0 ≤ k2) (p3 : 0 ≤ k3) (h0 : Bd e0 m) (h1 : Bd e1 m) (h2 : Bd e2 m) (h3 : Bd e3 m) : Bd (k0 * e0 - k1 * e1 + k2 * e2 - k3 * e3) (m * (k0 + k1 + k2 + k3)) := by
  unfold Bd at *
  have a0 := Rat.mul_le_mul_of_nonneg_left h0.1 p0
  have a1 := Rat.mul_le_mul_of_nonneg_left h1.1 p1
  have a2 := Rat.mul_le_mul_of_nonneg_left h2.1 p2
  have a3 := Rat.mul_le_mul_of_nonneg_left h3.1 p3
  have b0 := Rat.mul_le_mul_of_nonneg_left h0.2 p0
  have b1 := Rat.mul_le_mul_of_nonneg_left h1.2 p1
  have b2 := Rat.mul_le_mul_of_nonneg_left h2.2 p2
  have b3 := Rat.mul_le_mul_of_nonneg_left h3.2 p3
  constructor <;> grind

/-- half of what is at most twice so much -/
theorem half_bd {W x B : Rat} (hW : 2 ≤ W) (h : Bd (W * x) (2 * B)) : Bd x B := by
  have hB := h.nonneg
  unfold Bd at *
  constructor
  · apply Classical.byContradiction; intro hn
    have := Rat.mul_nonneg (show 0 ≤ W - 2 by grind) (show 0 ≤ -x by grind)
    grind
  · apply Classical.byContradiction; intro hn
    have := Rat.mul_nonneg (show 0 ≤ W - 2 by grind) (show 0 ≤ x by grind)
    grind

theorem by_k {k e T m : Rat} (hk : 0 < k) (hT : T ≤ 6 * k) (hm : 0 ≤ m) (h : Bd (k * e) (4 * (T * m))) : Bd e (24 * m) := by
  have h1 := Rat.mul_le_mul_of_nonneg_right hT hm
  unfold Bd at *
  constructor
  · apply Classical.byContradiction; intro hn
    have := Rat.mul_pos hk (show 0 < -e - 24 * m by grind)
    grind
  · apply Classical.byContradiction; intro hn
    have := Rat.mul_pos hk (show 0 < e - 24 * m by grind)
    grind

/-- four numbers that stand so to each other are all small -/
theorem four_small {k0 k1 k2 k3 e0 e1 e2 e3 D : Rat} (p0 : 0 < k0) (p1 : 0 < k1) (p2 : 0 < k2) (p3 : 0 < k3) (hD : 0 ≤ D) (h1 : Bd (k1 * e1 - k2 * e2) D) (h2 : Bd (k2 * e2 - k3 * e3) D) (hk : k0 * e0 - k1 * e1 + k2 * e2 - k3 * e3 = 0) (he : e0 + e1 + e2 + e3 = 0) :
    Bd (k0 * e0) (4 * D) ∧ Bd (k1 * e1) (4 * D) ∧ Bd (k2 * e2) (4 * D) ∧ Bd (k3 * e3) (4 * D) := by
  have sg : ∀ k e : Rat, 0 < k → 0 < k * e → 0 < e := fun k e hk h => by
    apply Classical.byContradiction; intro hn
    have := Rat.mul_nonneg (Rat.le_of_lt hk) (show 0 ≤ -e by grind)
    grind
  have sn : ∀ k e : Rat, 0 < k → k * e < 0 → e < 0 := fun k e hk h => by
    have := sg k (-e) hk (by grind)
    grind
  unfold Bd at *
  have h2' : Bd (k2 * e2) (2 * D) := by
    unfold Bd
    constructor
    · apply Classical.byContradiction; intro hn
      have := sn k2 e2 p2 (by grind)
      have := sn k1 e1 p1 (by grind)
      have := sn k3 e3 p3 (by grind)
      have := sn k0 e0 p0 (by grind)
      grind
    · apply Classical.byContradiction; intro hn
      have := sg k2 e2 p2 (by grind)
      have := sg k1 e1 p1 (by grind)
      have := sg k3 e3 p3 (by grind)
      have := sg k0 e0 p0 (by grind)
      grind
  unfold Bd at h2'
  clear sg sn he
  refine ⟨⟨?_, ?_⟩, ⟨?_, ?_⟩, ⟨?_, ?_⟩, ?_, ?_⟩ <;> grind

theorem inveL {q : Q8} {Q : Quad} {a1 a3 : Rat} (h : QZ q Q a1 a3) {W H : Rat} (hW : 2 ≤ W ∧ W ≤ 13) (hH : 2 ≤ H ∧ H ≤ 13) {f : Nat → Rat} {m : Rat}
    (r0 : Bd (f 0 * Q.str.cen.x0 + f 1 * Q.str.cen.y0 + f 2) m) (r1 : Bd (f 0 * Q.str.cen.x1 + f 1 * Q.str.cen.y1 + f 2 - W * (f 6 * Q.str.cen.x1 + f 7 * Q.str.cen.y1)) m)
    (r2 : Bd (f 0 * Q.str.cen.x2 + f 1 * Q.str.cen.y2 + f 2 - W * (f 6 * Q.str.cen.x2 + f 7 * Q.str.cen.y2)) m) (r3 : Bd (f 0 * Q.str.cen.x3 + f 1 * Q.str.cen.y3 + f 2) m)
    (s0 : Bd (f 3 * Q.str.cen.x0 + f 4 * Q.str.cen.y0 + f 5) m) (s1 : Bd (f 3 * Q.str.cen.x1 + f 4 * Q.str.cen.y1 + f 5) m)
    (s2 : Bd (f 3 * Q.str.cen.x2 + f 4 * Q.str.cen.y2 + f 5 - H * (f 6 * Q.str.cen.x2 + f 7 * Q.str.cen.y2)) m) (s3 : Bd (f 3 * Q.str.cen.x3 + f 4 * Q.str.cen.y3 + f 5 - H * (f 6 * Q.str.cen.x3 + f 7 * Q.str.cen.y3)) m) :
    ∀ r, r < 8 → Bd (f r) (KL r * m) := by
  have hm := r0.nonneg
  have hc := cen_of h
  have hk := ks_of h
  have c0 : Q.str.cen.x0 = 6/5 * Q.cen.x0 ∧ Q.str.cen.y0 = 6/5 * Q.cen.y0 := by unfold Quad.cen Quad.mx Quad.my Quad.str; constructor <;> grind
  have c1 : Q.str.cen.x1 = 6/5 * Q.cen.x1 ∧ Q.str.cen.y1 = 6/5 * Q.cen.y1 := by unfold Quad.cen Quad.mx Quad.my Quad.str; constructor <;> grind
  have c2 : Q.str.cen.x2 = 6/5 * Q.cen.x2 ∧ Q.str.cen.y2 = 6/5 * Q.cen.y2 := by unfold Quad.cen Quad.mx Quad.my Quad.str; constructor <;> grind
  have c3 : Q.str.cen.x3 = 6/5 * Q.cen.x3 ∧ Q.str.cen.y3 = 6/5 * Q.cen.y3 := by unfold Quad.cen Quad.mx Quad.my Quad.str; constructor <;> grind
  rw [c0.1, c0.2] at r0 s0
  rw [c1.1, c1.2] at r1 s1
  rw [c2.1, c2.2] at r2 s2
  rw [c3.1, c3.2] at r3 s3
  clear c0 c1 c2 c3
  obtain ⟨a, ha⟩ : ∃ a, a = 6/5 * f 0 := ⟨_, rfl⟩
  obtain ⟨b, hb⟩ : ∃ b, b = 6/5 * f 1 := ⟨_, rfl⟩
  obtain ⟨a', ha'⟩ : ∃ a, a = 6/5 * f 3 := ⟨_, rfl⟩
  obtain ⟨b', hb'⟩ : ∃ b, b = 6/5 * f 4 := ⟨_, rfl⟩
  obtain ⟨g, hg⟩ : ∃ b, b = 6/5 * f 6 := ⟨_, rfl⟩
  obtain ⟨z, hz⟩ : ∃ b, b = 6/5 * f 7 := ⟨_, rfl⟩
  have cv : ∀ p p' x y : Rat, p * (6/5 * x) + p' * (6/5 * y) = 6/5 * p * x + 6/5 * p' * y := by intro p p' x y; grind
  rw [cv, ← ha, ← hb] at r0 r1 r2 r3
  rw [cv, ← ha', ← hb'] at s0 s1 s2 s3
  rw [cv, ← hg, ← hz] at r1 r2 s2 s3
  -- the values of the divisor
  obtain ⟨e0, he0⟩ : ∃ e, e = g * Q.cen.x0 + z * Q.cen.y0 := ⟨_, rfl⟩
  obtain ⟨e1, he1⟩ : ∃ e, e = g * Q.cen.x1 + z * Q.cen.y1 := ⟨_, rfl⟩
  obtain ⟨e2, he2⟩ : ∃ e, e = g * Q.cen.x2 + z * Q.cen.y2 := ⟨_, rfl⟩
  obtain ⟨e3, he3⟩ : ∃ e, e = g * Q.cen.x3 + z * Q.cen.y3 := ⟨_, rfl⟩
  rw [← he1] at r1
  rw [← he2] at r2 s2
  rw [← he3] at s3
  have q0 := hk.p0
  have q1 := hk.p1
  have q2 := hk.p2
  have q3 := hk.p3
  have ksum := hk.sum
  have kx := hk.mx
  have ky := hk.my
  have sx := hc.sx
  have sy := hc.sy
  have he : e0 + e1 + e2 + e3 = 0 := by
    have : e0 + e1 + e2 + e3 = g * (Q.cen.x0 + Q.cen.x1 + Q.cen.x2 + Q.cen.x3) + z * (Q.cen.y0 + Q.cen.y1 + Q.cen.y2 + Q.cen.y3) := by rw [he0, he1, he2, he3]; grind
    rw [this, sx, sy]; grind
  have hke : Q.d123 * e0 - Q.d023 * e1 + Q.d013 * e2 - Q.d012 * e3 = 0 := by
    have : Q.d123 * e0 - Q.d023 * e1 + Q.d013 * e2 - Q.d012 * e3 = g * (Q.d123 * Q.cen.x0 - Q.d023 * Q.cen.x1 + Q.d013 * Q.cen.x2 - Q.d012 * Q.cen.x3) + z * (Q.d123 * Q.cen.y0 - Q.d023 * Q.cen.y1 + Q.d013 * Q.cen.y2 - Q.d012 * Q.cen.y3) := by rw [he0, he1, he2, he3]; grind
    rw [this, kx, ky]; grind
  have z0 : ∀ x : Rat, x - 0 = x := fun x => by grind
  have L1 := sum4 (by grind) (by grind) (by grind) (by grind) (e0 := a * Q.cen.x0 + b * Q.cen.y0 + f 2 - 0) (e3 := a * Q.cen.x3 + b * Q.cen.y3 + f 2 - 0) (by rw [z0]; exact r0) r1 r2 (by rw [z0]; exact r3) (k0 := Q.d123) (k1 := Q.d023) (k2 := Q.d013) (k3 := Q.d012)
  have L2 := sum4 (by grind) (by grind) (by grind) (by grind) (e0 := a' * Q.cen.x0 + b' * Q.cen.y0 + f 5 - 0) (e1 := a' * Q.cen.x1 + b' * Q.cen.y1 + f 5 - 0) (by rw [z0]; exact s0) (by rw [z0]; exact s1) s2 s3 (k0 := Q.d123) (k1 := Q.d023) (k2 := Q.d013) (k3 := Q.d012)
  rw [hk.left] at L1 L2
  obtain ⟨T, hT⟩ : ∃ T, T = Q.d123 + Q.d013 := ⟨_, rfl⟩
  have hT2 : T = Q.d023 + Q.d012 := by grind
  have eS : m * (Q.d123 + Q.d023 + Q.d013 + Q.d012) = 2 * (T * m) := by
    have : Q.d123 + Q.d023 + Q.d013 + Q.d012 = 2 * T := by grind
    rw [this]; grind
  rw [eS] at L1 L2
  have M1 : Bd (Q.d023 * e1 - Q.d013 * e2) (T * m) := half_bd hW.1 (by
    have e : W * (Q.d023 * e1 - Q.d013 * e2) = -(Q.d123 * 0 - Q.d023 * (W * e1) + Q.d013 * (W * e2) - Q.d012 * 0) := by grind
    rw [e]; exact L1)
  have M2 : Bd (Q.d013 * e2 - Q.d012 * e3) (T * m) := half_bd hH.1 (by
    have e : H * (Q.d013 * e2 - Q.d012 * e3) = -(-(Q.d123 * 0 - Q.d023 * 0 + Q.d013 * (H * e2) - Q.d012 * (H * e3))) := by grind
    rw [e]; exact L2.neg)
  clear L1 L2
  have hTm : 0 ≤ T * m := Rat.mul_nonneg (by grind) hm
  obtain ⟨n0, n1, n2, n3⟩ := four_small (by grind) (by grind) (by grind) (by grind) hTm M1 M2 hke he
  have A2 := h.r2
  have r13 := h.r13
  have r31 := h.r31
  have f1 := h.F.h1
  have f3 := h.F.h3
  have f2 := h.F.h2
  have pos := h.F.pos
  unfold In at A2
  have t02 : Q.d013 ≤ 100/21 * Q.d123 := by have := Rat.mul_le_mul_of_nonneg_right A2.2 (Rat.le_of_lt pos); grind
  have t20 : 21/100 * Q.d123 ≤ Q.d013 := by have := Rat.mul_le_mul_of_nonneg_right A2.1 (Rat.le_of_lt pos); grind
  have t13 : 21/100 * Q.d023 ≤ Q.d012 := by have := Rat.mul_le_mul_of_nonneg_right r13 (Rat.le_of_lt pos); grind
  have t31 : 21/100 * Q.d012 ≤ Q.d023 := by have := Rat.mul_le_mul_of_nonneg_right r31 (Rat.le_of_lt pos); grind
  have w0 := by_k (by grind) (show T ≤ 6 * Q.d123 by grind) hm n0
  have w1 := by_k (by grind) (show T ≤ 6 * Q.d023 by grind) hm n1
  have w2 := by_k (by grind) (show T ≤ 6 * Q.d013 by grind) hm n2
  have w3 := by_k (by grind) (show T ≤ 6 * Q.d012 by grind) hm n3
  clear n0 n1 n2 n3 M1 M2 hke t02 t20 t13 t31 f1 f2 f3 r13 r31 A2 eS hT hT2 hTm
  have sg := affine_small h (a := g) (b := z) (f := 0) (t := 24 * m) (by rw [← he0]; unfold Bd at w0; constructor <;> grind) (by rw [← he1]; unfold Bd at w1; constructor <;> grind) (by rw [← he2]; unfold Bd at w2; constructor <;> grind) (by rw [← he3]; unfold Bd at w3; constructor <;> grind)
  have up : ∀ V e x : Rat, 2 ≤ V ∧ V ≤ 13 → Bd e (24 * m) → Bd (x - V * e) m → x ≤ 313 * m ∧ -(313 * m) ≤ x := by
    intro V e x hV he hx
    have := Bd.mul (show Bd V 13 by unfold Bd; constructor <;> grind) he
    unfold Bd at *; constructor <;> grind
  have up0 : ∀ x : Rat, Bd x m → x ≤ 313 * m ∧ -(313 * m) ≤ x := by intro x hx; unfold Bd at *; constructor <;> grind
  have se := affine_small h (a := a) (b := b) (f := f 2) (t := 313 * m) (up0 _ r0) (up _ _ _ hW w1 r1) (up _ _ _ hW w2 r2) (up0 _ r3)
  have so := affine_small h (a := a') (b := b') (f := f 5) (t := 313 * m) (up0 _ s0) (up0 _ s1) (up _ _ _ hH w2 s2) (up _ _ _ hH w3 s3)
  clear up up0 r0 r1 r2 r3 s0 s1 s2 s3 w0 w1 w2 w3 hc hk he0 he1 he2 he3 he ksum kx ky sx sy
  intro r hr
  rcases (show r = 0 ∨ r = 1 ∨ r = 2 ∨ r = 3 ∨ r = 4 ∨ r = 5 ∨ r = 6 ∨ r = 7 by omega) with rfl | rfl | rfl | rfl | rfl | rfl | rfl | rfl
  · show Bd (f 0) (17 * m); unfold Bd; constructor <;> grind
  · show Bd (f 1) (17 * m); unfold Bd; constructor <;> grind
  · show Bd (f 2) (313 * m); unfold Bd; constructor <;> grind
  · show Bd (f 3) (17 * m); unfold Bd; constructor <;> grind
  · show Bd (f 4) (17 * m); unfold Bd; constructor <;> grind
  · show Bd (f 5) (313 * m); unfold Bd; constructor <;> grind
  · show Bd (f 6) (13/10 * m); unfold Bd; constructor <;> grind
  · show Bd (f 7) (13/10 * m); unfold Bd; constructor <;> grind

end Go.Proofs.Ytaadklfendegfaa
