/- Functionals on the rows of an elimination in floats; the greatest of a column. -/
import Derived.Test.YtaadklfendegfaaEa
namespace Go.Proofs.Ytaadklfendegfaa
open Go Fl

/-- a row's value by weights, from a column on -/
def ph (f : Nat → Rat) (R : Nat → Nat) (j : Nat) : Rat :=
  (if j ≤ 0 then f 0 * val (R 0) else 0) + (if j ≤ 1 then f 1 * val (R 1) else 0) + (if j ≤ 2 then f 2 * val (R 2) else 0) + (if j ≤ 3 then f 3 * val (R 3) else 0) + (if j ≤ 4 then f 4 * val (R 4) else 0) +
    (if j ≤ 5 then f 5 * val (R 5) else 0) + (if j ≤ 6 then f 6 * val (R 6) else 0) + (if j ≤ 7 then f 7 * val (R 7) else 0) + (if j ≤ 8 then f 8 * val (R 8) else 0)

def tot (F E : Nat → Rat) : Rat := F 0 * E 0 + F 1 * E 1 + F 2 * E 2 + F 3 * E 3 + F 4 * E 4 + F 5 * E 5 + F 6 * E 6 + F 7 * E 7 + F 8 * E 8

theorem ph_split (f : Nat → Rat) (R : Nat → Nat) {k : Nat} (hk : k < 8) : ph f R k = f k * val (R k) + ph f R (k + 1) := by
  unfold ph
  rcases (show k = 0 ∨ k = 1 ∨ k = 2 ∨ k = 3 ∨ k = 4 ∨ k = 5 ∨ k = 6 ∨ k = 7 by omega) with rfl | rfl | rfl | rfl | rfl | rfl | rfl | rfl <;> simp <;> grind

theorem ph_last (f : Nat → Rat) (R : Nat → Nat) : ph f R 8 = f 8 * val (R 8) := by unfold ph; simp; try grind

/-- how far a row's value is from the exact one, column by column -/
theorem ph_near {f F E : Nat → Rat} {R A P : Nat → Nat} {b : Rat} (hf : ∀ c, c < 9 → Bd (f c) (F c)) (hE : ∀ c, c < 9 → 0 ≤ E c) {j : Nat} (h : ∀ c, j ≤ c → c < 9 → Nr (val (R c)) (val (A c) - b * val (P c)) (E c)) :
    Nr (ph f R j) (ph f A j - b * ph f P j) (tot F E) := by
  have key : ∀ c, c < 9 → Bd ((if j ≤ c then f c * val (R c) else 0) - ((if j ≤ c then f c * val (A c) else 0) - b * (if j ≤ c then f c * val (P c) else 0))) (F c * E c) := by
    intro c hc
    by_cases hjc : j ≤ c
    · rw [if_pos hjc, if_pos hjc, if_pos hjc]
      have h1 : Bd (val (R c) - (val (A c) - b * val (P c))) (E c) := by have := h c hjc hc; unfold Nr Bd at *; grind
      have h2 := Bd.mul (hf c hc) h1
      have e : f c * val (R c) - (f c * val (A c) - b * (f c * val (P c))) = f c * (val (R c) - (val (A c) - b * val (P c))) := by grind
      rw [e]; exact h2
    · rw [if_neg hjc, if_neg hjc, if_neg hjc]
      have := Rat.mul_nonneg (Bd.nonneg (hf c hc)) (hE c hc)
      unfold Bd; constructor <;> grind
  have k0 := key 0 (by omega)
  have k1 := key 1 (by omega)
  have k2 := key 2 (by omega)
  have k3 := key 3 (by omega)
  have k4 := key 4 (by omega)
  have k5 := key 5 (by omega)
  have k6 := key 6 (by omega)
  have k7 := key 7 (by omega)
  have k8 := key 8 (by omega)
  clear key h hf hE
  unfold ph tot
  unfold Bd at *
  unfold Nr
  constructor <;> grind

/-- one step: the column k falls away -/
theorem ph_step {f F E : Nat → Rat} {R A P : Nat → Nat} {b d : Rat} (hf : ∀ c, c < 9 → Bd (f c) (F c)) (hE : ∀ c, c < 9 → 0 ≤ E c) {k : Nat} (hk : k < 8) (h : ∀ c, k < c → c < 9 → Nr (val (R c)) (val (A c) - b * val (P c)) (E c))
    (hd : Bd (val (A k) - b * val (P k)) d) : Nr (ph f R (k + 1)) (ph f A k - b * ph f P k) (tot F E + F k * d) := by
  have h1 := ph_near hf hE (j := k + 1) (fun c hc hc9 => h c (by omega) hc9)
  have h2 := Bd.mul (hf k (by omega)) hd
  rw [ph_split f A hk, ph_split f P hk]
  unfold Nr Bd at *
  constructor <;> grind

/-- the greatest of a column is found -/
theorem best_max {M : Nat → Nat → Nat} {k : Nat} (hfin : ∀ r, r < 8 → Fl.fin (M r k)) (n : Nat) (hn : k + n ≤ 8) (hk : k < 8) :
    ∀ i, i < n → ∃ B, Bd (val (M (k + i) k)) B ∧ (B ≤ val (M (bestOf M k n) k) ∨ B ≤ -val (M (bestOf M k n) k)) := by
  have habs : ∀ {x : Nat}, Fl.fin x → Fl.fin (fabs x) ∧ 0 ≤ val (fabs x) ∧ Bd (val x) (val (fabs x)) ∧ (val (fabs x) = val x ∨ val (fabs x) = -val x) := by
    intro x hx
    obtain ⟨a1, a2, a3⟩ := Fl.abs_val hx
    unfold fabs
    by_cases h0 : 0 ≤ val x
    · have := a2 h0
      exact ⟨a1, by grind, by unfold Bd; constructor <;> grind, Or.inl this⟩
    · have := a3 (by grind)
      exact ⟨a1, by grind, by unfold Bd; constructor <;> grind, Or.inr this⟩
  induction n with
  | zero => intro i hi; omega
  | succ n ih =>
    have hb := bestOf_lt M k n (by omega) hk
    obtain ⟨b1, b2, b3, b4⟩ := habs (hfin _ hb)
    obtain ⟨c1, c2, c3, c4⟩ := habs (hfin (k + n) (by omega))
    obtain ⟨o1, o2, o3⟩ := Fl.order_val c1 b1
    intro i hi
    unfold bestOf
    by_cases hg : fgt (fabs (M (k + n) k)) (fabs (M (bestOf M k n) k)) = true
    · rw [if_pos hg]
      have hlt : val (fabs (M (bestOf M k n) k)) ≤ val (fabs (M (k + n) k)) := by
        apply Classical.byContradiction; intro hh
        have hg' : (Ieee.double.order (fabs (M (k + n) k)) (fabs (M (bestOf M k n) k)) == some .gt) = true := hg
        rw [o1 (by grind)] at hg'; simp at hg'
      refine ⟨val (fabs (M (k + n) k)), ?_, by grind⟩
      by_cases e : i = n
      · subst e; exact c3
      · obtain ⟨B, d1, d2⟩ := ih (by omega) i (by omega)
        unfold Bd at *; constructor <;> grind
    · rw [if_neg hg]
      have hle : val (fabs (M (k + n) k)) ≤ val (fabs (M (bestOf M k n) k)) := by
        apply Classical.byContradiction; intro hh
        apply hg
        show (Ieee.double.order (fabs (M (k + n) k)) (fabs (M (bestOf M k n) k)) == some .gt) = true
        rw [o3 (by grind)]; rfl
      refine ⟨val (fabs (M (bestOf M k n) k)), ?_, by grind⟩
      by_cases e : i = n
      · subst e; unfold Bd at *; constructor <;> grind
      · obtain ⟨B, d1, d2⟩ := ih (by omega) i (by omega)
        unfold Bd at *; constructor <;> grind

end Go.Proofs.Ytaadklfendegfaa
