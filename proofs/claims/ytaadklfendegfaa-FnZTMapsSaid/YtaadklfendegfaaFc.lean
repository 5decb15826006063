/- The way down of an elimination in floats: the pivots are never small, the rows stay near what they were. -/
import Derived.Test.YtaadklfendegfaaFb
namespace Go.Proofs.Ytaadklfendegfaa
open Go Fl

def swpT (τ : Nat → Bool) (k b : Nat) : Nat → Bool := fun i => if i = b then τ k else if i = k then τ b else τ i
abbrev bst (T : Nat → Nat → Nat) (k : Nat) : Nat := bestOf T k (8 - k)

def eL (e0 : Bool → Nat → Rat) (t : Bool) (k : Nat) : Nat → Rat := fun c => u53 * (lw t k c * e0 t c)
def dL (e0 : Bool → Nat → Rat) (t : Bool) (k : Nat) : Nat → Rat := fun c => u53 * ((if c < k then 0 else (if own t k then 301/100 else 101/100) * gr t k) * e0 t c)
theorem eL_succ (e0 : Bool → Nat → Rat) (t : Bool) (k : Nat) : eL e0 t (k + 1) = fun c => eL e0 t k c + dL e0 t k c := by
  funext c
  unfold eL dL
  show u53 * ((lw t k c + _) * _) = _
  grind
theorem lw_nonneg (t : Bool) (k c : Nat) : 0 ≤ lw t k c := by
  induction k with
  | zero => exact Rat.le_refl
  | succ k ih =>
    unfold lw
    have := gr_ge t k
    by_cases hc : c < k
    · rw [if_pos hc]; grind
    · rw [if_neg hc]; split <;> grind
theorem eL_nonneg {e0 : Bool → Nat → Rat} (hz : Sz e0) (t : Bool) (k c : Nat) (hc : c < 9) : 0 ≤ eL e0 t k c :=
  Rat.mul_nonneg (Rat.le_of_lt u53_pos) (Rat.mul_nonneg (lw_nonneg t k c) (hz.nonneg t hc))

structure LStep (e0 : Bool → Nat → Rat) (T : Nat → Nat → Nat) (τ : Nat → Bool) (T' : Nat → Nat → Nat) (τ' : Nat → Bool) (k : Nat) : Prop where
  top : T' k = swp T k (bst T k) k
  pty : τ' k = swpT τ k (bst T k) k
  ty : ∀ i, k < i → i < 8 → τ' i = swpT τ k (bst T k) i
  piv : 1/10000 ≤ val (T' k k) ∨ val (T' k k) ≤ -(1/10000)
  rows : ∀ i, k < i → i < 8 → ∃ by', fdiv (swp T k (bst T k) i k) (T' k k) = some by' ∧ RowR (swp T k (bst T k)) k i by' (T' i) ∧
    ∀ f, Bd (ph f (T' i) (k + 1) - (ph f (swp T k (bst T k) i) k - val by' * ph f (T' k) k)) (tot (wt f) (dL e0 (τ' i) k))

structure Chain (e0 : Bool → Nat → Rat) (M0 : Nat → Nat → Nat) (L : Nat → Nat → Nat → Nat) (τ : Nat → Nat → Bool) (k : Nat) : Prop where
  z : L 0 = M0
  row : ∀ j, j ≤ k → ∀ i, j ≤ i → i < 8 → LowRow e0 (τ j i) j (L j i)
  step : ∀ j, j < k → LStep e0 (L j) (τ j) (L (j + 1)) (τ (j + 1)) j

/-- weights that the pivots' rows do not see -/
def Kills (L : Nat → Nat → Nat → Nat) (f : Nat → Rat) (k : Nat) : Prop := ∀ j, j < k → ph f (L (j + 1) j) j = 0

theorem low_fun {e0 : Bool → Nat → Rat} (hz : Sz e0) {M0 : Nat → Nat → Nat} {L : Nat → Nat → Nat → Nat} {τ : Nat → Nat → Bool} {k : Nat} (hk : k ≤ 8) (h : Chain e0 M0 L τ k) {f : Nat → Rat} (hf : Kills L f k) {W : Nat → Rat} (hW : ∀ t j c, j ≤ 8 → c < 9 → eL e0 t j c ≤ W c) :
    ∀ j, j ≤ k → ∀ i0, i0 < 8 → (∃ i, j ≤ i ∧ i < 8 ∧ Bd (ph f (M0 i0) 0 - ph f (L j i) j) (tot (wt f) (eL e0 (τ j i) j))) ∨ Bd (ph f (M0 i0) 0) (tot (wt f) W) := by
  intro j
  induction j with
  | zero =>
    intro _ i0 h0
    left
    refine ⟨i0, Nat.zero_le _, h0, ?_⟩
    have := tot_nonneg (wt_nonneg f) (fun c hc => eL_nonneg hz (τ 0 i0) 0 c hc)
    rw [h.z]
    unfold Bd; constructor <;> grind
  | succ j ih =>
    intro hj i0 h0
    rcases ih (by omega) i0 h0 with ⟨i, i1, i2, i3⟩ | hr
    · have hs := h.step j (by omega)
      have hb1 := bestOf_ge (L j) j (8 - j)
      have hb2 := bestOf_lt (L j) j (8 - j) (by omega) (by omega)
      have hkill := hf j (by omega)
      have htop := hs.top
      by_cases hib : i = bst (L j) j
      · right
        have e : swp (L j) j (bst (L j) j) j = L j i := by
          unfold swp
          by_cases e : j = bst (L j) j
          · rw [if_pos e, hib, ← e]
          · rw [if_neg e, if_pos rfl, hib]
        rw [htop, e] at hkill
        rw [hkill] at i3
        have := tot_mono (F := wt f) (E := eL e0 (τ j i) j) (E' := W) (wt_nonneg f) (fun c hc => hW _ _ c (by omega) hc)
        unfold Bd at *; constructor <;> grind
      · left
        obtain ⟨i', j1, j2, j3, j4⟩ : ∃ i', j < i' ∧ i' < 8 ∧ swp (L j) j (bst (L j) j) i' = L j i ∧ τ (j + 1) i' = τ j i := by
          by_cases e : i = j
          · have hlt : j < bst (L j) j := by
              have : j ≤ bst (L j) j := hb1
              omega
            refine ⟨bst (L j) j, hlt, hb2, ?_, ?_⟩
            · unfold swp; rw [if_pos rfl, e]
            · rw [hs.ty _ hlt hb2]; unfold swpT; rw [if_pos rfl, e]
          · refine ⟨i, by omega, i2, ?_, ?_⟩
            · unfold swp; rw [if_neg hib, if_neg e]
            · rw [hs.ty i (by omega) i2]; unfold swpT; rw [if_neg hib, if_neg e]
        obtain ⟨by', r1, r2, r3⟩ := hs.rows i' j1 j2
        have hr := r3 f
        rw [hkill, j3, j4] at hr
        refine ⟨i', by omega, j2, ?_⟩
        rw [j4, eL_succ, tot_add]
        unfold Bd at *; constructor <;> grind
    · exact Or.inr hr

theorem ph_congr {f g : Nat → Rat} {R : Nat → Nat} {j : Nat} (h : ∀ c, j ≤ c → c < 9 → f c = g c) : ph f R j = ph g R j := by
  have key : ∀ c, c < 9 → (if j ≤ c then f c * val (R c) else 0) = (if j ≤ c then g c * val (R c) else 0) := by
    intro c hc
    by_cases hjc : j ≤ c
    · rw [if_pos hjc, if_pos hjc, h c hjc hc]
    · rw [if_neg hjc, if_neg hjc]
  unfold ph
  rw [key 0 (by omega), key 1 (by omega), key 2 (by omega), key 3 (by omega), key 4 (by omega), key 5 (by omega), key 6 (by omega), key 7 (by omega), key 8 (by omega)]

theorem ph_one (R : Nat → Nat) {k c : Nat} (h1 : k ≤ c) (h2 : c < 9) : ph (fun j => if j = c then 1 else 0) R k = val (R c) := by
  unfold ph
  rcases (show c = 0 ∨ c = 1 ∨ c = 2 ∨ c = 3 ∨ c = 4 ∨ c = 5 ∨ c = 6 ∨ c = 7 ∨ c = 8 by omega) with rfl | rfl | rfl | rfl | rfl | rfl | rfl | rfl | rfl <;> simp [h1] <;> try grind

theorem ph_unit {f : Nat → Rat} (R : Nat → Nat) {k c : Nat} (h1 : k ≤ c) (h2 : c < 9) (hc : f c = 1) (h0 : ∀ j, k ≤ j → j ≠ c → f j = 0) : ph f R k = val (R c) := by
  rw [← ph_one R h1 h2]
  refine ph_congr fun j hj _ => ?_
  by_cases e : j = c
  · rw [if_pos e, e, hc]
  · rw [if_neg e, h0 j hj e]

theorem back_sub (P : Nat → Nat → Nat) {k : Nat} (hk : k ≤ 8) (hd : ∀ j, j < k → val (P j j) ≠ 0) (g : Nat → Rat) : ∀ n, n ≤ k → ∃ f : Nat → Rat, (∀ c, k ≤ c → f c = g c) ∧ ∀ j, k - n ≤ j → j < k → ph f (P j) j = 0 := by
  intro n
  induction n with
  | zero => exact fun _ => ⟨g, fun _ _ => rfl, fun j h1 h2 => by omega⟩
  | succ n ih =>
    intro hn
    obtain ⟨f, f1, f2⟩ := ih (by omega)
    have hne := hd (k - n - 1) (by omega)
    refine ⟨fun c => if c = k - n - 1 then -(ph f (P (k - n - 1)) (k - n - 1 + 1)) / val (P (k - n - 1) (k - n - 1)) else f c, fun c hc => ?_, fun j h1 h2 => ?_⟩
    · show (if c = k - n - 1 then _ else f c) = _
      rw [if_neg (by omega)]; exact f1 c hc
    · by_cases e : j = k - n - 1
      · rw [e, ph_split _ _ (show k - n - 1 < 8 by omega), if_pos rfl]
        have e2 : ph (fun c => if c = k - n - 1 then -(ph f (P (k - n - 1)) (k - n - 1 + 1)) / val (P (k - n - 1) (k - n - 1)) else f c) (P (k - n - 1)) (k - n - 1 + 1) = ph f (P (k - n - 1)) (k - n - 1 + 1) :=
          ph_congr fun c hc _ => by rw [if_neg (by omega)]
        rw [e2, Rat.div_def, Rat.mul_assoc, Rat.inv_mul_cancel _ hne, Rat.mul_one]
        grind
      · rw [ph_congr (g := f) (fun c hc _ => by rw [if_neg (by omega)])]
        exact f2 j (by omega) h2

/-- the error of the value of a row that has been a pivot's, in parts of the columns' bounds -/
def uw (t : Bool) : Nat → Nat → Rat
  | 0, _ => 0
  | k + 1, c => uw t k c + (if k = 0 ∨ c < k then 0 else (if own t k then 205/100 * gr t k else 0) + 103/100 * (gr true k + (if c = 8 then 1 else 0)))
def eU (e0 : Bool → Nat → Rat) (t : Bool) (k : Nat) : Nat → Rat := fun c => u53 * (uw t k c * e0 t c)

def KK (K : Nat → Rat) : Nat → Rat := fun c => if c < 8 then K c else 0

/-- the sizes that the estimate needs: columns' bounds, the inverse's rows, the errors -/
structure Par (e0 : Bool → Nat → Rat) (K Wl Wu : Nat → Rat) : Prop where
  sz : Sz e0
  Kp : ∀ r, r < 8 → 0 < K r
  Kh : ∀ r, r < 8 → K r ≤ 5000
  wl0 : ∀ c, c < 9 → 0 ≤ Wl c
  wu0 : ∀ c, c < 9 → 0 ≤ Wu c
  wl : ∀ t j c, j ≤ 8 → c < 9 → eL e0 t j c ≤ Wl c
  wu : ∀ t j c, j ≤ 8 → c < 9 → eU e0 t j c ≤ Wu c
  om : tot (KK K) Wl + tot (KK K) Wu ≤ 1/1000
  omk : ∀ c, c < 8 → K c * (Wl c + Wu c) ≤ 1/1000
  sm : ∀ c, c < 9 → Wl c + Wu c ≤ 1/10^6

/-- rows that are all small make small weights -/
def Inve (M0 : Nat → Nat → Nat) (K : Nat → Rat) : Prop := ∀ (f : Nat → Rat) (m : Rat), (∀ i, i < 8 → Bd (ph f (M0 i) 0 - f 8 * val (M0 i 8)) m) → ∀ r, r < 8 → Bd (f r) (K r * m)

theorem low_vec {e0 : Bool → Nat → Rat} {K Wl Wu : Nat → Rat} (hp : Par e0 K Wl Wu) {M0 : Nat → Nat → Nat} (hi : Inve M0 K) {L : Nat → Nat → Nat → Nat} {τ : Nat → Nat → Bool} {k : Nat} (hk : k ≤ 8) (h : Chain e0 M0 L τ k) {c : Nat} (h1 : k ≤ c) (h2 : c < 9)
    {μ s : Rat} (hμ0 : 0 ≤ μ) (hμ : ∀ i, k ≤ i → i < 8 → Bd (val (L k i c)) μ) (hs0 : 0 ≤ s) (hs : c = 8 → ∀ i, i < 8 → Bd (val (M0 i 8)) s) :
    ∃ f Q, f c = 1 ∧ (∀ c', k ≤ c' → c' ≠ c → f c' = 0) ∧ Kills L f k ∧ 0 ≤ Q ∧ 999 * Q ≤ 1000 * (μ + s + Wl c) ∧ (∀ r, r < 8 → Bd (f r) (K r * Q)) ∧ (∀ i, i < 8 → Bd (ph f (M0 i) 0) (μ + tot (wt f) Wl)) ∧
      ∀ W : Nat → Rat, (∀ c, c < 9 → 0 ≤ W c) → tot (wt f) W ≤ tot (KK K) W * Q + W c := by
  obtain ⟨f, f1, f2⟩ := back_sub (fun j => L (j + 1) j) hk (fun j hj => by rcases (h.step j hj).piv with h | h <;> grind) (fun j => if j = c then 1 else 0) k (Nat.le_refl _)
  have hc1 : f c = 1 := by rw [f1 c h1, if_pos rfl]
  have hc0 : ∀ c', k ≤ c' → c' ≠ c → f c' = 0 := fun c' a b => by rw [f1 c' a, if_neg b]
  have hkill : Kills L f k := fun j hj => f2 j (by omega) hj
  have hfun := low_fun hp.sz hk h hkill hp.wl k (Nat.le_refl _)
  have hT := tot_nonneg (wt_nonneg f) hp.wl0
  have hrows : ∀ i, i < 8 → Bd (ph f (M0 i) 0) (μ + tot (wt f) Wl) := by
    intro i0 h0
    rcases hfun i0 h0 with ⟨i, i1, i2, i3⟩ | hr
    · rw [ph_unit (L k i) h1 h2 hc1 hc0] at i3
      have hm := hμ i i1 i2
      have hle := tot_mono (F := wt f) (E := eL e0 (τ k i) k) (E' := Wl) (wt_nonneg f) (fun c hc => hp.wl _ _ c hk hc)
      unfold Bd at *; constructor <;> grind
    · exact hr.mono (by grind)
  have hb : ∀ r, r < 8 → Bd (f r) (K r * (μ + tot (wt f) Wl + s)) := by
    refine hi f _ fun i h0 => ?_
    have hr := hrows i h0
    by_cases e : c = 8
    · have h8 := hs e i h0
      have : f 8 = 1 := by rw [← e]; exact hc1
      rw [this]
      unfold Bd at *; constructor <;> grind
    · have : f 8 = 0 := hc0 8 hk (fun h => e h.symm)
      rw [this]
      unfold Bd at *; constructor <;> grind
  have hQ0 : 0 ≤ μ + tot (wt f) Wl + s := by grind
  have hW : ∀ W : Nat → Rat, (∀ c, c < 9 → 0 ≤ W c) → tot (wt f) W ≤ tot (KK K) W * (μ + tot (wt f) Wl + s) + W c := by
    intro W hW0
    rw [← tot_one W h2, ← tot_sc, ← tot_add']
    refine tot_le fun j hj => Rat.mul_le_mul_of_nonneg_right ?_ (hW0 j hj)
    have hkk : 0 ≤ KK K j * (μ + tot (wt f) Wl + s) := by
      unfold KK
      by_cases h8 : j < 8
      · rw [if_pos h8]; exact Rat.mul_nonneg (Rat.le_of_lt (hp.Kp j h8)) hQ0
      · rw [if_neg h8, Rat.zero_mul]; exact Rat.le_refl
    by_cases hjk : j < k
    · have hb' := ab_le (hb j (by omega))
      have e : KK K j = K j := by unfold KK; rw [if_pos (by omega)]
      rw [e] at hkk ⊢
      show ab (f j) ≤ _
      split <;> grind
    · by_cases e : j = c
      · rw [if_pos e]
        show ab (f j) ≤ _
        have : ab (f j) = 1 := by rw [e, hc1]; decide +kernel
        grind
      · rw [if_neg e]
        show ab (f j) ≤ _
        have : ab (f j) = 0 := by rw [hc0 j (by omega) e]; decide +kernel
        grind
  have hself := hW Wl hp.wl0
  have hom := hp.om
  have hku : 0 ≤ tot (KK K) Wu := tot_nonneg (fun c hc => by
    unfold KK
    by_cases h8 : c < 8
    · rw [if_pos h8]; exact Rat.le_of_lt (hp.Kp c h8)
    · rw [if_neg h8]; exact Rat.le_refl) hp.wu0
  have h3 := Rat.mul_le_mul_of_nonneg_right (show tot (KK K) Wl ≤ 1/1000 by grind) hQ0
  exact ⟨f, _, hc1, hc0, hkill, hQ0, by grind, hb, hrows, hW⟩

/-- the pivot that is chosen is not small -/
theorem piv_lo {e0 : Bool → Nat → Rat} {K Wl Wu : Nat → Rat} (hp : Par e0 K Wl Wu) {M0 : Nat → Nat → Nat} (hi : Inve M0 K) {L : Nat → Nat → Nat → Nat} {τ : Nat → Nat → Bool} {k : Nat} (hk : k < 8) (h : Chain e0 M0 L τ k) :
    (∀ i, k ≤ i → i < 8 → Bd (val (L k i k)) (ab (val (L k (bst (L k) k) k)))) ∧ 998/1000 ≤ K k * ab (val (L k (bst (L k) k) k)) := by
  have hlt := bestOf_lt (L k) k (8 - k) (by omega) hk
  have hge := bestOf_ge (L k) k (8 - k)
  have hall : ∀ i, k ≤ i → i < 8 → Bd (val (L k i k)) (ab (val (L k (bst (L k) k) k))) := by
    intro i i1 i2
    -- the rows above are not looked at: the column is taken as nothing there
    have key := best_max (M := fun r c => if k ≤ r then L k r c else 0) (k := k) (fun r hr => by
      show Fl.fin (if k ≤ r then L k r k else 0)
      split
      · rename_i hkr; exact (h.row k (Nat.le_refl _) r hkr hr).fin k (by omega)
      · exact ⟨by decide, _, _, _, (by rfl : Ieee.double.read 0 = .number false 0 _)⟩) (8 - k) (by omega) hk (i - k) (by omega)
    have e : ∀ n, bestOf (fun r c => if k ≤ r then L k r c else 0) k n = bestOf (L k) k n := by
      intro n
      induction n with
      | zero => rfl
      | succ n ih =>
        unfold bestOf
        rw [ih]
        have g := bestOf_ge (L k) k n
        rw [if_pos (show k ≤ k + n by omega), if_pos g]
    obtain ⟨B, b1, b2⟩ := key
    rw [e] at b2
    have ek : k + (i - k) = i := by omega
    rw [ek] at b1
    simp only [if_pos i1] at b1
    simp only [if_pos hge] at b2
    have := ab_bd (val (L k (bst (L k) k) k))
    show Bd _ (ab (val (L k (bestOf (L k) k (8 - k)) k)))
    unfold Bd at *
    constructor <;> grind
  refine ⟨hall, ?_⟩
  obtain ⟨f, Q, q1, q2, q3, q4, q5, q6, _⟩ := low_vec hp hi (by omega) h (Nat.le_refl k) (by omega) (ab_nonneg _) hall Rat.le_refl (fun e => by omega)
  have h1 := (q6 k hk).2
  rw [q1] at h1
  have h2 := Rat.mul_le_mul_of_nonneg_left q5 (Rat.le_of_lt (hp.Kp k hk))
  have h3 := hp.omk k hk
  have h4 := Rat.mul_nonneg (Rat.le_of_lt (hp.Kp k hk)) (hp.wu0 k (by omega))
  grind

end Go.Proofs.Ytaadklfendegfaa
