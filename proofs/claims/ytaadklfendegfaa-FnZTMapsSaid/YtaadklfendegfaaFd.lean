/- The way down exists; the rows above a pivot stay in bounds. -/
import Derived.Test.YtaadklfendegfaaFc
namespace Go.Proofs.Ytaadklfendegfaa
open Go Fl

theorem swp_at (T : Nat → Nat → Nat) (k b : Nat) : swp T k b k = T b := by
  unfold swp
  by_cases e : k = b
  · rw [if_pos e, e]
  · rw [if_neg e, if_pos rfl]
theorem swpT_at (τ : Nat → Bool) (k b : Nat) : swpT τ k b k = τ b := by
  unfold swpT
  by_cases e : k = b
  · rw [if_pos e, e]
  · rw [if_neg e, if_pos rfl]

theorem far_of {K p : Rat} (hK : K ≤ 5000) (h : 998/1000 ≤ K * ab p) : 1/10000 ≤ p ∨ p ≤ -(1/10000) := by
  have h1 := Rat.mul_le_mul_of_nonneg_right hK (ab_nonneg p)
  unfold ab at *
  by_cases h0 : 0 ≤ p
  · rw [if_pos h0] at *; left; grind
  · rw [if_neg h0] at *; right; grind

theorem chain_step {e0 : Bool → Nat → Rat} {K Wl Wu : Nat → Rat} (hp : Par e0 K Wl Wu) {M0 : Nat → Nat → Nat} (hi : Inve M0 K) {L : Nat → Nat → Nat → Nat} {τ : Nat → Nat → Bool} {k : Nat} (hk : k < 8) (h : Chain e0 M0 L τ k) :
    ∃ T' τ', LStep e0 (L k) (τ k) T' τ' k ∧ ∀ i, k + 1 ≤ i → i < 8 → LowRow e0 (τ' i) (k + 1) (T' i) := by
  obtain ⟨hall, hlo⟩ := piv_lo hp hi hk h
  have hlt := bestOf_lt (L k) k (8 - k) (by omega) hk
  have hge := bestOf_ge (L k) k (8 - k)
  have hrow := h.row k (Nat.le_refl _)
  have hfar := far_of (hp.Kh k hk) hlo
  have hN : ∀ i, k ≤ i → i < 8 → LowRow e0 (swpT (τ k) k (bst (L k) k) i) k (swp (L k) k (bst (L k) k) i) := by
    intro i i1 i2
    unfold swp swpT
    by_cases e : i = bst (L k) k
    · rw [if_pos e, if_pos e]; exact hrow k (Nat.le_refl _) hk
    · rw [if_neg e, if_neg e]
      by_cases e2 : i = k
      · rw [if_pos e2, if_pos e2]; exact hrow _ hge hlt
      · rw [if_neg e2, if_neg e2]; exact hrow i i1 i2
  have hNb : ∀ i, k ≤ i → i < 8 → Bd (val (swp (L k) k (bst (L k) k) i k)) (ab (val (swp (L k) k (bst (L k) k) k k))) := by
    intro i i1 i2
    rw [swp_at]
    unfold swp
    by_cases e : i = bst (L k) k
    · rw [if_pos e]; exact hall k (Nat.le_refl _) hk
    · rw [if_neg e]
      by_cases e2 : i = k
      · rw [if_pos e2]; exact hall _ hge hlt
      · rw [if_neg e2]; exact hall i i1 i2
  have hfar' : 1/10000 ≤ val (swp (L k) k (bst (L k) k) k k) ∨ val (swp (L k) k (bst (L k) k) k k) ≤ -(1/10000) := by rw [swp_at]; exact hfar
  have cell : ∀ i, ∃ by' R, k < i → i < 8 → fdiv (swp (L k) k (bst (L k) k) i k) (swp (L k) k (bst (L k) k) k k) = some by' ∧ RowR (swp (L k) k (bst (L k) k)) k i by' R ∧ LowRow e0 (swpT (τ k) k (bst (L k) k) i) (k + 1) R ∧
      ∀ f, Bd (ph f R (k + 1) - (ph f (swp (L k) k (bst (L k) k) i) k - val by' * ph f (swp (L k) k (bst (L k) k) k) k)) (tot (wt f) (dL e0 (swpT (τ k) k (bst (L k) k) i) k)) := by
    intro i
    by_cases hc : k < i ∧ i < 8
    · obtain ⟨by', R, r1, r2, r3, r4, r5⟩ := low_row hp.sz hk (hN i (by omega) hc.2) (hN k (Nat.le_refl _) hk) hfar' (hNb i (by omega) hc.2)
      exact ⟨by', R, fun _ _ => ⟨r1, ⟨r2, r3⟩, r4, r5⟩⟩
    · exact ⟨0, fun _ => 0, fun a b => absurd ⟨a, b⟩ hc⟩
  obtain ⟨bs, hb⟩ := Classical.axiomOfChoice cell
  obtain ⟨Rs, hR⟩ := Classical.axiomOfChoice hb
  refine ⟨fun i => if k < i then Rs i else swp (L k) k (bst (L k) k) i, swpT (τ k) k (bst (L k) k), ⟨?_, rfl, fun _ _ _ => rfl, ?_, ?_⟩, ?_⟩
  · show (if k < k then _ else _) = _; rw [if_neg (by omega)]
  · show 1/10000 ≤ val ((if k < k then Rs k else swp (L k) k (bst (L k) k) k) k) ∨ _ ≤ _
    rw [if_neg (by omega)]; exact hfar'
  · intro i i1 i2
    obtain ⟨c1, c2, c3, c4⟩ := hR i i1 i2
    rw [if_neg (show ¬ k < k by omega), if_pos i1]
    exact ⟨bs i, c1, c2, c4⟩
  · intro i i1 i2
    show LowRow e0 _ (k + 1) (if k < i then Rs i else _)
    rw [if_pos (show k < i by omega)]
    exact (hR i (by omega) i2).2.2.1

theorem chain_ex {e0 : Bool → Nat → Rat} {K Wl Wu : Nat → Rat} (hp : Par e0 K Wl Wu) {M0 : Nat → Nat → Nat} (hi : Inve M0 K) {ty : Nat → Bool} (h0 : ∀ i, i < 8 → LowRow e0 (ty i) 0 (M0 i)) :
    ∀ k, k ≤ 8 → ∃ L τ, Chain e0 M0 L τ k := by
  intro k
  induction k with
  | zero =>
    refine fun _ => ⟨fun _ => M0, fun _ => ty, rfl, fun j hj i _ h8 => ?_, fun j hj => by omega⟩
    obtain rfl : j = 0 := by omega
    exact h0 i h8
  | succ k ih =>
    intro hk
    obtain ⟨L, τ, h⟩ := ih (by omega)
    obtain ⟨T', τ', s1, s2⟩ := chain_step hp hi (by omega) h
    refine ⟨fun j => if j ≤ k then L j else T', fun j => if j ≤ k then τ j else τ', ?_, ?_, ?_⟩
    · show (if 0 ≤ k then L 0 else T') = M0; rw [if_pos (Nat.zero_le _)]; exact h.z
    · intro j hj i i1 i2
      by_cases e : j ≤ k
      · rw [if_pos e, if_pos e]; exact h.row j e i i1 i2
      · obtain rfl : j = k + 1 := by omega
        rw [if_neg e, if_neg e]; exact s2 i i1 i2
    · intro j hj
      by_cases e : j < k
      · rw [if_pos (by omega), if_pos (by omega), if_pos (by omega), if_pos (by omega)]; exact h.step j e
      · obtain rfl : j = k := by omega
        rw [if_pos (Nat.le_refl _), if_pos (Nat.le_refl _), if_neg (by omega), if_neg (by omega)]; exact s1

theorem Chain.mono {e0 : Bool → Nat → Rat} {M0 : Nat → Nat → Nat} {L : Nat → Nat → Nat → Nat} {τ : Nat → Nat → Bool} {k n : Nat} (h : Chain e0 M0 L τ n) (hk : k ≤ n) : Chain e0 M0 L τ k :=
  ⟨h.z, fun j hj => h.row j (by omega), fun j hj => h.step j (by omega)⟩

/-- the pivots' rows -/
theorem Chain.prow {e0 : Bool → Nat → Rat} {M0 : Nat → Nat → Nat} {L : Nat → Nat → Nat → Nat} {τ : Nat → Nat → Bool} {k : Nat} (h : Chain e0 M0 L τ 8) (hk : k < 8) : LowRow e0 (τ (k + 1) k) k (L (k + 1) k) := by
  have hs := h.step k hk
  rw [hs.top, hs.pty, swp_at, swpT_at]
  exact h.row k (by omega) _ (bestOf_ge _ _ _) (bestOf_lt _ _ _ (by omega) hk)

theorem bd_div {x p X : Rat} (hp : p ≠ 0) (h : Bd x (X * ab p)) : Bd (x / p) X := by
  have hm : x / p * p = x := by rw [Rat.div_def, Rat.mul_assoc, Rat.inv_mul_cancel _ hp, Rat.mul_one]
  generalize x / p = q at *
  subst hm
  unfold Bd ab at *
  by_cases h0 : 0 ≤ p
  · rw [if_pos h0] at h
    constructor
    · apply Classical.byContradiction; intro hn
      have := Rat.mul_pos (show 0 < -q - X by grind) (show 0 < p by grind); grind
    · apply Classical.byContradiction; intro hn
      have := Rat.mul_pos (show 0 < q - X by grind) (show 0 < p by grind); grind
  · rw [if_neg h0] at h
    constructor
    · apply Classical.byContradiction; intro hn
      have := Rat.mul_pos (show 0 < -q - X by grind) (show 0 < -p by grind); grind
    · apply Classical.byContradiction; intro hn
      have := Rat.mul_pos (show 0 < q - X by grind) (show 0 < -p by grind); grind

def dU (e0 : Bool → Nat → Rat) (t : Bool) (k : Nat) : Nat → Rat := fun c => u53 * ((if k = 0 ∨ c < k then 0 else (if own t k then 205/100 * gr t k else 0) + 103/100 * (gr true k + (if c = 8 then 1 else 0))) * e0 t c)
theorem eU_succ (e0 : Bool → Nat → Rat) (t : Bool) (k : Nat) : eU e0 t (k + 1) = fun c => eU e0 t k c + dU e0 t k c := by
  funext c
  unfold eU dU
  show u53 * ((uw t k c + _) * _) = _
  grind
theorem tot_mulr (F E : Nat → Rat) (D : Rat) : tot F (fun c => D * E c) = D * tot F E := by unfold tot; grind

/-- what is known of a row that has been a pivot's, ahead of round k -/
structure UpRow (e0 : Bool → Nat → Rat) (K : Nat → Rat) (L : Nat → Nat → Nat → Nat) (r : Nat) (t : Bool) (k : Nat) (R : Nat → Nat) : Prop where
  fin : ∀ c, c < 9 → Fl.fin (R c)
  same : R r = L (r + 1) r r
  zero : ∀ c, k ≤ c → c < 9 → e0 t c = 0 → val (R c) = 0
  near : ∀ f, Kills L f k → Bd (f r * val (L (r + 1) r r) + ph f R k) (K r * ab (val (L (r + 1) r r)) * tot (wt f) (eU e0 t k))

theorem e0_top {e0 : Bool → Nat → Rat} (hz : Sz e0) {t t' : Bool} {c : Nat} (hc : c < 9) (h : e0 t c ≠ 0) : e0 t' c ≤ e0 t c := by
  by_cases h6 : c < 6
  · by_cases ho : own t' c = true
    · by_cases ho2 : own t c = true
      · rw [own_same h6 ho ho2]; exact Rat.le_refl
      · exact absurd (hz.zero t c h6 (by simpa using ho2)) h
    · rw [hz.zero t' c h6 (by simpa using ho)]; exact hz.nonneg t hc
  · rw [hz.same t' t c (by omega) hc]; exact Rat.le_refl

theorem lim {D Q X Y : Rat} (hD : 0 ≤ D) (h : Q ≤ X) (h2 : X ≤ Y) : D * Q ≤ D * Y := Rat.mul_le_mul_of_nonneg_left (Rat.le_trans h h2) hD

/-- an entry of a row that has been a pivot's, by the lower rows' entries of its column -/
theorem up_entry {e0 : Bool → Nat → Rat} {K Wl Wu : Nat → Rat} (hp : Par e0 K Wl Wu) {M0 : Nat → Nat → Nat} (hi : Inve M0 K) {L : Nat → Nat → Nat → Nat} {τ : Nat → Nat → Bool} (h : Chain e0 M0 L τ 8) {r k : Nat} (hrk : r < k) (hk : k ≤ 8) {t : Bool} {R : Nat → Nat} (hR : UpRow e0 K L r t k R)
    {c : Nat} (h1 : k ≤ c) (h2 : c < 9) {μ s : Rat} (hμ0 : 0 ≤ μ) (hμ : ∀ i, k ≤ i → i < 8 → Bd (val (L k i c)) μ) (hs0 : 0 ≤ s) (hs : c = 8 → ∀ i, i < 8 → Bd (val (M0 i 8)) s) :
    Bd (val (R c)) (K r * ab (val (L (r + 1) r r)) * (1003/1000 * (μ + s) + 2 * (Wl c + Wu c))) := by
  obtain ⟨f, Q, f1, f2, f3, f4, f5, f6, f7, f8⟩ := low_vec hp hi hk (h.mono hk) h1 h2 hμ0 hμ hs0 hs
  have hn := hR.near f f3
  rw [ph_unit R h1 h2 f1 f2] at hn
  have hb := Bd.mul (f6 r (by omega)) (ab_bd (val (L (r + 1) r r)))
  have hD : 0 ≤ K r * ab (val (L (r + 1) r r)) := Rat.mul_nonneg (Rat.le_of_lt (hp.Kp r (by omega))) (ab_nonneg _)
  have hle := tot_mono (F := wt f) (E := eU e0 t k) (E' := Wu) (wt_nonneg f) (fun c hc => hp.wu t k c hk hc)
  have h8 := f8 Wu hp.wu0
  have hom := hp.om
  have hkl : 0 ≤ tot (KK K) Wl := tot_nonneg (fun c hc => by
    unfold KK
    by_cases h8 : c < 8
    · rw [if_pos h8]; exact Rat.le_of_lt (hp.Kp c h8)
    · rw [if_neg h8]; exact Rat.le_refl) hp.wl0
  have h9 := Rat.mul_le_mul_of_nonneg_right (show tot (KK K) Wu ≤ 1/1000 by grind) f4
  have hlo := hp.wl0 c h2
  have hlo2 := hp.wu0 c h2
  have hfin : Q + tot (wt f) (eU e0 t k) ≤ 1003/1000 * (μ + s) + 2 * (Wl c + Wu c) := by grind
  have hfin' := Rat.mul_le_mul_of_nonneg_left hfin hD
  have e : K r * Q * ab (val (L (r + 1) r r)) = K r * ab (val (L (r + 1) r r)) * Q := by grind
  rw [e] at hb
  rw [Rat.mul_add] at hfin'
  unfold Bd at *
  constructor <;> grind

end Go.Proofs.Ytaadklfendegfaa
