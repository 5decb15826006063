/- A round of a row that has been a pivot's: it exists and stays in bounds. -/
import Derived.Test.YtaadklfendegfaaFd
namespace Go.Proofs.Ytaadklfendegfaa
open Go Fl

def gU (e0 : Bool → Nat → Rat) (t : Bool) (k c : Nat) : Rat := (gr true k + (if c = 8 then 1 else 0)) * e0 t c

theorem gU_nonneg {e0 : Bool → Nat → Rat} (hz : Sz e0) (t : Bool) (k : Nat) {c : Nat} (hc : c < 9) : 0 ≤ gU e0 t k c := by
  have := gr_ge true k
  exact Rat.mul_nonneg (by split <;> grind) (hz.nonneg t hc)
theorem gU_cases {e0 : Bool → Nat → Rat} (hz : Sz e0) (t : Bool) (k : Nat) {c : Nat} (hc : c < 9) : (e0 t c = 0 ∧ gU e0 t k c = 0) ∨ (e0 t c ≠ 0 ∧ 1 ≤ gU e0 t k c) := by
  have hg := gr_ge true k
  rcases hz.z t c hc with h | h
  · left; exact ⟨h, by unfold gU; rw [h, Rat.mul_zero]⟩
  · right
    refine ⟨by grind, ?_⟩
    have h1 := Rat.mul_le_mul_of_nonneg_left h (show 0 ≤ gr true k + (if c = 8 then (1:Rat) else 0) by split <;> grind)
    have h2 : 1 ≤ gr true k + (if c = 8 then (1:Rat) else 0) := by split <;> grind
    unfold gU; grind
theorem gU_hi {e0 : Bool → Nat → Rat} (hz : Sz e0) (t : Bool) {k c : Nat} (hk : k < 8) (hc : c < 9) : gU e0 t k c ≤ 41 * 10^6 := by
  have h1 := Rat.mul_le_mul_of_nonneg_left (hz.hi t c hc) (show 0 ≤ gr true k + (if c = 8 then (1:Rat) else 0) by have := gr_ge true k; split <;> grind)
  have h2 := Rat.mul_le_mul_of_nonneg_right (show gr true k + (if c = 8 then (1:Rat) else 0) ≤ 41 by have := gr_le true (show k ≤ 8 by omega); split <;> grind) (show (0:Rat) ≤ 10^6 by decide +kernel)
  exact Rat.le_trans h1 h2
theorem gU_own {e0 : Bool → Nat → Rat} (hz : Sz e0) (t : Bool) {k c : Nat} (hk : k < 8) (hc : c < 9) : gr t k * e0 t c ≤ gU e0 t k c := by
  refine Rat.mul_le_mul_of_nonneg_right ?_ (hz.nonneg t hc)
  have := gr_true t (show k ≤ 8 by omega)
  split <;> grind

theorem up_step {e0 : Bool → Nat → Rat} {K Wl Wu : Nat → Rat} (hp : Par e0 K Wl Wu) {M0 : Nat → Nat → Nat} (hi : Inve M0 K) (h8 : ∀ i, i < 8 → Bd (val (M0 i 8)) (e0 true 8)) {L : Nat → Nat → Nat → Nat} {τ : Nat → Nat → Bool} (h : Chain e0 M0 L τ 8) {r k : Nat} (hrk : r < k) (hk : k < 8) {t : Bool} {R : Nat → Nat} (hR : UpRow e0 K L r t k R) :
    ∃ by' R', fdiv (R k) (L (k + 1) k k) = some by' ∧ (∀ j, j < k → R' j = R j) ∧ (∀ j, k ≤ j → j < 9 → ∃ t, fmul by' (L (k + 1) k j) = some t ∧ fsub (R j) t = some (R' j)) ∧ UpRow e0 K L r t (k + 1) R' := by
  have hz := hp.sz
  have hPr := h.prow hk
  have hpiv := (h.step k hk).piv
  have hne : val (L (k + 1) k k) ≠ 0 := by rcases hpiv with h | h <;> grind
  have hPo := piv_own hz hk hPr hpiv
  obtain ⟨hall, hplo⟩ := piv_lo hp hi hk (h.mono (show k ≤ 8 by omega))
  have ep : L (k + 1) k = L k (bst (L k) k) := by rw [(h.step k hk).top, swp_at]
  rw [← ep] at hall hplo
  have hD1 : 998/1000 ≤ K r * ab (val (L (r + 1) r r)) := by
    have hr8 : r < 8 := by omega
    have := (piv_lo hp hi hr8 (h.mono (show r ≤ 8 by omega))).2
    have er : L (r + 1) r = L r (bst (L r) r) := by rw [(h.step r hr8).top, swp_at]
    rw [← er] at this
    exact this
  have hD2 : K r * ab (val (L (r + 1) r r)) ≤ 5000 * (40 * 10^6) := by
    have hr8 : r < 8 := by omega
    have h1 := ab_le ((h.prow hr8).bd r (Nat.le_refl _) (by omega))
    have h2 := Rat.le_trans h1 (gr_hi hz _ hr8 (show r < 9 by omega))
    have h3 := Rat.mul_le_mul_of_nonneg_left h2 (Rat.le_of_lt (hp.Kp r hr8))
    have h4 := Rat.mul_le_mul_of_nonneg_right (hp.Kh r hr8) (show (0:Rat) ≤ 40 * 10^6 by decide +kernel)
    exact Rat.le_trans h3 h4
  have hgen := fun c (h1 : k ≤ c) (h2 : c < 9) μ s => up_entry hp hi h hrk (show k ≤ 8 by omega) hR h1 h2 (μ := μ) (s := s)
  have hnear := hR.near
  obtain ⟨D, hDe⟩ : ∃ D, D = K r * ab (val (L (r + 1) r r)) := ⟨_, rfl⟩
  rw [← hDe] at hD1 hD2 hnear
  rw [← hDe] at hgen
  have hD0 : 0 ≤ D := by grind
  have hDG : ∀ c, c < 9 → 0 ≤ D * gU e0 t k c := fun c hc => Rat.mul_nonneg hD0 (gU_nonneg hz t k hc)
  -- the entries
  have hent : ∀ c, k ≤ c → c < 9 → Bd (val (R c)) (102/100 * (D * gU e0 t k c)) := by
    intro c h1 h2
    rcases gU_cases hz t k h2 with ⟨z1, z2⟩ | ⟨z1, z2⟩
    · rw [hR.zero c h1 h2 z1, z2]; unfold Bd; constructor <;> grind
    · have hg0 : 0 ≤ gr true k * e0 t c := Rat.mul_nonneg (by have := gr_ge true k; grind) (hz.nonneg t h2)
      have key := hgen c h1 h2 (gr true k * e0 t c) ((if c = 8 then 1 else 0) * e0 t c) hg0
        (fun i i1 i2 => ((h.row k (by omega) i i1 i2).bd c h1 h2).mono (by
          have e1 := e0_top hz (t' := τ k i) h2 z1
          have e2 := gr_true (τ k i) (show k ≤ 8 by omega)
          have e3 := Rat.mul_le_mul_of_nonneg_left e1 (show 0 ≤ gr (τ k i) k by have := gr_ge (τ k i) k; grind)
          have e4 := Rat.mul_le_mul_of_nonneg_right e2 (hz.nonneg t h2)
          exact Rat.le_trans e3 e4))
        (Rat.mul_nonneg (by split <;> decide) (hz.nonneg t h2))
        (fun ec i i2 => by rw [if_pos ec, ec, Rat.one_mul, hz.same t true 8 (by omega) (by omega)]; exact h8 i i2)
      have eG : gr true k * e0 t c + (if c = 8 then 1 else 0) * e0 t c = gU e0 t k c := by unfold gU; grind
      rw [eG] at key
      refine key.mono ?_
      have hsm := hp.sm c h2
      have e5 := Rat.mul_le_mul_of_nonneg_left (show 1003/1000 * gU e0 t k c + 2 * (Wl c + Wu c) ≤ 102/100 * gU e0 t k c by grind) hD0
      grind
  have hbig : ∀ c, k ≤ c → c < 9 → Bd (val (R c)) (10^30) := fun c h1 h2 => (hent c h1 h2).mono (by
    have e1 := Rat.mul_le_mul_of_nonneg_left (gU_hi hz t hk h2) hD0
    have e2 := Rat.mul_le_mul_of_nonneg_right hD2 (show (0:Rat) ≤ 41 * 10^6 by decide +kernel)
    have e3 : 102/100 * (5000 * (40 * 10^6) * (41 * 10^6)) ≤ (10:Rat)^30 := by decide +kernel
    grind)
  obtain ⟨by', R', r1, r2, r3, r4, r5⟩ := row_ex hk hR.fin hPr.fin (K := 10^30) (by decide +kernel) Rat.le_refl hpiv hbig (fun c h1 h2 => (hPr.bd c h1 h2).mono (hPr.small hz hk h2))
  refine ⟨by', R', r1, r2, r3, ?_⟩
  have hu := u53_pos
  have hts := tny_small
  have htp := tny_pos
  have hu0 := Rat.le_of_lt hu
  have hDu : ∀ c, c < 9 → 1 ≤ gU e0 t k c → 998/1000 * u53 ≤ u53 * (D * gU e0 t k c) := fun c hc h1 => by
    have e1 := Rat.mul_le_mul_of_nonneg_left h1 hD0
    have e2 := Rat.mul_le_mul_of_nonneg_left (show 998/1000 ≤ D * gU e0 t k c by grind) hu0
    grind
  have hDuk : ∀ c, c < 9 → 0 ≤ u53 * (D * gU e0 t k c) := fun c hc => Rat.mul_nonneg hu0 (hDG c hc)
  have hk0 : ¬ k = 0 := by omega
  have hrzero : ∀ c, k < c → c < 9 → e0 t c = 0 → val by' * val (L (k + 1) k c) = 0 → val (R' c) = 0 := fun c h1 h2 h3 h4 => r4.zero c (by omega) h2 h4 (hR.zero c (by omega) h2 h3)
  have hstep : (∀ c, k < c → c < 9 → e0 t c = 0 → val (R' c) = 0) ∧ ∀ f, Bd (ph f R' (k + 1) - (ph f R k - val by' * ph f (L (k + 1) k) k)) (D * tot (wt f) (dU e0 t k)) := by
    by_cases ho : own t k = true
    · have hPb := piv_bd hz hk hPr ho hPo
      have hk9 : k < 9 := by omega
      have hRk := hgen k (Nat.le_refl _) hk9 (ab (val (L (k + 1) k k))) 0 (ab_nonneg _) (fun i i1 i2 => hall i i1 i2) Rat.le_refl (fun e => by omega)
      have hw : 998 * (Wl k + Wu k) ≤ ab (val (L (k + 1) k k)) := by
        apply Classical.byContradiction; intro hn
        have := Rat.mul_pos (hp.Kp k hk) (show 0 < 998 * (Wl k + Wu k) - ab (val (L (k + 1) k k)) by grind)
        have := hp.omk k hk
        grind
      have hRk' : Bd (val (R k)) (101/100 * D * ab (val (L (k + 1) k k))) := hRk.mono (by
        have e := Rat.mul_le_mul_of_nonneg_left (show 1003/1000 * (ab (val (L (k + 1) k k)) + 0) + 2 * (Wl k + Wu k) ≤ 101/100 * ab (val (L (k + 1) k k)) by have := ab_nonneg (val (L (k + 1) k k)); grind) hD0
        grind)
      have hq := bd_div hne hRk'
      have hb : Bd (val by') (102/100 * D) := by
        have h1 := ab_le hq
        have h3 := r5.bd hq
        refine h3.mono ?_
        have e1 := Rat.mul_le_mul_of_nonneg_right h1 (show 0 ≤ 3 * u53 by grind)
        have e2 := Rat.mul_le_mul_of_nonneg_left u53_lt hD0
        have e3 : tny ≤ 1/1000 := by decide +kernel
        grind
      have hg0 : ∀ c, c < 9 → 0 ≤ gr t k * e0 t c := fun c hc => Rat.mul_nonneg (by have := gr_ge t k; grind) (hz.nonneg t hc)
      have hz0 : ∀ c, e0 t c = 0 → gr t k * e0 t c = 0 := fun c hc => by rw [hc, Rat.mul_zero]
      have hDg : ∀ c, c < 9 → u53 * (D * (gr t k * e0 t c)) ≤ u53 * (D * gU e0 t k c) := fun c hc =>
        Rat.mul_le_mul_of_nonneg_left (Rat.mul_le_mul_of_nonneg_left (gU_own hz t hk hc) hD0) hu0
      obtain ⟨n1, n2⟩ := row_err hk r4 (B := 102/100 * D) (p := fun c => gr t k * e0 t c) (a := fun c => 102/100 * (D * gU e0 t k c)) (E := fun c => D * (u53 * (205/100 * (gr t k * e0 t c) + 103/100 * gU e0 t k c))) hb hPb hent
        (fun c hc => Rat.mul_nonneg hD0 (Rat.mul_nonneg hu0 (by have := hg0 c hc; have := gU_nonneg hz t k hc; grind)))
        (fun c h1 h2 => by
          rcases gU_cases hz t k h2 with ⟨z1, z2⟩ | ⟨z1, z2⟩
          · left; rw [z2, hz0 c z1]; constructor <;> grind
          · right
            have i1 := hDu c h2 z2
            have i3 := hDuk c h2
            have i4 : 0 ≤ u53 * (D * (gr t k * e0 t c)) := Rat.mul_nonneg hu0 (Rat.mul_nonneg hD0 (hg0 c h2))
            have e : D * (u53 * (205/100 * (gr t k * e0 t c) + 103/100 * gU e0 t k c)) = 205/100 * (u53 * (D * (gr t k * e0 t c))) + 103/100 * (u53 * (D * gU e0 t k c)) := by grind
            have e2 : u53 * (2001/1000 * (102/100 * D * (gr t k * e0 t c)) + 102/100 * (D * gU e0 t k c)) = 2001/1000 * (102/100) * (u53 * (D * (gr t k * e0 t c))) + 102/100 * (u53 * (D * gU e0 t k c)) := by grind
            rw [e, e2]; grind)
        hRk' (hPb k (Nat.le_refl _) hk9)
        (by
          right
          have i0 := ab_le (hPb k (Nat.le_refl _) hk9)
          have i1 := Rat.mul_le_mul_of_nonneg_left (Rat.mul_le_mul_of_nonneg_left i0 hD0) hu0
          have i2 := hDg k hk9
          have i4 : 0 ≤ u53 * (D * (gr t k * e0 t k)) := Rat.mul_nonneg hu0 (Rat.mul_nonneg hD0 (hg0 k hk9))
          have i5 : 1000 * tny ≤ u53 * (D * 2) := by
            have := Rat.mul_le_mul_of_nonneg_left (show 1 ≤ D * 2 by grind) hu0
            grind
          have i6 := Rat.mul_le_mul_of_nonneg_right i5 (hg0 k hk9)
          have e : D * (u53 * (205/100 * (gr t k * e0 t k) + 103/100 * gU e0 t k k)) = 205/100 * (u53 * (D * (gr t k * e0 t k))) + 103/100 * (u53 * (D * gU e0 t k k)) := by grind
          have e2 : 3 * u53 * (101/100 * D * ab (val (L (k + 1) k k))) = 303/100 * (u53 * (D * ab (val (L (k + 1) k k)))) := by grind
          have e3 : u53 * (D * 2) * (gr t k * e0 t k) = 2 * (u53 * (D * (gr t k * e0 t k))) := by grind
          have e4 : 1000 * tny * (gr t k * e0 t k) = 1000 * (tny * (gr t k * e0 t k)) := by grind
          rw [e3, e4] at i6
          rw [e, e2]; grind)
      refine ⟨fun c h1 h2 h3 => hrzero c h1 h2 h3 ?_, fun f => ?_⟩
      · have hb := hPb c (by omega) h2
        rw [h3, Rat.mul_zero] at hb
        rw [bd_zero hb rfl, Rat.mul_zero]
      · have := n2 f
        rw [← tot_mulr]
        have e : (fun c => if c < k then 0 else D * (u53 * (205/100 * (gr t k * e0 t c) + 103/100 * gU e0 t k c))) = (fun c => D * dU e0 t k c) := by
          funext c
          unfold dU gU
          by_cases hc : c < k
          · rw [if_pos hc, if_pos (Or.inr hc)]; grind
          · rw [if_neg hc, if_neg (show ¬ (k = 0 ∨ c < k) by omega), if_pos ho]; grind
        rw [e] at this; exact this
    · have ho' : own t k = false := by simpa using ho
      have h6 : k < 6 := by
        apply Classical.byContradiction; intro hn
        unfold own at ho'; rw [if_neg (by omega), if_neg hn] at ho'; cases ho'
      have hb0 := r4.none (hR.zero k (Nat.le_refl _) (by omega) (hz.zero t k h6 ho'))
      have hb00 : Bd (val by') 0 := by rw [hb0]; unfold Bd; constructor <;> grind
      obtain ⟨n1, n2⟩ := row_err hk r4 (B := 0) (p := fun c => ab (val (L (k + 1) k c))) (a := fun c => 102/100 * (D * gU e0 t k c)) (E := fun c => D * (u53 * (103/100 * gU e0 t k c))) hb00 (fun c _ _ => ab_bd _) hent
        (fun c hc => by
          have := hDuk c hc
          have e : D * (u53 * (103/100 * gU e0 t k c)) = 103/100 * (u53 * (D * gU e0 t k c)) := by grind
          rw [e]; grind)
        (fun c h1 h2 => by
          rcases gU_cases hz t k h2 with ⟨z1, z2⟩ | ⟨z1, z2⟩
          · left; rw [z2]; constructor <;> grind
          · right
            have i1 := hDu c h2 z2
            have i3 := hDuk c h2
            have e : D * (u53 * (103/100 * gU e0 t k c)) = 103/100 * (u53 * (D * gU e0 t k c)) := by grind
            have e2 : u53 * (2001/1000 * (0 * ab (val (L (k + 1) k c))) + 102/100 * (D * gU e0 t k c)) = 102/100 * (u53 * (D * gU e0 t k c)) := by grind
            rw [e, e2]; grind)
        (hent k (Nat.le_refl _) (by omega)) (ab_bd (val (L (k + 1) k k)))
        (by
          rcases gU_cases hz t k (show k < 9 by omega) with ⟨z1, z2⟩ | ⟨z1, z2⟩
          · left; rw [z2]; constructor <;> grind
          · exact absurd (hz.zero t k h6 ho') z1)
      refine ⟨fun c h1 h2 h3 => hrzero c h1 h2 h3 (by rw [hb0, Rat.zero_mul]), fun f => ?_⟩
      have := n2 f
      rw [← tot_mulr]
      have e : (fun c => if c < k then 0 else D * (u53 * (103/100 * gU e0 t k c))) = (fun c => D * dU e0 t k c) := by
        funext c
        unfold dU gU
        by_cases hc : c < k
        · rw [if_pos hc, if_pos (Or.inr hc)]; grind
        · rw [if_neg hc, if_neg (show ¬ (k = 0 ∨ c < k) by omega), if_neg ho]; grind
      rw [e] at this; exact this
  obtain ⟨s1, s2⟩ := hstep
  refine ⟨r4.fin, ?_, fun c h1 h2 h3 => s1 c (by omega) h2 h3, fun f hf => ?_⟩
  · rw [r2 r hrk]; exact hR.same
  · have h1 := hnear f (fun j hj => hf j (by omega))
    have h2 := s2 f
    rw [hf k (by omega), Rat.mul_zero] at h2
    rw [← hDe, eU_succ, tot_add, Rat.mul_add]
    unfold Bd at *
    constructor <;> grind

end Go.Proofs.Ytaadklfendegfaa
