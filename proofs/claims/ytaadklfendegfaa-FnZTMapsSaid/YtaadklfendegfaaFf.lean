/- An elimination in floats, as a whole: it exists, and what it finds is near what solves the table. -/
import Derived.Test.YtaadklfendegfaaFe
namespace Go.Proofs.Ytaadklfendegfaa
open Go Fl

/-- all rounds of a row behind its own -/
theorem up_ex {e0 : Bool → Nat → Rat} {K Wl Wu : Nat → Rat} (hp : Par e0 K Wl Wu) {M0 : Nat → Nat → Nat} (hi : Inve M0 K) (h8 : ∀ i, i < 8 → Bd (val (M0 i 8)) (e0 true 8)) {L : Nat → Nat → Nat → Nat} {τ : Nat → Nat → Bool} (h : Chain e0 M0 L τ 8) {r : Nat} (hr : r < 8) :
    ∀ n, r + 1 + n ≤ 8 → ∃ U : Nat → Nat → Nat, U (r + 1) = L (r + 1) r ∧ (∀ k, r < k → k < r + 1 + n → ∃ by', fdiv (U k k) (L (k + 1) k k) = some by' ∧ (∀ j, j < k → U (k + 1) j = U k j) ∧ ∀ j, k ≤ j → j < 9 → ∃ t, fmul by' (L (k + 1) k j) = some t ∧ fsub (U k j) t = some (U (k + 1) j)) ∧
      ∀ k, r < k → k ≤ r + 1 + n → UpRow e0 K L r (τ (r + 1) r) k (U k) := by
  intro n
  induction n with
  | zero =>
    intro _
    refine ⟨fun _ => L (r + 1) r, rfl, fun k h1 h2 => by omega, fun k h1 h2 => ?_⟩
    obtain rfl : k = r + 1 := by omega
    have hP := h.prow hr
    refine ⟨hP.fin, rfl, fun c h1 h2 h3 => ?_, fun f hf => ?_⟩
    · have := hP.bd c (by omega) h2
      rw [h3, Rat.mul_zero] at this
      exact bd_zero this rfl
    · have hk := hf r (by omega)
      rw [ph_split f _ hr] at hk
      rw [hk]
      have e : tot (wt f) (eU e0 (τ (r + 1) r) (r + 1)) = tot (wt f) (eU e0 (τ (r + 1) r) (r + 1)) := rfl
      have h0 : 0 ≤ tot (wt f) (eU e0 (τ (r + 1) r) (r + 1)) := tot_nonneg (wt_nonneg f) fun c hc => by
        have hn : ∀ k, 0 ≤ uw (τ (r + 1) r) k c := by
          intro k
          induction k with
          | zero => exact Rat.le_refl
          | succ k ih =>
            unfold uw
            have := gr_ge true k
            have e0 : (0:Rat) ≤ (if c = 8 then 1 else 0) := by split <;> decide
            have e1 : (0:Rat) ≤ (if own (τ (r + 1) r) k then 205/100 * gr (τ (r + 1) r) k else 0) := by
              have := gr_ge (τ (r + 1) r) k
              split <;> grind
            by_cases hc : k = 0 ∨ c < k
            · rw [if_pos hc]; grind
            · rw [if_neg hc]; grind
        exact Rat.mul_nonneg (Rat.le_of_lt u53_pos) (Rat.mul_nonneg (hn _) (hp.sz.nonneg _ hc))
      have := Rat.mul_nonneg (Rat.mul_nonneg (Rat.le_of_lt (hp.Kp r hr)) (ab_nonneg (val (L (r + 1) r r)))) h0
      unfold Bd; constructor <;> grind
  | succ n ih =>
    intro hn
    obtain ⟨U, u1, u2, u3⟩ := ih (by omega)
    obtain ⟨by', R', s1, s2, s3, s4⟩ := up_step hp hi h8 h (show r < r + 1 + n by omega) (show r + 1 + n < 8 by omega) (u3 (r + 1 + n) (by omega) (Nat.le_refl _))
    obtain ⟨V, ea, eb⟩ : ∃ V : Nat → Nat → Nat, (∀ k, k ≤ r + 1 + n → V k = U k) ∧ V (r + 1 + n + 1) = R' :=
      ⟨fun k => if k ≤ r + 1 + n then U k else R', fun k hk => if_pos hk, if_neg (by omega)⟩
    refine ⟨V, ?_, ?_, ?_⟩
    · rw [ea _ (by omega)]; exact u1
    · intro k h1 h2
      rw [ea k (by omega)]
      by_cases e : k < r + 1 + n
      · rw [ea (k + 1) (by omega)]; exact u2 k h1 e
      · obtain rfl : k = r + 1 + n := by omega
        rw [eb]
        exact ⟨by', s1, s2, s3⟩
    · intro k h1 h2
      by_cases e : k ≤ r + 1 + n
      · rw [ea k e]; exact u3 k h1 e
      · obtain rfl : k = r + 1 + n + 1 := by omega
        rw [eb]; exact s4

theorem bestOf_congr {M N : Nat → Nat → Nat} {k : Nat} (h : ∀ i, k ≤ i → M i = N i) : ∀ n, bestOf M k n = bestOf N k n := by
  intro n
  induction n with
  | zero => rfl
  | succ n ih =>
    unfold bestOf
    rw [ih, h _ (bestOf_ge N k n), h (k + n) (by omega)]

theorem small_val : Fl.fin fSmall ∧ val fSmall ≤ 1/10000000 := by
  have hr : Ieee.double.read fSmall = .number false 4835703278458517 (-82) := by decide +kernel
  refine ⟨⟨by decide, _, _, _, hr⟩, ?_⟩
  unfold val; rw [hr]; decide +kernel

theorem not_small {p : Nat} (hp : Fl.fin p) (h : 1/10000 ≤ val p ∨ val p ≤ -(1/10000)) : flt (fabs p) fSmall = false := by
  obtain ⟨a1, a2, a3⟩ := Fl.abs_val hp
  obtain ⟨b1, b2⟩ := small_val
  obtain ⟨o1, o2, o3⟩ := Fl.order_val a1 b1
  have hgt : val fSmall < val (p % 9223372036854775808) := by
    rcases h with h | h
    · rw [a2 (by grind)]; grind
    · rw [a3 (by grind)]; grind
  show (Ieee.double.order (fabs p) fSmall == some .lt) = false
  rw [o3 hgt]; rfl

theorem ph_add (f g : Nat → Rat) (R : Nat → Nat) : ph (fun c => f c + g c) R 0 = ph f R 0 + ph g R 0 := by
  unfold ph; simp; grind

theorem elim_ex {e0 : Bool → Nat → Rat} {K Wl Wu : Nat → Rat} (hp : Par e0 K Wl Wu) {M0 : Nat → Nat → Nat} (hi : Inve M0 K) {ty : Nat → Bool} (h0 : ∀ i, i < 8 → LowRow e0 (ty i) 0 (M0 i)) :
    ∃ (M : Nat → Nat → Nat → Nat) (o : Nat → Nat), (∀ i, M 0 i = M0 i) ∧ (∀ k, k < 8 → RoundR (M k) (M (k + 1)) k) ∧ (∀ k, k < 8 → fdiv (M 8 k 8) (M 8 k k) = some (o k)) ∧
      (∀ k, k ≤ 8 → ∀ i, i < 8 → ∀ j, j < 9 → M k i j < 18446744073709551616) ∧
      (∀ r, r < 8 → Fl.fin (o r)) ∧
      ∀ (z : Nat → Rat) (ρ : Rat), z 8 = -1 → (∀ i, i < 8 → Bd (ph z (M0 i) 0) ρ) → ∀ r, r < 8 → Nr (val (o r)) (z r) (K r * (1004/1000 * (tot (wt z) Wl + tot (wt z) Wu + ρ)) + 4 * u53 * ab (z r) + tny) := by
  obtain ⟨L, τ, h⟩ := chain_ex hp hi h0 8 (Nat.le_refl _)
  have hz := hp.sz
  have h8 : ∀ i, i < 8 → Bd (val (M0 i 8)) (e0 true 8) := fun i h => by
    have := (h0 i h).bd 8 (by omega) (by omega)
    rw [hz.same (ty i) true 8 (by omega) (by omega)] at this
    have e : gr (ty i) 0 * e0 true 8 = e0 true 8 := Rat.one_mul _
    rw [e] at this; exact this
  have cell : ∀ r, ∃ U : Nat → Nat → Nat, r < 8 → U (r + 1) = L (r + 1) r ∧ (∀ k, r < k → k < 8 → ∃ by', fdiv (U k k) (L (k + 1) k k) = some by' ∧ (∀ j, j < k → U (k + 1) j = U k j) ∧ ∀ j, k ≤ j → j < 9 → ∃ t, fmul by' (L (k + 1) k j) = some t ∧ fsub (U k j) t = some (U (k + 1) j)) ∧
      ∀ k, r < k → k ≤ 8 → UpRow e0 K L r (τ (r + 1) r) k (U k) := by
    intro r
    by_cases hr : r < 8
    · obtain ⟨U, u1, u2, u3⟩ := up_ex hp hi h8 h hr (8 - (r + 1)) (by omega)
      have e : r + 1 + (8 - (r + 1)) = 8 := by omega
      rw [e] at u2 u3
      exact ⟨U, fun _ => ⟨u1, u2, u3⟩⟩
    · exact ⟨fun _ _ => 0, fun h => absurd h hr⟩
  obtain ⟨U, hU⟩ := Classical.axiomOfChoice cell
  clear cell
  obtain ⟨M, ma, mb⟩ : ∃ M : Nat → Nat → Nat → Nat, (∀ k i, i < k → M k i = U i k) ∧ ∀ k i, k ≤ i → M k i = L k i :=
    ⟨fun k i => if i < k then U i k else L k i, fun k i h => if_pos h, fun k i h => if_neg (by omega)⟩
  -- the weights that all pivots' rows do not see
  obtain ⟨f, Q, f1, f2, f3, f4, f5, f6, f7, f8⟩ := low_vec hp hi (Nat.le_refl 8) h (Nat.le_refl 8) (by omega) (μ := 0) (s := e0 true 8) Rat.le_refl (fun i h1 h2 => by omega) (hz.nonneg true (by omega)) (fun _ i h => h8 i h)
  have hy0 : 0 ≤ tot (wt f) Wu := tot_nonneg (wt_nonneg f) hp.wu0
  have hx0 : 0 ≤ tot (wt f) Wl := tot_nonneg (wt_nonneg f) hp.wl0
  have hKK : ∀ c, c < 9 → 0 ≤ KK K c := fun c hc => by
    unfold KK
    by_cases h8 : c < 8
    · rw [if_pos h8]; exact Rat.le_of_lt (hp.Kp c h8)
    · rw [if_neg h8]; exact Rat.le_refl
  have ol := tot_nonneg hKK hp.wl0
  have ou := tot_nonneg hKK hp.wu0
  have hom := hp.om
  have hdiag : ∀ r, r < 8 → Fl.fin (U r 8 8) ∧ Fl.fin (U r 8 r) ∧ val (U r 8 r) ≠ 0 ∧ Bd (val (U r 8 8) / val (U r 8 r) + f r) (K r * tot (wt f) Wu) := by
    intro r hr
    obtain ⟨_, _, u3⟩ := hU r hr
    have hu := u3 8 hr (Nat.le_refl _)
    have hpiv := (h.step r hr).piv
    have hne : val (U r 8 r) ≠ 0 := by rw [hu.same]; rcases hpiv with h | h <;> grind
    refine ⟨hu.fin 8 (by omega), hu.fin r (by omega), hne, ?_⟩
    have hn := hu.near f f3
    rw [ph_last, f1, Rat.one_mul, ← hu.same] at hn
    have hle := tot_mono (F := wt f) (E := eU e0 (τ (r + 1) r) 8) (E' := Wu) (wt_nonneg f) (fun c hc => hp.wu _ _ c (Nat.le_refl _) hc)
    have hn2 : Bd (f r * val (U r 8 r) + val (U r 8 8)) (K r * tot (wt f) Wu * ab (val (U r 8 r))) := hn.mono (by
      have := Rat.mul_le_mul_of_nonneg_left hle (Rat.mul_nonneg (Rat.le_of_lt (hp.Kp r hr)) (ab_nonneg (val (U r 8 r))))
      grind)
    have hq := bd_div hne hn2
    have e : (f r * val (U r 8 r) + val (U r 8 8)) / val (U r 8 r) = val (U r 8 8) / val (U r 8 r) + f r := by
      rw [Rat.div_def, Rat.div_def, Rat.add_mul, Rat.mul_assoc, Rat.mul_inv_cancel _ hne]; grind
    rw [e] at hq; exact hq
  have hquo : ∀ r, ∃ o, r < 8 → fdiv (U r 8 8) (U r 8 r) = some o ∧ Fl.fin o ∧ Nr (val o) (val (U r 8 8) / val (U r 8 r)) (3 * ab (val (U r 8 8) / val (U r 8 r)) * u53 + tny) := by
    intro r
    by_cases hr : r < 8
    · obtain ⟨d1, d2, d3, d4⟩ := hdiag r hr
      obtain ⟨o, o1, o2, o3⟩ := div_step d1 d2 d3 (ab_bd _) (by
        have g1 := f6 r hr
        have g2 := hp.Kp r hr
        have g3 := hp.Kh r hr
        have g4 := f8 Wu hp.wu0
        have g5 := hp.sm 8 (by omega)
        have g6 := hp.wl0 8 (by omega)
        have g7 := hp.wu0 8 (by omega)
        have g8 := hz.hi true 8 (by omega)
        have g9 := Rat.mul_le_mul_of_nonneg_right (show tot (KK K) Wu ≤ 1 by grind) f4
        have hQ : Q ≤ 2 * 10^6 := by grind
        have hy : tot (wt f) Wu ≤ 3 * 10^6 := by grind
        have p1 := Rat.mul_le_mul_of_nonneg_left hQ (Rat.le_of_lt g2)
        have p2 := Rat.mul_le_mul_of_nonneg_left hy (Rat.le_of_lt g2)
        have e : (100000000000000 : Rat) ≤ 10^100 := by decide +kernel
        refine Rat.le_trans (ab_le (X := 100000000000000) ?_) e
        unfold Bd at *
        constructor <;> grind)
      exact ⟨o, fun _ => ⟨o1, o2, o3⟩⟩
    · exact ⟨0, fun h => absurd h hr⟩
  obtain ⟨o, ho⟩ := Classical.axiomOfChoice hquo
  clear hquo
  refine ⟨M, o, fun i => by rw [mb 0 i (Nat.zero_le _), h.z], ?_, ?_, ?_, fun r hr => (ho r hr).2.1, ?_⟩
  · intro k hk
    have hb : bestOf (M k) k (8 - k) = bst (L k) k := bestOf_congr (fun i hi => mb k i hi) _
    have hge := bestOf_ge (L k) k (8 - k)
    have hs := h.step k hk
    unfold RoundR
    rw [hb]
    have eN : swp (M k) k (bst (L k) k) k = L (k + 1) k := by rw [swp_at, mb k _ hge, hs.top, swp_at]
    have eHi : ∀ i, k < i → swp (M k) k (bst (L k) k) i = swp (L k) k (bst (L k) k) i := by
      intro i hi
      unfold swp
      rw [mb k k (Nat.le_refl _), mb k _ hge, mb k i (by omega)]
    have eLo : ∀ i, i < k → swp (M k) k (bst (L k) k) i = U i k := by
      intro i hi
      unfold swp
      rw [if_neg (show ¬ i = bst (L k) k by have : k ≤ bst (L k) k := hge; omega), if_neg (by omega), ma k i hi]
    have ek1 : M (k + 1) k = L (k + 1) k := by rw [ma (k + 1) k (by omega)]; exact (hU k hk).1
    refine ⟨?_, fun j _ => by rw [ek1, eN], fun i hi8 hik => ?_⟩
    · rw [eN]; exact not_small ((h.prow hk).fin k (by omega)) hs.piv
    · by_cases hlt : i < k
      · obtain ⟨by', b1, b2, b3⟩ := (hU i hi8).2.1 k hlt hk
        refine ⟨by', ?_, ?_, ?_⟩
        · rw [eLo i hlt, eN]; exact b1
        · intro j hj; rw [eLo i hlt, ma (k + 1) i (by omega)]; exact b2 j hj
        · intro j j1 j2; rw [eLo i hlt, eN, ma (k + 1) i (by omega)]; exact b3 j j1 j2
      · obtain ⟨by', b1, ⟨b2, b3⟩, _⟩ := hs.rows i (by omega) hi8
        have eT : swp (L k) k (bst (L k) k) k = L (k + 1) k := hs.top.symm
        refine ⟨by', ?_, ?_, ?_⟩
        · rw [eHi i (by omega), eN]; exact b1
        · intro j hj; rw [eHi i (by omega), mb (k + 1) i (by omega)]; exact b2 j hj
        · intro j j1 j2
          have := b3 j j1 j2
          rw [eT] at this
          rw [eHi i (by omega), eN, mb (k + 1) i (by omega)]; exact this
  · intro k hk
    rw [ma 8 k hk]; exact (ho k hk).1
  · intro k hk i hi8 j hj
    by_cases hlt : i < k
    · rw [ma k i hlt]; exact (((hU i hi8).2.2 k hlt hk).fin j hj).1
    · rw [mb k i (by omega)]; exact ((h.row k hk i (by omega) hi8).fin j hj).1
  · intro z ρ z8 hρ r hr
    have hρ0 : 0 ≤ ρ := (hρ 0 (by omega)).nonneg
    have hh := hi (fun c => f c + z c) (tot (wt f) Wl + ρ) (fun i hi8 => by
      have a1 := f7 i hi8
      have a2 := hρ i hi8
      have e8 : f 8 + z 8 = 0 := by rw [f1, z8]; grind
      rw [ph_add]
      show Bd (ph f (M0 i) 0 + ph z (M0 i) 0 - (f 8 + z 8) * _) _
      rw [e8]
      unfold Bd at *; constructor <;> grind)
    have hwf : ∀ W : Nat → Rat, (∀ c, c < 9 → 0 ≤ W c) → tot (wt f) W ≤ tot (wt z) W + tot (KK K) W * (tot (wt f) Wl + ρ) := by
      intro W hW
      rw [← tot_sc, ← tot_add']
      refine tot_le fun c hc => Rat.mul_le_mul_of_nonneg_right ?_ (hW c hc)
      show ab (f c) ≤ ab (z c) + KK K c * _
      by_cases h8 : c < 8
      · have e : KK K c = K c := by unfold KK; rw [if_pos h8]
        rw [e]
        refine ab_le ?_
        have b1 := hh c h8
        have b2 := ab_bd (z c)
        unfold Bd at *; constructor <;> grind
      · obtain rfl : c = 8 := by omega
        rw [f1, z8]
        have e : KK K 8 = 0 := by unfold KK; rw [if_neg (by omega)]
        rw [e, Rat.zero_mul]
        have : ab 1 = 1 ∧ ab (-1) = 1 := by constructor <;> decide +kernel
        grind
    have w1 := hwf Wl hp.wl0
    have w2 := hwf Wu hp.wu0
    have hY : 0 ≤ tot (wt f) Wl + ρ := by grind
    have w3 := Rat.mul_le_mul_of_nonneg_right hom hY
    rw [Rat.add_mul] at w3
    have hb := hh r hr
    obtain ⟨_, _, _, d4⟩ := hdiag r hr
    obtain ⟨_, _, o3⟩ := ho r hr
    have hKr := hp.Kp r hr
    generalize val (U r 8 8) / val (U r 8 r) = q at *
    have hq : Bd (q - z r) (K r * (1002/1000 * (tot (wt z) Wl + tot (wt z) Wu + ρ))) := by
      have hsum : tot (wt f) Wl + tot (wt f) Wu + ρ ≤ 1002/1000 * (tot (wt z) Wl + tot (wt z) Wu + ρ) := by grind
      have := Rat.mul_le_mul_of_nonneg_left hsum (Rat.le_of_lt hKr)
      unfold Bd at *
      constructor <;> grind
    have hqa : ab q ≤ ab (z r) + K r * (1002/1000 * (tot (wt z) Wl + tot (wt z) Wu + ρ)) := by
      refine ab_le ?_
      have b2 := ab_bd (z r)
      unfold Bd at *; constructor <;> grind
    have hE := hq.nonneg
    generalize hEe : tot (wt z) Wl + tot (wt z) Wu + ρ = E at *
    have hq3 := Rat.mul_le_mul_of_nonneg_left hqa (show 0 ≤ 3 * u53 by decide +kernel)
    have hul := Rat.mul_le_mul_of_nonneg_right u53_lt hE
    have hzr := Rat.mul_nonneg (Rat.le_of_lt u53_pos) (ab_nonneg (z r))
    unfold Bd Nr at *
    constructor <;> grind

end Go.Proofs.Ytaadklfendegfaa
