/- Sums over nine columns; a row's round with its error; how the lower rows grow. -/
import Derived.Test.YtaadklfendegfaaFa
namespace Go.Proofs.Ytaadklfendegfaa
open Go Fl

theorem tot_le {F E G H : Nat → Rat} (h : ∀ c, c < 9 → F c * E c ≤ G c * H c) : tot F E ≤ tot G H := by
  have h0 := h 0 (by omega)
  have h1 := h 1 (by omega)
  have h2 := h 2 (by omega)
  have h3 := h 3 (by omega)
  have h4 := h 4 (by omega)
  have h5 := h 5 (by omega)
  have h6 := h 6 (by omega)
  have h7 := h 7 (by omega)
  have h8 := h 8 (by omega)
  unfold tot; grind
theorem tot_mono {F E E' : Nat → Rat} (hF : ∀ c, c < 9 → 0 ≤ F c) (h : ∀ c, c < 9 → E c ≤ E' c) : tot F E ≤ tot F E' :=
  tot_le fun c hc => Rat.mul_le_mul_of_nonneg_left (h c hc) (hF c hc)
theorem tot_nonneg {F E : Nat → Rat} (hF : ∀ c, c < 9 → 0 ≤ F c) (h : ∀ c, c < 9 → 0 ≤ E c) : 0 ≤ tot F E := by
  have := tot_le (F := fun _ => 0) (E := fun _ => 0) (G := F) (H := E) (fun c hc => by have := Rat.mul_nonneg (hF c hc) (h c hc); grind)
  unfold tot at *; grind
theorem tot_add (F E E' : Nat → Rat) : tot F (fun c => E c + E' c) = tot F E + tot F E' := by unfold tot; grind
theorem tot_add' (F G E : Nat → Rat) : tot (fun c => F c + G c) E = tot F E + tot G E := by unfold tot; grind
theorem tot_sc (F E : Nat → Rat) (Q : Rat) : tot (fun c => F c * Q) E = tot F E * Q := by unfold tot; grind
theorem tot_one (E : Nat → Rat) {c : Nat} (hc : c < 9) : tot (fun j => if j = c then 1 else 0) E = E c := by
  unfold tot
  rcases (show c = 0 ∨ c = 1 ∨ c = 2 ∨ c = 3 ∨ c = 4 ∨ c = 5 ∨ c = 6 ∨ c = 7 ∨ c = 8 by omega) with rfl | rfl | rfl | rfl | rfl | rfl | rfl | rfl | rfl <;> simp <;> try grind
theorem tot_at (F E : Nat → Rat) {k : Nat} (hk : k < 8) : tot F (fun c => if c ≤ k then 0 else E c) + F k * E k = tot F (fun c => if c < k then 0 else E c) := by
  unfold tot
  rcases (show k = 0 ∨ k = 1 ∨ k = 2 ∨ k = 3 ∨ k = 4 ∨ k = 5 ∨ k = 6 ∨ k = 7 by omega) with rfl | rfl | rfl | rfl | rfl | rfl | rfl | rfl <;> simp <;> try grind

/-- by how much a row's value by weights is off -/
abbrev wt (f : Nat → Rat) : Nat → Rat := fun c => ab (f c)
theorem wt_nonneg (f : Nat → Rat) (c : Nat) (_ : c < 9) : 0 ≤ wt f c := ab_nonneg _

theorem bd_zero {x B : Rat} (h : Bd x B) (h0 : B = 0) : x = 0 := by unfold Bd at h; grind

theorem row_err {A P R : Nat → Nat} {k : Nat} {b : Rat} (hk : k < 8) (h : StepRow A P R k b) {B : Rat} {p a E : Nat → Rat} (hb : Bd b B) (hp : ∀ c, k ≤ c → c < 9 → Bd (val (P c)) (p c)) (ha : ∀ c, k ≤ c → c < 9 → Bd (val (A c)) (a c))
    (hE0 : ∀ c, c < 9 → 0 ≤ E c) (hE : ∀ c, k ≤ c → c < 9 → (B * p c = 0 ∧ a c = 0) ∨ u53 * (2001/1000 * (B * p c) + a c) + 3 * tny ≤ E c)
    {ak pk : Rat} (hak : Bd (val (A k)) ak) (hpk : Bd (val (P k)) pk) (hEk : (B * pk = 0 ∧ ak = 0) ∨ 3 * u53 * ak + tny * pk ≤ E k) :
    (∀ c, k < c → c < 9 → Nr (val (R c)) (val (A c) - b * val (P c)) (E c)) ∧
      ∀ f, Bd (ph f R (k + 1) - (ph f A k - b * ph f P k)) (tot (wt f) (fun c => if c < k then 0 else E c)) := by
  have hn : ∀ c, k < c → c < 9 → Nr (val (R c)) (val (A c) - b * val (P c)) (E c) := by
    intro c h1 h2
    have hbp := Bd.mul hb (hp c (by omega) h2)
    rcases hE c (by omega) h2 with ⟨z1, z2⟩ | hle
    · have e1 := bd_zero hbp z1
      have e2 := bd_zero (ha c (by omega) h2) z2
      have e3 := h.zero c (by omega) h2 e1 e2
      have := hE0 c h2
      rw [e1, e2, e3]; unfold Nr; constructor <;> grind
    · have := h.near c (by omega) h2 _ _ hbp (ha c (by omega) h2)
      unfold Nr at *; constructor <;> grind
  refine ⟨hn, fun f => ?_⟩
  have hd : Bd (val (A k) - b * val (P k)) (E k) := by
    rcases hEk with ⟨z1, z2⟩ | hle
    · have e1 := bd_zero (Bd.mul hb hpk) z1
      have e2 := bd_zero hak z2
      have := hE0 k (by omega)
      rw [e1, e2]; unfold Bd; constructor <;> grind
    · exact (h.fall _ _ hak hpk).mono hle
  have hs := ph_step (f := f) (F := wt f) (E := fun c => if c ≤ k then 0 else E c) (R := R) (A := A) (P := P) (b := b) (d := E k) (fun c _ => ab_bd _)
    (fun c hc => by split; exact Rat.le_refl; exact hE0 c hc) hk
    (fun c h1 h2 => by rw [if_neg (by omega)]; exact hn c h1 h2) hd
  rw [tot_at _ _ hk] at hs
  unfold Nr Bd at *
  constructor <;> grind

/-- does a round concern rows of a kind? -/
def own (t : Bool) (k : Nat) : Bool := if k < 3 then t else if k < 6 then !t else true
/-- by how much the rows of a kind have grown ahead of a round -/
def gr (t : Bool) : Nat → Rat
  | 0 => 1
  | k + 1 => (if own t k then 201/100 else 1001/1000) * gr t k
/-- the error of a row's value so far, in parts of the columns' bounds -/
def lw (t : Bool) : Nat → Nat → Rat
  | 0, _ => 0
  | k + 1, c => lw t k c + (if c < k then 0 else (if own t k then 301/100 else 101/100) * gr t k)

theorem gr_ge (t : Bool) (k : Nat) : 1 ≤ gr t k := by
  induction k with
  | zero => exact Rat.le_refl
  | succ k ih => unfold gr; split <;> grind
theorem gr_le (t : Bool) {k : Nat} (hk : k ≤ 8) : gr t k ≤ 40 := by
  rcases (show k = 0 ∨ k = 1 ∨ k = 2 ∨ k = 3 ∨ k = 4 ∨ k = 5 ∨ k = 6 ∨ k = 7 ∨ k = 8 by omega) with rfl | rfl | rfl | rfl | rfl | rfl | rfl | rfl | rfl <;> cases t <;> decide +kernel
theorem gr_true (t : Bool) {k : Nat} (hk : k ≤ 8) : gr t k ≤ gr true k := by
  rcases (show k = 0 ∨ k = 1 ∨ k = 2 ∨ k = 3 ∨ k = 4 ∨ k = 5 ∨ k = 6 ∨ k = 7 ∨ k = 8 by omega) with rfl | rfl | rfl | rfl | rfl | rfl | rfl | rfl | rfl <;> cases t <;> decide +kernel
theorem gr_same (t t' : Bool) {k : Nat} (h6 : 6 ≤ k) (hk : k ≤ 8) : gr t k = gr t' k := by
  rcases (show k = 6 ∨ k = 7 ∨ k = 8 by omega) with rfl | rfl | rfl <;> cases t <;> cases t' <;> decide +kernel
theorem own_same {t t' : Bool} {k : Nat} (hk : k < 6) (h : own t k = true) (h' : own t' k = true) : t = t' := by
  unfold own at *
  by_cases h3 : k < 3
  · rw [if_pos h3] at h h'; rw [h, h']
  · rw [if_neg h3, if_pos hk] at h h'; cases t <;> cases t' <;> simp_all

/-- what bounds the columns have, by a row's kind -/
structure Sz (e0 : Bool → Nat → Rat) : Prop where
  z : ∀ t c, c < 9 → e0 t c = 0 ∨ 1 ≤ e0 t c
  zero : ∀ t k, k < 6 → own t k = false → e0 t k = 0
  same : ∀ t t' c, 6 ≤ c → c < 9 → e0 t c = e0 t' c
  hi : ∀ t c, c < 9 → e0 t c ≤ 10^6
theorem Sz.nonneg {e0 : Bool → Nat → Rat} (h : Sz e0) (t : Bool) {c : Nat} (hc : c < 9) : 0 ≤ e0 t c := by
  rcases h.z t c hc with h | h <;> grind

structure LowRow (e0 : Bool → Nat → Rat) (t : Bool) (k : Nat) (R : Nat → Nat) : Prop where
  fin : ∀ c, c < 9 → Fl.fin (R c)
  bd : ∀ c, k ≤ c → c < 9 → Bd (val (R c)) (gr t k * e0 t c)

theorem gr_hi {e0 : Bool → Nat → Rat} (hz : Sz e0) (t : Bool) {k c : Nat} (hk : k < 8) (hc : c < 9) : gr t k * e0 t c ≤ 40 * 10^6 := by
  have h1 := Rat.mul_le_mul_of_nonneg_left (hz.hi t c hc) (show 0 ≤ gr t k by have := gr_ge t k; grind)
  have h2 := Rat.mul_le_mul_of_nonneg_right (gr_le t (show k ≤ 8 by omega)) (show (0:Rat) ≤ 10^6 by decide +kernel)
  exact Rat.le_trans h1 h2
theorem LowRow.small {e0 : Bool → Nat → Rat} {t : Bool} {k c : Nat} {R : Nat → Nat} (_ : LowRow e0 t k R) (hz : Sz e0) (hk : k < 8) (hc : c < 9) : gr t k * e0 t c ≤ 10^30 :=
  Rat.le_trans (gr_hi hz t hk hc) (by decide +kernel)

/-- a pivot's row concerns rows of its own kind, or the round is one of the last two -/
theorem piv_own {e0 : Bool → Nat → Rat} (hz : Sz e0) {t : Bool} {k : Nat} {P : Nat → Nat} (hk : k < 8) (hP : LowRow e0 t k P) (piv : 1/10000 ≤ val (P k) ∨ val (P k) ≤ -(1/10000)) : own t k = true := by
  by_cases h6 : k < 6
  · apply Classical.byContradiction; intro hn
    have h0 := hz.zero t k h6 (by simpa using hn)
    have hb := hP.bd k (Nat.le_refl _) (by omega)
    rw [h0, Rat.mul_zero] at hb
    have := bd_zero hb rfl
    rcases piv with h | h <;> grind
  · unfold own; rw [if_neg (by omega), if_neg h6]

/-- the pivot's row in a row's own bounds -/
theorem piv_bd {e0 : Bool → Nat → Rat} (hz : Sz e0) {t t' : Bool} {k : Nat} {P : Nat → Nat} (hk : k < 8) (hP : LowRow e0 t' k P) (h : own t k = true) (h' : own t' k = true) : ∀ c, k ≤ c → c < 9 → Bd (val (P c)) (gr t k * e0 t c) := by
  intro c h1 h2
  have hb := hP.bd c h1 h2
  by_cases h6 : k < 6
  · rw [own_same h6 h h']; exact hb
  · rw [gr_same t t' (by omega) (by omega), hz.same t t' c (by omega) h2]; exact hb


theorem bd_one {x p : Rat} (hp : p ≠ 0) (h : Bd x (ab p)) : Bd (x / p) 1 := by
  have hm : x / p * p = x := by rw [Rat.div_def, Rat.mul_assoc, Rat.inv_mul_cancel _ hp, Rat.mul_one]
  generalize x / p = q at *
  subst hm
  unfold Bd ab at *
  by_cases h0 : 0 ≤ p
  · rw [if_pos h0] at h
    constructor
    · apply Classical.byContradiction; intro hn
      have := Rat.mul_pos (show 0 < -q - 1 by grind) (show 0 < p by grind); grind
    · apply Classical.byContradiction; intro hn
      have := Rat.mul_pos (show 0 < q - 1 by grind) (show 0 < p by grind); grind
  · rw [if_neg h0] at h
    constructor
    · apply Classical.byContradiction; intro hn
      have := Rat.mul_pos (show 0 < -q - 1 by grind) (show 0 < -p by grind); grind
    · apply Classical.byContradiction; intro hn
      have := Rat.mul_pos (show 0 < q - 1 by grind) (show 0 < -p by grind); grind

theorem tny_small : 1000 * tny ≤ u53 := by decide +kernel

/-- a round of a row that has not been a pivot's yet -/
theorem low_row {e0 : Bool → Nat → Rat} (hz : Sz e0) {k : Nat} (hk : k < 8) {t t' : Bool} {A P : Nat → Nat} (hA : LowRow e0 t k A) (hP : LowRow e0 t' k P) (piv : 1/10000 ≤ val (P k) ∨ val (P k) ≤ -(1/10000)) (hle : Bd (val (A k)) (ab (val (P k)))) :
    ∃ by' R, fdiv (A k) (P k) = some by' ∧ (∀ j, j < k → R j = A j) ∧ (∀ j, k ≤ j → j < 9 → ∃ t, fmul by' (P j) = some t ∧ fsub (A j) t = some (R j)) ∧ LowRow e0 t (k + 1) R ∧
      ∀ f, Bd (ph f R (k + 1) - (ph f A k - val by' * ph f P k)) (tot (wt f) (fun c => u53 * ((if c < k then 0 else (if own t k then 301/100 else 101/100) * gr t k) * e0 t c))) := by
  have bA : ∀ c, k ≤ c → c < 9 → Bd (val (A c)) (10^30) := fun c h1 h2 => (hA.bd c h1 h2).mono (hA.small hz hk h2)
  have bP : ∀ c, k ≤ c → c < 9 → Bd (val (P c)) (10^30) := fun c h1 h2 => (hP.bd c h1 h2).mono (hP.small hz hk h2)
  obtain ⟨by', R, r1, r2, r3, r4, r5⟩ := row_ex hk hA.fin hP.fin (K := 10^30) (by decide +kernel) Rat.le_refl piv bA bP
  have hne : val (P k) ≠ 0 := by rcases piv with h | h <;> grind
  have hq := bd_one hne hle
  have hb1 : Bd (val by') (1001/1000) := by
    have h1 := ab_le hq
    have h2 := ab_nonneg (val (A k) / val (P k))
    have h3 := r5.bd hq
    refine h3.mono ?_
    have e1 : 3 * ab (val (A k) / val (P k)) * u53 ≤ 3 * u53 := by
      have := Rat.mul_le_mul_of_nonneg_right h1 (show 0 ≤ 3 * u53 by decide +kernel)
      grind
    have e2 : 1 + (3 * u53 + tny) ≤ 1001/1000 := by decide +kernel
    grind
  have hPo := piv_own hz hk hP piv
  have hg := gr_ge t k
  have hgl := gr_le t (show k ≤ 8 by omega)
  have hu := u53_pos
  have hul := u53_lt
  have hts := tny_small
  have htp := tny_pos
  have hge : ∀ c, c < 9 → 0 ≤ gr t k * e0 t c := fun c hc => Rat.mul_nonneg (by grind) (hz.nonneg t hc)
  have hgz : ∀ c, c < 9 → gr t k * e0 t c = 0 ∨ 1 ≤ gr t k * e0 t c := fun c hc => by
    rcases hz.z t c hc with h | h
    · left; rw [h, Rat.mul_zero]
    · right; have := Rat.mul_le_mul_of_nonneg_left h (show 0 ≤ gr t k by grind); grind
  refine ⟨by', R, r1, r2, r3, ?_⟩
  by_cases ho : own t k = true
  · rw [if_pos ho]
    have hPb := piv_bd hz hk hP ho hPo
    obtain ⟨n1, n2⟩ := row_err hk r4 (B := 1001/1000) (p := fun c => gr t k * e0 t c) (a := fun c => gr t k * e0 t c) (E := fun c => u53 * ((301/100 * gr t k) * e0 t c)) hb1 hPb hA.bd
      (fun c hc => by
        have := Rat.mul_nonneg (Rat.le_of_lt hu) (hge c hc)
        have e : u53 * (301/100 * gr t k * e0 t c) = 301/100 * (u53 * (gr t k * e0 t c)) := by grind
        rw [e]; grind)
      (fun c h1 h2 => by
        rcases hgz c h2 with h | h
        · left; rw [h]; constructor <;> grind
        · right
          have := Rat.mul_le_mul_of_nonneg_left h (Rat.le_of_lt hu)
          have e : u53 * (301/100 * gr t k * e0 t c) = 301/100 * (u53 * (gr t k * e0 t c)) := by grind
          rw [e]
          have e2 : u53 * (2001/1000 * (1001/1000 * (gr t k * e0 t c)) + gr t k * e0 t c) = (1 + 2001/1000 * (1001/1000)) * (u53 * (gr t k * e0 t c)) := by grind
          rw [e2]; grind)
      (hA.bd k (Nat.le_refl _) (by omega)) (hPb k (Nat.le_refl _) (by omega))
      (by
        rcases hgz k (by omega) with h | h
        · left; rw [h]; constructor <;> grind
        · right
          have := Rat.mul_le_mul_of_nonneg_left h (Rat.le_of_lt hu)
          have h2 := Rat.mul_le_mul_of_nonneg_right hts (hge k (by omega))
          have e : u53 * (301/100 * gr t k * e0 t k) = 301/100 * (u53 * (gr t k * e0 t k)) := by grind
          rw [e]
          have e2 : 3 * u53 * (gr t k * e0 t k) = 3 * (u53 * (gr t k * e0 t k)) := by grind
          rw [e2]
          have h3 := Rat.mul_nonneg (Rat.le_of_lt htp) (hge k (by omega))
          have e3 : 1000 * tny * (gr t k * e0 t k) = 1000 * (tny * (gr t k * e0 t k)) := by grind
          rw [e3] at h2; grind)
    refine ⟨⟨r4.fin, fun c h1 h2 => ?_⟩, fun f => ?_⟩
    · have hn := n1 c (by omega) h2
      have hb2 := Bd.mul hb1 (hPb c (by omega) h2)
      have ha := hA.bd c (by omega) h2
      have hx := Rat.mul_le_mul_of_nonneg_right hul (hge c h2)
      show Bd (val (R c)) ((if own t k = true then 201/100 else 1001/1000) * gr t k * e0 t c)
      rw [if_pos ho]
      have e : u53 * (301/100 * gr t k * e0 t c) = 301/100 * (u53 * (gr t k * e0 t c)) := by grind
      rw [e] at hn
      have e2 : 201/100 * gr t k * e0 t c = 201/100 * (gr t k * e0 t c) := by grind
      rw [e2]
      have := hge c h2
      unfold Nr Bd at *
      constructor <;> grind
    · have := n2 f
      have e : (fun c => if c < k then 0 else u53 * (301/100 * gr t k * e0 t c)) = (fun c => u53 * ((if c < k then 0 else 301/100 * gr t k) * e0 t c)) := by
        funext c; split <;> grind
      rw [e] at this; exact this
  · rw [if_neg ho]
    have ho' : own t k = false := by simpa using ho
    have h6 : k < 6 := by
      apply Classical.byContradiction; intro hn
      unfold own at ho'; rw [if_neg (by omega), if_neg hn] at ho'; cases ho'
    have hA0 : val (A k) = 0 := by
      have h := hA.bd k (Nat.le_refl _) (by omega)
      rw [hz.zero t k h6 ho', Rat.mul_zero] at h
      exact bd_zero h rfl
    have hb0 := r4.none hA0
    have hb00 : Bd (val by') 0 := by rw [hb0]; unfold Bd; constructor <;> grind
    obtain ⟨n1, n2⟩ := row_err hk r4 (B := 0) (p := fun c => 10^30) (a := fun c => gr t k * e0 t c) (E := fun c => u53 * ((101/100 * gr t k) * e0 t c)) hb00 bP hA.bd
      (fun c hc => by
        have := Rat.mul_nonneg (Rat.le_of_lt hu) (hge c hc)
        have e : u53 * (101/100 * gr t k * e0 t c) = 101/100 * (u53 * (gr t k * e0 t c)) := by grind
        rw [e]; grind)
      (fun c h1 h2 => by
        rcases hgz c h2 with h | h
        · left; rw [h]; constructor <;> grind
        · right
          have := Rat.mul_le_mul_of_nonneg_left h (Rat.le_of_lt hu)
          have e : u53 * (101/100 * gr t k * e0 t c) = 101/100 * (u53 * (gr t k * e0 t c)) := by grind
          rw [e]
          have e2 : u53 * (2001/1000 * (0 * 10^30) + gr t k * e0 t c) = u53 * (gr t k * e0 t c) := by grind
          rw [e2]; grind)
      (hA.bd k (Nat.le_refl _) (by omega)) (bP k (Nat.le_refl _) (by omega))
      (by left; rw [hz.zero t k h6 ho']; constructor <;> grind)
    refine ⟨⟨r4.fin, fun c h1 h2 => ?_⟩, fun f => ?_⟩
    · have hn := n1 c (by omega) h2
      have ha := hA.bd c (by omega) h2
      have hx := Rat.mul_le_mul_of_nonneg_right hul (hge c h2)
      show Bd (val (R c)) ((if own t k = true then 201/100 else 1001/1000) * gr t k * e0 t c)
      rw [if_neg ho]
      have e : u53 * (101/100 * gr t k * e0 t c) = 101/100 * (u53 * (gr t k * e0 t c)) := by grind
      rw [e, hb0, Rat.zero_mul] at hn
      have e2 : 1001/1000 * gr t k * e0 t c = 1001/1000 * (gr t k * e0 t c) := by grind
      rw [e2]
      have := hge c h2
      unfold Nr Bd at *
      constructor <;> grind
    · have := n2 f
      have e : (fun c => if c < k then 0 else u53 * (101/100 * gr t k * e0 t c)) = (fun c => u53 * ((if c < k then 0 else 101/100 * gr t k) * e0 t c)) := by
        funext c; split <;> grind
      rw [e] at this; exact this

end Go.Proofs.Ytaadklfendegfaa
