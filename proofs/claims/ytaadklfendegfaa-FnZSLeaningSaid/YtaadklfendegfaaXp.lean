/- The plain law of sampling straight pictures: where the middles of modules come to lie. -/
import Derived.Test.YtaadklfendegfaaXm
import Derived.Test.YtaadklfendegfaaTu
import Derived.Test.YtaadklfendegfaaPd
namespace Go.Proofs.Ytaadklfendegfaa
open Go Fl

theorem drawn_at (F : Nat → Nat → Bool) (h n s l t wd i j c d : Nat) (hc : c < s) (hd : d < s) (hi : i < n) (hj : j < h) (hwd : l + s * n ≤ wd) :
    drawn F h n s l t wd 0 255 ((t + s * j + d) * wd + (l + s * i + c)) = if F j i = true then 0 else 255 := by
  have h1 : s * i + s ≤ s * n := by have := Nat.mul_le_mul_left s (show i + 1 ≤ n by omega); rw [Nat.mul_add, Nat.mul_one] at this; exact this
  have h2 : s * j + s ≤ s * h := by have := Nat.mul_le_mul_left s (show j + 1 ≤ h by omega); rw [Nat.mul_add, Nat.mul_one] at this; exact this
  have h3 : ((t + s * j + d) * wd + (l + s * i + c)) % wd = l + s * i + c := by rw [Nat.mul_comm, Nat.mul_add_mod]; exact Nat.mod_eq_of_lt (by omega)
  have h4 : ((t + s * j + d) * wd + (l + s * i + c)) / wd = t + s * j + d := by
    rw [Nat.mul_comm, Nat.mul_add_div (by omega), Nat.div_eq_of_lt (by omega)]; rfl
  have h5 : (t + s * j + d - t) / s = j := by
    rw [show t + s * j + d - t = s * j + d by omega, Nat.mul_add_div (by omega), Nat.div_eq_of_lt hd]; rfl
  have h6 : (l + s * i + c - l) / s = i := by
    rw [show l + s * i + c - l = s * i + c by omega, Nat.mul_add_div (by omega), Nat.div_eq_of_lt hc]; rfl
  unfold drawn
  rw [h3, h4, h5, h6]
  by_cases hF : F j i = true
  · rw [if_pos ⟨by omega, by omega, by omega, by omega, hF⟩, if_pos hF]
  · rw [if_neg (fun h => hF h.2.2.2.2), if_neg hF]

theorem samp_at (F : Nat → Nat → Bool) (H W s l t i j : Nat) (hs : 1 ≤ s) (hi : i < W) (hj : j < H) :
    (l + s * i + s / 2 < l + s * W + l ∧ t + s * j + s / 2 < t + s * H + t) ∧ decide (drawn F H W s l t (l + s * W + l) 0 255 ((t + s * j + s / 2) * (l + s * W + l) + (l + s * i + s / 2)) = 0) = F j i := by
  have h1 : s * i + s ≤ s * W := by have := Nat.mul_le_mul_left s (show i + 1 ≤ W by omega); rw [Nat.mul_add, Nat.mul_one] at this; exact this
  have h2 : s * j + s ≤ s * H := by have := Nat.mul_le_mul_left s (show j + 1 ≤ H by omega); rw [Nat.mul_add, Nat.mul_one] at this; exact this
  refine ⟨by omega, ?_⟩
  rw [drawn_at F H W s l t _ i j (s / 2) (s / 2) (by omega) (by omega) hi hj (by omega)]
  cases F j i <;> simp

/-- the grid's corners: their numbers -/
def gx (W i : Nat) : Nat := if i = 1 ∨ i = 2 then ofI (W : Int) else f0
def gy (H i : Nat) : Nat := if i = 2 ∨ i = 3 then ofI (H : Int) else f0
/-- a corner of the picture: l + s g; and far from it -/
def mulW (s g : Nat) : Nat := (fmul (ofI (s : Int)) g).getD 0
def corW (l s g : Nat) : Nat := (fadd (ofI (l : Int)) (mulW s g)).getD 0
def farW (l s g wd : Nat) : Nat := (fadd (corW l s g) (ofI ((wd : Int) + 3))).getD 0

theorem cor_spec (l s n wd g : Nat) (hg : Wh g (n : Int) 15) (hl : l ≤ 19) (hs : s ≤ 9) (hwd : wd ≤ 173) :
    fmul (ofI (s : Int)) g = some (mulW s g) ∧ fadd (ofI (l : Int)) (mulW s g) = some (corW l s g) ∧ Wh (corW l s g) ((l : Int) + (s : Int) * (n : Int)) 400 ∧
      fadd (corW l s g) (ofI ((wd : Int) + 3)) = some (farW l s g wd) ∧ Wh (farW l s g wd) ((l : Int) + (s : Int) * (n : Int) + ((wd : Int) + 3)) 400 := by
  obtain ⟨a, h1, e1⟩ := (wh_ofI (s : Int) 9 (by omega) (by omega)).mul hg (by omega)
  obtain ⟨b, h2, e2⟩ := (wh_ofI (l : Int) 19 (by omega) (by omega)).add e1 (by omega)
  obtain ⟨c, h3, e3⟩ := e2.add (wh_ofI ((wd : Int) + 3) 176 (by omega) (by omega)) (by omega)
  have k1 : mulW s g = a := by unfold mulW; rw [h1]; rfl
  have k2 : corW l s g = b := by unfold corW; rw [k1, h2]; rfl
  have k3 : farW l s g wd = c := by unfold farW; rw [k2, h3]; rfl
  rw [k1, k2, k3]
  exact ⟨h1, h2, e2.mono (by omega), h3, e3.mono (by omega)⟩

theorem gx_wh (W i : Nat) (hW : W ≤ 15) : Wh (gx W i) ((if i = 1 ∨ i = 2 then W else 0 : Nat) : Int) 15 := by
  unfold gx; by_cases h : i = 1 ∨ i = 2
  · rw [if_pos h, if_pos h]; exact wh_ofI _ _ (by omega) (by omega)
  · rw [if_neg h, if_neg h]; exact wh0 15 (by omega)
theorem gy_wh (H i : Nat) (hH : H ≤ 15) : Wh (gy H i) ((if i = 2 ∨ i = 3 then H else 0 : Nat) : Int) 15 := by
  unfold gy; by_cases h : i = 2 ∨ i = 3
  · rw [if_pos h, if_pos h]; exact wh_ofI _ _ (by omega) (by omega)
  · rw [if_neg h, if_neg h]; exact wh0 15 (by omega)

/-- the picture's corners, beginning with another one -/
def cornQ (W H s l t q : Nat) : Q8 :=
  ⟨corW l s (gx W ((0 + q) % 4)), corW t s (gy H ((0 + q) % 4)), corW l s (gx W ((1 + q) % 4)), corW t s (gy H ((1 + q) % 4)), corW l s (gx W ((2 + q) % 4)), corW t s (gy H ((2 + q) % 4)), corW l s (gx W ((3 + q) % 4)), corW t s (gy H ((3 + q) % 4))⟩
def farQ (W H s l t wd : Nat) : Q8 :=
  ⟨farW l s (gx W 0) wd, corW t s (gy H 0), farW l s (gx W 1) wd, corW t s (gy H 1), farW l s (gx W 2) wd, corW t s (gy H 2), farW l s (gx W 3) wd, corW t s (gy H 3)⟩

/-- one map for all quarters: by signs -/
theorem corn_one (W H s l t q W' H' : Nat) (X0 Y0 sx sy tx ty : Int) (cx cy : Nat → Nat → Nat) (hW : 1 ≤ W ∧ W ≤ 15) (hH : 1 ≤ H ∧ H ≤ 15) (hs : 1 ≤ s ∧ s ≤ 9) (hl : l ≤ 19) (ht : t ≤ 19) (hW' : 1 ≤ W' ∧ W' ≤ 15) (hH' : 1 ≤ H' ∧ H' ≤ 15) (F G : Nat → Nat → Bool)
    (x0 : (l : Int) + (s : Int) * ((if (0 + q) % 4 = 1 ∨ (0 + q) % 4 = 2 then W else 0 : Nat) : Int) = X0) (x1 : (l : Int) + (s : Int) * ((if (1 + q) % 4 = 1 ∨ (1 + q) % 4 = 2 then W else 0 : Nat) : Int) = X0 + sx * W')
    (x2 : (l : Int) + (s : Int) * ((if (2 + q) % 4 = 1 ∨ (2 + q) % 4 = 2 then W else 0 : Nat) : Int) = X0 + sx * W' + tx * H') (x3 : (l : Int) + (s : Int) * ((if (3 + q) % 4 = 1 ∨ (3 + q) % 4 = 2 then W else 0 : Nat) : Int) = X0 + tx * H')
    (y0 : (t : Int) + (s : Int) * ((if (0 + q) % 4 = 2 ∨ (0 + q) % 4 = 3 then H else 0 : Nat) : Int) = Y0) (y1 : (t : Int) + (s : Int) * ((if (1 + q) % 4 = 2 ∨ (1 + q) % 4 = 3 then H else 0 : Nat) : Int) = Y0 + sy * W')
    (y2 : (t : Int) + (s : Int) * ((if (2 + q) % 4 = 2 ∨ (2 + q) % 4 = 3 then H else 0 : Nat) : Int) = Y0 + sy * W' + ty * H') (y3 : (t : Int) + (s : Int) * ((if (3 + q) % 4 = 2 ∨ (3 + q) % 4 = 3 then H else 0 : Nat) : Int) = Y0 + ty * H')
    (hcx : ∀ i j : Nat, i < W' → j < H' → cx i j < W ∧ cy i j < H ∧ 2 * X0 + sx * (2 * i + 1) + tx * (2 * j + 1) = 2 * ((l : Int) + (s : Int) * (cx i j : Int)) + s ∧ 2 * Y0 + sy * (2 * i + 1) + ty * (2 * j + 1) = 2 * ((t : Int) + (s : Int) * (cy i j : Int)) + s ∧ F (cy i j) (cx i j) = G j i) :
    ∃ a o b r, S2QR (gridQ W' H') a ∧ AdjR a o ∧ S2QR (cornQ W H s l t q) b ∧ TimesR b o r ∧ ∃ PX PY : Nat → Nat → Nat,
      (∀ i j, i < W' → j < H' → ∃ x' y', TPtR r (hf i) (hf j) x' y' ∧ floatToIntVal .f64 x' .i64 = some (PX i j : Int) ∧ floatToIntVal .f64 y' .i64 = some (PY i j : Int)) ∧
      (∀ i j, i < W' → j < H' → PX i j < l + s * W + l ∧ PY i j < t + s * H + t) ∧
      ∀ i j, i < W' → j < H' → decide (drawn F H W s l t (l + s * W + l) 0 255 (PY i j * (l + s * W + l) + PX i j) = 0) = G j i := by
  have c0 := fun i => (cor_spec l s _ 0 _ (gx_wh W i hW.2) hl hs.2 (by omega)).2.2.1
  have d0 := fun i => (cor_spec t s _ 0 _ (gy_wh H i hH.2) ht hs.2 (by omega)).2.2.1
  obtain ⟨a, o, b, r, h1, h2, h3, h4, h5⟩ := para_map W' H' X0 Y0 sx sy tx ty (cornQ W H s l t q) hW' hH' ((c0 _).to x0) ((c0 _).to x1) ((c0 _).to x2) ((c0 _).to x3) ((d0 _).to y0) ((d0 _).to y1) ((d0 _).to y2) ((d0 _).to y3)
  refine ⟨a, o, b, r, h1, h2, h3, h4, fun i j => l + s * cx i j + s / 2, fun i j => t + s * cy i j + s / 2, fun i j hi hj => ?_, fun i j hi hj => ?_, fun i j hi hj => ?_⟩
  · obtain ⟨x', y', t1, t2, t3⟩ := h5 i j (by omega) (by omega)
    obtain ⟨k1, k2, k3, k4, k5⟩ := hcx i j hi hj
    rw [k3] at t2
    rw [k4] at t3
    have p1 : s * cx i j ≤ 9 * 15 := Nat.mul_le_mul hs.2 (by omega)
    have p2 : s * cy i j ≤ 9 * 15 := Nat.mul_le_mul hs.2 (by omega)
    have e1 : (s : Int) * (cx i j : Int) = ((s * cx i j : Nat) : Int) := by rw [Int.natCast_mul]
    have e2 : (s : Int) * (cy i j : Int) = ((s * cy i j : Nat) : Int) := by rw [Int.natCast_mul]
    rw [e1] at t2
    rw [e2] at t3
    dsimp only
    generalize s * cx i j = u at *
    generalize s * cy i j = v at *
    refine ⟨x', y', t1, ?_, ?_⟩
    · rw [trunc_hw t2 (by omega) (by omega)]; congr 1; omega
    · rw [trunc_hw t3 (by omega) (by omega)]; congr 1; omega
  · obtain ⟨k1, k2, _⟩ := hcx i j hi hj
    exact (samp_at F H W s l t _ _ hs.1 k1 k2).1
  · obtain ⟨k1, k2, _, _, k5⟩ := hcx i j hi hj
    rw [← k5]; exact (samp_at F H W s l t _ _ hs.1 k1 k2).2

theorem mul_split (s W c j : Nat) (h : W = c + j + 1) : (s : Int) * (W : Int) = (s : Int) * (c : Int) + (s : Int) * (j : Int) + s := by
  subst h; rw [Int.natCast_add, Int.natCast_add]; grind

theorem corn_map (F : Nat → Nat → Bool) (W H s l t q : Nat) (hq : q < 4) (hW : 1 ≤ W ∧ W ≤ 15) (hH : 1 ≤ H ∧ H ≤ 15) (hs : 1 ≤ s ∧ s ≤ 9) (hl : l ≤ 19) (ht : t ≤ 19) :
    ∃ a o b r, S2QR (gridQ (turns H W F ((4 - q) % 4)).2.1 (turns H W F ((4 - q) % 4)).1) a ∧ AdjR a o ∧ S2QR (cornQ W H s l t q) b ∧ TimesR b o r ∧ ∃ PX PY : Nat → Nat → Nat,
      (∀ i j, i < (turns H W F ((4 - q) % 4)).2.1 → j < (turns H W F ((4 - q) % 4)).1 → ∃ x' y', TPtR r (hf i) (hf j) x' y' ∧ floatToIntVal .f64 x' .i64 = some (PX i j : Int) ∧ floatToIntVal .f64 y' .i64 = some (PY i j : Int)) ∧
      (∀ i j, i < (turns H W F ((4 - q) % 4)).2.1 → j < (turns H W F ((4 - q) % 4)).1 → PX i j < l + s * W + l ∧ PY i j < t + s * H + t) ∧
      ∀ i j, i < (turns H W F ((4 - q) % 4)).2.1 → j < (turns H W F ((4 - q) % 4)).1 → decide (drawn F H W s l t (l + s * W + l) 0 255 (PY i j * (l + s * W + l) + PX i j) = 0) = (turns H W F ((4 - q) % 4)).2.2 j i := by
  rcases (show q = 0 ∨ q = 1 ∨ q = 2 ∨ q = 3 by omega) with rfl | rfl | rfl | rfl
  · refine corn_one W H s l t 0 W H l t s 0 0 s (fun i _ => i) (fun _ j => j) hW hH hs hl ht hW hH F F (by simp) (by simp) (by simp) (by simp) (by simp) (by simp) (by simp) (by simp) (fun i j hi hj => ⟨hi, hj, ?_, ?_, rfl⟩)
    · grind
    · grind
  · refine corn_one W H s l t 1 H W (l + s * W) t 0 s (-s) 0 (fun _ j => W - 1 - j) (fun i _ => i) hW hH hs hl ht hH hW F _ (by simp) (by simp) (by simp; grind) (by simp; grind) (by simp) (by simp) (by simp) (by simp) (fun i j hi hj => ⟨by omega, hi, ?_, ?_, ?_⟩)
    · have := mul_split s W (W - 1 - j) j (by omega); grind
    · grind
    · show F i (W - 1 - j) = F (H - 1 - (H - 1 - i)) (W - 1 - j)
      congr 1; omega
  · refine corn_one W H s l t 2 W H (l + s * W) (t + s * H) (-s) 0 0 (-s) (fun i _ => W - 1 - i) (fun _ j => H - 1 - j) hW hH hs hl ht hW hH F _ (by simp) (by simp; grind) (by simp; grind) (by simp) (by simp) (by simp) (by simp; grind) (by simp; grind) (fun i j hi hj => ⟨by omega, by omega, ?_, ?_, rfl⟩)
    · have := mul_split s W (W - 1 - i) i (by omega); grind
    · have := mul_split s H (H - 1 - j) j (by omega); grind
  · refine corn_one W H s l t 3 H W l (t + s * H) 0 (-s) s 0 (fun _ j => j) (fun i _ => H - 1 - i) hW hH hs hl ht hH hW F _ (by simp) (by simp) (by simp) (by simp) (by simp) (by simp; grind) (by simp; grind) (by simp) (fun i j hi hj => ⟨hj, by omega, ?_, ?_, rfl⟩)
    · grind
    · have := mul_split s H (H - 1 - i) i (by omega); grind

theorem far_map (W H s l t wd : Nat) (hW : 1 ≤ W ∧ W ≤ 15) (hH : 1 ≤ H ∧ H ≤ 15) (hs : 1 ≤ s ∧ s ≤ 9) (hl : l ≤ 19) (ht : t ≤ 19) (hwd : wd ≤ 173) :
    ∃ a o b r, S2QR (gridQ W H) a ∧ AdjR a o ∧ S2QR (farQ W H s l t wd) b ∧ TimesR b o r ∧
      ∀ i, i < W → ∃ x' y', TPtR r (hf i) (hf 0) x' y' ∧ ∃ px py : Int, floatToIntVal .f64 x' .i64 = some px ∧ floatToIntVal .f64 y' .i64 = some py ∧ (wd : Int) < px := by
  have c0 := fun i => (cor_spec l s _ wd _ (gx_wh W i hW.2) hl hs.2 hwd).2.2.2.2
  have d0 := fun i => (cor_spec t s _ 0 _ (gy_wh H i hH.2) ht hs.2 (by omega)).2.2.1
  obtain ⟨a, o, b, r, h1, h2, h3, h4, h5⟩ := para_map W H (l + (wd + 3)) t s 0 0 s (farQ W H s l t wd) hW hH ((c0 0).to (by simp)) ((c0 1).to (by simp; omega)) ((c0 2).to (by simp; omega)) ((c0 3).to (by simp)) ((d0 0).to (by simp)) ((d0 1).to (by simp)) ((d0 2).to (by simp)) ((d0 3).to (by simp))
  refine ⟨a, o, b, r, h1, h2, h3, h4, fun i hi => ?_⟩
  obtain ⟨x', y', t1, t2, t3⟩ := h5 i 0 (by omega) (by omega)
  have p1 : s * (2 * i + 1) ≤ 9 * 31 := Nat.mul_le_mul hs.2 (by omega)
  have e1 : (s : Int) * (2 * (i : Int) + 1) = ((s * (2 * i + 1) : Nat) : Int) := by rw [Int.natCast_mul]; rfl
  rw [e1] at t2
  generalize s * (2 * i + 1) = u at *
  refine ⟨x', y', t1, _, _, trunc_hw t2 (by omega) (by omega), trunc_hw t3 (by omega) (by omega), by omega⟩

end Go.Proofs.Ytaadklfendegfaa
