/- What the walk of FnZSStraight stands on: boxes of eight floats, the calls of ZXSample by corners. -/
import Derived.Test.YtaadklfendegfaaZs
import Derived.Test.YtaadklfendegfaaZf
import Derived.Test.YtaadklfendegfaaXp
import Derived.Test.YtaadklfendegfaaOz
namespace Go.Proofs.Ytaadklfendegfaa
open Go.RowKit

theorem drawn_two (F : Nat → Nat → Bool) (h n s l t wd i : Nat) : drawn F h n s l t wd 0 255 i = 0 ∨ drawn F h n s l t wd 0 255 i = 255 := by
  unfold drawn; split
  · exact Or.inl rfl
  · exact Or.inr rfl

/-- eight floats by four points -/
def xy (X Y : Nat → Nat) (j : Nat) : Nat := if j % 2 = 0 then X (j / 2) else Y (j / 2)
theorem xy_even (X Y : Nat → Nat) (k : Nat) : xy X Y (2 * k) = X k := by unfold xy; rw [if_pos (by omega)]; congr 1; omega
theorem xy_odd (X Y : Nat → Nat) (k : Nat) : xy X Y (2 * k + 1) = Y k := by unfold xy; rw [if_neg (by omega)]; congr 1; omega

theorem blk2 (w : World) (o1 o2 : Obj) : ((w.alloc o1).alloc o2).heap[w.heap.size]? = some o1 ∧ ((w.alloc o1).alloc o2).heap[w.heap.size + 1]? = some o2 ∧ ((w.alloc o1).alloc o2).heap.size = w.heap.size + 2 ∧ Below w.heap.size w ((w.alloc o1).alloc o2) := by
  refine ⟨?_, ?_, by simp only [blk_size], ((Below.refl _ _).alloc (Nat.le_refl _) _).alloc (by simp) _⟩
  · rw [blk_if, if_neg (by rw [blk_size]; omega), blk_if, if_pos rfl]
  · rw [blk_if, if_pos (by rw [blk_size])]
theorem blk3 (w : World) (o1 o2 o3 : Obj) : (((w.alloc o1).alloc o2).alloc o3).heap[w.heap.size]? = some o1 ∧ (((w.alloc o1).alloc o2).alloc o3).heap[w.heap.size + 1]? = some o2 ∧ (((w.alloc o1).alloc o2).alloc o3).heap[w.heap.size + 1 + 1]? = some o3 ∧
    (((w.alloc o1).alloc o2).alloc o3).heap.size = w.heap.size + 3 ∧ Below w.heap.size w (((w.alloc o1).alloc o2).alloc o3) := by
  refine ⟨?_, ?_, ?_, by simp only [blk_size], (((Below.refl _ _).alloc (Nat.le_refl _) _).alloc (by simp) _).alloc (by simp; omega) _⟩
  · rw [blk_if, if_neg (by simp only [blk_size]; omega), blk_if, if_neg (by rw [blk_size]; omega), blk_if, if_pos rfl]
  · rw [blk_if, if_neg (by simp only [blk_size]; omega), blk_if, if_pos (by rw [blk_size])]
  · rw [blk_if, if_pos (by simp only [blk_size])]

theorem row_zero {w : World} {b : Nat} (h : w.heap[b]? = some (.cells #[.float .f64 0, .float .f64 0, .float .f64 0, .float .f64 0, .float .f64 0, .float .f64 0, .float .f64 0, .float .f64 0] 27)) (X Y : Nat → Nat) : w.rowIs b 27 8 (fun j => fv (if j < 2 * 0 then xy X Y j else 0)) :=
  ⟨_, h, rfl, fun j hj => by
    rcases (show j = 0 ∨ j = 1 ∨ j = 2 ∨ j = 3 ∨ j = 4 ∨ j = 5 ∨ j = 6 ∨ j = 7 by omega) with rfl | rfl | rfl | rfl | rfl | rfl | rfl | rfl <;> rfl⟩

theorem row_two {w : World} {b k : Nat} {X Y : Nat → Nat} (h : w.rowIs b 27 8 (fun j => fv (if j < 2 * k then xy X Y j else 0))) :
    ((w.setCell ⟨b, k * 2, none⟩ (fv (X k))).setCell ⟨b, k * 2 + 1, none⟩ (fv (Y k))).rowIs b 27 8 (fun j => fv (if j < 2 * (k + 1) then xy X Y j else 0)) := by
  rw [Nat.mul_comm k 2]
  exact ((h.set (2 * k) _).set (2 * k + 1) _).congr fun j _ => by
    by_cases e1 : j = 2 * k + 1
    · subst e1; simp only [if_true]; rw [if_pos (by omega)]; unfold xy; rw [if_neg (by omega)]; congr 2; omega
    · by_cases e2 : j = 2 * k
      · subst e2; rw [if_neg (by omega)]; simp only [if_true]; rw [if_pos (by omega)]; unfold xy; rw [if_pos (by omega)]; congr 2; omega
      · simp only [e1, e2, if_false]
        by_cases e3 : j < 2 * k
        · rw [if_pos e3, if_pos (by omega)]
        · rw [if_neg e3, if_neg (by omega)]

theorem row_grid {w : World} {b W H : Nat} (h : w.heap[b]? = some (.cells #[.float .f64 f0, .float .f64 f0, .float .f64 (ofI (W : Int)), .float .f64 f0, .float .f64 (ofI (W : Int)), .float .f64 (ofI (H : Int)), .float .f64 f0, .float .f64 (ofI (H : Int))] 27)) : w.rowIs b 27 8 (fun j => fv (xy (gx W) (gy H) j)) := by
  generalize hw : ofI (W : Int) = a at h
  generalize hh : ofI (H : Int) = b at h
  refine ⟨_, h, rfl, fun j hj => ?_⟩
  rcases (show j = 0 ∨ j = 1 ∨ j = 2 ∨ j = 3 ∨ j = 4 ∨ j = 5 ∨ j = 6 ∨ j = 7 by omega) with rfl | rfl | rfl | rfl | rfl | rfl | rfl | rfl <;> simp [xy, gx, gy, hw, hh]

/-- a box of four points -/
def Box (w : World) (b : Nat) (X Y : Nat → Nat) : Prop := w.rowIs b 27 8 (fun j => fv (xy X Y j))
theorem box_all {w : World} {b : Nat} {X Y : Nat → Nat} (h : w.rowIs b 27 8 (fun j => fv (if j < 2 * 4 then xy X Y j else 0))) : Box w b X Y :=
  h.congr fun j hj => by rw [if_pos (by omega)]
theorem Box.below {w w' : World} {b : Nat} {X Y : Nat → Nat} (h : Box w b X Y) (hb : Below w.heap.size w w') : Box w' b X Y := h.of_block (hb.block _ h.lt)
theorem Box.pt {w : World} {b : Nat} {X Y : Nat → Nat} (h : Box w b X Y) {k : Nat} (hk : k < 4) : w.cell? ⟨b, k * 2, none⟩ = some (fv (X k)) ∧ w.cell? ⟨b, k * 2 + 1, none⟩ = some (fv (Y k)) := by
  have h1 := h.cell (i := 2 * k) (by omega)
  have h2 := h.cell (i := 2 * k + 1) (by omega)
  rw [xy_even] at h1
  rw [xy_odd] at h2
  rw [Nat.mul_comm k 2]
  exact ⟨h1, h2⟩
theorem Box.at_ {w : World} {b : Nat} {X Y : Nat → Nat} (h : Box w b X Y) (j : Nat) (hj : j < 8) : w.cell? ⟨b, j, none⟩ = some (fv (xy X Y j)) := h.cell hj

def q8 (X Y : Nat → Nat) : Q8 := ⟨xy X Y 0, xy X Y 1, xy X Y 2, xy X Y 3, xy X Y 4, xy X Y 5, xy X Y 6, xy X Y 7⟩

theorem q8_grid (W H : Nat) : q8 (gx W) (gy H) = gridQ W H := by
  unfold q8 gridQ
  simp [xy, gx, gy]

theorem q8_corn (W H s l t q : Nat) (X Y : Nat → Nat) (hX : ∀ i, i < 4 → X i = corW l s (gx W ((i + q) % 4))) (hY : ∀ i, i < 4 → Y i = corW t s (gy H ((i + q) % 4))) : q8 X Y = cornQ W H s l t q := by
  unfold q8 cornQ
  rw [← hX 0 (by omega), ← hX 1 (by omega), ← hX 2 (by omega), ← hX 3 (by omega), ← hY 0 (by omega), ← hY 1 (by omega), ← hY 2 (by omega), ← hY 3 (by omega)]
  rfl
theorem q8_far (W H s l t wd : Nat) (X Y : Nat → Nat) (hX : ∀ i, i < 4 → X i = farW l s (gx W i) wd) (hY : ∀ i, i < 4 → Y i = corW t s (gy H i)) : q8 X Y = farQ W H s l t wd := by
  unfold q8 farQ
  rw [← hX 0 (by omega), ← hX 1 (by omega), ← hX 2 (by omega), ← hX 3 (by omega), ← hY 0 (by omega), ← hY 1 (by omega), ← hY 2 (by omega), ← hY 3 (by omega)]
  rfl

theorem turns_bd (H W N : Nat) (F : Nat → Nat → Bool) (hH : 1 ≤ H ∧ H ≤ N) (hW : 1 ≤ W ∧ W ≤ N) (k : Nat) : (1 ≤ (turns H W F k).1 ∧ (turns H W F k).1 ≤ N) ∧ (1 ≤ (turns H W F k).2.1 ∧ (turns H W F k).2.1 ≤ N) := by
  induction k with
  | zero => exact ⟨hH, hW⟩
  | succ k ih => exact ⟨ih.2, ih.1⟩

/-- what is sampled from the picture, beginning with corner q -/
theorem samp_in (rv : Value) (W H s l t wd hd q TH TW : Nat) (F TF : Nat → Nat → Bool) (gr : Nat → Int) (X Y : Nat → Nat) (w : World) (hgr : gr = drawn F H W s l t wd 0 255) (hwd : wd = l + s * W + l) (hhd : hd = t + s * H + t) (hq : q < 4)
    (hW : 1 ≤ W ∧ W ≤ 15) (hH : 1 ≤ H ∧ H ≤ 15) (hs : 1 ≤ s ∧ s ≤ 9) (hl : l ≤ 19) (ht : t ≤ 19) (hwd1 : 1 ≤ wd ∧ wd ≤ 173) (hhd1 : 1 ≤ hd ∧ hd ≤ 173) (hT : turns H W F ((4 - q) % 4) = (TH, TW, TF))
    (hX : ∀ i, i < 4 → X i = corW l s (gx W ((i + q) % 4))) (hY : ∀ i, i < 4 → Y i = corW t s (gy H ((i + q) % 4))) (hg : Grid w rv hd wd (fun y x => decide (gr (y * wd + x) = 0))) :
    Calls Try.prog 19 #[rv, .int .i64 (TW : Int), .int .i64 (TH : Int), .agg (q8 (gx TW) (gy TH)).vals, .agg (q8 X Y).vals] w fun e w' => ∃ v, e = .returned (.tuple #[v, .bool true]) ∧ Grid w' v TH TW TF ∧ Below w.heap.size w w' := by
  obtain ⟨a, o, b, r, k1, k2, k3, k4, PX, PY, k5, k6, k7⟩ := corn_map F W H s l t q hq hW hH hs hl ht
  obtain ⟨⟨b1, b2⟩, b3, b4⟩ := turns_bd H W 15 F hH hW ((4 - q) % 4)
  rw [hT] at k1 k5 k6 k7 b1 b2 b3 b4
  dsimp only at k1 k5 k6 k7 b1 b2 b3 b4
  rw [q8_grid, q8_corn W H s l t q X Y hX hY]
  rw [← hwd] at k6 k7
  rw [← hhd] at k6
  refine (sample_in rv wd hd TW TH _ (gridQ TW TH) (cornQ W H s l t q) a o b r PX PY w k1 k2 k3 k4 hg b3 b4 b1 b2 hwd1.1 (by omega) hhd1.1 (by omega) k5 k6).mono ?_
  rintro e w' ⟨v, rfl, h1, h2⟩
  exact ⟨v, rfl, (h1.grid).congr fun y hy x hx => by rw [hgr]; exact k7 x y hx hy, h2⟩

/-- beyond the picture nothing is sampled -/
theorem samp_far (rv : Value) (W H s l t wd hd : Nat) (B : Nat → Nat → Bool) (X Y : Nat → Nat) (w : World)
    (hW : 1 ≤ W ∧ W ≤ 15) (hH : 1 ≤ H ∧ H ≤ 15) (hs : 1 ≤ s ∧ s ≤ 9) (hl : l ≤ 19) (ht : t ≤ 19) (hwd1 : 1 ≤ wd ∧ wd ≤ 173) (hhd1 : 1 ≤ hd ∧ hd ≤ 173)
    (hX : ∀ i, i < 4 → X i = farW l s (gx W i) wd) (hY : ∀ i, i < 4 → Y i = corW t s (gy H i)) (hg : Grid w rv hd wd B) :
    Calls Try.prog 19 #[rv, .int .i64 (W : Int), .int .i64 (H : Int), .agg (q8 (gx W) (gy H)).vals, .agg (q8 X Y).vals] w fun e w' => ∃ v, e = .returned (.tuple #[v, .bool false]) ∧ Below w.heap.size w w' := by
  obtain ⟨a, o, b, r, k1, k2, k3, k4, k5⟩ := far_map W H s l t wd hW hH hs hl ht hwd1.2
  rw [q8_grid, q8_far W H s l t wd X Y hX hY]
  exact sample_far rv wd hd W H _ (gridQ W H) (farQ W H s l t wd) a o b r w k1 k2 k3 k4 hg hW.1 hW.2 hH.1 hH.2 hwd1.1 (by omega) hhd1.1 (by omega) k5

end Go.Proofs.Ytaadklfendegfaa
