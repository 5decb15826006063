/- The walk of zbAwake. -/
import Derived.Test.YtaadklfendegfaaZy
import Derived.Test.YtaadklfendegfaaOz
import Derived.BigRegion
namespace Go.Proofs.Ytaadklfendegfaa
open Go.RowKit

/-- the gray of a pixel of modules of one pixel -/
def gray1 (F : Nat → Nat → Bool) (n : Nat) (dark light : Int) (i : Nat) : Int := if F (i / n) (i % n) = true then dark else light

theorem gray1_at (F : Nat → Nat → Bool) (n : Nat) (dark light : Int) (y x : Nat) (hx : x < n) : gray1 F n dark light (y * n + x) = if F y x = true then dark else light := by
  unfold gray1
  have h1 : (y * n + x) / n = y := by rw [Nat.mul_comm, Nat.mul_add_div (by omega), Nat.div_eq_of_lt hx, Nat.add_zero]
  have h2 : (y * n + x) % n = x := by rw [Nat.mul_comm, Nat.mul_add_mod]; exact Nat.mod_eq_of_lt hx
  rw [h1, h2]
theorem gray1_dark (F : Nat → Nat → Bool) (n : Nat) (dark light : Int) (h : dark ≠ light) (y x : Nat) (hx : x < n) : decide (gray1 F n dark light (y * n + x) = dark) = F y x := by
  rw [gray1_at F n dark light y x hx]
  cases hF : F y x
  · simp; exact Ne.symm h
  · simp
theorem gray1_two (F : Nat → Nat → Bool) (n : Nat) (dark light : Int) (i : Nat) : gray1 F n dark light i = dark ∨ gray1 F n dark light i = light := by
  unfold gray1; split <;> simp

theorem draw1_calls (mv : Value) (h n : Nat) (F : Nat → Nat → Bool) (dark light : Int) (w : World) (hg : Grid w mv h n F) (hh0 : 1 ≤ h) (hh : h ≤ 1000) (hn0 : 1 ≤ n) (hn : n ≤ 1000) :
    Calls Try.prog 17 #[mv, .int .i64 1, .int .i64 0, .int .i64 0, .int .i64 0, .int .i64 0, .int .u8 dark, .int .u8 light] w fun e w' =>
      ∃ v, e = .returned (.tuple #[.int .i64 (n : Int), v]) ∧ Bytes w.heap.size w' v (n * h) (gray1 F n dark light) ∧ Below w.heap.size w w' := by
  refine (draw_calls mv h n 1 0 0 0 0 F dark light w hg hh0 hh hn0 hn (by omega) (by omega) (by omega) (by omega) (by omega) (by omega)).mono ?_
  rintro e w' ⟨v, rfl, ⟨g, rfl, hb, hr⟩, hbel⟩
  have e1 : 0 + 1 * n + 0 = n := by omega
  have e2 : 0 + 1 * h + 0 = h := by omega
  rw [e1, e2] at hr
  rw [e1, e2]
  refine ⟨_, rfl, ⟨g, rfl, hb, hr.congr fun i hi => ?_⟩, hbel⟩
  have h1 : i % n < n := Nat.mod_lt _ (by omega)
  have h2 : i / n < h := Nat.div_lt_of_lt_mul hi
  unfold drawn gray1
  simp only [Nat.zero_le, true_and, Nat.sub_zero, Nat.div_one]
  by_cases hF : F (i / n) (i % n) = true
  · rw [if_pos ⟨by omega, by omega, hF⟩, if_pos hF]
  · rw [if_neg (fun h => hF h.2.2), if_neg hF]

/-- a cell of a table of the call's own is written -/
theorem Rows2.set {w : World} {g : Nat} {R : Nat → Nat} {h n : Nat} {F : Nat → Nat → Bool} (hr : Rows2 w g R h n F) {y x : Nat} (hy : y < h) (b : Bool) :
    Rows2 (w.setCell ⟨R y, x, none⟩ (.bool b)) g R h n (fun y' x' => if y' = y ∧ x' = x then b else F y' x') := by
  obtain ⟨h1, h2, h3, h4⟩ := hr
  refine ⟨fun y' hy' => ?_, fun y' hy' => ?_, h3, h4⟩
  · rw [World.cell?_of_block (w := w) (Below.heap_setCell w _ _ g (fun e => h3 y hy e.symm))]; exact h1 y' hy'
  · by_cases e : y' = y
    · subst e
      refine ((h2 y' hy').setb x b).congr fun x' _ => ?_
      by_cases e2 : x' = x <;> simp [e2]
    · refine ((h2 y' hy').setOther (a := ⟨R y, x, none⟩) (fun h => e (h4 y' y hy' hy h)) (.bool b)).congr fun x' _ => ?_
      simp [e]

theorem Rows2.after {w w' : World} {g : Nat} {R : Nat → Nat} {h n : Nat} {F : Nat → Nat → Bool} (hr : Rows2 w g R h n F) (hb : Below w.heap.size w w') : Rows2 w' g R h n F := by
  obtain ⟨h1, h2, h3, h4⟩ := hr
  exact ⟨fun y hy => (hb.cell (cell_lt (h1 y hy))).trans (h1 y hy), fun y hy => (h2 y hy).of_block (hb.block _ (h2 y hy).lt), h3, h4⟩

set_option maxRecDepth 100000 in
set_option maxHeartbeats 2000000 in
theorem awake_calls (w : World) : Calls Try.prog 23 #[] w fun e w' => e = .returned (.bool true) ∧ Below w.heap.size w w' := by
  go_enter Try.func23, Try.ntmps23
  go_wp2_with (fail)
  refine (bits_calls (some ⟨w.heap.size, 0, none⟩) 1 1 20 20 [90] _ (by omega) (by omega) (by omega) (by omega) (by omega) (.inr ⟨w.heap.size, 0, rfl, fun j hj => ?cell⟩)).mono ?_
  case cell =>
    obtain rfl : j = 0 := by omega
    exact cell_at_cells (blk_new _ _) rfl
  rintro e w1 ⟨v, F, rfl, ⟨g, c, R, rfl, hg, hrows, hR⟩, hb1⟩
  have hb0 : Below w.heap.size w w1 := ((Below.refl _ _).alloc (Nat.le_refl _) _).trans (hb1.mono (by simp))
  have L4 := hrows.1 4 (by omega)
  have C6 := (hrows.2.1 4 (by omega)).cell (i := 6) (by omega)
  have C7 := (hrows.2.1 4 (by omega)).cell (i := 7) (by omega)
  have F6 := (hrows.2.1 4 (by omega)).frozen 6
  have F7 := (hrows.2.1 4 (by omega)).frozen 7
  have nR := hrows.2.2.1 4 (by omega)
  have HRows := Lib.hid hrows
  have HB0 := Lib.hid hb0
  have HRb := Lib.hid hR
  clear hrows hb1 hb0 hR
  go_wp2
  go_region
  have hr1 := ((HRows.out.set (y := 4) (x := 6) (by omega) true).set (y := 4) (x := 7) (by omega) false)
  generalize hF' : (fun y' x' => if y' = 4 ∧ x' = 7 then false else if y' = 4 ∧ x' = 6 then true else F y' x' : Nat → Nat → Bool) = F' at hr1
  have f6 : F' 4 6 = true := by rw [← hF']; simp
  have f7 : F' 4 7 = false := by rw [← hF']; simp
  have hR4 := HRb.out 4 (by omega)
  have hb2 : Below w.heap.size w ((w1.setCell ⟨R 4, 6, none⟩ (.bool true)).setCell ⟨R 4, 7, none⟩ (.bool false)).drew := ((HB0.out.setCell (p := ⟨R 4, 6, none⟩) (by simp at hR4; show w.heap.size ≤ R 4; omega) _).setCell (p := ⟨R 4, 7, none⟩) (by simp at hR4; show w.heap.size ≤ R 4; omega) _).drew
  have hr2 : Rows2 ((w1.setCell ⟨R 4, 6, none⟩ (.bool true)).setCell ⟨R 4, 7, none⟩ (.bool false)).drew g R 20 20 F' := hr1
  generalize ((w1.setCell ⟨R 4, 6, none⟩ (.bool true)).setCell ⟨R 4, 7, none⟩ (.bool false)).drew = w2 at *
  have hgrid : GridO 0 w2 (.slice (some ⟨g, 0, none⟩) 20 c) 20 20 F' := ⟨g, c, R, rfl, by omega, hr2, fun _ _ => by omega⟩
  have HGrid := Lib.hid hgrid
  have HB2 := Lib.hid hb2
  clear hr1 hr2 hgrid hb2 L4 C6 C7 F6 F7 HRows hF' hR4
  go_wp2_with (fail)
  refine (draw1_calls _ 20 20 F' 10 240 _ HGrid.out.grid (by omega) (by omega) (by omega) (by omega)).mono ?_
  rintro e w3 ⟨v, rfl, ⟨gv, rfl, hgv, hbytes⟩, hb3⟩
  have HB3 := Lib.hid hb3
  have HBy := Lib.hid hbytes
  clear hb3 hbytes
  go_wp2_with (fail)
  refine (zxbinary_calls gv 400 400 20 20 (gray1 F' 20 10 240) 0 10 240 _ (by omega) (by omega) (by omega) (by omega) (by omega) (fun i hi => HBy.out.cell hi) ⟨by omega, by omega, by omega, fun i _ => gray1_two F' 20 10 240 i, 1, 6, 1, 7, by omega, by omega, by omega, by omega, ?s1, ?s2⟩).mono ?_
  case s1 => rw [show 20 * 1 / 5 * 20 + 6 = 4 * 20 + 6 by omega, gray1_at _ _ _ _ _ _ (by omega), f6]; rfl
  case s2 => rw [show 20 * 1 / 5 * 20 + 7 = 4 * 20 + 7 by omega, gray1_at _ _ _ _ _ _ (by omega), f7]; rfl
  rintro e w4 ⟨v4, rfl, hg4, hb4⟩
  have HG4 : Hid (Grid w4 v4 20 20 F') := (hg4.grid).congr fun y hy x hx => gray1_dark F' 20 10 240 (by omega) y x hx
  have HG5 : Hid (Grid w4 (.slice (some ⟨g, 0, none⟩) 20 c) 20 20 F') := (HGrid.out.grid.below HB3.out).below hb4
  have HB4 : Hid (Below w.heap.size w w4) := (HB2.out.trans (HB3.out.mono HB2.out.size)).trans (hb4.mono (Nat.le_trans HB2.out.size HB3.out.size))
  clear hg4 hb4
  go_wp2_with (fail)
  refine (alike_calls _ _ 20 20 F' F' _ (by omega) (by omega) HG4.out HG5.out (fun _ _ _ _ => rfl)).mono ?_
  rintro e w5 ⟨rfl, m, rfl⟩
  go_wp2
  go_ret
  exact ⟨rfl, below_drewN HB4.out m⟩

end Go.Proofs.Ytaadklfendegfaa
