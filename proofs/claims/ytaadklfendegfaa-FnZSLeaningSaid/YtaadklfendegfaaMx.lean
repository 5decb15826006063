/- The walk of matrix: a table of truth values becomes a matrix of bits. -/
import Derived.Test.YtaadklfendegfaaBm
import Derived.Test.YtaadklfendegfaaGr
namespace Go.Proofs.Ytaadklfendegfaa
open Go.RowKit

set_option maxRecDepth 100000 in
set_option maxHeartbeats 4000000 in
theorem matrix_calls (v : Value) (W H : Nat) (F : Nat → Nat → Bool) (w : World) (hg : Grid w v H W F) (hW0 : 1 ≤ W) (hH0 : 1 ≤ H) (hW : W ≤ 10000) (hH : H ≤ 10000) :
    Calls Try.prog 33 #[v] w fun e w' => ∃ pm gm, e = .returned (.pointer (some ⟨pm, 0, none⟩)) ∧ BM w' pm gm W H (fun x y => F y x) ∧ w.heap.size ≤ pm ∧ w.heap.size ≤ gm ∧ Below w.heap.size w w' := by
  obtain ⟨g, c, rfl, hrows⟩ := hg
  obtain ⟨u0, h0, b0, c0, rfl, hc0⟩ := hrows 0 (by omega)
  have HRows := Lib.hid hrows
  have I0 : (0 : Int) < (H : Int) := by omega
  have I1 : ((H : Int) == 0) = false := by simp; omega
  have I2 : ((W : Int) == 0) = false := by simp; omega
  have I3 : (H == 0) = false := by simp; omega
  have I4 : (W == 0) = false := by simp; omega
  have hgl := cell_lt h0
  have H0 := Lib.hid h0
  clear hrows hc0
  go_enter Try.func33, Try.ntmps33
  go_wp2_with (fail)
  refine (newbm_calls W H _ (by omega) (by omega) (by omega) (by omega)).mono ?_
  rintro e w1 ⟨pm, gm, rfl, hbm, hpm, hgm, hb1⟩
  have hs1 := hb1.size
  have hbl := hbm.lt
  have HBM := Lib.hid hbm
  have HB1 := Lib.hid hb1
  have hc1 : w1.cell? ⟨g, 0, none⟩ = some (.slice (some ⟨b0, 0, none⟩) W c0) := (hb1.cell (by exact hgl)).trans H0.out
  have HC1 := Lib.hid hc1
  clear hbm hb1 h0 hc1 I3 I4
  have HR1 : Hid (∀ y, y < H → ∃ b c', w1.cell? ⟨g, y, none⟩ = some (.slice (some ⟨b, 0, none⟩) W c') ∧ b < w.heap.size ∧ ∀ j, j < W → w1.cell? ⟨b, j, none⟩ = some (.bool (F y j))) := fun y hy => by
    obtain ⟨u, h1, b, c', rfl, h2⟩ := HRows.out y hy
    exact ⟨b, c', (HB1.out.cell (cell_lt h1)).trans h1, cell_lt (h2 0 (by omega)), fun j hj => (HB1.out.cell (cell_lt (h2 j hj))).trans (h2 j hj)⟩
  go_wp2
  go_loopw [33] (fun y wr => ∃ k : Nat, k ≤ H ∧ y = .int .i64 (k : Int) ∧ Hid (∃ wd, Only gm wd wr ∧ ∃ m, wd = w1.drewN m) ∧ Hid (BM wr pm gm W H (fun x y => if y < k then F y x else false))) (fun y _ => H - (intOf y).toNat)
  case atStart => exact ⟨0, by omega, rfl, ⟨w1, Only.refl _ _, 0, rfl⟩, HBM.out.congr fun x y _ _ => by simp⟩
  case round =>
    obtain ⟨wo, rfl⟩ : ∃ wo : World, wo = wr := ⟨_, rfl⟩
    obtain ⟨k, hk, rfl, HO, HBk⟩ := hrel
    by_cases hlt : k < H
    · obtain ⟨b, c', hb, hbl', hbc⟩ := HR1.out k hlt
      have rd : ∀ (a : Addr) (v : Value), a.block ≠ gm → w1.cell? a = some v → ∀ wr : World, (∃ wd, Only gm wd wr ∧ ∃ m, wd = w1.drewN m) → wr.cell? a = some v := by
        rintro a v ha hv wr ⟨wd, ho, m, rfl⟩
        exact (World.cell?_of_block (w := w1.drewN m) (ho.block _ ha)).trans hv
      have HRd := Lib.hid rd
      have HBc := Lib.hid hbc
      have X0 := rd _ _ (by show g ≠ gm; omega) hb wo HO.out
      have J0 : (k : Int) < (H : Int) := by omega
      have J1 : 0 ≤ (k : Int) := by omega
      clear rd hbc hb
      go_wp2
      clear X0
      go_loopw [40] (fun x wr => ∃ j : Nat, j ≤ W ∧ x = .int .i64 (j : Int) ∧ Hid (∃ wd, Only gm wd wr ∧ ∃ m, wd = w1.drewN m) ∧ Hid (BM wr pm gm W H (fun x y => if y < k ∨ (y = k ∧ x < j) then F y x else false))) (fun x _ => W - (intOf x).toNat)
      case atStart => exact ⟨0, by omega, rfl, HO, HBk.out.congr fun x y _ _ => by simp⟩
      case round =>
        obtain ⟨j, hj, rfl, HOj, HBj⟩ := hrel
        by_cases hlt2 : j < W
        · have X0 := HRd.out _ _ (by show b ≠ gm; omega) (HBc.out j hlt2) wr HOj.out
          have X1 := HRd.out _ _ (by show g ≠ gm; omega) HC1.out wr HOj.out
          have J2 : (j : Int) < (W : Int) := by omega
          have J3 : 0 ≤ (j : Int) := by omega
          cases hF : F k j <;> rw [hF] at X0
          · have HF := Lib.hid hF
            clear hF
            go_wp2
            go_roundw
            case rel => exact ⟨j + 1, by omega, by go_num, HOj, HBj.out.congr fun x y hx hy => by
              by_cases e : x = j ∧ y = k
              · obtain ⟨rfl, rfl⟩ := e
                rw [if_neg (by omega), if_pos (by omega)]; exact HF.out.symm
              · by_cases e2 : y < k ∨ y = k ∧ x < j
                · rw [if_pos e2, if_pos (by omega)]
                · rw [if_neg e2, if_neg (by omega)]⟩
            case measure => simp [intOf]; omega
          · have HF := Lib.hid hF
            have HSet := Lib.hid (set_calls pm gm W H j k _ wr HBj.out hlt2 hlt (by omega) (by omega))
            clear hF
            go_wp2_with (go_at_call 48; refine HSet.out.mono ?_)
            rintro e w6 ⟨rfl, hbm6, ho6⟩
            have HBM6 := Lib.hid hbm6
            have HO6 : Hid (∃ wd, Only gm wd w6 ∧ ∃ m, wd = w1.drewN m) := by
              obtain ⟨wd, ho, m, hm⟩ := HOj.out
              exact ⟨wd, ho.trans ho6, m, hm⟩
            clear hbm6 ho6 HSet
            go_wp2
            go_roundw
            case rel => exact ⟨j + 1, by omega, by go_num, HO6, HBM6.out.congr fun x y hx hy => by
              by_cases e : x = j ∧ y = k
              · obtain ⟨rfl, rfl⟩ := e
                rw [if_pos ⟨rfl, rfl⟩, if_pos (by omega)]; exact HF.out.symm
              · rw [if_neg e]
                by_cases e2 : y < k ∨ y = k ∧ x < j
                · rw [if_pos e2, if_pos (by omega)]
                · rw [if_neg e2, if_neg (by omega)]⟩
            case measure => simp [intOf]; omega
        · obtain rfl : j = W := by omega
          go_wp2
          go_roundw
          case rel => exact ⟨k + 1, by omega, by go_num, HOj, HBj.out.congr fun x y hx hy => by
            by_cases e2 : y < k ∨ y = k ∧ x < j
            · rw [if_pos e2, if_pos (by omega)]
            · rw [if_neg e2, if_neg (by omega)]⟩
          case measure => simp [intOf]; omega
    · obtain rfl : k = H := by omega
      go_wp2
      go_ret
      obtain ⟨wd, ho, m, rfl⟩ := HO.out
      exact ⟨pm, gm, rfl, HBk.out.congr fun x y _ hy => by rw [if_pos hy], hpm, hgm, HB1.out.trans ((below_drewN (Below.refl _ _) m).trans (ho.below (by omega)) |>.mono (by omega))⟩

end Go.Proofs.Ytaadklfendegfaa
