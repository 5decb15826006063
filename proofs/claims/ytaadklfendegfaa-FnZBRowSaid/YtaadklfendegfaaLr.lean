/- The walk of FnZBRow. -/
import Derived.Test.YtaadklfendegfaaZr
import Derived.Test.YtaadklfendegfaaPi
namespace Go.Proofs.Ytaadklfendegfaa
open Go.RowKit

set_option maxRecDepth 100000 in
set_option maxHeartbeats 1000000 in
theorem row_big (sa : Option Addr) (len cap : Nat) (a1 a2 a3 : Int) (hy : Bool) (w : World) (hlen : 2147483647 < len) :
    Calls Try.prog 9 #[.slice sa len cap, .int .u8 a1, .int .u8 a2, .int .u8 a3, .bool hy] w fun e w' => e = .returned (.bool true) ∧ Below w.heap.size w w' := by
  have hl : (2147483647 : Int) < (len : Int) := by omega
  have hX := Lib.hid (Below.refl w.heap.size w)
  go_enter Try.func9, Try.ntmps9
  go_wp2
  go_ret
  exact ⟨rfl, hX.out⟩

set_option maxRecDepth 100000 in
set_option maxHeartbeats 4000000 in
theorem row_walk (sa : Option Addr) (len cap : Nat) (zs : List Int) (a1 a2 a3 : Int) (hy : Bool) (w : World) (hlen : len ≤ 2147483647) (h1 : 0 ≤ a1 ∧ a1 ≤ 255) (h2 : 0 ≤ a2 ∧ a2 ≤ 255) (h3 : 0 ≤ a3 ∧ a3 ≤ 255)
    (hz : len = 0 ∨ ∃ ab aoff, sa = some ⟨ab, aoff, none⟩ ∧ ∀ j, j < len → w.cell? ⟨ab, aoff + j, none⟩ = some (.int .u8 (zs.getD j 0))) :
    Calls Try.prog 9 #[.slice sa len cap, .int .u8 a1, .int .u8 a2, .int .u8 a3, .bool hy] w fun e w' => e = .returned (.bool true) ∧ Below w.heap.size w w' := by
  have hl : decide ((2147483647 : Int) < (len : Int)) = false := by simp; omega
  obtain ⟨h10, h11⟩ := h1
  obtain ⟨h20, h21⟩ := h2
  obtain ⟨h30, h31⟩ := h3
  obtain ⟨W, hW⟩ : ∃ W : Nat, 3 + a1 % 128 = (W : Int) := ⟨(3 + a1 % 128).toNat, by omega⟩
  have hW0 : 3 ≤ W := by omega
  have hW1 : W ≤ 130 := by omega
  have HZ := Lib.hid hz
  clear hz
  go_enter Try.func9, Try.ntmps9
  go_wp2_with (fail)
  refine (bits_calls sa len cap W 1 zs _ hlen (by omega) (by omega) (by omega) (by omega) HZ.out).mono ?_
  rintro e w1 ⟨v, F, rfl, hgo, hb1⟩
  obtain ⟨g, c, R, rfl, hg, hrows, hR⟩ := hgo
  have L0 := hrows.1 0 (by omega)
  have hrow0 := hrows.2.1 0 (by omega)
  have hR0 := hR 0 (by omega)
  generalize hR00 : R 0 = r at *
  generalize hF0 : F 0 = f at *
  have HRow := Lib.hid hrow0
  have HB1 := Lib.hid hb1
  clear hrows hb1 hR hrow0 hF0 hR00
  go_wp2
  go_loopw [13, 14, 33] (fun s n y wr => ∃ (k : Nat) (bs bn : Bool), k ≤ W ∧ y = .int .i64 (k : Int) ∧ s = .bool bs ∧ n = .bool bn ∧ Hid (bs = true → ∃ x, x < W ∧ f x = true) ∧ Hid (bn = true → ∃ x, x < W ∧ f x = false) ∧ ∃ m, wr = w1.drewN m) (fun _ _ y _ => W - (intOf y).toNat)
  case atStart => exact ⟨0, false, false, by omega, rfl, rfl, rfl, (fun h => by cases h), (fun h => by cases h), 0, rfl⟩
  case round =>
    obtain ⟨wo, rfl⟩ : ∃ wo : World, wo = wr := ⟨_, rfl⟩
    obtain ⟨k, bs, bn, hk, rfl, rfl, rfl, HS, HN, m, hm⟩ := hrel
    by_cases hlt : k < W
    · have X1 : wo.cell? ⟨r, k, none⟩ = some (.bool (f k)) := by rw [hm]; exact HRow.out.cell hlt
      have HM := Lib.hid hm
      clear hm
      have I0 : (k : Int) < (W : Int) := by omega
      have I1 : 0 ≤ (k : Int) := by omega
      have HSee : Hid (∀ b, f k = b → ∃ x, x < W ∧ f x = b) := fun b hb => ⟨k, hlt, hb⟩
      cases bs <;> cases bn <;> cases hF : f k <;> rw [hF] at X1
      all_goals
        have HF := Lib.hid hF
        clear hF
        go_wp2
        go_roundw
        case rel =>
          first
          | exact ⟨k + 1, true, true, by omega, by go_num, rfl, rfl, (by first | exact HS | exact (fun _ => HS.out trivial) | exact (fun _ => HSee.out _ HF.out)), (by first | exact HN | exact (fun _ => HN.out trivial) | exact (fun _ => HSee.out _ HF.out)), m, HM.out⟩
          | exact ⟨k + 1, true, false, by omega, by go_num, rfl, rfl, (by first | exact HS | exact (fun _ => HS.out trivial) | exact (fun _ => HSee.out _ HF.out)), (fun h => by cases h), m, HM.out⟩
          | exact ⟨k + 1, false, true, by omega, by go_num, rfl, rfl, (fun h => by cases h), (by first | exact HN | exact (fun _ => HN.out trivial) | exact (fun _ => HSee.out _ HF.out)), m, HM.out⟩
          | exact ⟨k + 1, false, false, by omega, by go_num, rfl, rfl, (fun h => by cases h), (fun h => by cases h), m, HM.out⟩
        case measure => simp [intOf]; omega
    · obtain rfl : k = W := by omega
      have hBo : Below w.heap.size w wo := by rw [hm]; exact below_drewN HB1.out m
      have hrw : wo.rowIs r 4 k (fun x => .bool (f x)) := by rw [hm]; exact row_after HRow.out (below_drewN (Below.refl _ _) m)
      have HBo := Lib.hid hBo
      have HRw := Lib.hid hrw
      clear hBo hrw hm HB1 HRow L0
      by_cases hall : bs = true ∧ bn = true ∧ a2 + 64 ≤ a3
      · obtain ⟨rfl, rfl, hn⟩ := hall
        obtain ⟨xd, d1, d2⟩ := HS.out rfl
        obtain ⟨xl, l1, l2⟩ := HN.out rfl
        have hp : ∀ x, x < k → gray1 (fun _ x => f x) k a2 a3 (1 * k + x) = if f x = true then a2 else a3 := fun x hx => gray1_at (fun _ x => f x) k a2 a3 1 x hx
        have HP := Lib.hid hp
        have hsee : Seen1 k 1 (gray1 (fun _ x => f x) k a2 a3) a2 a3 := by
          refine ⟨h20, hn, h31, fun x _ => gray1_two _ k a2 a3 _, xd, xl, d1, l1, ?_, ?_⟩
          · rw [hp xd d1, d2]; rfl
          · rw [hp xl l1, l2]; rfl
        have HSee := Lib.hid hsee
        have hn1 : decide (a3 < a2 + 64) = false := by simp; omega
        clear d1 d2 l1 l2 hsee HS HN hp
        go_wp2_with (fail)
        refine (scpic_calls r k k f a2 a3 _ (fun j hj => HRw.out.cell hj) (by omega) (by omega)).mono ?_
        rintro e w3 ⟨v, rfl, ⟨gv, rfl, hgv, hbytes⟩, hb3⟩
        have HB3 := Lib.hid hb3
        have HBy := Lib.hid hbytes
        have hs3 := hb3.size
        have hrlt := HRw.out.lt
        clear hb3 hbytes
        go_wp2_with (fail)
        refine (zxrow_calls hy gv (k * 3) (k * 3) k 3 1 (gray1 (fun _ x => f x) k a2 a3) 0 a2 a3 _ rfl (by omega) (by omega) (by omega) (by omega) (by omega) (fun i hi => HBy.out.cell hi) HSee.out).mono ?_
        rintro e w4 ⟨v4, rfl, ⟨b4, c4, rfl, hb4, hcell4⟩, hbel4⟩
        have hrow4 : w4.rowIs r 4 k (fun x => .bool (f x)) := row_after (row_after HRw.out HB3.out) hbel4
        have X0 := hrow4.cell (i := 0) (by omega)
        have X1 := hrow4.cell (i := k - 1) (by omega)
        have F0 := hrow4.frozen 0
        have F1 := hrow4.frozen (k - 1)
        have HRow4 := Lib.hid hrow4
        have HC4 := Lib.hid hcell4
        have HB4 : Hid (Below w.heap.size w w4) := (HBo.out.trans (HB3.out.mono HBo.out.size)).trans (hbel4.mono (Nat.le_trans HBo.out.size hs3))
        have I1 : (k : Int) - 1 < (k : Int) := by omega
        have I2 : 0 ≤ (k : Int) - 1 := by omega
        have I3 : ((k : Int) - 1).toNat = k - 1 := by omega
        clear hrow4 hcell4 hbel4
        go_wp2_with (fail)
        have hset := (HRow4.out.setb 0 false).setb (k - 1) false
        have hbz : Below w.heap.size w ((w4.setCell ⟨r, 0, none⟩ (.bool false)).setCell ⟨r, k - 1, none⟩ (.bool false)) := (HB4.out.setCell (p := ⟨r, 0, none⟩) (by exact hR0) _).setCell (p := ⟨r, k - 1, none⟩) (by exact hR0) _
        have hg4 : BRow ((w4.setCell ⟨r, 0, none⟩ (.bool false)).setCell ⟨r, k - 1, none⟩ (.bool false)) (.slice (some ⟨b4, 0, none⟩) k c4) k (toldRow k 1 (gray1 (fun _ x => f x) k a2 a3) a2) := by
          refine ⟨b4, c4, rfl, fun j hj => ?_⟩
          rw [World.cell?_of_block (w := w4) (by rw [Below.heap_setCell _ _ _ _ (by show b4 ≠ r; omega), Below.heap_setCell _ _ _ _ (by show b4 ≠ r; omega)])]
          exact HC4.out j hj
        have hr4 : BRow ((w4.setCell ⟨r, 0, none⟩ (.bool false)).setCell ⟨r, k - 1, none⟩ (.bool false)) (.slice (some ⟨r, 0, none⟩) k k) k (fun x => if x = k - 1 then false else if x = 0 then false else f x) := ⟨r, k, rfl, fun j hj => hset.cell hj⟩
        generalize (w4.setCell ⟨r, 0, none⟩ (.bool false)).setCell ⟨r, k - 1, none⟩ (.bool false) = w5 at *
        have HBz := Lib.hid hbz
        have hsame : ∀ j, j < k → toldRow k 1 (gray1 (fun _ x => f x) k a2 a3) a2 j = if j = k - 1 then false else if j = 0 then false else f j := by
          intro j hj
          unfold toldRow
          by_cases e1 : j = k - 1
          · rw [if_pos e1]; exact decide_eq_false (fun h => by omega)
          · rw [if_neg e1]
            by_cases e2 : j = 0
            · rw [if_pos e2]; exact decide_eq_false (fun h => by omega)
            · rw [if_neg e2, HP.out j hj]
              cases hf : f j
              · simp; omega
              · simp; omega
        refine (same_calls _ _ k _ _ _ (by omega) hg4 hr4 hsame).mono ?_
        rintro e w6 ⟨rfl, m6, rfl⟩
        clear hset hbz hg4 hr4 hsame X0 X1 F0 F1
        go_wp2_with (fail)
        refine (awake_calls _).mono ?_
        rintro e w7 ⟨rfl, hb7⟩
        have HB7 : Hid (Below w.heap.size w w7) := HBz.out.trans ((below_drewN (Below.refl _ _) m6).trans (hb7.mono HBz.out.size))
        clear hb7
        go_wp2
        go_ret
        exact ⟨rfl, HB7.out⟩
      · have hend : ∀ w6 : World, Below wo.heap.size wo w6 → Below w.heap.size w w6 := fun w6 h => HBo.out.trans (h.mono HBo.out.size)
        have HEnd := Lib.hid hend
        clear hend HS HN
        by_cases hnear : a3 < a2 + 64
        · have hn1 : decide (a3 < a2 + 64) = true := by simp; omega
          clear hall
          go_wp2_with (fail)
          refine (awake_calls _).mono ?_
          rintro e w6 ⟨rfl, hb6⟩
          have HB6 := Lib.hid (HEnd.out _ hb6)
          clear hb6
          go_wp2
          go_ret
          exact ⟨rfl, HB6.out⟩
        · have hn1 : decide (a3 < a2 + 64) = false := by simp; omega
          cases bs <;> cases bn
          case neg.true.true => exact absurd ⟨rfl, rfl, by omega⟩ hall
          all_goals
            clear hall
            go_wp2_with (fail)
            refine (awake_calls _).mono ?_
            rintro e w6 ⟨rfl, hb6⟩
            have HB6 := Lib.hid (HEnd.out _ hb6)
            clear hb6
            go_wp2
            go_ret
            exact ⟨rfl, HB6.out⟩

end Go.Proofs.Ytaadklfendegfaa
