/- The walk of FnZBHybrid. -/
import Derived.Test.YtaadklfendegfaaZh
import Derived.Test.YtaadklfendegfaaZa
namespace Go.Proofs.Ytaadklfendegfaa
open Go.RowKit

theorem Rows2.congr {w : World} {g : Nat} {R : Nat → Nat} {h n : Nat} {F G : Nat → Nat → Bool} (hr : Rows2 w g R h n F) (e : ∀ y, y < h → ∀ x, x < n → F y x = G y x) : Rows2 w g R h n G := by
  obtain ⟨h1, h2, h3, h4⟩ := hr
  exact ⟨h1, fun y hy => (h2 y hy).congr fun x hx => by rw [e y hy x hx], h3, h4⟩

/-- the bits, so far laid: each fourth row says each fourth bit -/
def laidF (F : Nat → Nat → Bool) (k j y x : Nat) : Bool := if (y < k ∨ (y = k ∧ x < j)) ∧ y % 4 = 0 ∧ x % 4 < 2 then decide (x % 4 = 0) else F y x

theorem laid_seen (F : Nat → Nat → Bool) (H W : Nat) (a3 a4 : Int) (h0 : 0 ≤ a3) (h1 : a3 + 32 ≤ a4) (h2 : a4 ≤ 255) : Seen8 W H (gray1 (laidF F H 0) W a3 a4) a3 a4 := by
  refine ⟨h0, h1, h2, fun i _ => gray1_two _ _ _ _ _, fun xo yo hx hy => ⟨⟨(4 - yo % 4) % 4, (4 - xo % 4) % 4, by omega, by omega, ?_⟩, ⟨(4 - yo % 4) % 4, (5 - xo % 4) % 4, by omega, by omega, ?_⟩⟩⟩
  · rw [gray1_at _ _ _ _ _ _ (by omega)]
    have e : laidF F H 0 (yo + (4 - yo % 4) % 4) (xo + (4 - xo % 4) % 4) = true := by
      unfold laidF
      rw [if_pos (by omega)]
      exact decide_eq_true (by omega)
    rw [e]; rfl
  · rw [gray1_at _ _ _ _ _ _ (by omega)]
    have e : laidF F H 0 (yo + (4 - yo % 4) % 4) (xo + (5 - xo % 4) % 4) = false := by
      unfold laidF
      rw [if_pos (by omega)]
      exact decide_eq_false (by omega)
    rw [e]; rfl

theorem laid_none (F : Nat → Nat → Bool) (y x : Nat) : laidF F 0 0 y x = F y x := by
  unfold laidF; rw [if_neg (by omega)]
theorem laid_row (F : Nat → Nat → Bool) (k W y x : Nat) (hx : x < W) : laidF F k W y x = laidF F (k + 1) 0 y x := by
  unfold laidF
  by_cases e : (y < k ∨ (y = k ∧ x < W)) ∧ y % 4 = 0 ∧ x % 4 < 2
  · rw [if_pos e, if_pos (by omega)]
  · rw [if_neg e, if_neg (by omega)]
theorem laid_skip (F : Nat → Nat → Bool) (k j y x : Nat) (h : ¬ (k % 4 = 0 ∧ j % 4 < 2)) : laidF F k j y x = laidF F k (j + 1) y x := by
  unfold laidF
  by_cases e : (y < k ∨ (y = k ∧ x < j)) ∧ y % 4 = 0 ∧ x % 4 < 2
  · rw [if_pos e, if_pos (by omega)]
  · rw [if_neg e, if_neg ?_]
    rintro ⟨h1, h2, h3⟩
    by_cases e2 : y = k ∧ x = j
    · obtain ⟨rfl, rfl⟩ := e2; exact h ⟨h2, h3⟩
    · exact e ⟨by omega, h2, h3⟩
theorem laid_set (F : Nat → Nat → Bool) (k j y x : Nat) (b : Bool) (h : k % 4 = 0 ∧ j % 4 < 2) (hb : b = decide (j % 4 = 0)) : (if y = k ∧ x = j then b else laidF F k j y x) = laidF F k (j + 1) y x := by
  by_cases e2 : y = k ∧ x = j
  · obtain ⟨rfl, rfl⟩ := e2
    rw [if_pos ⟨rfl, rfl⟩, hb]
    unfold laidF
    rw [if_pos (by omega)]
  · rw [if_neg e2]
    unfold laidF
    by_cases e : (y < k ∨ (y = k ∧ x < j)) ∧ y % 4 = 0 ∧ x % 4 < 2
    · rw [if_pos e, if_pos (by omega)]
    · rw [if_neg e, if_neg (by omega)]

set_option maxRecDepth 100000 in
set_option maxHeartbeats 1000000 in
theorem hybrid_big (sa : Option Addr) (len cap : Nat) (a1 a2 a3 a4 : Int) (w : World) (hlen : 2147483647 < len) :
    Calls Try.prog 8 #[.slice sa len cap, .int .u8 a1, .int .u8 a2, .int .u8 a3, .int .u8 a4] w fun e w' => e = .returned (.bool true) ∧ Below w.heap.size w w' := by
  have hl : (2147483647 : Int) < (len : Int) := by omega
  have hX := Lib.hid (Below.refl w.heap.size w)
  go_enter Try.func8, Try.ntmps8
  go_wp2
  go_ret
  exact ⟨rfl, hX.out⟩

set_option maxRecDepth 100000 in
set_option maxHeartbeats 1000000 in
theorem hybrid_near (sa : Option Addr) (len cap : Nat) (a1 a2 a3 a4 : Int) (w : World) (hlen : len ≤ 2147483647) (h3 : 0 ≤ a3 ∧ a3 ≤ 255) (h4 : 0 ≤ a4 ∧ a4 ≤ 255) (hn : a4 < a3 + 32) :
    Calls Try.prog 8 #[.slice sa len cap, .int .u8 a1, .int .u8 a2, .int .u8 a3, .int .u8 a4] w fun e w' => e = .returned (.bool true) ∧ Below w.heap.size w w' := by
  have hl : decide ((2147483647 : Int) < (len : Int)) = false := by simp; omega
  obtain ⟨h30, h31⟩ := h3
  obtain ⟨h40, h41⟩ := h4
  go_enter Try.func8, Try.ntmps8
  go_wp2_with (go_at_call 23; refine (awake_calls _).mono ?_)
  rintro e w1 ⟨rfl, hb⟩
  have HB := Lib.hid hb
  clear hb
  go_wp2
  go_ret
  exact ⟨rfl, HB.out⟩

set_option maxRecDepth 100000 in
set_option maxHeartbeats 4000000 in
theorem hybrid_walk (sa : Option Addr) (len cap : Nat) (zs : List Int) (a1 a2 a3 a4 : Int) (w : World) (hlen : len ≤ 2147483647) (h1 : 0 ≤ a1 ∧ a1 ≤ 255) (h2 : 0 ≤ a2 ∧ a2 ≤ 255) (h3 : 0 ≤ a3 ∧ a3 ≤ 255) (h4 : 0 ≤ a4 ∧ a4 ≤ 255) (hn : a3 + 32 ≤ a4)
    (hz : len = 0 ∨ ∃ ab aoff, sa = some ⟨ab, aoff, none⟩ ∧ ∀ j, j < len → w.cell? ⟨ab, aoff + j, none⟩ = some (.int .u8 (zs.getD j 0))) :
    Calls Try.prog 8 #[.slice sa len cap, .int .u8 a1, .int .u8 a2, .int .u8 a3, .int .u8 a4] w fun e w' => e = .returned (.bool true) ∧ Below w.heap.size w w' := by
  have hl : decide ((2147483647 : Int) < (len : Int)) = false := by simp; omega
  obtain ⟨h10, h11⟩ := h1
  obtain ⟨h20, h21⟩ := h2
  obtain ⟨h30, h31⟩ := h3
  obtain ⟨h40, h41⟩ := h4
  obtain ⟨W, hW⟩ : ∃ W : Nat, 40 + a1 % 32 = (W : Int) := ⟨(40 + a1 % 32).toNat, by omega⟩
  obtain ⟨H, hH⟩ : ∃ H : Nat, 40 + a2 % 32 = (H : Int) := ⟨(40 + a2 % 32).toNat, by omega⟩
  have hW0 : 40 ≤ W := by omega
  have hW1 : W ≤ 71 := by omega
  have hH0 : 40 ≤ H := by omega
  have hH1 : H ≤ 71 := by omega
  have HZ := Lib.hid hz
  clear hz
  go_enter Try.func8, Try.ntmps8
  go_wp2_with (fail)
  refine (bits_calls sa len cap W H zs _ hlen (by omega) (by omega) (by omega) (by omega) HZ.out).mono ?_
  rintro e w1 ⟨v, F, rfl, hgo, hb1⟩
  obtain ⟨g, c, R, rfl, hg, hrows, hR⟩ := hgo
  have HR := Lib.hid hR
  have HRows := Lib.hid hrows
  have HB1 := Lib.hid hb1
  clear hrows hb1 hR
  go_wp2
  go_loopw [40] (fun y wr => ∃ (k : Nat), k ≤ H ∧ y = .int .i64 (k : Int) ∧ Hid (Below w.heap.size w wr) ∧ Hid (Rows2 wr g R H W (laidF F k 0))) (fun y _ => H - (intOf y).toNat)
  case atStart => exact ⟨0, by omega, rfl, HB1, HRows.out.congr fun y _ x _ => (laid_none F y x).symm⟩
  case round =>
    obtain ⟨wo, rfl⟩ : ∃ wo : World, wo = wr := ⟨_, rfl⟩
    obtain ⟨k, hk, rfl, HBo, HRo⟩ := hrel
    by_cases hlt : k < H
    · have X0 := HRo.out.1 k hlt
      have I0 : 0 ≤ (k : Int) := by omega
      have I1 : (k : Int) < (H : Int) := by omega
      go_wp2
      clear X0
      go_loopw [48] (fun x wr => ∃ (j : Nat), j ≤ W ∧ x = .int .i64 (j : Int) ∧ Hid (Below w.heap.size w wr) ∧ Hid (Rows2 wr g R H W (laidF F k j))) (fun x _ => W - (intOf x).toNat)
      case atStart => exact ⟨0, by omega, rfl, HBo, HRo⟩
      case round =>
        obtain ⟨j, hj, rfl, HBj, HRj⟩ := hrel
        by_cases hlt2 : j < W
        · have X0 := HRj.out.1 k hlt
          have hrow := HRj.out.2.1 k hlt
          have X1 := hrow.cell hlt2
          have F1 := hrow.frozen j
          have I2 : 0 ≤ (j : Int) := by omega
          have I3 : (j : Int) < (W : Int) := by omega
          have hRk := HR.out k hlt
          clear hrow
          by_cases hk4 : k % 4 = 0
          · have M0 : (k : Int) % 4 = 0 := by omega
            rcases (show j % 4 = 0 ∨ j % 4 = 1 ∨ 2 ≤ j % 4 by omega) with hj4 | hj4 | hj4
            · have M1 : (j : Int) % 4 = 0 := by omega
              go_wp2
              go_roundw
              case rel => exact ⟨j + 1, by omega, by go_num, HBj.out.setCell (p := ⟨R k, j, none⟩) (by exact hRk) _, (HRj.out.set hlt (x := j) true).congr fun y _ x _ => laid_set F k j y x true ⟨hk4, by omega⟩ (by simp [hj4])⟩
              case measure => simp [intOf]; omega
            · have M1 : (j : Int) % 4 = 1 := by omega
              go_wp2
              go_roundw
              case rel => exact ⟨j + 1, by omega, by go_num, HBj.out.setCell (p := ⟨R k, j, none⟩) (by exact hRk) _, (HRj.out.set hlt (x := j) false).congr fun y _ x _ => laid_set F k j y x false ⟨hk4, by omega⟩ (by simp [hj4])⟩
              case measure => simp [intOf]; omega
            · have M1 : ∃ m : Nat, (j : Int) % 4 = (m : Int) ∧ 2 ≤ m := ⟨j % 4, by omega, hj4⟩
              obtain ⟨m, M1, M2⟩ := M1
              go_wp2
              go_roundw
              case rel => exact ⟨j + 1, by omega, by go_num, HBj, HRj.out.congr fun y _ x _ => laid_skip F k j y x (by omega)⟩
              case measure => simp [intOf]; omega
          · have M0 : ∃ m : Nat, (k : Int) % 4 = (m : Int) ∧ 1 ≤ m := ⟨k % 4, by omega, by omega⟩
            obtain ⟨m, M1, M2⟩ := M0
            go_wp2
            go_roundw
            case rel => exact ⟨j + 1, by omega, by go_num, HBj, HRj.out.congr fun y _ x _ => laid_skip F k j y x (by omega)⟩
            case measure => simp [intOf]; omega
        · obtain rfl : j = W := by omega
          go_wp2
          go_roundw
          case rel => exact ⟨k + 1, by omega, by go_num, HBj, HRj.out.congr fun y _ x hx => laid_row F k _ y x hx⟩
          case measure => simp [intOf]; omega
    · obtain rfl : k = H := by omega
      have hgo : GridO 0 wo (.slice (some ⟨g, 0, none⟩) k c) k W (laidF F k 0) := ⟨g, c, R, rfl, by omega, HRo.out, fun _ _ => by omega⟩
      have HGo := Lib.hid hgo
      clear hgo
      have hsee := laid_seen F k W a3 a4 h30 hn h41
      have HSee := Lib.hid hsee
      clear hsee HRows HB1 HRo HR
      generalize laidF F k 0 = F2 at *
      go_wp2_with (fail)
      refine (draw1_calls _ k W F2 a3 a4 _ HGo.out.grid (by omega) (by omega) (by omega) (by omega)).mono ?_
      rintro e w3 ⟨v, rfl, ⟨gv, rfl, hgv, hbytes⟩, hb3⟩
      have HB3 := Lib.hid hb3
      have HBy := Lib.hid hbytes
      clear hb3 hbytes
      go_wp2_with (fail)
      refine (zxbinaryh_calls gv (W * k) (W * k) W k (gray1 F2 W a3 a4) 0 a3 a4 _ rfl (by omega) (by omega) (by omega) (by omega) (fun i hi => HBy.out.cell hi) HSee.out).mono ?_
      rintro e w4 ⟨v4, rfl, hg4, hb4⟩
      have HG4 : Hid (Grid w4 v4 k W F2) := (hg4.grid).congr fun y hy x hx => gray1_dark F2 W a3 a4 (by omega) y x hx
      have HG5 : Hid (Grid w4 (.slice (some ⟨g, 0, none⟩) k c) k W F2) := (HGo.out.grid.below HB3.out).below hb4
      have HB4 : Hid (Below w.heap.size w w4) := (HBo.out.trans (HB3.out.mono HBo.out.size)).trans (hb4.mono (Nat.le_trans HBo.out.size HB3.out.size))
      clear hg4 hb4
      go_wp2_with (fail)
      refine (alike_calls _ _ W k F2 F2 _ (by omega) (by omega) HG4.out HG5.out (fun _ _ _ _ => rfl)).mono ?_
      rintro e w5 ⟨rfl, m5, rfl⟩
      go_wp2_with (fail)
      refine (awake_calls _).mono ?_
      rintro e w6 ⟨rfl, hb6⟩
      have HB6 : Hid (Below w.heap.size w w6) := HB4.out.trans ((below_drewN (Below.refl _ _) m5).trans (hb6.mono HB4.out.size))
      clear hb6
      go_wp2
      go_ret
      exact ⟨rfl, HB6.out⟩

end Go.Proofs.Ytaadklfendegfaa
