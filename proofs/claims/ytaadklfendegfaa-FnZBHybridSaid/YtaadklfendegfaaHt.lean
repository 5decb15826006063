/- The walks of the hybrid binarizer's cap and thresholdBlock. -/
import Derived.Test.YtaadklfendegfaaGm
namespace Go.Proofs.Ytaadklfendegfaa
open Go.RowKit

/-- a number brought between two others -/
def capOf (v lo hi : Int) : Int := if v < lo then lo else if hi < v then hi else v

set_option maxRecDepth 100000 in
set_option maxHeartbeats 1000000 in
theorem cap_calls (tv : Value) (v lo hi : Int) (w : World) : Calls Try.prog 124 #[tv, .int .i64 v, .int .i64 lo, .int .i64 hi] w fun e w' => e = .returned (.int .i64 (capOf v lo hi)) ∧ w = w' := by
  by_cases h1 : v < lo
  · have e : capOf v lo hi = lo := if_pos h1
    rw [e]
    clear e
    go_enter Try.func124, Try.ntmps124
    go_wp2
    go_ret
    exact ⟨rfl, rfl⟩
  · by_cases h2 : hi < v
    · have e : capOf v lo hi = hi := by unfold capOf; rw [if_neg h1, if_pos h2]
      rw [e]
      clear e
      go_enter Try.func124, Try.ntmps124
      go_wp2
      go_ret
      exact ⟨rfl, rfl⟩
    · have e : capOf v lo hi = v := by unfold capOf; rw [if_neg h1, if_neg h2]
      rw [e]
      clear e
      go_enter Try.func124, Try.ntmps124
      go_wp2
      go_ret
      exact ⟨rfl, rfl⟩

set_option maxRecDepth 100000 in
set_option maxHeartbeats 4000000 in
theorem thresh_calls (tv : Value) (gb cap pm gm W H xo yo : Nat) (t dk lt : Int) (gr : Nat → Int) (B : Nat → Nat → Bool) (w : World) (hbm : BM w pm gm W H B) (hgr : ∀ i, i < W * H → w.cell? ⟨gb, i, none⟩ = some (.int .u8 (gr i))) (hne : gb ≠ gm)
    (hx : xo + 8 ≤ W) (hy : yo + 8 ≤ H) (hW : W ≤ 1000) (hH : H ≤ 1000) (hd0 : 0 ≤ dk) (hl : lt ≤ 255) (hdt : dk ≤ t) (htl : t < lt) (h2 : ∀ i, i < W * H → gr i = dk ∨ gr i = lt) :
    Calls Try.prog 125 #[tv, .slice (some ⟨gb, 0, none⟩) (W * H) cap, .int .i64 (xo : Int), .int .i64 (yo : Int), .int .i64 t, .int .i64 (W : Int), .pointer (some ⟨pm, 0, none⟩)] w fun e w' => e = .returned (.tuple #[]) ∧
      BM w' pm gm W H (fun x y => if xo ≤ x ∧ x < xo + 8 ∧ yo ≤ y ∧ y < yo + 8 ∧ gr (y * W + x) = dk then true else B x y) ∧ Only gm w w' := by
  have HGr := Lib.hid hgr
  have H2 := Lib.hid h2
  have HBM := Lib.hid hbm
  have p3 : yo * W ≤ 1000 * 1000 := Nat.mul_le_mul (by omega) hW
  have A3 : IntKind.i64.wrap ((yo : Int) * (W : Int)) = ((yo * W : Nat) : Int) := by rw [Int.natCast_mul]; exact IntWalk.i64_in _ ⟨by have := Int.mul_nonneg (a := (yo:Int)) (b := (W:Int)) (by omega) (by omega); omega, by have := Int.ofNat_le.2 p3; rw [Int.natCast_mul] at this; omega⟩
  have hrow : ∀ r x, r < 8 → x < 8 → (yo * W + xo + r * W) + x = (yo + r) * W + (xo + x) ∧ (yo + r) * W + (xo + x) < W * H ∧ yo * W + xo + r * W ≤ 1000000 := by
    intro r x hr hx'
    have e1 : (yo + r) * W = yo * W + r * W := Nat.add_mul _ _ _
    have e2 : (yo + r + 1) * W ≤ W * H := by rw [Nat.mul_comm W H]; exact Nat.mul_le_mul_right _ (by omega)
    rw [Nat.add_mul, Nat.one_mul] at e2
    have e3 : W * H ≤ 1000 * 1000 := Nat.mul_le_mul hW hH
    refine ⟨by omega, by omega, by omega⟩
  have HRow := Lib.hid hrow
  clear hrow hgr h2 hbm
  have A4 : ((yo * W : Nat) : Int) + (xo : Int) = ((yo * W + xo : Nat) : Int) := by omega
  have hq0 : yo * W + xo ≤ 1001000 := by omega
  generalize hyw : yo * W = yw at *
  generalize hq : yw + xo = q0 at *
  have HE := Lib.hid (And.intro hyw hq)
  clear hyw hq
  generalize hwh : W * H = wh at *
  have HWH := Lib.hid hwh
  clear hwh
  go_enter Try.func125, Try.ntmps125
  go_wp2
  go_loopw [14, 15] (fun yv ov wr => ∃ r : Nat, r ≤ 8 ∧ yv = .int .i64 (r : Int) ∧ ov = .int .i64 ((q0 + r * W : Nat) : Int) ∧ Only gm w wr ∧ Hid (BM wr pm gm W H (fun x y => if xo ≤ x ∧ x < xo + 8 ∧ yo ≤ y ∧ y < yo + r ∧ gr (y * W + x) = dk then true else B x y))) (fun yv _ _ => 8 - (intOf yv).toNat)
  case atStart => exact ⟨0, by omega, rfl, by congr 1; omega, Only.refl _ _, HBM.out.congr fun x y _ _ => by rw [if_neg (by omega)]⟩
  case round =>
    obtain ⟨wo, rfl⟩ : ∃ wo : World, wo = wr := ⟨_, rfl⟩
    obtain ⟨r, hr, rfl, rfl, ho, HBr⟩ := hrel
    by_cases hlt : r < 8
    · have hr1 := (HRow.out r 0 hlt (by omega)).2.2
      have HO := Lib.hid ho
      clear ho
      have A5 : ((q0 + r * W : Nat) : Int) + (W : Int) = ((q0 + (r + 1) * W : Nat) : Int) := by rw [Nat.add_mul, Nat.one_mul]; omega
      generalize hor1 : q0 + (r + 1) * W = o1 at *
      generalize hor : q0 + r * W = o0 at *
      have HOr := Lib.hid hor
      have HOr1 := Lib.hid hor1
      clear hor hor1
      have I8 : (r : Int) < 8 := by omega
      go_wp2
      go_loopw [16] (fun xv wr => ∃ j : Nat, j ≤ 8 ∧ xv = .int .i64 (j : Int) ∧ Only gm w wr ∧ Hid (BM wr pm gm W H (fun x y => if (xo ≤ x ∧ x < xo + 8 ∧ yo ≤ y ∧ y < yo + r ∧ gr (y * W + x) = dk) ∨ (xo ≤ x ∧ x < xo + j ∧ y = yo + r ∧ gr (y * W + x) = dk) then true else B x y))) (fun xv _ => 8 - (intOf xv).toNat)
      case atStart => exact ⟨0, by omega, rfl, HO.out, HBr.out.congr fun x y _ _ => by
        by_cases h : xo ≤ x ∧ x < xo + 8 ∧ yo ≤ y ∧ y < yo + r ∧ gr (y * W + x) = dk
        · rw [if_pos h, if_pos (.inl h)]
        · rw [if_neg h, if_neg (by rintro (h' | h'); exact h h'; omega)]⟩
      case round =>
        obtain ⟨j, hj, rfl, ho, HBj⟩ := hrel
        by_cases hlt2 : j < 8
        · obtain ⟨g1, g2, g3⟩ := HRow.out r j hlt hlt2
          have hidx : (yo + r) * W + (xo + j) = o0 + j := by rw [← g1, HOr.out]
          have X0 : wr.cell? ⟨gb, o0 + j, none⟩ = some (.int .u8 (gr (o0 + j))) := by
            rw [World.cell?_of_block (w := w) (ho.block gb hne)]; exact HGr.out _ (by rw [← hidx]; exact g2)
          have hc := H2.out (o0 + j) (by rw [← hidx]; exact g2)
          have HPx : Hid (gr ((yo + r) * W + (xo + j)) = gr (o0 + j)) := by rw [hidx]; rfl
          have hlo : o0 + j < wh := by rw [← hidx]; exact g2
          have HO2 := Lib.hid ho
          clear ho g1 g2 g3 hidx
          generalize gr (o0 + j) = px at *
          have A6 := and255 px (by omega) (by omega)
          have A7 : (o0 : Int) + (j : Int) = ((o0 + j : Nat) : Int) := by omega
          have A8 : (xo : Int) + (j : Int) = ((xo + j : Nat) : Int) := by omega
          have A9 : (yo : Int) + (r : Int) = ((yo + r : Nat) : Int) := by omega
          have I0 : ((o0 + j : Nat) : Int) < (wh : Int) := by omega
          have I1 : 0 ≤ ((o0 + j : Nat) : Int) := by omega
          have I2 : ((o0 + j : Nat) : Int).toNat = o0 + j := by omega
          have P0 : 0 ≤ px := by omega
          have P1 : px < 256 := by omega
          have I7 : (j : Int) < 8 := by omega
          have HSet := Lib.hid (set_calls pm gm W H (xo + j) (yo + r) _ wr HBj.out (by omega) (by omega) (by omega) (by omega))
          generalize o0 + j = oj at *
          generalize hxj : xo + j = xj at *
          generalize hyr : yo + r = yr at *
          have HXY := Lib.hid (And.intro hxj hyr)
          clear hxj hyr
          rcases hc with hc | hc
          · have D : decide (px ≤ t) = true := by simp; omega
            have HC := Lib.hid hc
            clear hc
            go_wp2_with (go_at_call 48; refine HSet.out.mono ?_)
            rintro e w6 ⟨rfl, hbm6, ho6⟩
            have HBM6 := Lib.hid hbm6
            have HO6 := Lib.hid (HO2.out.trans ho6)
            clear hbm6 ho6 HSet
            go_wp2
            go_roundw
            case rel =>
              refine ⟨j + 1, by omega, by go_num, HO6.out, HBM6.out.congr fun x y hx' hy' => ?_⟩
              obtain ⟨hxj, hyr⟩ := HXY.out
              by_cases e : x = xj ∧ y = yr
              · obtain ⟨rfl, rfl⟩ := e
                rw [if_pos ⟨rfl, rfl⟩, if_pos (.inr ⟨by omega, by omega, rfl, by rw [HPx.out]; exact HC.out⟩)]
              · rw [if_neg e]
                by_cases h : (xo ≤ x ∧ x < xo + 8 ∧ yo ≤ y ∧ y < yr ∧ gr (y * W + x) = dk) ∨ (xo ≤ x ∧ x < xj ∧ y = yr ∧ gr (y * W + x) = dk)
                · rw [if_pos h, if_pos (by rcases h with h | h; exact .inl h; exact .inr ⟨h.1, by omega, h.2.2⟩)]
                · rw [if_neg h, if_neg (by rintro (h' | h'); exact h (.inl h'); exact h (.inr ⟨h'.1, by have := h'.2.2.1; omega, h'.2.2⟩))]
            case measure => simp [intOf]; omega
          · have D : decide (px ≤ t) = false := by simp; omega
            have HC := Lib.hid hc
            clear hc
            go_wp2
            go_roundw
            case rel =>
              refine ⟨j + 1, by omega, by go_num, HO2.out, HBj.out.congr fun x y hx' hy' => ?_⟩
              obtain ⟨hxj, hyr⟩ := HXY.out
              by_cases h : (xo ≤ x ∧ x < xo + 8 ∧ yo ≤ y ∧ y < yr ∧ gr (y * W + x) = dk) ∨ (xo ≤ x ∧ x < xj ∧ y = yr ∧ gr (y * W + x) = dk)
              · rw [if_pos h, if_pos (by rcases h with h | h; exact .inl h; exact .inr ⟨h.1, by omega, h.2.2⟩)]
              · rw [if_neg h, if_neg ?_]
                rintro (h' | h')
                · exact h (.inl h')
                · by_cases e : x = xj
                  · obtain ⟨_, _, e5, h4⟩ := h'
                    rw [e, e5, HPx.out, HC.out] at h4
                    omega
                  · exact h (.inr ⟨h'.1, by omega, h'.2.2⟩)
            case measure => simp [intOf]; omega
        · obtain rfl : j = 8 := by omega
          have HO2 := Lib.hid ho
          clear ho
          go_wp2
          go_roundw
          case rel =>
            refine ⟨r + 1, by omega, by go_num, by rw [HOr1.out], HO2.out, HBj.out.congr fun x y hx' hy' => ?_⟩
            by_cases h : (xo ≤ x ∧ x < xo + 8 ∧ yo ≤ y ∧ y < yo + r ∧ gr (y * W + x) = dk) ∨ (xo ≤ x ∧ x < xo + 8 ∧ y = yo + r ∧ gr (y * W + x) = dk)
            · rw [if_pos h, if_pos (by rcases h with h | h; exact ⟨h.1, h.2.1, h.2.2.1, by omega, h.2.2.2.2⟩; exact ⟨h.1, h.2.1, by omega, by omega, h.2.2.2⟩)]
            · rw [if_neg h, if_neg (fun h' => h (by
                by_cases e : y = yo + r
                · exact .inr ⟨h'.1, h'.2.1, e, h'.2.2.2.2⟩
                · exact .inl ⟨h'.1, h'.2.1, h'.2.2.1, by omega, h'.2.2.2.2⟩))]
          case measure => simp [intOf]; omega
    · obtain rfl : r = 8 := by omega
      have HO := Lib.hid ho
      clear ho
      go_wp2
      go_end0
      exact ⟨rfl, HBr.out, HO.out⟩

end Go.Proofs.Ytaadklfendegfaa
