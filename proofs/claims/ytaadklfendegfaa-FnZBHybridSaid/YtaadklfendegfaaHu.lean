/- The walk of the hybrid binarizer's calculateThresholdForBlock. -/
import Derived.Test.YtaadklfendegfaaHt
namespace Go.Proofs.Ytaadklfendegfaa
open Go.RowKit

/-- rows of integers, read -/
def IRows (w : World) (bg : Nat) (Q : Nat → Nat) (sh sw : Nat) (bp : Nat → Nat → Int) : Prop :=
  (∀ y, y < sh → w.cell? ⟨bg, y, none⟩ = some (.slice (some ⟨Q y, 0, none⟩) sw sw)) ∧ ∀ y, y < sh → ∀ x, x < sw → w.cell? ⟨Q y, x, none⟩ = some (.int .i64 (bp y x))

/-- what is set is dark; what is dark is set, as far as it goes -/
def CovB (B D : Nat → Nat → Bool) (W H k j : Nat) : Prop :=
  (∀ x y, x < W → y < H → B x y = true → D x y = true) ∧ ∀ x y, x < W → y < H → (y < 8 * k ∨ (y < 8 * (k + 1) ∧ x < 8 * j)) → D x y = true → B x y = true

/-- an offset of a block: eight times its number, or so that it ends with the picture -/
theorem off_of (k H h8 : Nat) (hH : H = h8 + 8) : ∃ yo : Nat, yo + 8 ≤ H ∧ (∀ y, y < H → 8 * k ≤ y → y < 8 * (k + 1) → yo ≤ y ∧ y < yo + 8) ∧
    ((decide ((h8 : Int) < (k : Int) * 8) = true ∧ yo = h8) ∨ ((k : Int) * 8 = (yo : Int) ∧ decide ((h8 : Int) < (yo : Int)) = false ∧ decide (h8 < yo) = false)) := by
  by_cases h : (h8 : Int) < (k : Int) * 8
  · exact ⟨h8, by omega, by omega, .inl ⟨by simpa using h, rfl⟩⟩
  · exact ⟨8 * k, by omega, by omega, .inr ⟨by omega, by simp; omega, by simp; omega⟩⟩

theorem cap_mid (k s : Nat) (hs : 5 ≤ s) : ∃ t : Nat, 2 ≤ t ∧ t + 3 ≤ s ∧ capOf (k : Int) 2 ((s : Int) - 3) = (t : Int) := by
  unfold capOf
  split
  · exact ⟨2, by omega, by omega, rfl⟩
  · split
    · exact ⟨s - 3, by omega, by omega, by omega⟩
    · exact ⟨k, by omega, by omega, rfl⟩

set_option maxRecDepth 100000 in
set_option maxHeartbeats 8000000 in
theorem blocks_calls (tv : Value) (gb cap pm gm W H sw sh bg bc : Nat) (Q : Nat → Nat) (bp : Nat → Nat → Int) (dk lt : Int) (gr : Nat → Int) (w : World) (hbm : BM w pm gm W H (fun _ _ => false)) (hgr : ∀ i, i < W * H → w.cell? ⟨gb, i, none⟩ = some (.int .u8 (gr i))) (hne : gb ≠ gm)
    (hir : IRows w bg Q sh sw bp) (hbg : bg ≠ gm) (hQ : ∀ y, y < sh → Q y ≠ gm) (hbp : ∀ y x, y < sh → x < sw → dk ≤ bp y x ∧ bp y x < lt)
    (hW0 : 8 ≤ W) (hH0 : 8 ≤ H) (hW : W ≤ 1000) (hH : H ≤ 1000) (hsw : 5 ≤ sw) (hsh : 5 ≤ sh) (hsw1 : sw ≤ 200) (hsh1 : sh ≤ 200) (hsw8 : W ≤ 8 * sw) (hsh8 : H ≤ 8 * sh) (hd0 : 0 ≤ dk) (hl : lt ≤ 255) (hdl : dk < lt) (h2 : ∀ i, i < W * H → gr i = dk ∨ gr i = lt) :
    Calls Try.prog 123 #[tv, .slice (some ⟨gb, 0, none⟩) (W * H) cap, .int .i64 (sw : Int), .int .i64 (sh : Int), .int .i64 (W : Int), .int .i64 (H : Int), .slice (some ⟨bg, 0, none⟩) sh bc, .pointer (some ⟨pm, 0, none⟩)] w fun e w' => e = .returned (.tuple #[]) ∧
      BM w' pm gm W H (fun x y => decide (gr (y * W + x) = dk)) ∧ ∃ wd, Only gm wd w' ∧ ∃ m, wd = w.drewN m := by
  have HGr := Lib.hid hgr
  have H2 := Lib.hid h2
  have HIr := Lib.hid hir
  have HQ := Lib.hid hQ
  have HBp := Lib.hid hbp
  have HBM := Lib.hid hbm
  clear hgr h2 hir hQ hbp hbm
  obtain ⟨h8, hh8⟩ : ∃ h8, H = h8 + 8 := ⟨H - 8, by omega⟩
  obtain ⟨w8, hw8⟩ : ∃ w8, W = w8 + 8 := ⟨W - 8, by omega⟩
  have V1 : (H : Int) - 8 = (h8 : Int) := by omega
  have V2 : (W : Int) - 8 = (w8 : Int) := by omega
  have HH8 := Lib.hid hh8
  have HW8 := Lib.hid hw8
  clear hh8 hw8
  go_enter Try.func123, Try.ntmps123
  go_wp2
  go_loopw [18] (fun yv wr => ∃ k : Nat, k ≤ sh ∧ yv = .int .i64 (k : Int) ∧ (∃ m, Only gm (w.drewN m) wr) ∧ Hid (∃ B, BM wr pm gm W H B ∧ CovB B (fun x y => decide (gr (y * W + x) = dk)) W H k 0)) (fun yv _ => sh - (intOf yv).toNat)
  case atStart => exact ⟨0, by omega, rfl, ⟨0, Only.refl _ _⟩, _, HBM.out, fun x y _ _ h => by simp at h, fun x y _ _ h => by omega⟩
  case round =>
    obtain ⟨wo, rfl⟩ : ∃ wo : World, wo = wr := ⟨_, rfl⟩
    obtain ⟨k, hk, rfl, hon, HB⟩ := hrel
    have HOn := Lib.hid hon
    clear hon
    by_cases hlt : k < sh
    · obtain ⟨yo, hyo, hyc, hyt⟩ := off_of k H h8 HH8.out
      obtain ⟨tp, ht2, ht3, htc⟩ := cap_mid k sh hsh
      have HYc := Lib.hid hyc
      clear hyc
      rcases hyt with ⟨T1, T2⟩ | ⟨T2, T1, T3⟩
      all_goals
        try subst T2
        go_wp2_with (go_at_call 124; refine (cap_calls _ _ _ _ _).mono ?_; rintro e w' ⟨rfl, rfl⟩)
        clear T1
        go_loopw [21] (fun xv wr => ∃ j : Nat, j ≤ sw ∧ xv = .int .i64 (j : Int) ∧ (∃ m, Only gm (w.drewN m) wr) ∧ Hid (∃ B, BM wr pm gm W H B ∧ CovB B (fun x y => decide (gr (y * W + x) = dk)) W H k j)) (fun xv _ => sw - (intOf xv).toNat)
        case atStart => exact ⟨0, by omega, rfl, HOn.out, HB⟩
        case round =>
          obtain ⟨wp, rfl⟩ : ∃ wp : World, wp = wr := ⟨_, rfl⟩
          obtain ⟨j, hj, rfl, hon, HBj⟩ := hrel
          have HOj := Lib.hid hon
          clear hon
          by_cases hlt2 : j < sw
          · obtain ⟨xo, hxo, hxc, hxt⟩ := off_of j W w8 HW8.out
            obtain ⟨lf, hl2, hl3, hlc⟩ := cap_mid j sw hsw
            have HXc := Lib.hid hxc
            clear hxc
            rcases hxt with ⟨U1, U2⟩ | ⟨U2, U1, U3⟩
            all_goals
              try subst U2
              go_wp2_with (go_at_call 124; refine (cap_calls _ _ _ _ _).mono ?_; rintro e w' ⟨rfl, rfl⟩)
              clear U1
              obtain ⟨l0, l1, l3, l4, hls⟩ : ∃ l0 l1 l3 l4 : Nat, l0 + 2 = lf ∧ l1 + 1 = lf ∧ lf + 1 = l3 ∧ lf + 2 = l4 := ⟨lf - 2, lf - 1, lf + 1, lf + 2, by omega, by omega, rfl, rfl⟩
              have L0 : IntKind.i64.wrap ((lf : Int) - 2) = (l0 : Int) := (IntWalk.i64_in _ ⟨by omega, by omega⟩).trans (by omega)
              have L1 : IntKind.i64.wrap ((lf : Int) - 1) = (l1 : Int) := (IntWalk.i64_in _ ⟨by omega, by omega⟩).trans (by omega)
              have L3 : IntKind.i64.wrap ((lf : Int) + 1) = (l3 : Int) := (IntWalk.i64_in _ ⟨by omega, by omega⟩).trans (by omega)
              have L4 : IntKind.i64.wrap ((lf : Int) + 2) = (l4 : Int) := (IntWalk.i64_in _ ⟨by omega, by omega⟩).trans (by omega)
              have HLs := Lib.hid (And.intro L0 (And.intro L1 (And.intro L3 L4)))
              have K0 : (l0 : Int) < (sw : Int) := by omega
              have K1 : (l1 : Int) < (sw : Int) := by omega
              have K3 : (l3 : Int) < (sw : Int) := by omega
              have K4 : (l4 : Int) < (sw : Int) := by omega
              have K2 : (lf : Int) < (sw : Int) := by omega
              clear L0 L1 L3 L4 hls hlc htc
              go_loopw [24, 25] (fun sv zv wr => ∃ (q : Nat) (s : Int), q ≤ 5 ∧ zv = .int .i64 ((q : Int) - 2) ∧ sv = .int .i64 s ∧ 5 * ((q : Int) * dk) ≤ s ∧ s ≤ 5 * ((q : Int) * (lt - 1)) ∧ ∃ m, wr = wp.drewN m) (fun _ zv _ => (3 - intOf zv).toNat)
              case atStart => exact ⟨0, 0, by omega, rfl, rfl, by simp, by simp, 0, rfl⟩
              case round =>
                obtain ⟨q, s, hq, rfl, rfl, hs1, hs2, m, hm⟩ := hrel
                by_cases hlt3 : q < 5
                · obtain ⟨tz, htz⟩ : ∃ tz, tz + 2 = tp + q := ⟨tp + q - 2, by omega⟩
                  have Z1 : (tp : Int) + ((q : Int) - 2) = (tz : Int) := by omega
                  have Z2 : (tz : Int) < (sh : Int) := by omega
                  have Z3 : 0 ≤ (tz : Int) := by omega
                  have Z4 : (q : Int) - 2 ≤ 2 := by omega
                  obtain ⟨m0, ho0⟩ := HOj.out
                  have rd : ∀ (a : Addr) (v : Value), a.block ≠ gm → w.cell? a = some v → wr.cell? a = some v := fun a v ha hv => by
                    rw [hm]; exact (World.cell?_of_block (w := w.drewN m0) (ho0.block _ ha)).trans hv
                  have Y0 := rd _ _ (by exact hbg) (HIr.out.1 tz (by omega))
                  obtain ⟨b0, b1, b2, b3, b4, hb⟩ : ∃ b0 b1 b2 b3 b4 : Int, b0 = bp tz l0 ∧ b1 = bp tz l1 ∧ b2 = bp tz lf ∧ b3 = bp tz l3 ∧ b4 = bp tz l4 := ⟨_, _, _, _, _, rfl, rfl, rfl, rfl, rfl⟩
                  have X0 : wr.cell? ⟨Q tz, l0, none⟩ = some (.int .i64 b0) := by rw [hb.1]; exact rd _ _ (HQ.out tz (by omega)) (HIr.out.2 tz (by omega) l0 (by omega))
                  have X1 : wr.cell? ⟨Q tz, l1, none⟩ = some (.int .i64 b1) := by rw [hb.2.1]; exact rd _ _ (HQ.out tz (by omega)) (HIr.out.2 tz (by omega) l1 (by omega))
                  have X2 : wr.cell? ⟨Q tz, lf, none⟩ = some (.int .i64 b2) := by rw [hb.2.2.1]; exact rd _ _ (HQ.out tz (by omega)) (HIr.out.2 tz (by omega) lf (by omega))
                  have X3 : wr.cell? ⟨Q tz, l3, none⟩ = some (.int .i64 b3) := by rw [hb.2.2.2.1]; exact rd _ _ (HQ.out tz (by omega)) (HIr.out.2 tz (by omega) l3 (by omega))
                  have X4 : wr.cell? ⟨Q tz, l4, none⟩ = some (.int .i64 b4) := by rw [hb.2.2.2.2]; exact rd _ _ (HQ.out tz (by omega)) (HIr.out.2 tz (by omega) l4 (by omega))
                  have B0 : dk ≤ b0 ∧ b0 < lt := by rw [hb.1]; exact HBp.out tz l0 (by omega) (by omega)
                  have B1 : dk ≤ b1 ∧ b1 < lt := by rw [hb.2.1]; exact HBp.out tz l1 (by omega) (by omega)
                  have B2 : dk ≤ b2 ∧ b2 < lt := by rw [hb.2.2.1]; exact HBp.out tz lf (by omega) (by omega)
                  have B3 : dk ≤ b3 ∧ b3 < lt := by rw [hb.2.2.2.1]; exact HBp.out tz l3 (by omega) (by omega)
                  have B4 : dk ≤ b4 ∧ b4 < lt := by rw [hb.2.2.2.2]; exact HBp.out tz l4 (by omega) (by omega)
                  clear hb rd ho0
                  have q1 : 0 ≤ (q : Int) * dk := Int.mul_nonneg (by omega) hd0
                  have q2 : (q : Int) * (lt - 1) ≤ 5 * 254 := Int.mul_le_mul (by omega) (by omega) (by omega) (by omega)
                  have C1 : IntKind.i64.wrap (b0 + b1) = b0 + b1 := IntWalk.i64_in _ ⟨by omega, by omega⟩
                  have C2 : IntKind.i64.wrap (b0 + b1 + b2) = b0 + b1 + b2 := IntWalk.i64_in _ ⟨by omega, by omega⟩
                  have C3 : IntKind.i64.wrap (b0 + b1 + b2 + b3) = b0 + b1 + b2 + b3 := IntWalk.i64_in _ ⟨by omega, by omega⟩
                  have C4 : IntKind.i64.wrap (b0 + b1 + b2 + b3 + b4) = b0 + b1 + b2 + b3 + b4 := IntWalk.i64_in _ ⟨by omega, by omega⟩
                  have C5 : IntKind.i64.wrap (s + (b0 + b1 + b2 + b3 + b4)) = s + (b0 + b1 + b2 + b3 + b4) := IntWalk.i64_in _ ⟨by omega, by omega⟩
                  have n1 : ((q + 1 : Nat) : Int) * dk = (q : Int) * dk + dk := by rw [Int.natCast_add, Int.add_mul]; simp
                  have n2 : ((q + 1 : Nat) : Int) * (lt - 1) = (q : Int) * (lt - 1) + (lt - 1) := by rw [Int.natCast_add, Int.add_mul]; simp
                  have HNum : Hid (5 * (((q + 1 : Nat) : Int) * dk) ≤ s + (b0 + b1 + b2 + b3 + b4) ∧ s + (b0 + b1 + b2 + b3 + b4) ≤ 5 * (((q + 1 : Nat) : Int) * (lt - 1))) := ⟨by omega, by omega⟩
                  have HM := Lib.hid hm
                  clear n1 n2 q1 q2 hs1 hs2 B0 B1 B2 B3 B4 hm
                  go_wp2
                  obtain ⟨L0, L1, L3, L4⟩ := HLs.out
                  go_quiet (fail)
                  clear L0 L1 L3 L4 X0 X1 X2 X3 X4 Y0
                  go_wp2
                  go_roundw
                  case rel => exact ⟨q + 1, _, by omega, by congr 1; omega, rfl, HNum.out.1, HNum.out.2, m + nq, by rw [HM.out, World.drewN_drewN]⟩
                  case measure => simp [intOf]; omega
                · have hq5 : q = 5 := by omega
                  have Z5 : decide ((q : Int) - 2 ≤ 2) = false := by simp; omega
                  have hs3 : 25 * dk ≤ s := by rw [hq5] at hs1; simp at hs1; omega
                  have hs4 : s ≤ 25 * (lt - 1) := by rw [hq5] at hs2; simp at hs2; omega
                  obtain ⟨B, hbmB, hcovB⟩ := HBj.out
                  obtain ⟨m0, ho0⟩ := HOj.out
                  have hbr : BM wr pm gm W H B := by rw [hm]; exact hbmB
                  have hgr : ∀ i, i < W * H → wr.cell? ⟨gb, i, none⟩ = some (.int .u8 (gr i)) := fun i hi => by
                    rw [hm]; exact (World.cell?_of_block (w := w.drewN m0) (ho0.block gb hne)).trans (HGr.out i hi)
                  have HCall := Lib.hid (thresh_calls tv gb cap pm gm W H xo yo (s / 25) dk lt gr B wr hbr hgr hne hxo hyo hW hH hd0 hl (by omega) (by omega) H2.out)
                  have HCov := Lib.hid hcovB
                  have HOr : Hid (Only gm (w.drewN (m0 + m)) wr) := by
                    rw [hm, ← World.drewN_drewN]
                    exact ⟨ho0.os, ho0.tape, ho0.output, ho0.size, ho0.block⟩
                  have hs0 : 0 ≤ s := by omega
                  have hs5 : s ≤ 25 * 254 := by omega
                  clear hs1 hs2 hs3 hs4 hbr hgr hbmB hcovB ho0 hm hq5
                  go_wp2_with (go_at_call 125; refine HCall.out.mono ?_)
                  rintro e w6 ⟨rfl, hbm6, ho6⟩
                  have HBM6 := Lib.hid hbm6
                  have HO6 := Lib.hid (HOr.out.trans ho6)
                  clear hbm6 ho6
                  go_wp2
                  go_roundw
                  case rel =>
                    refine ⟨j + 1, by omega, by go_num, ⟨_, HO6.out⟩, _, HBM6.out, fun x y hx hy h => ?_, fun x y hx hy hc hd => ?_⟩
                    · by_cases e : xo ≤ x ∧ x < xo + 8 ∧ yo ≤ y ∧ y < yo + 8 ∧ gr (y * W + x) = dk
                      · exact decide_eq_true e.2.2.2.2
                      · replace h : (if xo ≤ x ∧ x < xo + 8 ∧ yo ≤ y ∧ y < yo + 8 ∧ gr (y * W + x) = dk then true else B x y) = true := h
                        rw [if_neg e] at h
                        exact HCov.out.1 x y hx hy h
                    · by_cases e : xo ≤ x ∧ x < xo + 8 ∧ yo ≤ y ∧ y < yo + 8 ∧ gr (y * W + x) = dk
                      · show (if xo ≤ x ∧ x < xo + 8 ∧ yo ≤ y ∧ y < yo + 8 ∧ gr (y * W + x) = dk then true else B x y) = true
                        rw [if_pos e]
                      · show (if xo ≤ x ∧ x < xo + 8 ∧ yo ≤ y ∧ y < yo + 8 ∧ gr (y * W + x) = dk then true else B x y) = true
                        rw [if_neg e]
                        refine HCov.out.2 x y hx hy ?_ hd
                        rcases hc with hc | ⟨hc1, hc2⟩
                        · exact .inl hc
                        · by_cases h8 : y < 8 * k
                          · exact .inl h8
                          · by_cases h9 : x < 8 * j
                            · exact .inr ⟨hc1, h9⟩
                            · exfalso
                              have h10 := HYc.out y hy (by omega) hc1
                              have h11 := HXc.out x hx (by omega) hc2
                              exact e ⟨h11.1, h11.2, h10.1, h10.2, of_decide_eq_true hd⟩
                  case measure => simp [intOf]; omega
          · obtain ⟨B, hbmB, hcovB⟩ := HBj.out
            have HBM7 := Lib.hid hbmB
            have HCov := Lib.hid hcovB
            clear hbmB hcovB
            go_wp2
            go_roundw
            case rel => exact ⟨k + 1, by omega, by go_num, HOj.out, B, HBM7.out, HCov.out.1, fun x y hx hy hc hd => HCov.out.2 x y hx hy (by
              rcases hc with hc | hc
              · by_cases h8 : y < 8 * k
                · exact .inl h8
                · exact .inr ⟨hc, by omega⟩
              · omega) hd⟩
            case measure => simp [intOf]; omega
    · obtain ⟨B, hbmB, hcovB⟩ := HB.out
      have HBM7 : Hid (BM wo pm gm W H (fun x y => decide (gr (y * W + x) = dk))) := hbmB.congr fun x y hx hy => by
        cases hB : B x y
        · cases hD : decide (gr (y * W + x) = dk)
          · rfl
          · have := hcovB.2 x y hx hy (.inl (by omega)) hD
            rw [hB] at this; cases this
        · exact (hcovB.1 x y hx hy hB).symm
      clear hbmB hcovB
      go_wp2
      go_end0
      obtain ⟨m, hm⟩ := HOn.out
      exact ⟨rfl, HBM7.out, _, hm, m, rfl⟩

end Go.Proofs.Ytaadklfendegfaa
