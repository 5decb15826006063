/- The walk of GetBlackRow of the binarizer by a histogram. -/
import Derived.Test.YtaadklfendegfaaGm
import Derived.Test.YtaadklfendegfaaBa
namespace Go.Proofs.Ytaadklfendegfaa
open Go.RowKit

theorem tdiv2_lt {t b : Int} (h : t < 2 * b) (hb : 0 < b) : t.tdiv 2 < b := by
  rcases Int.le_total 0 t with h0 | h0
  · rw [Int.tdiv_eq_ediv_of_nonneg h0]; omega
  · obtain ⟨n, rfl⟩ : ∃ n, t = -n := ⟨-t, by omega⟩
    rw [Int.neg_tdiv, Int.tdiv_eq_ediv_of_nonneg (by omega)]; omega

set_option maxRecDepth 100000 in
set_option maxHeartbeats 4000000 in
theorem brow_calls (h bb lb lc p gb W H cap y pa ga : Nat) (gr : Nat → Int) (B0 : Nat → Bool) (w : World) (hg : Gh w h bb (srcV p) (.slice (some ⟨lb, 0, none⟩) 0 lc)) (hs : Src w p gb W H cap gr) (hba : BA w pa ga W B0) (hW0 : 3 ≤ W) (hH0 : 1 ≤ H) (hW : W ≤ 10000) (hH : H ≤ 10000) (hcap : W * H ≤ cap) (hy : y < H)
    (dk lt : Int) (hd0 : 0 ≤ dk) (hdl : dk + 64 ≤ lt) (hl255 : lt ≤ 255) (hgr : ∀ x, x < W → gr (y * W + x) = dk ∨ gr (y * W + x) = lt) (xd xl : Nat) (hxd : xd < W) (hxl : xl < W)
    (hsd : gr (y * W + xd) = dk) (hsl : gr (y * W + xl) = lt)
    (hph : p ≠ h) (hpb : p ≠ bb) (hgh : gb ≠ h) (hgb : gb ≠ bb) (n1 : pa ≠ h) (n2 : pa ≠ bb) (n3 : ga ≠ h) (n4 : ga ≠ bb) (n5 : p ≠ ga) (n6 : gb ≠ ga) :
    Calls Try.prog 113 #[.pointer (some ⟨h, 0, none⟩), .int .i64 (y : Int), .pointer (some ⟨pa, 0, none⟩)] w fun e w' => e = .returned (.tuple #[.pointer (some ⟨pa, 0, none⟩), .nilIface]) ∧ BA w' pa ga W (fun x => decide (1 ≤ x ∧ x + 1 < W ∧ gr (y * W + x) = dk)) ∧ Touch [h, bb, ga] w w' := by
  have C0 : w.cell? ⟨h, 0, none⟩ = some (srcV p) := cell_at_cells hg.1 rfl
  have D0 : w.cell? ⟨p, 0, none⟩ = some (.int .i64 (W : Int)) := cell_at_cells hs.1 rfl
  have m1 := meth_width p
  have m4 := meth_row p
  have HG := Lib.hid hg
  have HS := Lib.hid hs
  have HBA := Lib.hid hba
  have hblt := hba.lt
  have hbne := hba.ne
  have hw0 := hg.lt
  have hhb : h ≠ bb := hg.ne
  have hs0 := hs.lt (by omega) hH0
  have B1 : decide (W < W) = false := by simp
  clear hg hs hba
  go_enter Try.func113, Try.ntmps113
  go_wp2_with (first | (go_at_call 115; refine (lum_calls h p _ C0).mono ?_; rintro e w' ⟨rfl, rfl⟩) | (go_at_call 97; refine (basew_calls ⟨p, 0, none⟩ W _ D0 rfl).mono ?_; rintro e w' ⟨rfl, rfl⟩) | (go_at_call 40; refine (basize_calls pa ga W _ _ HBA.out).mono ?_; rintro e w' ⟨rfl, rfl⟩))
  refine (baclear_calls pa ga W _ _ HBA.out (by omega)).mono ?_
  rintro e w1 ⟨rfl, hba1, ho1⟩
  have hg1 : Gh w1 h bb (srcV p) (.slice (some ⟨lb, 0, none⟩) 0 lc) := HG.out.of_blocks (ho1.block _ (Ne.symm n3)) (ho1.block _ (Ne.symm n4))
  have hs1 : Src w1 p gb W H cap gr := HS.out.only ho1 n5 n6
  have hz1 := ho1.size
  have HBA1 := Lib.hid hba1
  have HO1 := Lib.hid ho1
  have HG1 := Lib.hid hg1
  have HS1 := Lib.hid hs1
  clear hba1 ho1 hg1 hs1 C0 D0 HG HS HBA
  go_wp2_with (go_at_call 117; refine (init_calls h bb lb W lc _ _ HG1.out (by omega) (by omega)).mono ?_)
  rintro e w2 ⟨rfl, nb, hnb, hg2, hz2, hn2, ht2⟩
  have hba2 : BA w2 pa ga W (fun _ => false) := HBA1.out.of_blocks (ht2.block _ HBA1.out.lt.1 (by simp; omega)) (ht2.block _ HBA1.out.lt.2 (by simp; omega))
  have hs2 : Src w2 p gb W H cap gr := HS1.out.of_blocks (ht2.block _ (by omega) (by simp; omega)) (ht2.block _ (by omega) (by simp; omega))
  have ht : Touch [h, bb, ga] w w2 := (Touch.of_only HO1.out (by simp)).trans (ht2.mono (by intro k hk; simp at hk ⊢; rcases hk with rfl | rfl <;> simp))
  have L1 : w2.cell? ⟨h, 1, none⟩ = some (.slice (some ⟨nb, 0, none⟩) W W) := cell_at_cells hg2.1 rfl
  have C2 : w2.cell? ⟨h, 2, none⟩ = some (.slice (some ⟨bb, 0, none⟩) 32 32) := cell_at_cells hg2.1 rfl
  have nd : nb ≠ bb := by omega
  have nh : nb ≠ h := by omega
  have hz3 := ht2.size
  have HG2 := Lib.hid hg2
  have HZ2 := Lib.hid hz2
  have HN2 := Lib.hid hn2
  have HBA2 := Lib.hid hba2
  have HS2 := Lib.hid hs2
  have HT := Lib.hid ht
  clear hg2 hz2 hn2 hba2 hs2 ht ht2 HG1 HS1 HBA1 HO1
  have na := ahead_row p
  have hmf : ∀ (fn : Fn) (first cap : Array Value) (w : World), (Instr.makeFunc fn first cap).run Try.prog w = .ok (.func fn first cap) w := fun _ _ _ _ => rfl
  have HRowC := fun (w' : World) (hs : Src w' p gb W H cap gr) (hr : w'.rowIs nb 5 W (fun _ => .int .u8 0)) => getrow_calls p gb W H cap nb y gr (fun _ => 0) w' hs hr (by omega) (by omega) (by omega) hy hcap
  have HRowCall := Lib.hid HRowC
  clear HRowC
  go_wp2
  go_region_held3 (fun w' => w'.cell? ⟨h, 1, none⟩ = some (.slice (some ⟨nb, 0, none⟩) W W)) (first | go_keep | exact (World.cell?_of_block (w := w2) (ho3.block h (Ne.symm nh))).trans L1) ((go_at_call 96; refine (HRowCall.out w2.drew HS2.out HN2.out).mono ?_; rintro e w3 ⟨rfl, hrow3, wd, ho3, m3, rfl⟩))
  have T3 : Touch [h, bb, ga] w w3 := HT.out.trans_new ((((Touch.refl [nb] w2).drew).drewN m3).trans (Touch.of_only ho3 (by simp))) (by intro x hx; simp at hx; subst hx; exact .inr (by omega))
  have R3 : w3.rowIs bb 3 32 (fun _ => .int .i64 0) := HZ2.out.of_block (ho3.block bb (Ne.symm nd))
  have C23 : w3.cell? ⟨h, 2, none⟩ = some (.slice (some ⟨bb, 0, none⟩) 32 32) := (World.cell?_of_block (w := w2) (ho3.block h (Ne.symm nh))).trans C2
  have BA3 : BA w3 pa ga W (fun _ => false) := HBA2.out.of_blocks (ho3.block _ (by omega)) (ho3.block _ (by omega))
  have HT3 := Lib.hid T3
  have HR3 := Lib.hid R3
  have HL3 := Lib.hid hrow3
  have HBA3 := Lib.hid BA3
  clear T3 R3 hrow3 ho3 BA3 L1 C2 hmf na HRowCall HG2 HZ2 HN2 HBA2 HS2 HT
  go_wp2
  obtain ⟨d, hd⟩ : ∃ d : Nat, (d : Int) = dk / 8 := ⟨(dk / 8).toNat, by omega⟩
  obtain ⟨l, hl⟩ : ∃ l : Nat, (l : Int) = lt / 8 := ⟨(lt / 8).toNat, by omega⟩
  have hd8 : d + 8 ≤ l := by omega
  have hl32 : l < 32 := by omega
  have HDL := Lib.hid (And.intro hd hl)
  have HGr := Lib.hid hgr
  have HSee := Lib.hid (And.intro hsd hsl)
  clear hd hl hgr hsd hsl
  generalize hyw : y * W = yw at *
  have HYW := Lib.hid hyw
  clear hyw
  go_loopw [13] (fun x wr => ∃ (j : Nat) (f : Nat → Int), j ≤ W ∧ x = .int .i64 (j : Int) ∧ Only bb w3 wr ∧ wr.rowIs bb 3 32 (fun i => .int .i64 (f i)) ∧ Hid (Cnt f d l (j : Int) (xd < j) (xl < j))) (fun x _ => W - (intOf x).toNat)
  case atStart => exact ⟨0, fun _ => 0, by omega, rfl, Only.refl _ _, HR3.out, fun _ _ _ => rfl, by simp, by simp, by simp, by simp, by omega, by omega⟩
  case round =>
    obtain ⟨wo, rfl⟩ : ∃ wo : World, wo = wr := ⟨_, rfl⟩
    obtain ⟨j, f1, hj, rfl, ho, hrow, HC⟩ := hrel
    by_cases hlt2 : j < W
    · have X0 : wo.cell? ⟨nb, j, none⟩ = some (.int .u8 (gr (yw + j))) := by
        rw [World.cell?_of_block (w := w3) (ho.block nb nd)]; exact HL3.out.cell hlt2
      have hg2 := HGr.out _ hlt2
      generalize hpix : gr (yw + j) = px at *
      obtain ⟨b, P8, hbb⟩ : ∃ b : Nat, px / 8 = (b : Int) ∧ ((px = dk ∧ b = d) ∨ (px = lt ∧ b = l)) := by
        rcases hg2 with h | h
        · exact ⟨d, by rw [h]; exact HDL.out.1.symm, .inl ⟨h, rfl⟩⟩
        · exact ⟨l, by rw [h]; exact HDL.out.2.symm, .inr ⟨h, rfl⟩⟩
      have A255 := and255 px (by omega) (by omega)
      have hb32 : b < 32 := by omega
      have X1 := hrow.cell hb32
      have F1 := hrow.frozen b
      have HRb := Lib.hid hrow
      have HOb := Lib.hid ho
      obtain ⟨U0, U1⟩ : 0 ≤ f1 b ∧ f1 b ≤ 100000 := by
        obtain ⟨_, c2, c3, c4, c5, _⟩ := HC.out
        rcases hbb with ⟨_, rfl⟩ | ⟨_, rfl⟩ <;> constructor <;> omega
      generalize hfb : f1 b = fb at *
      have HFb := Lib.hid hfb
      have HBB := Lib.hid hbb
      have HPix := Lib.hid hpix
      have I0 : (j : Int) < (W : Int) := by omega
      have I1 : 0 ≤ (j : Int) := by omega
      have I2 : (b : Int) < 32 := by omega
      have I3 : 0 ≤ (b : Int) := by omega
      clear hpix hfb hbb hrow ho hg2
      go_wp2
      go_roundw
      case rel =>
        refine ⟨j + 1, _, by omega, by go_num, HOb.out.setCell rfl _, HRb.out.seti b _, ?_⟩
        have hsee := HSee.out
        rcases HBB.out with ⟨e1, rfl⟩ | ⟨e1, rfl⟩
        · have := HC.out.stepd (P' := xd < j + 1) (Q' := xl < j + 1) (by omega) (by
            intro hq
            by_cases e : xl = j
            · exfalso
              have h1 := hsee.2
              rw [e, HPix.out] at h1
              omega
            · omega)
          rw [HFb.out] at this
          exact this.weaken (by omega) id id
        · have := HC.out.stepl (P' := xd < j + 1) (Q' := xl < j + 1) (by omega) (by
            intro hq
            by_cases e : xd = j
            · exfalso
              have h1 := hsee.1
              rw [e, HPix.out] at h1
              omega
            · omega)
          rw [HFb.out] at this
          exact this.weaken (by omega) id id
      case measure => simp [intOf]; omega
    · obtain rfl : j = W := by omega
      obtain ⟨c1, c2, c3, c4, c5, c6, c7⟩ := HC.out
      have HPk := Lib.hid (peak_calls (.pointer (some ⟨h, 0, none⟩)) bb d l f1 wo hrow hd8 hl32 c1 (c6 (by omega)) (by omega) (c7 (by omega)) (by omega))
      have HBAo : Hid (BA wo pa ga j (fun _ => false)) := HBA3.out.of_blocks (ho.block _ n2) (ho.block _ n4)
      have HLo : Hid (wo.rowIs nb 5 j (fun x => .int .u8 (gr (yw + x)))) := HL3.out.of_block (ho.block nb nd)
      have HTo : Hid (Touch [h, bb, ga] w wo) := HT3.out.trans (Touch.of_only ho (by simp))
      have Y0 := HLo.out.cell (i := 0) (by omega)
      have Y1 := HLo.out.cell (i := 1) (by omega)
      have hcase : ∀ x, x < j → 0 ≤ gr (yw + x) ∧ gr (yw + x) < 256 := fun x hx => by rcases HGr.out x hx with h | h <;> omega
      have G0 := hcase 0 (by omega)
      have G1 := hcase 1 (by omega)
      have HCase := Lib.hid hcase
      generalize hg0 : gr (yw + 0) = g0 at Y0 G0
      generalize hg1 : gr (yw + 1) = g1 at Y1 G1
      have A0 := and255 _ G0.1 G0.2
      have A1 := and255 _ G1.1 G1.2
      obtain ⟨G00, G01⟩ := G0
      obtain ⟨G10, G11⟩ := G1
      have HG01 := Lib.hid (And.intro hg0 hg1)
      clear hg0 hg1
      clear c1 c2 c3 c4 c5 c6 c7 hrow HC ho hcase C23
      have K3 : decide ((j : Int) < 3) = false := by simp; omega
      have K0 : decide (0 < j) = true := by simp; omega
      have K1 : decide (1 < j) = true := by simp; omega
      have K01 : 0 < j := by omega
      have K11 : 1 < j := by omega
      go_wp2_with (go_at_call 118; refine HPk.out.mono ?_; rintro e w' ⟨v, v1, v2, rfl, hw'⟩; subst w')
      clear HPk Y0 Y1 A0 A1
      go_loopw [16, 17, 18] (fun a c x w5 => ∃ k : Nat, 1 ≤ k ∧ k + 1 ≤ j ∧ x = .int .i64 (k : Int) ∧ a = .int .i64 (gr (yw + (k - 1))) ∧ c = .int .i64 (gr (yw + k)) ∧ Only ga wo w5 ∧ Hid (BA w5 pa ga j (fun x => decide (1 ≤ x ∧ x < k ∧ gr (yw + x) = dk)))) (fun _ _ x _ => j - (intOf x).toNat)
      case atStart => exact ⟨1, by omega, by omega, rfl, by rw [HG01.out.1], by rw [HG01.out.2], Only.refl _ _, HBAo.out.congr fun x hx => by simp; omega⟩
      case round =>
        obtain ⟨k, hk1, hk2, rfl, rfl, rfl, ho5, HB5⟩ := hrel
        have HO5 := Lib.hid ho5
        have Z0 : 0 ≤ gr (yw + (k - 1)) ∧ gr (yw + (k - 1)) < 256 := HCase.out _ (by omega)
        have Z1 : 0 ≤ gr (yw + k) ∧ gr (yw + k) < 256 := HCase.out _ (by omega)
        have V0 := HGr.out (k - 1) (by omega)
        have V1 := HGr.out k (by omega)
        by_cases hlt3 : k + 1 < j
        · have hr := HLo.out.cell (i := k + 1) hlt3
          have X0 : wr.cell? ⟨nb, k + 1, none⟩ = some (.int .u8 (gr (yw + (k + 1)))) := by
            rw [World.cell?_of_block (w := wo) (ho5.block nb (by omega))]; exact hr
          have Z2 : 0 ≤ gr (yw + (k + 1)) ∧ gr (yw + (k + 1)) < 256 := HCase.out _ hlt3
          have V2 := HGr.out (k + 1) hlt3
          have HBS := Lib.hid (baset_calls pa ga j k _ wr HB5.out (by omega) (by omega))
          clear ho5 hr
          generalize hl0 : gr (yw + (k - 1)) = a0 at *
          generalize hl1 : gr (yw + k) = c0 at *
          generalize hl2 : gr (yw + (k + 1)) = r0 at *
          have HL := Lib.hid (And.intro hl1 hl2)
          have A2 := and255 r0 Z2.1 Z2.2
          obtain ⟨Z00, Z01⟩ := Z0
          obtain ⟨Z10, Z11⟩ := Z1
          obtain ⟨Z20, Z21⟩ := Z2
          have I0 : (k : Int) + 1 < (j : Int) := by omega
          have I1 : 0 ≤ (k : Int) + 1 := by omega
          have I2 : ((k : Int) + 1).toNat = k + 1 := by omega
          have I3 : (k : Int) < (j : Int) - 1 := by omega
          clear hl0 hl1 hl2
          rcases V1 with hc | hc
          · have D : decide ((c0 * 4 - a0 - r0).tdiv 2 < (v : Int) * 8) = true := by
              have := HDL.out.1
              simp only [decide_eq_true_eq]
              exact tdiv2_lt (by omega) (by omega)
            have HC1 := Lib.hid hc
            clear hc V0 V2
            go_wp2_with (go_at_call 119; refine HBS.out.mono ?_)
            rintro e w6 ⟨rfl, hba6, ho6⟩
            have HBA6 := Lib.hid hba6
            have HO6 := Lib.hid (HO5.out.trans ho6)
            clear hba6 ho6
            go_wp2
            go_roundw
            case rel =>
              have hnA : gr (yw + (k + 1 - 1)) = c0 := by rw [show yw + (k + 1 - 1) = yw + k by omega]; exact HL.out.1
              refine ⟨k + 1, by omega, by omega, by go_num, by rw [hnA], by rw [HL.out.2], HO6.out, HBA6.out.congr fun x hx => ?_⟩
              by_cases e : x = k
              · subst e
                rw [if_pos rfl, HL.out.1, HC1.out]; simp; omega
              · rw [if_neg e]
                exact decide_eq_decide.2 ⟨fun h => ⟨h.1, by omega, h.2.2⟩, fun h => ⟨h.1, by omega, h.2.2⟩⟩
            case measure => simp [intOf]; omega
          · have D : decide ((c0 * 4 - a0 - r0).tdiv 2 < (v : Int) * 8) = false := by
              have := HDL.out.2
              simp only [decide_eq_false_iff_not]
              rw [Int.tdiv_eq_ediv_of_nonneg (by omega)]; omega
            have HC1 := Lib.hid hc
            clear hc V0 V2
            go_wp2
            go_roundw
            case rel =>
              have hnA : gr (yw + (k + 1 - 1)) = c0 := by rw [show yw + (k + 1 - 1) = yw + k by omega]; exact HL.out.1
              refine ⟨k + 1, by omega, by omega, by go_num, by rw [hnA], by rw [HL.out.2], HO5.out, HB5.out.congr fun x hx => ?_⟩
              by_cases e : x = k
              · subst e
                rw [HL.out.1, HC1.out]
                have h2 : ¬ lt = dk := by omega
                simp [h2]
              · exact decide_eq_decide.2 ⟨fun h => ⟨h.1, by omega, h.2.2⟩, fun h => ⟨h.1, by omega, h.2.2⟩⟩
            case measure => simp [intOf]; omega
        · obtain rfl : j = k + 1 := by omega
          have I3 : ¬ (k : Int) < ((k + 1 : Nat) : Int) - 1 := by omega
          clear ho5 V0 V1 Z0 Z1
          go_wp2
          go_ret2
          refine ⟨rfl, HB5.out.congr fun x hx => ?_, HTo.out.trans (Touch.of_only HO5.out (by simp))⟩
          rw [HYW.out]
          by_cases h2 : gr (yw + x) = dk
          · simp [h2]
          · simp [h2]

end Go.Proofs.Ytaadklfendegfaa
