/- The walk of GetBlackMatrix of the binarizer by a histogram. -/
import Derived.Test.YtaadklfendegfaaIa
import Derived.Test.YtaadklfendegfaaHb
import Derived.Test.YtaadklfendegfaaBm
import Derived.Deep.RegionWith
import Derived.Deep.RegionHeld3
namespace Go.Proofs.Ytaadklfendegfaa
open Go.RowKit

theorem meth_width (p : Nat) (w : World) : (method 296 112 (.agg #[.iface 131 (.pointer (some ⟨p, 0, none⟩))]) "GetWidth").run Try.prog w = .ok (97, .pointer (some ⟨p, 0, none⟩)) w := by kernel_rfl
theorem meth_height (p : Nat) (w : World) : (method 296 112 (.agg #[.iface 131 (.pointer (some ⟨p, 0, none⟩))]) "GetHeight").run Try.prog w = .ok (94, .pointer (some ⟨p, 0, none⟩)) w := by kernel_rfl
theorem meth_matrix (p : Nat) (w : World) : (method 296 112 (.agg #[.iface 131 (.pointer (some ⟨p, 0, none⟩))]) "GetMatrix").run Try.prog w = .ok (95, .pointer (some ⟨p, 0, none⟩)) w := by kernel_rfl
theorem meth_row (p : Nat) (w : World) : (method 296 112 (.agg #[.iface 131 (.pointer (some ⟨p, 0, none⟩))]) "GetRow").run Try.prog w = .ok (96, .pointer (some ⟨p, 0, none⟩)) w := by kernel_rfl

theorem ahead_row (p : Nat) (w : World) : (nilAhead 296 112 (.agg #[.iface 131 (.pointer (some ⟨p, 0, none⟩))]) "GetRow").run Try.prog w = .ok (some false) w := by kernel_rfl

theorem and255 (x : Int) (h0 : 0 ≤ x) (h1 : x < 256) : bits .and .u8 x 255 = x := by
  obtain ⟨a, rfl⟩ : ∃ a : Nat, x = a := ⟨x.toNat, by omega⟩
  have h := (bits_nat .u8 8 (by decide) (fun n h0 h1 => by rw [IntKind.wrap_u8]; omega) a 255 (by omega) (by decide)).1
  rw [show ((255 : Nat) : Int) = 255 from rfl] at h
  rw [h]
  have e : a &&& 255 = a % 2 ^ 8 := Nat.and_two_pow_sub_one_eq_mod a 8
  rw [e]; omega

/-- how often two grays were counted: none else; so many at most; if seen, at least once -/
def Cnt (f : Nat → Int) (d l : Nat) (m : Int) (P Q : Prop) : Prop :=
  (∀ i, i ≠ d → i ≠ l → f i = 0) ∧ 0 ≤ f d ∧ 0 ≤ f l ∧ f d ≤ m ∧ f l ≤ m ∧ (P → 1 ≤ f d) ∧ (Q → 1 ≤ f l)

theorem Cnt.weaken {f : Nat → Int} {d l : Nat} {m m' : Int} {P Q P' Q' : Prop} (h : Cnt f d l m P Q) (hm : m ≤ m') (hP : P' → P) (hQ : Q' → Q) : Cnt f d l m' P' Q' := by
  obtain ⟨h1, h2, h3, h4, h5, h6, h7⟩ := h
  exact ⟨h1, h2, h3, by omega, by omega, fun h => h6 (hP h), fun h => h7 (hQ h)⟩
theorem Cnt.stepd {f : Nat → Int} {d l : Nat} {m : Int} {P Q P' Q' : Prop} (h : Cnt f d l m P Q) (hne : d ≠ l) (hQ : Q' → Q) : Cnt (fun i => if i = d then f d + 1 else f i) d l (m + 1) P' Q' := by
  obtain ⟨h1, h2, h3, h4, h5, h6, h7⟩ := h
  refine ⟨fun i a b => ?_, ?_, ?_, ?_, ?_, fun _ => ?_, fun hq => ?_⟩
  · simp only [a, if_false]; exact h1 i a b
  · simp only [if_true]; omega
  · simp only [Ne.symm hne, if_false]; omega
  · simp only [if_true]; omega
  · simp only [Ne.symm hne, if_false]; omega
  · simp only [if_true]; omega
  · simp only [Ne.symm hne, if_false]; exact h7 (hQ hq)
theorem Cnt.stepl {f : Nat → Int} {d l : Nat} {m : Int} {P Q P' Q' : Prop} (h : Cnt f d l m P Q) (hne : d ≠ l) (hP : P' → P) : Cnt (fun i => if i = l then f l + 1 else f i) d l (m + 1) P' Q' := by
  obtain ⟨h1, h2, h3, h4, h5, h6, h7⟩ := h
  refine ⟨fun i a b => ?_, ?_, ?_, ?_, ?_, fun hp => ?_, fun _ => ?_⟩
  · simp only [b, if_false]; exact h1 i a b
  · simp only [hne, if_false]; omega
  · simp only [if_true]; omega
  · simp only [hne, if_false]; omega
  · simp only [if_true]; omega
  · simp only [hne, if_false]; exact h6 (hP hp)
  · simp only [if_true]; omega

set_option maxRecDepth 100000 in
theorem lum_calls (h : Nat) (p : Nat) (w : World) (hc : w.cell? ⟨h, 0, none⟩ = some (srcV p)) : Calls Try.prog 115 #[.pointer (some ⟨h, 0, none⟩)] w fun e w' => e = .returned (srcV p) ∧ w = w' := by
  go_enter Try.func115, Try.ntmps115
  go_wp2
  go_ret
  exact ⟨rfl, rfl⟩

set_option maxRecDepth 100000 in
set_option maxHeartbeats 4000000 in
theorem black_calls (h bb lb lc p gb W H cap : Nat) (gr : Nat → Int) (w : World) (hg : Gh w h bb (srcV p) (.slice (some ⟨lb, 0, none⟩) 0 lc)) (hs : Src w p gb W H cap gr) (hW0 : 1 ≤ W) (hH0 : 1 ≤ H) (hW : W ≤ 10000) (hH : H ≤ 10000) (hcap : W * H ≤ cap)
    (dk lt : Int) (hd0 : 0 ≤ dk) (hdl : dk + 64 ≤ lt) (hl255 : lt ≤ 255) (hgr : ∀ i, i < W * H → gr i = dk ∨ gr i = lt) (kd xd kl xl : Nat) (hkd : 1 ≤ kd ∧ kd < 5) (hkl : 1 ≤ kl ∧ kl < 5) (hxd : W / 5 ≤ xd ∧ xd < W * 4 / 5) (hxl : W / 5 ≤ xl ∧ xl < W * 4 / 5)
    (hsd : gr (H * kd / 5 * W + xd) = dk) (hsl : gr (H * kl / 5 * W + xl) = lt)
    (hph : p ≠ h) (hpb : p ≠ bb) (hgh : gb ≠ h) (hgb : gb ≠ bb) :
    Calls Try.prog 112 #[.pointer (some ⟨h, 0, none⟩)] w fun e w' => ∃ pm gm, e = .returned (.tuple #[.pointer (some ⟨pm, 0, none⟩), .nilIface]) ∧ BM w' pm gm W H (fun x y => decide (gr (y * W + x) = dk)) ∧ w.heap.size ≤ pm ∧ w.heap.size ≤ gm ∧ Touch [h, bb] w w' := by
  have C0 : w.cell? ⟨h, 0, none⟩ = some (srcV p) := cell_at_cells hg.1 rfl
  have D0 : w.cell? ⟨p, 0, none⟩ = some (.int .i64 (W : Int)) := cell_at_cells hs.1 rfl
  have D1 : w.cell? ⟨p, 0 + 1, none⟩ = some (.int .i64 (H : Int)) := cell_at_cells hs.1 rfl
  have m1 := meth_width p
  have m2 := meth_height p
  have m3 := meth_matrix p
  have m4 := meth_row p
  have HG := Lib.hid hg
  have HS := Lib.hid hs
  have HD := Lib.hid D1
  clear hg hs D1
  go_enter Try.func112, Try.ntmps112
  go_wp2_with (first | (go_at_call 115; refine (lum_calls h p _ C0).mono ?_; rintro e w' ⟨rfl, rfl⟩) | (go_at_call 97; refine (basew_calls ⟨p, 0, none⟩ W _ D0 rfl).mono ?_; rintro e w' ⟨rfl, rfl⟩) | (go_at_call 94; refine (baseh_calls p 0 H _ HD.out).mono ?_; rintro e w' ⟨rfl, rfl⟩))
  have hw0 := HG.out.lt
  have hs0 := HS.out.lt hW0 hH0
  refine (newbm_calls W H _ hW0 (by omega) hH0 (by omega)).mono ?_
  rintro e w1 ⟨pm, gm, rfl, hbm, hpm, hgm, hb1⟩
  have hg1 := HG.out.below hb1
  have hs1 := HS.out.below hW0 hH0 hb1
  have HBM := Lib.hid hbm
  have HB1 := Lib.hid hb1
  have HG1 := Lib.hid hg1
  have HS1 := Lib.hid hs1
  clear hbm hb1 hg1 hs1 C0 D0 HG HS HD
  go_wp2_with (go_at_call 117; refine (init_calls h bb lb W lc _ _ HG1.out hW0 (by omega)).mono ?_)
  rintro e w2 ⟨rfl, nb, hnb, hg2, hz2, hn2, ht2⟩
  have hz1 := HB1.out.size
  have hbm2 : BM w2 pm gm W H (fun _ _ => false) := HBM.out.of_blocks (ht2.block _ HBM.out.lt.1 (by simp; omega)) (ht2.block _ HBM.out.lt.2 (by simp; omega))
  have hs2 : Src w2 p gb W H cap gr := HS1.out.of_blocks (ht2.block _ (by omega) (by simp; omega)) (ht2.block _ (by omega) (by simp; omega))
  have ht : Touch [h, bb] w w2 := (Touch.of_below HB1.out).trans ht2
  have hbl := HBM.out.lt
  have C2 : w2.cell? ⟨h, 2, none⟩ = some (.slice (some ⟨bb, 0, none⟩) 32 32) := cell_at_cells hg2.1 rfl
  have HG2 := Lib.hid hg2
  have HZ2 := Lib.hid hz2
  have HN2 := Lib.hid hn2
  have HBM2 := Lib.hid hbm2
  have HS2 := Lib.hid hs2
  have HT := Lib.hid ht
  have hz3 := ht2.size
  clear hg2 hz2 hn2 hbm2 hs2 ht ht2 HG1 HS1 HBM HB1
  go_wp2
  obtain ⟨d, hd⟩ : ∃ d : Nat, (d : Int) = dk / 8 := ⟨(dk / 8).toNat, by omega⟩
  obtain ⟨l, hl⟩ : ∃ l : Nat, (l : Int) = lt / 8 := ⟨(lt / 8).toNat, by omega⟩
  have hd8 : d + 8 ≤ l := by omega
  have hl32 : l < 32 := by omega
  have HDL := Lib.hid (And.intro hd hl)
  have HGr := Lib.hid hgr
  have HSee := Lib.hid (And.intro hsd hsl)
  clear hd hl hgr hsd hsl
  have nd : nb ≠ bb := by omega
  have nh : nb ≠ h := by omega
  have hhb : h ≠ bb := HG2.out.ne
  go_loopw [10] (fun y wr => ∃ (k : Nat) (f f0 : Nat → Int), 1 ≤ k ∧ k ≤ 5 ∧ y = .int .i64 (k : Int) ∧ wr.rowIs bb 3 32 (fun i => .int .i64 (f i)) ∧ wr.rowIs nb 5 W (fun i => .int .u8 (f0 i)) ∧ Touch [bb, nb] w2 wr ∧ Cnt f d l ((k : Int) * 10000) (kd < k) (kl < k)) (fun y _ => 5 - (intOf y).toNat)
  case atStart =>
    have hlt2 : bb < w2.heap.size := HG2.out.lt.2
    exact ⟨1, fun _ => 0, fun _ => 0, by omega, by omega, rfl, HZ2.out, HN2.out, Touch.refl _ _, fun _ _ _ => rfl, by simp, by simp, by simp, by simp, by omega, by omega⟩
  case round =>
    obtain ⟨wo, rfl⟩ : ∃ wo : World, wo = wr := ⟨_, rfl⟩
    obtain ⟨k, f, f0, hk1, hk5, rfl, hrow, hlum, hto, hcnt⟩ := hrel
    have HRow := Lib.hid hrow
    have HLum := Lib.hid hlum
    have HTo := Lib.hid hto
    have HCnt := Lib.hid hcnt
    clear hrow hlum hto hcnt
    by_cases hlt : k < 5
    · have E1 : IntKind.i64.wrap ((H : Int) * (k : Int)) = ((H * k : Nat) : Int) := by
        rw [Int.natCast_mul]
        have h1 : H * k ≤ 10000 * 5 := Nat.mul_le_mul hH (by omega)
        have h2 := Int.ofNat_le.2 h1
        rw [Int.natCast_mul] at h2
        exact IntWalk.i64_in _ ⟨by have := Int.mul_nonneg (a := (H:Int)) (b := (k:Int)) (by omega) (by omega); omega, by omega⟩
      have hHk : H * k / 5 < H := by
        have : H * k < 5 * H := by rw [Nat.mul_comm 5 H]; exact Nat.mul_lt_mul_of_pos_left (by omega) (by omega)
        omega
      generalize hHk5 : H * k = hk at *
      have E2 : (hk : Int) / 5 = ((hk / 5 : Nat) : Int) := by omega
      generalize hrw : hk / 5 = rw5 at *
      have L1 : wo.cell? ⟨h, 1, none⟩ = some (.slice (some ⟨nb, 0, none⟩) W W) := by
        rw [World.cell?_of_block (w := w2) (HTo.out.block _ HG2.out.lt.1 (by simp; omega))]
        exact cell_at_cells HG2.out.1 rfl
      have HSo : Hid (Src wo p gb W H cap gr) := HS2.out.of_blocks (HTo.out.block _ (HS2.out.lt hW0 hH0).1 (by simp; omega)) (HTo.out.block _ (HS2.out.lt hW0 hH0).2 (by simp; omega))
      have HRw := Lib.hid (And.intro hHk5 hrw)
      clear hHk5 hrw
      go_wp2
      have na := ahead_row p
      have hmf : ∀ (fn : Fn) (first cap : Array Value) (w : World), (Instr.makeFunc fn first cap).run Try.prog w = .ok (.func fn first cap) w := fun _ _ _ _ => rfl
      have HRowC := fun (w' : World) (hs : Src w' p gb W H cap gr) (hr : w'.rowIs nb 5 W (fun i => .int .u8 (f0 i))) => getrow_calls p gb W H cap nb rw5 gr f0 w' hs hr hW0 (by omega) (by omega) hHk hcap
      have HRowCall := Lib.hid HRowC
      clear HRowC
      go_region_held3 (fun w' => w'.cell? ⟨h, 1, none⟩ = some (.slice (some ⟨nb, 0, none⟩) W W)) (first | go_keep | exact (World.cell?_of_block (w := wo) (ho3.block h (Ne.symm nh))).trans L1) ((go_at_call 96; refine (HRowCall.out wo.drew HSo.out HLum.out).mono ?_; rintro e w3 ⟨rfl, hrow3, wd, ho3, m3, rfl⟩))
      have T3 : Touch [bb, nb] w2 w3 := (HTo.out.trans ((((Touch.refl _ wo).drew).drewN m3))).trans (Touch.of_only ho3 (by simp))
      have R3 : w3.rowIs bb 3 32 (fun i => .int .i64 (f i)) := HRow.out.of_block (ho3.block bb (Ne.symm nd))
      have HT3 := Lib.hid T3
      have HR3 := Lib.hid R3
      have HL3 := Lib.hid hrow3
      clear T3 R3 hrow3 ho3 L1 hmf HRowCall E1 E2 na
      have E3 : (W : Int) * 4 / 5 = ((W * 4 / 5 : Nat) : Int) := by omega
      have E4 : (W : Int) / 5 = ((W / 5 : Nat) : Int) := by omega
      have hrt : W * 4 / 5 ≤ W := by omega
      have hlf : W / 5 ≤ W := by omega
      generalize W * 4 / 5 = rt at *
      generalize W / 5 = lf at *
      go_wp2
      go_loopw [15] (fun x wr => ∃ (j : Nat) (f : Nat → Int), lf ≤ j ∧ j ≤ W ∧ x = .int .i64 (j : Int) ∧ Only bb w3 wr ∧ wr.rowIs bb 3 32 (fun i => .int .i64 (f i)) ∧ Hid (Cnt f d l ((k : Int) * 10000 + j) (kd < k ∨ kd = k ∧ xd < j) (kl < k ∨ kl = k ∧ xl < j))) (fun x _ => W - (intOf x).toNat)
      case atStart => exact ⟨lf, f, by omega, by omega, rfl, Only.refl _ _, HR3.out, HCnt.out.weaken (by omega) (by omega) (by omega)⟩
      case round =>
        obtain ⟨j, f1, hj0, hj, rfl, ho, hrow, HC⟩ := hrel
        by_cases hlt2 : j < rt
        · have hidx : rw5 * W + j < W * H := by
            have := Nat.mul_le_mul_right W (show rw5 + 1 ≤ H by omega)
            rw [Nat.add_mul, Nat.one_mul, Nat.mul_comm H] at this; omega
          have X0 : wr.cell? ⟨nb, j, none⟩ = some (.int .u8 (gr (rw5 * W + j))) := by
            rw [World.cell?_of_block (w := w3) (ho.block nb nd)]; exact HL3.out.cell (by omega)
          have hg2 := HGr.out _ hidx
          generalize hpix : gr (rw5 * W + j) = px at *
          obtain ⟨b, P8, hbb⟩ : ∃ b : Nat, px / 8 = (b : Int) ∧ ((px = dk ∧ b = d) ∨ (px = lt ∧ b = l)) := by
            rcases hg2 with h | h
            · exact ⟨d, by rw [h]; exact HDL.out.1.symm, .inl ⟨h, rfl⟩⟩
            · exact ⟨l, by rw [h]; exact HDL.out.2.symm, .inr ⟨h, rfl⟩⟩
          have A255 := and255 px (by omega) (by omega)
          have hb32 : b < 32 := by omega
          have X1 := hrow.cell hb32
          have F1 := hrow.frozen b
          have HRb := Lib.hid hrow
          have HOb := Lib.hid ho
          obtain ⟨U0, U1⟩ : 0 ≤ f1 b ∧ f1 b ≤ 100000 := by
            obtain ⟨_, c2, c3, c4, c5, _⟩ := HC.out
            rcases hbb with ⟨_, rfl⟩ | ⟨_, rfl⟩ <;> constructor <;> omega
          generalize hfb : f1 b = fb at *
          have HFb := Lib.hid hfb
          have HBB := Lib.hid hbb
          have HPix := Lib.hid hpix
          have I0 : (j : Int) < (W : Int) := by omega
          have I1 : 0 ≤ (j : Int) := by omega
          have I2 : (b : Int) < 32 := by omega
          have I3 : 0 ≤ (b : Int) := by omega
          clear hpix hfb hbb hrow ho hg2
          go_wp2
          go_roundw
          case rel =>
            refine ⟨j + 1, _, by omega, by omega, by go_num, HOb.out.setCell rfl _, HRb.out.seti b _, ?_⟩
            have hsee := HSee.out
            have hrw := HRw.out
            rcases HBB.out with ⟨e1, rfl⟩ | ⟨e1, rfl⟩
            · have := HC.out.stepd (P' := kd < k ∨ kd = k ∧ xd < j + 1) (Q' := kl < k ∨ kl = k ∧ xl < j + 1) (by omega) (by
                intro hq
                rcases hq with hq | ⟨hq1, hq2⟩
                · exact .inl hq
                · by_cases e : xl = j
                  · exfalso
                    have h1 := hsee.2
                    rw [hq1, e, hrw.1, hrw.2, HPix.out] at h1
                    omega
                  · exact .inr ⟨hq1, by omega⟩)
              rw [HFb.out] at this
              exact this.weaken (by omega) id id
            · have := HC.out.stepl (P' := kd < k ∨ kd = k ∧ xd < j + 1) (Q' := kl < k ∨ kl = k ∧ xl < j + 1) (by omega) (by
                intro hq
                rcases hq with hq | ⟨hq1, hq2⟩
                · exact .inl hq
                · by_cases e : xd = j
                  · exfalso
                    have h1 := hsee.1
                    rw [hq1, e, hrw.1, hrw.2, HPix.out] at h1
                    omega
                  · exact .inr ⟨hq1, by omega⟩)
              rw [HFb.out] at this
              exact this.weaken (by omega) id id
          case measure => simp [intOf]; omega
        · have HO := Lib.hid ho
          have HRow4 := Lib.hid hrow
          clear ho hrow
          go_wp2
          go_roundw
          case rel =>
            refine ⟨k + 1, f1, _, by omega, by omega, by go_num, HRow4.out, HL3.out.of_block (HO.out.block nb nd), HT3.out.trans (Touch.of_only HO.out (by simp)), HC.out.weaken (by omega) ?_ ?_⟩
            · intro h
              by_cases e : kd = k
              · exact .inr ⟨e, by omega⟩
              · exact .inl (by omega)
            · intro h
              by_cases e : kl = k
              · exact .inr ⟨e, by omega⟩
              · exact .inl (by omega)
          case measure => simp [intOf]; omega
    · obtain rfl : k = 5 := by omega
      obtain ⟨c1, c2, c3, c4, c5, c6, c7⟩ := HCnt.out
      have HPk := Lib.hid (peak_calls (.pointer (some ⟨h, 0, none⟩)) bb d l f wo HRow.out hd8 hl32 c1 (c6 (by omega)) (by omega) (c7 (by omega)) (by omega))
      have HBMo : Hid (BM wo pm gm W H (fun _ _ => false)) := HBM2.out.of_blocks (HTo.out.block _ (HBM2.out.lt.1) (by simp; omega)) (HTo.out.block _ HBM2.out.lt.2 (by simp; omega))
      have HSo : Hid (Src wo p gb W H cap gr) := HS2.out.of_blocks (HTo.out.block _ (HS2.out.lt hW0 hH0).1 (by simp; omega)) (HTo.out.block _ (HS2.out.lt hW0 hH0).2 (by simp; omega))
      clear c1 c2 c3 c4 c5 c6 c7 HRow HLum HCnt
      go_wp2_with (first | (go_at_call 118; refine HPk.out.mono ?_; rintro e w' ⟨v, v1, v2, rfl, hw'⟩; subst w') | (go_at_call 95; refine (getmatrix_calls p gb W H cap gr _ HSo.out).mono ?_; rintro e w' ⟨rfl, rfl⟩))
      have hcase : ∀ i, i < W * H → (gr i = dk ∧ gr i < (v : Int) * 8 ∧ decide (gr i = dk) = true) ∨ (gr i = lt ∧ (v : Int) * 8 ≤ gr i ∧ decide (gr i = dk) = false) := by
        intro i hi
        have h1 := HDL.out.1
        have h2 := HDL.out.2
        rcases HGr.out i hi with h | h
        · exact .inl ⟨h, by omega, by simp [h]⟩
        · exact .inr ⟨h, by omega, by simp [h]; omega⟩
      have HCase := Lib.hid hcase
      have hTo := HTo.out
      have HTw := Lib.hid (HT.out.trans_new hTo (by intro x hx; simp at hx; rcases hx with rfl | rfl; exact .inl (by simp); exact .inr (by omega)))
      have gmne : gm ≠ gb := by omega
      have gmp : gm ≠ p := by omega
      clear hcase hTo HSee HGr HDL
      have G1 : ∀ i, i < W * H → 0 ≤ gr i ∧ gr i < 256 := fun i hi => by rcases HCase.out i hi with ⟨h, _⟩ | ⟨h, _⟩ <;> omega
      have HG1 := Lib.hid G1
      clear G1
      go_loopw [19] (fun y wr => ∃ (k : Nat), k ≤ H ∧ y = .int .i64 (k : Int) ∧ Only gm wo wr ∧ Hid (BM wr pm gm W H (fun x y => if y < k then decide (gr (y * W + x) = dk) else false))) (fun y _ => H - (intOf y).toNat)
      case atStart => exact ⟨0, by omega, rfl, Only.refl _ _, HBMo.out.congr fun x y _ _ => by simp⟩
      case round =>
        obtain ⟨wp, rfl⟩ : ∃ wp : World, wp = wr := ⟨_, rfl⟩
        obtain ⟨k, hk, rfl, ho, HBMk⟩ := hrel
        have HO := Lib.hid ho
        clear ho
        by_cases hlt3 : k < H
        · have p3 : k * W ≤ 10000 * 10000 := Nat.mul_le_mul (by omega) hW
          have A3 : IntKind.i64.wrap ((k : Int) * (W : Int)) = ((k * W : Nat) : Int) := by rw [Int.natCast_mul]; exact IntWalk.i64_in _ ⟨by have := Int.mul_nonneg (a := (k:Int)) (b := (W:Int)) (by omega) (by omega); omega, by have := Int.ofNat_le.2 p3; rw [Int.natCast_mul] at this; omega⟩
          have hfit : k * W + W ≤ W * H := by
            have := Nat.mul_le_mul_right W (show k + 1 ≤ H by omega)
            rw [Nat.add_mul, Nat.one_mul, Nat.mul_comm H] at this; exact this
          generalize hkw : k * W = kw at *
          generalize hwh : W * H = wh at *
          have HKW := Lib.hid (And.intro hkw hwh)
          clear hkw hwh
          go_wp2
          go_loopw [21] (fun x wr => ∃ (j : Nat), j ≤ W ∧ x = .int .i64 (j : Int) ∧ Only gm wo wr ∧ Hid (BM wr pm gm W H (fun x y => if y < k ∨ (y = k ∧ x < j) then decide (gr (y * W + x) = dk) else false))) (fun x _ => W - (intOf x).toNat)
          case atStart => exact ⟨0, by omega, rfl, HO.out, HBMk.out.congr fun x y _ _ => by simp⟩
          case round =>
            obtain ⟨j, hj, rfl, ho, HBMj⟩ := hrel
            have HO2 := Lib.hid ho
            have HSr : Hid (Src wr p gb W H cap gr) := HSo.out.only ho (Ne.symm gmp) (Ne.symm gmne)
            clear ho
            by_cases hlt4 : j < W
            · have hidx : kw + j < wh := by omega
              have X0 : wr.cell? ⟨gb, kw + j, none⟩ = some (.int .u8 (gr (kw + j))) := HSr.out.2 _ (by rw [HKW.out.2]; exact hidx)
              have A4 : (kw : Int) + (j : Int) = ((kw + j : Nat) : Int) := by omega
              have A5 := and255 (gr (kw + j)) (HG1.out _ hidx).1 (HG1.out _ hidx).2
              have hc := HCase.out _ hidx
              obtain ⟨A6, A7⟩ := HG1.out _ hidx
              have HPx : Hid (gr (k * W + j) = gr (kw + j)) := by rw [← HKW.out.1]; exact rfl
              generalize gr (kw + j) = px at *
              generalize kw + j = kj at *
              have I0 : (kj : Int) < (wh : Int) := by omega
              have I1 : 0 ≤ (kj : Int) := by omega
              rcases hc with ⟨e1, e2, e3⟩ | ⟨e1, e2, e3⟩
              · have HE := Lib.hid (And.intro e1 e3)
                have HSet := Lib.hid (set_calls pm gm W H j k _ wr HBMj.out hlt4 hlt3 (by omega) (by omega))
                clear e1 e3
                go_wp2_with (go_at_call 48; refine HSet.out.mono ?_; rintro e w5 ⟨rfl, hbm5, ho5⟩)
                have HBM5 := Lib.hid hbm5
                have HO5 := Lib.hid (HO2.out.trans ho5)
                clear hbm5 ho5 HSet
                go_wp2
                go_roundw
                case rel =>
                  refine ⟨j + 1, by omega, by go_num, HO5.out, HBM5.out.congr fun x y hx hy => ?_⟩
                  by_cases e : x = j ∧ y = k
                  · obtain ⟨rfl, rfl⟩ := e
                    rw [if_pos ⟨rfl, rfl⟩, if_pos (.inr ⟨rfl, Nat.lt_succ_self _⟩), HPx.out]; exact HE.out.2.symm
                  · rw [if_neg e]
                    by_cases e2 : y < k ∨ y = k ∧ x < j
                    · rw [if_pos e2, if_pos (by omega)]
                    · rw [if_neg e2, if_neg (by omega)]
                case measure => simp [intOf]; omega
              · have HE := Lib.hid (And.intro e1 e3)
                have e4 : decide (px < (v : Int) * 8) = false := by simp; omega
                clear e1 e3
                go_wp2
                go_roundw
                case rel =>
                  refine ⟨j + 1, by omega, by go_num, HO2.out, HBMj.out.congr fun x y hx hy => ?_⟩
                  by_cases e : x = j ∧ y = k
                  · obtain ⟨rfl, rfl⟩ := e
                    rw [if_neg (by omega), if_pos (by omega), HPx.out]; exact HE.out.2.symm
                  · by_cases e2 : y < k ∨ y = k ∧ x < j
                    · rw [if_pos e2, if_pos (by omega)]
                    · rw [if_neg e2, if_neg (by omega)]
                case measure => simp [intOf]; omega
            · go_wp2
              go_roundw
              case rel =>
                refine ⟨k + 1, by omega, by go_num, HO2.out, HBMj.out.congr fun x y hx hy => ?_⟩
                by_cases e2 : y < k ∨ y = k ∧ x < j
                · rw [if_pos e2, if_pos (by omega)]
                · rw [if_neg e2, if_neg (by omega)]
              case measure => simp [intOf]; omega
        · obtain rfl : k = H := by omega
          go_wp2
          go_ret2
          refine ⟨pm, gm, rfl, HBMk.out.congr fun x y _ hy => by rw [if_pos hy], by omega, by omega, HTw.out.of_only_new HO.out (by omega)⟩

end Go.Proofs.Ytaadklfendegfaa
