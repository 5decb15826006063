/- The walk of the hybrid binarizer's GetBlackMatrix. -/
import Derived.Test.YtaadklfendegfaaHk
namespace Go.Proofs.Ytaadklfendegfaa
open Go.RowKit

theorem and7 (a : Nat) (ha : a ≤ 1000000) : bits .and .i64 (a : Int) 7 = ((a % 8 : Nat) : Int) := by
  have h := (bits_nat .i64 62 (by decide) (fun n h0 h1 => IntWalk.i64_in _ ⟨by omega, by omega⟩) a 7 (Nat.lt_of_le_of_lt ha (by decide)) (by decide)).1
  rw [show ((7 : Nat) : Int) = 7 from rfl] at h
  rw [h]
  exact congrArg _ (Nat.and_two_pow_sub_one_eq_mod a 3)

/-- two grays, both in each square of eight -/
def Seen8 (W H : Nat) (gr : Nat → Int) (dk lt : Int) : Prop :=
  0 ≤ dk ∧ dk + 32 ≤ lt ∧ lt ≤ 255 ∧ (∀ i, i < W * H → gr i = dk ∨ gr i = lt) ∧ ∀ xo yo, xo + 8 ≤ W → yo + 8 ≤ H → (∃ dy dx, dy < 8 ∧ dx < 8 ∧ gr ((yo + dy) * W + (xo + dx)) = dk) ∧ (∃ dy dx, dy < 8 ∧ dx < 8 ∧ gr ((yo + dy) * W + (xo + dx)) = lt)

theorem IRows.below {w w' : World} {bg : Nat} {Q : Nat → Nat} {sh sw : Nat} {bp : Nat → Nat → Int} (h : IRows w bg Q sh sw bp) (hb : Below w.heap.size w w') : IRows w' bg Q sh sw bp :=
  ⟨fun y hy => (hb.cell (cell_lt (h.1 y hy))).trans (h.1 y hy), fun y hy x hx => (hb.cell (cell_lt (h.2 y hy x hx))).trans (h.2 y hy x hx)⟩

/-- how many blocks of eight there are, as the code counts them -/
theorem sub_of (W : Nat) (h0 : 40 ≤ W) (h1 : W ≤ 1000) : ∃ s : Nat, 5 ≤ s ∧ s ≤ 200 ∧ W ≤ 8 * s ∧ ((bits .and .i64 (W : Int) 7 = 0 ∧ (W : Int) / 8 = (s : Int)) ∨ ∃ m q : Nat, bits .and .i64 (W : Int) 7 = (m : Int) ∧ 1 ≤ m ∧ (W : Int) / 8 = (q : Int) ∧ q ≤ 200 ∧ (q : Int) + 1 = (s : Int)) := by
  by_cases e : W % 8 = 0
  · exact ⟨W / 8, by omega, by omega, by omega, .inl ⟨by rw [and7 W (by omega), e]; rfl, by omega⟩⟩
  · exact ⟨W / 8 + 1, by omega, by omega, by omega, .inr ⟨W % 8, W / 8, and7 W (by omega), by omega, by omega, by omega, by omega⟩⟩

set_option maxRecDepth 100000 in
set_option maxHeartbeats 4000000 in
theorem hblack_calls (y h bb lb lc p gb W H cap : Nat) (gr : Nat → Int) (dk lt : Int) (w : World) (hy : w.heap[y]? = some (.cells #[.pointer (some ⟨h, 0, none⟩), .pointer none] 144)) (hg : Gh w h bb (srcV p) (.slice (some ⟨lb, 0, none⟩) 0 lc)) (hs : Src w p gb W H cap gr)
    (hW0 : 40 ≤ W) (hH0 : 40 ≤ H) (hW : W ≤ 1000) (hH : H ≤ 1000) (hsee : Seen8 W H gr dk lt) :
    Calls Try.prog 121 #[.pointer (some ⟨y, 0, none⟩)] w fun e w' => ∃ pm gm, e = .returned (.tuple #[.pointer (some ⟨pm, 0, none⟩), .nilIface]) ∧ BM w' pm gm W H (fun x y => decide (gr (y * W + x) = dk)) ∧ w.heap.size ≤ pm ∧ w.heap.size ≤ gm ∧ Touch [y] w w' := by
  obtain ⟨d0, d1, d2, htwo, hblk⟩ := hsee
  have C0 : w.cell? ⟨y, 0, none⟩ = some (.pointer (some ⟨h, 0, none⟩)) := cell_at_cells hy rfl
  have C1 : w.cell? ⟨y, 1, none⟩ = some (.pointer none) := cell_at_cells hy rfl
  have CH : w.cell? ⟨h, 0, none⟩ = some (srcV p) := cell_at_cells hg.1 rfl
  have D0 : w.cell? ⟨p, 0, none⟩ = some (.int .i64 (W : Int)) := cell_at_cells hs.1 rfl
  have D1 : w.cell? ⟨p, 0 + 1, none⟩ = some (.int .i64 (H : Int)) := cell_at_cells hs.1 rfl
  have m1 := meth_width p
  have m2 := meth_height p
  have m3 := meth_matrix p
  have HD := Lib.hid D1
  have HS := Lib.hid hs
  have HY := Lib.hid hy
  have HTwo := Lib.hid htwo
  have HBlk := Lib.hid hblk
  have hyl : y < w.heap.size := (Array.getElem?_eq_some_iff.1 hy).1
  have hgl := (hs.lt (by omega) (by omega)).2
  clear hg hs hy D1 htwo hblk
  obtain ⟨sw, sw0, sw1, sw2, hsw⟩ := sub_of W hW0 hW
  obtain ⟨sh, sh0, sh1, sh2, hsh⟩ := sub_of H hH0 hH
  have J0 : (40 : Int) ≤ (W : Int) := by omega
  have J1 : (40 : Int) ≤ (H : Int) := by omega
  have HPts := Lib.hid (points_calls (.pointer (some ⟨y, 0, none⟩)) gb cap W H sw sh dk lt gr w HS.out.2 (by omega) (by omega) hW hH sw1 sh1 (by omega) (by omega) d0 d2 d1 HTwo.out HBlk.out)
  rcases hsw with ⟨a1, a2⟩ | ⟨m, q, a1, a2, a3, a4, a5⟩ <;> rcases hsh with ⟨b1, b2⟩ | ⟨m', q', b1, b2, b3, b4, b5⟩
  all_goals
    go_enter Try.func121, Try.ntmps121
    go_wp2_with (first | (go_at_call 115; refine (lum_calls h p _ CH).mono ?_; rintro e w' ⟨rfl, rfl⟩) | (go_at_call 97; refine (basew_calls ⟨p, 0, none⟩ W _ D0 rfl).mono ?_; rintro e w' ⟨rfl, rfl⟩) | (go_at_call 94; refine (baseh_calls p 0 H _ HD.out).mono ?_; rintro e w' ⟨rfl, rfl⟩) | (go_at_call 95; refine (getmatrix_calls p gb W H cap gr _ HS.out).mono ?_; rintro e w' ⟨rfl, rfl⟩))
    refine HPts.out.mono ?_
    rintro e w1 ⟨Q, bp, rfl, hir, hQ, hbp, hb1⟩
    have hs1 : w.heap.size < w1.heap.size := cell_lt (hir.1 0 (by omega))
    have HIr := Lib.hid hir
    have HQ := Lib.hid hQ
    have HBp := Lib.hid hbp
    have HB1 := Lib.hid hb1
    clear hir hQ hbp hb1 C0 C1 CH D0
    go_wp2_with (go_at_call 47; refine (newbm_calls W H _ (by omega) (by omega) (by omega) (by omega)).mono ?_)
    rintro e w2 ⟨pm, gm, rfl, hbm, hpm, hgm, hb2⟩
    have HB2 := Lib.hid hb2
    have hbl := hbm.lt
    have hpg := hbm.ne
    have hs2 : w1.heap.size ≤ w2.heap.size := hb2.size
    have HCall := Lib.hid (blocks_calls (.pointer (some ⟨y, 0, none⟩)) gb cap pm gm W H sw sh w.heap.size sh Q bp dk lt gr w2 hbm (fun i hi => by
      have h := HS.out.2 i hi
      exact ((HB1.out.trans (hb2.mono (by omega))).cell (cell_lt h)).trans h) (by omega) (HIr.out.below hb2) (by omega) (fun j hj => by have := cell_lt (HIr.out.2 j hj 0 (by omega)); exact fun e => by rw [e] at this; exact absurd this (Nat.not_lt.2 hgm)) HBp.out (by omega) (by omega) hW hH (by omega) (by omega) sw1 sh1 sw2 sh2 d0 d2 (by omega) HTwo.out)
    clear hbm hb2
    go_wp2_with (go_at_call 123; refine HCall.out.mono ?_)
    rintro e w3 ⟨rfl, hbm3, wd, ho3, m3, rfl⟩
    have hyk : w3.heap[y]? = some (.cells #[.pointer (some ⟨h, 0, none⟩), .pointer none] 144) :=
      (ho3.block y (by omega)).trans ((HB2.out.block y (by omega)).trans ((HB1.out.block y hyl).trans HY.out))
    have D1 : w3.cell? ⟨y, 1, none⟩ = some (.pointer none) := cell_at_cells hyk rfl
    have F1 : w3.frozen? ⟨y, 1, none⟩ = false := by simp [World.frozen?, hyk]
    have hset : Only y w3 (w3.setCell ⟨y, 1, none⟩ (.pointer (some ⟨pm, 0, none⟩))) := (Only.refl y w3).setCell (p := ⟨y, 1, none⟩) rfl _
    have HBM : Hid (BM (w3.setCell ⟨y, 1, none⟩ (.pointer (some ⟨pm, 0, none⟩))) pm gm W H (fun x y => decide (gr (y * W + x) = dk))) := hbm3.of_blocks (hset.block _ (by omega)) (hset.block _ (by omega))
    have HT : Hid (Touch [y] w (w3.setCell ⟨y, 1, none⟩ (.pointer (some ⟨pm, 0, none⟩)))) := ((((Touch.of_below (HB1.out.trans (HB2.out.mono (by omega)))).drewN m3).of_only_new ho3 (by omega))).setCell (p := ⟨y, 1, none⟩) (by simp) _
    clear hbm3 ho3 hyk hset HCall
    go_wp2
    go_ret2
    exact ⟨pm, gm, rfl, HBM.out, by omega, by omega, HT.out⟩

end Go.Proofs.Ytaadklfendegfaa
