/- The walk of the hybrid binarizer's calculateBlackPoints. -/
import Derived.Test.YtaadklfendegfaaHp
import Derived.Deep.DeepCutAuto
namespace Go.Proofs.Ytaadklfendegfaa
open Go.RowKit

theorem Try.info139 : (Try.prog.info? 139).map (fun i => (i.zero, i.size, i.bytes)) = some (some (.slice none 0 0), 1, 24) := by kernel_rfl

theorem BlkR.px {dk lt : Int} {n : Nat} {S mn mx p mn' mx' : Int} (h : BlkR dk lt n S mn mx) (hdl : dk < lt) (hl : lt ≤ 255) (hp : p = dk ∨ p = lt) (h1 : (p < mn ∧ mn' = p) ∨ (¬ p < mn ∧ mn' = mn)) (h2 : (mx < p ∧ mx' = p) ∨ (¬ mx < p ∧ mx' = mx)) :
    BlkR dk lt (n + 1) (S + p) mn' mx' ∧ (p = dk → mn' = dk) ∧ (p = lt → mx' = lt) ∧ (mn = dk → mn' = dk) ∧ (mx = lt → mx' = lt) := by
  have e1 : mn' = if p < mn then p else mn := by split <;> omega
  have e2 : mx' = if mx < p then p else mx := by split <;> omega
  rcases hp with rfl | rfl
  · obtain ⟨a, b, c⟩ := h.dark hdl
    rw [← e1, ← e2] at a
    rw [← e1] at b
    rw [← e2] at c
    exact ⟨a, fun _ => b, fun e => by omega, fun _ => b, c⟩
  · obtain ⟨a, b, c⟩ := h.light hdl hl
    rw [← e1, ← e2] at a
    rw [← e2] at b
    rw [← e1] at c
    exact ⟨a, fun e => by omega, fun _ => b, c, fun _ => b⟩

/-- what of a block was seen: its first r rows, and x of the next -/
def SeenB (dk lt : Int) (px : Nat → Nat → Int) (r x : Nat) (mn mx : Int) : Prop :=
  ∀ dy dx, dx < 8 → (dy < r ∨ (dy = r ∧ dx < x)) → (px dy dx = dk → mn = dk) ∧ (px dy dx = lt → mx = lt)

theorem SeenB.step {dk lt : Int} {px : Nat → Nat → Int} {r x : Nat} {mn mx mn' mx' : Int} (h : SeenB dk lt px r x mn mx) (h1 : px r x = dk → mn' = dk) (h2 : px r x = lt → mx' = lt) (h3 : mn = dk → mn' = dk) (h4 : mx = lt → mx' = lt) : SeenB dk lt px r (x + 1) mn' mx' := by
  intro dy dx hx hc
  by_cases e : dy = r ∧ dx = x
  · obtain ⟨rfl, rfl⟩ := e
    exact ⟨h1, h2⟩
  · have := h dy dx hx (by omega)
    exact ⟨fun a => h3 (this.1 a), fun a => h4 (this.2 a)⟩
theorem SeenB.row {dk lt : Int} {px : Nat → Nat → Int} {r : Nat} {mn mx : Int} (h : SeenB dk lt px r 8 mn mx) : SeenB dk lt px (r + 1) 0 mn mx :=
  fun dy dx hx hc => h dy dx hx (by omega)

set_option maxRecDepth 100000 in
set_option maxHeartbeats 16000000 in
theorem points_calls (tv : Value) (gb cap W H sw sh : Nat) (dk lt : Int) (gr : Nat → Int) (w : World) (hgr : ∀ i, i < W * H → w.cell? ⟨gb, i, none⟩ = some (.int .u8 (gr i)))
    (hW0 : 8 ≤ W) (hH0 : 8 ≤ H) (hW : W ≤ 1000) (hH : H ≤ 1000) (hsw1 : sw ≤ 200) (hsh1 : sh ≤ 200) (hsw0 : 1 ≤ sw) (hsh0 : 1 ≤ sh) (hd0 : 0 ≤ dk) (hl : lt ≤ 255) (hdl : dk + 32 ≤ lt) (h2 : ∀ i, i < W * H → gr i = dk ∨ gr i = lt)
    (hblk : ∀ xo yo, xo + 8 ≤ W → yo + 8 ≤ H → (∃ dy dx, dy < 8 ∧ dx < 8 ∧ gr ((yo + dy) * W + (xo + dx)) = dk) ∧ (∃ dy dx, dy < 8 ∧ dx < 8 ∧ gr ((yo + dy) * W + (xo + dx)) = lt)) :
    Calls Try.prog 122 #[tv, .slice (some ⟨gb, 0, none⟩) (W * H) cap, .int .i64 (sw : Int), .int .i64 (sh : Int), .int .i64 (W : Int), .int .i64 (H : Int)] w fun e w' => ∃ Q bp, e = .returned (.slice (some ⟨w.heap.size, 0, none⟩) sh sh) ∧
      IRows w' w.heap.size Q sh sw bp ∧ (∀ y, y < sh → w.heap.size ≤ Q y) ∧ (∀ y x, y < sh → x < sw → dk ≤ bp y x ∧ bp y x < lt) ∧ Below w.heap.size w w' := by
  have HGr := Lib.hid hgr
  have H2 := Lib.hid h2
  have HBlk := Lib.hid hblk
  clear hgr h2 hblk
  have hrow : ∀ xo yo r x, xo + 8 ≤ W → yo + 8 ≤ H → r < 8 → x < 8 → (yo * W + xo + r * W) + x = (yo + r) * W + (xo + x) ∧ (yo + r) * W + (xo + x) < W * H ∧ yo * W + xo + r * W ≤ 1000000 := by
    intro xo yo r x hx hy hr hx'
    have e1 : (yo + r) * W = yo * W + r * W := Nat.add_mul _ _ _
    have e2 : (yo + r + 1) * W ≤ W * H := by rw [Nat.mul_comm W H]; exact Nat.mul_le_mul_right _ (by omega)
    rw [Nat.add_mul, Nat.one_mul] at e2
    have e3 : W * H ≤ 1000 * 1000 := Nat.mul_le_mul hW hH
    refine ⟨by omega, by omega, by omega⟩
  have HRow := Lib.hid hrow
  clear hrow
  generalize hwh : W * H = wh at *
  have HWH := Lib.hid hwh
  clear hwh
  obtain ⟨h8, hh8⟩ : ∃ h8, H = h8 + 8 := ⟨H - 8, by omega⟩
  obtain ⟨w8, hw8⟩ : ∃ w8, W = w8 + 8 := ⟨W - 8, by omega⟩
  have V1 : (H : Int) - 8 = (h8 : Int) := by omega
  have V2 : (W : Int) - 8 = (w8 : Int) := by omega
  have HH8 := Lib.hid hh8
  have HW8 := Lib.hid hw8
  clear hh8 hw8
  have hmk1 := fun (w : World) => run_make_row' (P := Try.prog) 186 139 (.slice none 0 0) 24 Try.underlying186 Try.info139 rfl .i64 .i64 sh (by omega) (by omega) w
  have hmk2 := fun (w : World) => run_make_row' (P := Try.prog) 139 3 (.int .i64 0) 8 Try.underlying139 Try.info3 rfl .i64 .i64 sw (by omega) (by omega) w
  go_enter Try.func122, Try.ntmps122
  go_wp2
  have hR0 : RowsI w.heap.size (w.alloc (.cells (madeCells #[.slice none 0 0] sh) 139)) w.heap.size sw sh 0 (fun _ => 0) (fun _ _ => 0) :=
    ⟨(World.rowIs_made w (.slice none 0 0) sh 139).congr fun y _ => by simp, by omega, by omega⟩
  have hb0 : Below w.heap.size w (w.alloc (.cells (madeCells #[.slice none 0 0] sh) 139)) := (Below.refl _ _).alloc (Nat.le_refl _) _
  have hs0 : w.heap.size < (w.alloc (.cells (madeCells #[.slice none 0 0] sh) 139)).heap.size := by simp
  generalize w.alloc (.cells (madeCells #[.slice none 0 0] sh) 139) = w0 at *
  go_loopw [16] (fun i wr => ∃ (k : Nat) (R : Nat → Nat) (bp : Nat → Nat → Int), k ≤ sh ∧ i = .int .i64 (k : Int) ∧ RowsI w.heap.size wr w.heap.size sw sh k R bp ∧ Below w.heap.size w wr ∧ w.heap.size < wr.heap.size ∧ Hid (∀ y x, y < k → x < sw → dk ≤ bp y x ∧ bp y x < lt)) (fun i _ => sh - (intOf i).toNat)
  case atStart => exact ⟨0, _, _, by omega, rfl, hR0, hb0, hs0, fun y x hy => by omega⟩
  case round =>
    obtain ⟨wo, rfl⟩ : ∃ wo : World, wo = wr := ⟨_, rfl⟩
    obtain ⟨k, R, bp, hk, rfl, hr, hb, hs, HBp⟩ := hrel
    clear hR0 hb0 hs0
    have HR := Lib.hid hr
    have HB := Lib.hid hb
    by_cases hlt : k < sh
    · have X0 := hr.1.cell hlt
      have F0 := hr.1.frozen k
      have I00 : (k : Int) < (sh : Int) := by omega
      clear hr hb
      obtain ⟨yo, hyo, hyc, hyt⟩ := off_of k H h8 HH8.out
      clear hyc
      go_upto_if 50 with fail
      have hs1 : wo.heap.size < ((wo.setCell ⟨w.heap.size, k, none⟩ (.slice (some ⟨wo.heap.size, 0, none⟩) sw sw)).alloc (.cells (madeCells #[.int .i64 0] sw) 3)).heap.size := by simp
      have hrow0 : ((wo.setCell ⟨w.heap.size, k, none⟩ (.slice (some ⟨wo.heap.size, 0, none⟩) sw sw)).alloc (.cells (madeCells #[.int .i64 0] sw) 3)).rowIs wo.heap.size 3 sw (fun _ => .int .i64 0) := by
        have := World.rowIs_made (wo.setCell ⟨w.heap.size, k, none⟩ (.slice (some ⟨wo.heap.size, 0, none⟩) sw sw)) (.int .i64 0) sw 3
        simpa using this
      have hbw : Below w.heap.size w ((wo.setCell ⟨w.heap.size, k, none⟩ (.slice (some ⟨wo.heap.size, 0, none⟩) sw sw)).alloc (.cells (madeCells #[.int .i64 0] sw) 3)) :=
        (HB.out.setCell (p := ⟨w.heap.size, k, none⟩) (Nat.le_refl _) _).alloc (by simp; omega) _
      have hXG : ((wo.setCell ⟨w.heap.size, k, none⟩ (.slice (some ⟨wo.heap.size, 0, none⟩) sw sw)).alloc (.cells (madeCells #[.int .i64 0] sw) 3)).cell? ⟨w.heap.size, k, none⟩ = some (.slice (some ⟨wo.heap.size, 0, none⟩) sw sw) := by
        have := ((HR.out.1.set k (.slice (some ⟨wo.heap.size, 0, none⟩) sw sw)).alloc (.cells (madeCells #[.int .i64 0] sw) 3)).cell hlt
        simpa using this
      generalize hw1 : (wo.setCell ⟨w.heap.size, k, none⟩ (.slice (some ⟨wo.heap.size, 0, none⟩) sw sw)).alloc (.cells (madeCells #[.int .i64 0] sw) 3) = w1 at *
      have HW1 := Lib.hid hw1
      clear hw1 X0 F0
      generalize hg : wo.heap.size = g' at *
      have HG := Lib.hid hg
      clear hg
      have HBW := Lib.hid hbw
      clear hbw
      go_cut [17] from 36 to 181 (fun s17 wx => s17 = .int .i64 (yo : Int) ∧ wx = w1)
      case first =>
        have HYt := Lib.hid hyt
        clear hyt
        go_wp2
        all_goals
          go_meet
          refine ⟨?_, rfl⟩
          have hyt := HYt.out
          simp only [decide_eq_true_eq, decide_eq_false_iff_not] at hyt
          congr 1
          omega
      case rest =>
        obtain ⟨rfl, hwc⟩ := hcut
        replace hwc := hwc.symm
        subst hwc
        clear hyt
        go_wp2
        go_loopw [18] (fun x wr => ∃ (j : Nat) (f : Nat → Int), j ≤ sw ∧ x = .int .i64 (j : Int) ∧ Only g' w1 wr ∧ wr.rowIs g' 3 sw (fun x => .int .i64 (f x)) ∧ Hid (∀ x, x < j → dk ≤ f x ∧ f x < lt)) (fun x _ => sw - (intOf x).toNat)
        case atStart => exact ⟨0, fun _ => 0, by omega, rfl, Only.refl _ _, hrow0, fun x hx => by omega⟩
        case round =>
          obtain ⟨wp, rfl⟩ : ∃ wp : World, wp = wr := ⟨_, rfl⟩
          obtain ⟨j, f, hj, rfl, ho, hrow, HF⟩ := hrel
          by_cases hlt2 : j < sw
          · have X0 : wp.cell? ⟨w.heap.size, k, none⟩ = some (.slice (some ⟨g', 0, none⟩) sw sw) := by
              rw [World.cell?_of_block (w := w1) (ho.block _ (by show w.heap.size ≠ _; omega))]; exact hXG
            have X1 := hrow.cell hlt2
            have F1 := hrow.frozen j
            have HO := Lib.hid ho
            have HRw := Lib.hid hrow
            have HGb : Hid (∀ i, i < wh → wp.cell? ⟨gb, i, none⟩ = some (.int .u8 (gr i))) := fun i hi => by
              have h := HGr.out i hi
              exact ((HBW.out.trans (ho.below (by omega))).cell (cell_lt h)).trans h
            have I0 : 0 ≤ (k : Int) := by omega
            have I1 : (k : Int) < (sh : Int) := by omega
            have I2 : 0 ≤ (j : Int) := by omega
            have I3 : (j : Int) < (sw : Int) := by omega
            clear ho hrow
            obtain ⟨xo, hxo, hxc, hxt⟩ := off_of j W w8 HW8.out
            clear hxc
            have HRx := Lib.hid (fun r x => HRow.out xo yo r x hxo hyo)
            have HBx := Lib.hid (HBlk.out xo yo hxo hyo)
            have p3 : yo * W ≤ 1000 * 1000 := Nat.mul_le_mul (by omega) hW
            have A3 : IntKind.i64.wrap ((yo : Int) * (W : Int)) = ((yo * W : Nat) : Int) := by rw [Int.natCast_mul]; exact IntWalk.i64_in _ ⟨by have := Int.mul_nonneg (a := (yo:Int)) (b := (W:Int)) (by omega) (by omega); omega, by have := Int.ofNat_le.2 p3; rw [Int.natCast_mul] at this; omega⟩
            have A4 : ((yo * W : Nat) : Int) + (xo : Int) = ((yo * W + xo : Nat) : Int) := by omega
            have hq0 : yo * W + xo ≤ 1001000 := by omega
            generalize hyw : yo * W = yw at *
            generalize hq : yw + xo = q0 at *
            have HE := Lib.hid (And.intro hyw hq)
            clear hyw hq
            have HOf : Hid (∀ q, q ≤ 8 → q0 + q * W ≤ 1010000) := fun q hq => by
              have := Nat.mul_le_mul hq hW
              omega
            go_upto_if 61 with fail
            go_cut [19] from 52 to 181 (fun s19 wx => s19 = .int .i64 (xo : Int) ∧ wx = wp)
            case first =>
              have HXt := Lib.hid hxt
              clear hxt
              go_wp2
              all_goals
                go_meet
                refine ⟨?_, rfl⟩
                have hxt := HXt.out
                simp only [decide_eq_true_eq, decide_eq_false_iff_not] at hxt
                congr 1
                omega
            case rest =>
              obtain ⟨rfl, hwc⟩ := hcut
              replace hwc := hwc.symm
              subst hwc
              clear hxt
              go_wp2
              go_loop [20, 21, 22, 23, 24] (fun sv nv xv yv ov => ∃ (r : Nat) (o S mn mx : Int), r ≤ 9 ∧ sv = .int .i64 S ∧ nv = .int .i64 mn ∧ xv = .int .i64 mx ∧ yv = .int .i64 (r : Int) ∧ ov = .int .i64 o ∧ 0 ≤ o ∧ o ≤ 1020000 ∧ Hid ((r ≤ 8 ∧ o = ((q0 + r * W : Nat) : Int) ∧ BlkR dk lt (8 * r) S mn mx ∧ SeenB dk lt (fun dy dx => gr ((yo + dy) * W + (xo + dx))) r 0 mn mx) ∨ (r = 9 ∧ FinR dk lt 64 S ∧ mn = dk ∧ mx = lt))) (fun _ _ _ yv _ => 9 - (intOf yv).toNat)
              case atStart => exact ⟨0, _, 0, 255, 0, by omega, rfl, rfl, rfl, rfl, rfl, by omega, by omega, .inl ⟨by omega, by simp, BlkR.zero hd0 hl, fun dy dx h1 h2 => by omega⟩⟩
              case round =>
                obtain ⟨r, o, S, mn, mx, hr9, rfl, rfl, rfl, rfl, rfl, ho0, ho1, HL⟩ := hrel
                by_cases hlt3 : r < 8
                · obtain ⟨ho, hbr, hsn⟩ : o = ((q0 + r * W : Nat) : Int) ∧ BlkR dk lt (8 * r) S mn mx ∧ SeenB dk lt (fun dy dx => gr ((yo + dy) * W + (xo + dx))) r 0 mn mx := by
                    rcases HL.out with h | h
                    · exact h.2
                    · omega
                  have HOo := Lib.hid ho
                  have HBr := Lib.hid hbr
                  have HSn := Lib.hid hsn
                  clear ho hbr hsn HL
                  have R8 : (r : Int) < 8 := by omega
                  go_wp2
                  go_loop [20, 21, 22, 25] (fun sv nv xv cv => ∃ (x : Nat) (S mn mx : Int), x ≤ 8 ∧ sv = .int .i64 S ∧ nv = .int .i64 mn ∧ xv = .int .i64 mx ∧ cv = .int .i64 (x : Int) ∧ Hid (BlkR dk lt (8 * r + x) S mn mx ∧ SeenB dk lt (fun dy dx => gr ((yo + dy) * W + (xo + dx))) r x mn mx)) (fun _ _ _ cv => 8 - (intOf cv).toNat)
                  case atStart => exact ⟨0, S, mn, mx, by omega, rfl, rfl, rfl, rfl, HBr.out, HSn.out⟩
                  case round =>
                    clear HBr HSn
                    obtain ⟨x, S, mn, mx, hx8, rfl, rfl, rfl, rfl, HL⟩ := hrel
                    obtain ⟨b1, b2, b3, b4, b5, b6⟩ := HL.out.1.bounds hd0 (by omega) hl (by omega)
                    by_cases hlt4 : x < 8
                    · obtain ⟨i, px, hi, hAi, hpx, hX⟩ : ∃ (i : Nat) (px : Int), i < wh ∧ o + (x : Int) = (i : Int) ∧ px = gr ((yo + r) * W + (xo + x)) ∧ wp.cell? ⟨gb, i, none⟩ = some (.int .u8 px) := by
                        obtain ⟨g1, g2, g3⟩ := HRx.out r x hlt3 hlt4
                        exact ⟨_, _, g2, by rw [HOo.out, ← g1]; omega, rfl, HGb.out _ g2⟩
                      have hc : px = dk ∨ px = lt := by rw [hpx]; exact H2.out _ (HRx.out r x hlt3 hlt4).2.1
                      have HPx := Lib.hid (And.intro hpx hc)
                      have P0 : 0 ≤ px := by omega
                      have P1 : px < 256 := by omega
                      have A6 := and255 px P0 P1
                      have J0 : (i : Int) < (wh : Int) := by omega
                      have J1 : (x : Int) < 8 := by omega
                      clear hpx hc hi
                      go_wp2
                      all_goals
                        refine ⟨?_, by simp [intOf]; omega⟩
                        obtain ⟨hpx, hc⟩ := HPx.out
                        obtain ⟨hb, hs⟩ := HL.out
                        obtain ⟨c1, c2, c3, c4, c5⟩ := hb.px (p := px) (mn' := if px < mn then px else mn) (mx' := if mx < px then px else mx) (by omega) hl hc (by by_cases h : px < mn <;> simp [h]) (by by_cases h : mx < px <;> simp [h])
                        refine ⟨x + 1, _, if px < mn then px else mn, if mx < px then px else mx, by omega, rfl, ?_, ?_, by go_num, c1, hs.step (fun e => c2 (by rw [hpx]; exact e)) (fun e => c3 (by rw [hpx]; exact e)) c4 c5⟩
                        · first | rw [if_pos (by omega)] | rw [if_neg (by omega)]
                        · first | rw [if_pos (by omega)] | rw [if_neg (by omega)]
                    · obtain rfl : x = 8 := by omega
                      have n1 : 8 * r + 8 = 8 * (r + 1) := by omega
                      have HNx : Hid (o + (W : Int) = ((q0 + (r + 1) * W : Nat) : Int)) := by
                        show _ = _
                        rw [HOo.out, Nat.add_mul, Nat.one_mul]; omega
                      have HN8 : Hid (q0 + (r + 1) * W ≤ 1010000) := HOf.out (r + 1) (by omega)
                      by_cases hmm : mn < mx
                      · obtain ⟨hfin, rfl, rfl⟩ := HL.out.1.fin (by omega) hmm
                        have D1 : decide (24 < mx - mn) = true := by simp; omega
                        have HFi := Lib.hid hfin
                        clear hfin HL
                        have oW : o + (W : Int) ≤ 1010000 := by have := HNx.out; have := HN8.out; omega
                        have HBx' := HBx
                        clear HBx
                        go_wp2
                        go_loop [20, 23, 24] (fun sv yv ov => ∃ (q : Nat) (o S : Int), q ≤ 8 ∧ sv = .int .i64 S ∧ yv = .int .i64 (q : Int) ∧ ov = .int .i64 o ∧ 0 ≤ o ∧ o ≤ 1010000 ∧ Hid (o = ((q0 + q * W : Nat) : Int) ∧ FinR mn mx (8 * q) S)) (fun _ yv _ => 8 - (intOf yv).toNat)
                        case atStart => exact ⟨r + 1, _, S, by omega, rfl, by go_num, rfl, by omega, oW, HNx.out, by rw [← n1]; exact HFi.out⟩
                        case round =>
                          clear oW HNx HN8 HFi HOo ho0 ho1 D1
                          obtain ⟨q, o, S, hq8, rfl, rfl, rfl, ho0, ho1, HQ⟩ := hrel
                          by_cases hlt5 : q < 8
                          · have Q8 : (q : Int) < 8 := by omega
                            go_wp2
                            go_loop [20, 27] (fun sv cv => ∃ (x : Nat) (S : Int), x ≤ 8 ∧ sv = .int .i64 S ∧ cv = .int .i64 (x : Int) ∧ Hid (FinR mn mx (8 * q + x) S)) (fun _ cv => 8 - (intOf cv).toNat)
                            case atStart => exact ⟨0, S, by omega, rfl, rfl, HQ.out.2⟩
                            case round =>
                              obtain ⟨x, S, hx8, rfl, rfl, HL⟩ := hrel
                              obtain ⟨b1, b2⟩ := HL.out.bounds hd0 (by omega) hl (by omega)
                              by_cases hlt4 : x < 8
                              · obtain ⟨i, px, hi, hAi, hpx, hX⟩ : ∃ (i : Nat) (px : Int), i < wh ∧ o + (x : Int) = (i : Int) ∧ px = gr ((yo + q) * W + (xo + x)) ∧ wp.cell? ⟨gb, i, none⟩ = some (.int .u8 px) := by
                                  obtain ⟨g1, g2, g3⟩ := HRx.out q x hlt5 hlt4
                                  exact ⟨_, _, g2, by rw [HQ.out.1, ← g1]; omega, rfl, HGb.out _ g2⟩
                                have hc : px = mn ∨ px = mx := by rw [hpx]; exact H2.out _ (HRx.out q x hlt5 hlt4).2.1
                                have HPx := Lib.hid (And.intro hpx hc)
                                have P0 : 0 ≤ px := by omega
                                have P1 : px < 256 := by omega
                                have A6 := and255 px P0 P1
                                have J0 : (i : Int) < (wh : Int) := by omega
                                have J1 : (x : Int) < 8 := by omega
                                clear hpx hc hi
                                go_wp2
                                refine ⟨?_, by simp [intOf]; omega⟩
                                exact ⟨x + 1, _, by omega, rfl, by go_num, HL.out.step (by omega) HPx.out.2⟩
                              · obtain rfl : x = 8 := by omega
                                have n1 : 8 * q + 8 = 8 * (q + 1) := by omega
                                have HNx : Hid (o + (W : Int) = ((q0 + (q + 1) * W : Nat) : Int)) := by
                                  show _ = _
                                  rw [HQ.out.1, Nat.add_mul, Nat.one_mul]; omega
                                have HN8 : Hid (q0 + (q + 1) * W ≤ 1010000) := HOf.out (q + 1) (by omega)
                                have oW : o + (W : Int) ≤ 1010000 := by have := HNx.out; have := HN8.out; omega
                                go_wp2
                                refine ⟨?_, by simp [intOf]; omega⟩
                                exact ⟨q + 1, _, S, by omega, rfl, by go_num, rfl, by omega, oW, HNx.out, by rw [← n1]; exact HL.out⟩
                          · obtain rfl : q = 8 := by omega
                            have oW : o + (W : Int) ≤ 1020000 := by omega
                            go_wp2
                            refine ⟨?_, by simp [intOf]; omega⟩
                            exact ⟨9, _, S, mn, mx, by omega, rfl, rfl, rfl, by go_num, rfl, by omega, oW, .inr ⟨rfl, HQ.out.2, rfl, rfl⟩⟩
                      · have D1 : decide (24 < mx - mn) = false := by simp; omega
                        have oW : o + (W : Int) ≤ 1020000 := by have := HNx.out; have := HN8.out; omega
                        go_wp2
                        refine ⟨?_, by simp [intOf]; omega⟩
                        exact ⟨r + 1, _, S, mn, mx, by omega, rfl, rfl, rfl, by go_num, rfl, by omega, oW, .inl ⟨by omega, HNx.out, by rw [← n1]; exact HL.out.1, HL.out.2.row⟩⟩
                · obtain ⟨hfin, rfl, rfl⟩ : FinR dk lt 64 S ∧ mn = dk ∧ mx = lt := by
                    rcases HL.out with ⟨h1, h2, h3, h4⟩ | h
                    · obtain rfl : r = 8 := by omega
                      obtain ⟨⟨dy, dx, d1, d2, d3⟩, ⟨ly, lx, l1, l2, l3⟩⟩ := HBx.out
                      have e1 : mn = dk := (h4 dy dx d2 (.inl d1)).1 d3
                      have e2 : mx = lt := (h4 ly lx l2 (.inl l1)).2 l3
                      exact h3.fin (by omega) (by omega)
                    · exact h.2
                  obtain ⟨v1, v2⟩ := hfin.avg (by omega)
                  obtain ⟨b1, b2⟩ := hfin.bounds hd0 (by omega) hl (by omega)
                  have D0 : decide ((r : Int) < 8) = false := by simp; omega
                  have D2 : decide (mx - mn ≤ 24) = false := by simp; omega
                  clear HL hfin
                  go_wp2
                  go_roundw
                  case rel =>
                    exact ⟨j + 1, fun x => if x = j then S / 64 else f x, by omega, by go_num, HO.out.setCell rfl _, (HRw.out.set j _).congr fun x hx => by (by_cases e : x = j) <;> simp [e], fun x hx => by
                      by_cases e : x = j
                      · subst e; simp; exact ⟨v1, v2⟩
                      · simp only [e, if_false]; exact HF.out x (by omega)⟩
                  case measure => simp [intOf]; omega
          · obtain rfl : j = sw := by omega
            have HO := Lib.hid ho
            have HRw := Lib.hid hrow
            clear ho hrow
            go_wp2
            go_roundw
            case rel =>
              refine ⟨k + 1, _, _, by omega, by go_num, HR.out.next HG.out (by omega) (by rw [HW1.out]; exact HO.out) HRw.out, HBW.out.trans (HO.out.below (by omega)), ?_, fun y x hy hx => ?_⟩
              · have := HO.out.size
                omega
              · by_cases e : y = k
                · simp only [e, if_true]; exact HF.out x hx
                · simp only [e, if_false]; exact HBp.out y x (by omega) hx
            case measure => simp [intOf]; omega
    · obtain rfl : k = sh := by omega
      clear hr hb
      go_wp2
      go_ret
      obtain ⟨h1, h2, h3⟩ := HR.out
      refine ⟨R, bp, rfl, ⟨fun y hy => ?_, fun y hy x hx => (h2 y hy).cell hx⟩, fun y hy => (h3 y hy).1, HBp.out, HB.out⟩
      have := h1.cell hy
      simpa [hy] using this

end Go.Proofs.Ytaadklfendegfaa
