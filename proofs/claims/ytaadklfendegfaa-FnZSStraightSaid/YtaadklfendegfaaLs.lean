/- The walk of FnZSStraight. -/
import Derived.Test.YtaadklfendegfaaXw
namespace Go.Proofs.Ytaadklfendegfaa
open Go.RowKit

set_option maxRecDepth 100000 in
set_option maxHeartbeats 8000000 in
theorem straight_walk (sa : Option Addr) (len cap : Nat) (zs : List Int) (a1 a2 a3 a4 a5 a6 : Int) (w : World) (hlen : len ≤ 2147483647) (h1 : 0 ≤ a1 ∧ a1 ≤ 255) (h2 : 0 ≤ a2 ∧ a2 ≤ 255) (h3 : 0 ≤ a3 ∧ a3 ≤ 255) (h4 : 0 ≤ a4 ∧ a4 ≤ 255) (h5 : 0 ≤ a5 ∧ a5 ≤ 255) (h6 : 0 ≤ a6 ∧ a6 ≤ 255)
    (hz : len = 0 ∨ ∃ ab aoff, sa = some ⟨ab, aoff, none⟩ ∧ ∀ j, j < len → w.cell? ⟨ab, aoff + j, none⟩ = some (.int .u8 (zs.getD j 0))) :
    Calls Try.prog 5 #[.slice sa len cap, .int .u8 a1, .int .u8 a2, .int .u8 a3, .int .u8 a4, .int .u8 a5, .int .u8 a6] w fun e w' => e = .returned (.bool true) ∧ Below w.heap.size w w' := by
  have hlz : decide ((2147483647 : Int) < (len : Int)) = false := by simp; omega
  obtain ⟨h10, h11⟩ := h1
  obtain ⟨h20, h21⟩ := h2
  obtain ⟨h30, h31⟩ := h3
  obtain ⟨h40, h41⟩ := h4
  obtain ⟨h50, h51⟩ := h5
  obtain ⟨h60, h61⟩ := h6
  obtain ⟨W, hW⟩ : ∃ W : Nat, 2 + a1 % 14 = (W : Int) := ⟨(2 + a1 % 14).toNat, by omega⟩
  obtain ⟨H, hH⟩ : ∃ H : Nat, 2 + a2 % 14 = (H : Int) := ⟨(2 + a2 % 14).toNat, by omega⟩
  obtain ⟨s, hs⟩ : ∃ s : Nat, 1 + a3 % 9 = (s : Int) := ⟨(1 + a3 % 9).toNat, by omega⟩
  obtain ⟨l, hl⟩ : ∃ l : Nat, a4 % 20 = (l : Int) := ⟨(a4 % 20).toNat, by omega⟩
  obtain ⟨t, ht⟩ : ∃ t : Nat, a5 % 20 = (t : Int) := ⟨(a5 % 20).toNat, by omega⟩
  obtain ⟨q, hq⟩ : ∃ q : Nat, a6 % 4 = (q : Int) := ⟨(a6 % 4).toNat, by omega⟩
  have hW0 : 2 ≤ W := by omega
  have hW1 : W ≤ 15 := by omega
  have hH0 : 2 ≤ H := by omega
  have hH1 : H ≤ 15 := by omega
  have hs0 : 1 ≤ s := by omega
  have hs1 : s ≤ 9 := by omega
  have hl1 : l ≤ 19 := by omega
  have ht1 : t ≤ 19 := by omega
  have hq1 : q < 4 := by omega
  have HZ := Lib.hid hz
  obtain ⟨iF, hi, hz0, hz1, hz2⟩ := info_parts Try.info44
  have hmk := fun (n : Nat) (hn : n ≤ 1000) (w : World) => run_make_row' (P := Try.prog) 44 4 (.bool false) 1 Try.underlying44 Try.info4 rfl .i64 .i64 n (by omega) (by omega) w
  have HMk := Lib.hid hmk
  clear hz hmk
  go_enter Try.func5, Try.ntmps5
  go_wp2_with (fail)
  refine (mods_calls sa len cap zs a1 a2 W H _ hlen ⟨h10, h11⟩ ⟨h20, h21⟩ hW hH HZ.out).mono ?_
  rintro e w1 ⟨v, F, rfl, hgo, hb1⟩
  obtain ⟨g, c, R, rfl, hg, hrows, hR⟩ := hgo
  have hgr : Grid w1 (.slice (some ⟨g, 0, none⟩) H c) H W F := GridO.grid (base := 0) ⟨g, c, R, rfl, by omega, hrows, fun _ _ => by omega⟩
  have X0 := hrows.1 0 (by omega)
  have HX := Lib.hid X0
  have HGr := Lib.hid hgr
  have HB1 := Lib.hid hb1
  clear hgr hb1 hrows hR X0
  go_wp2_with (fail)
  refine (draw_calls _ H W s l t l t F 0 255 _ HGr.out (by omega) (by omega) (by omega) (by omega) (by omega) (by omega) (by omega) (by omega) (by omega) (by omega)).mono ?_
  rintro e w2 ⟨v2, rfl, ⟨gv, rfl, hgv, hby⟩, hb2⟩
  have hwl : s * W ≤ 9 * 15 := Nat.mul_le_mul hs1 hW1
  have hhl : s * H ≤ 9 * 15 := Nat.mul_le_mul hs1 hH1
  have hwl1 : 1 * 2 ≤ s * W := Nat.mul_le_mul hs0 hW0
  have hhl1 : 1 * 2 ≤ s * H := Nat.mul_le_mul hs0 hH0
  obtain ⟨wd, hwd⟩ : ∃ wd, wd = l + s * W + l := ⟨_, rfl⟩
  obtain ⟨hd, hhd⟩ : ∃ hd, hd = t + s * H + t := ⟨_, rfl⟩
  rw [← hwd, ← hhd] at hby
  rw [← hwd, ← hhd]
  have hwd0 : 2 ≤ wd := by omega
  have hwd1 : wd ≤ 173 := by omega
  have hhd0 : 2 ≤ hd := by omega
  have hhd1 : hd ≤ 173 := by omega
  have hszl : wd * hd ≤ 173 * 173 := Nat.mul_le_mul hwd1 hhd1
  have HWD := Lib.hid (And.intro hwd hhd)
  have HGr2 := Lib.hid (HGr.out.below hb2)
  have hx2 := (hb2.cell (cell_lt HX.out)).trans HX.out
  have HX2 := Lib.hid hx2
  have HB2 := Lib.hid (HB1.out.trans (hb2.mono HB1.out.size))
  have hs2 := HB2.out.size
  clear hwl hhl hwl1 hhl1 hwd hhd hb2 hx2 HGr HX HB1
  obtain ⟨gr, hgr⟩ : ∃ gr : Nat → Int, gr = drawn F H W s l t wd 0 255 := ⟨_, rfl⟩
  rw [← hgr] at hby
  have hgr2 : ∀ i, gr i = 0 ∨ gr i = 255 := fun i => by rw [hgr]; exact drawn_two _ _ _ _ _ _ _ _
  have HGR := Lib.hid hgr
  have HGR2 := Lib.hid hgr2
  clear hgr hgr2
  obtain ⟨sz, hsz⟩ : ∃ sz, sz = wd * hd := ⟨_, rfl⟩
  rw [← hsz] at hby hszl ⊢
  have HSZ := Lib.hid hsz
  have HBy := Lib.hid hby
  have hgl := hby.lt
  clear hsz hby
  have M1 := HMk.out wd (by omega)
  go_wp2
  go_loopw [19, 22] (fun v i wr => ∃ (k p : Nat) (R : Nat → Nat) (B : Nat → Nat → Bool), k ≤ hd ∧ Hid (p = k * wd) ∧ i = .int .i64 (p : Int) ∧ Hid (RowsOn w2.heap.size wr v wd k R B) ∧ Hid (Below w2.heap.size w2 wr) ∧ Hid (∀ y, y < k → ∀ x, x < wd → B y x = decide (gr (y * wd + x) = 0))) (fun _ i _ => sz - (intOf i).toNat)
  case atStart => exact ⟨0, 0, fun _ => 0, fun _ _ => false, by omega, by simp [Lib.hid], rfl, RowsOn.nil _ _ _ _ _, Below.refl _ _, fun y hy => by omega⟩
  case round =>
    obtain ⟨wo, rfl⟩ : ∃ wo : World, wo = wr := ⟨_, rfl⟩
    obtain ⟨k, p, R2, B, hk, HP, rfl, HR, HBo, HF⟩ := hrel
    by_cases hlt : k < hd
    · have hp1 : p + wd ≤ sz := by
        have e1 := HP.out
        have e2 := HSZ.out
        have := Nat.mul_le_mul_right wd (show k + 1 ≤ hd by omega)
        rw [Nat.add_mul, Nat.one_mul, Nat.mul_comm hd] at this
        omega
      have J0 : (p : Int) < (sz : Int) := by omega
      go_wp2
      have hs0 : wo.heap.size < (wo.alloc (.cells (madeCells #[.bool false] wd) 4)).heap.size := by simp
      have hrow0 := World.rowIs_made wo (.bool false) wd 4
      have HA := Lib.hid (show (wo.alloc (.cells (madeCells #[.bool false] wd) 4)) = _ from rfl)
      generalize hw3 : wo.alloc (.cells (madeCells #[.bool false] wd) 4) = w3 at hs0 hrow0 ⊢
      have HW3 := Lib.hid hw3
      generalize hgg : wo.heap.size = gg at hs0 hrow0 HW3 ⊢
      have HG := Lib.hid hgg
      clear hw3 hgg HA
      have hbs : w2.heap.size ≤ gg := by have := HBo.out.size; have := HG.out; omega
      go_loopw [78] (fun x wr => ∃ (j : Nat) (f : Nat → Bool), j ≤ wd ∧ x = .int .i64 (j : Int) ∧ Only gg w3 wr ∧ wr.rowIs gg 4 wd (fun x => .bool (f x)) ∧ Hid (∀ x, x < j → f x = decide (gr (p + x) = 0))) (fun x _ => wd - (intOf x).toNat)
      case atStart => exact ⟨0, fun _ => false, by omega, rfl, Only.refl _ _, hrow0, fun x hx => by omega⟩
      case round =>
        obtain ⟨j, f, hj, rfl, ho, hrow, HFj⟩ := hrel
        by_cases hlt2 : j < wd
        · have X0 : wr.cell? ⟨gv, p + j, none⟩ = some (.int .u8 (gr (p + j))) := by
            rw [World.cell?_of_block (w := w3) (ho.block _ (by show gv ≠ _; omega)), ← HW3.out, World.cell?_of_block (w := wo) (Below.heap_alloc _ _ _ (by show gv < _; have := HG.out; omega)), HBo.out.cell (by exact hgl)]
            exact HBy.out.cell (by omega)
          have X1 := hrow.cell hlt2
          have F1 := hrow.frozen j
          have HO := Lib.hid ho
          have HRow := Lib.hid hrow
          have I1 : (j : Int) < (wd : Int) := by omega
          have I0 : 0 ≤ (j : Int) := by omega
          have I3 : (p : Int) + (j : Int) < (sz : Int) := by omega
          have I4 : 0 ≤ (p : Int) + (j : Int) := by omega
          have I5 : ((p : Int) + (j : Int)).toNat = p + j := by omega
          have HD : Hid (gr (p + j) = gr (p + j)) := rfl
          clear ho hrow
          rcases HGR2.out (p + j) with hd0 | hd0 <;> rw [hd0] at X0
          · have HD0 := Lib.hid hd0
            clear hd0
            go_wp2
            go_roundw
            case rel => exact ⟨j + 1, _, by omega, by go_num, HO.out.setCell rfl _, HRow.out.setb j _, fun x hx => by
              by_cases e : x = j
              · subst e; rw [HD0.out]; simp
              · simp only [e, if_false]; exact HFj.out x (by omega)⟩
            case measure => simp [intOf]; omega
          · have HD0 := Lib.hid hd0
            clear hd0
            go_wp2
            go_roundw
            case rel => exact ⟨j + 1, _, by omega, by go_num, HO.out.setCell rfl _, HRow.out.setb j _, fun x hx => by
              by_cases e : x = j
              · subst e; rw [HD0.out]; simp
              · simp only [e, if_false]; exact HFj.out x (by omega)⟩
            case measure => simp [intOf]; omega
        · obtain rfl : wd = j := by omega
          have hbg : Below gg wo wr := (show Below gg wo w3 by rw [← HW3.out]; exact (Below.refl _ _).alloc (by rw [HG.out]; exact Nat.le_refl _) _).trans (ho.below (Nat.le_refl _))
          have hown := ((HR.out.after (by rw [HG.out]; exact hbg)).1).alloc (.cells #[.slice (some ⟨gg, 0, none⟩) wd wd] 44)
          have hwr : w2.heap.size ≤ wr.heap.size := by have := hbg.size; have := HG.out; omega
          go_wp2_with (at_builtin; go_must (refine wpList_append_own _ rfl _ _ 40 rfl w2.heap.size 44 iF (.slice none 0 0) 1 24 Try.underlying40 hi hz0 hz1 hz2 rfl (by decide) _ _ _ rfl hown ⟨wr.heap.size, 0, none⟩ 1 1 [.slice (some ⟨gg, 0, none⟩) wd wd] rfl rfl ?d1 ?d2 ?d3 ?d4 ?d5 ?_))
          case d1 =>
            intro i u hu
            match i, hu with
            | 0, hu => simp at hu; subst hu; exact cell_at_cells (blk_new _ _) (by rfl)
          case d2 => intro u hu; simp at hu; subst hu; rfl
          case d3 => unfold maxLen; omega
          case d4 => omega
          case d5 => simp; omega
          intro v' w4 hown' hgrow _
          have hnext := HR.out.next HG.out hbs hbg hrow hown' hgrow
          have hb4 : Below w2.heap.size w2 w4 := ((HBo.out.trans (hbg.mono hbs)).alloc hwr _).grown hgrow (by simp; omega) (fun k hk => (HR.out.1.lt k hk).1)
          have HN := Lib.hid hnext
          have HB4 := Lib.hid hb4
          clear hnext hb4 hown' hgrow hown hbg
          go_wp2
          go_roundw
          case rel => exact ⟨k + 1, p + wd, _, _, by omega, by show p + wd = (k + 1) * wd; rw [HP.out, Nat.add_mul, Nat.one_mul], by go_num, HN.out, HB4.out, fun y hy x hx => by
            by_cases e : y = k
            · subst e; simp only [if_true]; rw [HFj.out x hx, HP.out]
            · simp only [e, if_false]; exact HF.out y (by omega) x hx⟩
          case measure => simp [intOf]; omega
    · obtain rfl : hd = k := by omega
      have hp1 : p = sz := by rw [HP.out, HSZ.out, Nat.mul_comm]
      subst hp1
      have hgo := HR.out.grid (by omega)
      have hrg : Grid wo _ hd wd (fun y x => decide (gr (y * wd + x) = 0)) := (hgo.grid).congr fun y hy x hx => HF.out y hy x hx
      have HRg := Lib.hid hrg
      have HM := Lib.hid (HGr2.out.below HBo.out)
      have hx0 := (HBo.out.cell (cell_lt HX2.out)).trans HX2.out
      have HX0 := Lib.hid hx0
      have HBa := Lib.hid (HB2.out.trans (HBo.out.mono hs2))
      have hsa := HBa.out.size
      clear hgo hrg hx0 HR HF HGr2 HX2 HB2 HBo M1 HBy HMk HP hz0 hz1 hz2 hi
      go_wp2_with (fail)
      refine (grid_calls g c H W _ _ _ (by omega) HX0.out).mono ?_
      rintro e w5 ⟨rfl, hb5⟩
      have HRg5 := Lib.hid (HRg.out.below hb5)
      have HM5 := Lib.hid (HM.out.below hb5)
      have HX5 := Lib.hid ((hb5.cell (cell_lt HX0.out)).trans HX0.out)
      have HB5 := Lib.hid (HBa.out.trans (hb5.mono hsa))
      have hs5 := HB5.out.size
      clear hb5 HRg HM HX0 HBa
      unfold gridQ Q8.vals
      dsimp only
      go_wp2
      obtain ⟨h6a, h6b, hs6, hb6⟩ := blk2 w5 (.cells #[.float .f64 f0, .float .f64 f0, .float .f64 (ofI (W : Int)), .float .f64 f0, .float .f64 (ofI (W : Int)), .float .f64 (ofI (H : Int)), .float .f64 f0, .float .f64 (ofI (H : Int))] 27) (.cells #[.float .f64 0, .float .f64 0, .float .f64 0, .float .f64 0, .float .f64 0, .float .f64 0, .float .f64 0, .float .f64 0] 27)
      generalize (w5.alloc (.cells #[.float .f64 f0, .float .f64 f0, .float .f64 (ofI (W : Int)), .float .f64 f0, .float .f64 (ofI (W : Int)), .float .f64 (ofI (H : Int)), .float .f64 f0, .float .f64 (ofI (H : Int))] 27)).alloc (.cells #[.float .f64 0, .float .f64 0, .float .f64 0, .float .f64 0, .float .f64 0, .float .f64 0, .float .f64 0, .float .f64 0] 27) = w6 at *
      obtain ⟨X, hXd⟩ : ∃ X : Nat → Nat, X = fun i => corW l s (gx W i) := ⟨_, rfl⟩
      obtain ⟨Y, hYd⟩ : ∃ Y : Nat → Nat, Y = fun i => corW t s (gy H i) := ⟨_, rfl⟩
      obtain ⟨XF, hFd⟩ : ∃ XF : Nat → Nat, XF = fun i => farW l s (gx W i) wd := ⟨_, rfl⟩
      have hCX : ∀ i, fmul (ofI (s : Int)) (gx W i) = some (mulW s (gx W i)) ∧ fadd (ofI (l : Int)) (mulW s (gx W i)) = some (X i) ∧ fadd (X i) (ofI ((wd : Int) + 3)) = some (XF i) := fun i => by
        obtain ⟨r1, r2, _, r4, _⟩ := cor_spec l s _ wd _ (gx_wh W i hW1) hl1 hs1 hwd1
        rw [hXd, hFd]; exact ⟨r1, r2, r4⟩
      have hCY : ∀ i, fmul (ofI (s : Int)) (gy H i) = some (mulW s (gy H i)) ∧ fadd (ofI (t : Int)) (mulW s (gy H i)) = some (Y i) := fun i => by
        obtain ⟨r1, r2, _⟩ := cor_spec t s _ wd _ (gy_wh H i hH1) ht1 hs1 hwd1
        rw [hYd]; exact ⟨r1, r2⟩
      have HXd := Lib.hid hXd
      have HYd := Lib.hid hYd
      have HFd := Lib.hid hFd
      have HCX := Lib.hid hCX
      have HCY := Lib.hid hCY
      have hg6 : Box w6 w5.heap.size (gx W) (gy H) := row_grid h6a
      have hrow6 := row_zero h6b X Y
      have HG6 := Lib.hid hg6
      have HRow6 := Lib.hid hrow6
      have HB6 := Lib.hid hb6
      have HS6 := Lib.hid hs6
      clear h6a h6b hs6 hb6 hrow6 hXd hYd hFd hCX hCY hg6
      go_loopw [98] (fun i wr => ∃ k : Nat, k ≤ 4 ∧ i = .int .i64 (k : Int) ∧ Hid (Only (w5.heap.size + 1) w6 wr) ∧ Hid (wr.rowIs (w5.heap.size + 1) 27 8 (fun j => fv (if j < 2 * k then xy X Y j else 0)))) (fun i _ => 4 - (intOf i).toNat)
      case atStart => exact ⟨0, by omega, rfl, Only.refl _ _, HRow6⟩
      case round =>
        obtain ⟨k, hk, rfl, HO, HRow⟩ := hrel
        have HGk : Hid (Box wr w5.heap.size (gx W) (gy H)) := HG6.out.of_block (HO.out.block _ (by omega))
        by_cases hlt : k < 4
        · obtain ⟨C1, C2⟩ := HGk.out.pt hlt
          have X1 := HRow.out.cell (i := k * 2) (by omega)
          have X2 := HRow.out.cell (i := k * 2 + 1) (by omega)
          have F1 := HRow.out.frozen (k * 2)
          have F2 := HRow.out.frozen (k * 2 + 1)
          obtain ⟨r1, r2, _⟩ := HCX.out k
          obtain ⟨r3, r4⟩ := HCY.out k
          have R1 := fun t w => run_float_arith (P := Try.prog) w .mul t .f64 (ofI (s : Int)) (gx W k) _ r1
          have R2 := fun t w => run_float_arith (P := Try.prog) w .add t .f64 (ofI (l : Int)) _ _ r2
          have R3 := fun t w => run_float_arith (P := Try.prog) w .mul t .f64 (ofI (s : Int)) (gy H k) _ r3
          have R4 := fun tt w => run_float_arith (P := Try.prog) w .add tt .f64 (ofI (t : Int)) _ _ r4
          have J0 : (k : Int) < 4 := by omega
          have J1 : 0 ≤ (k : Int) := by omega
          clear r1 r2 r3 r4
          go_wp2
          refine wp_region_fast 101 23 (by kernel_rfl) (by kernel_rfl) (fun ops K hK => ?_)
          simp only [List.take_succ_cons, List.take_zero]
          repeat still_step
          refine wpStill_nil (hK _ ?_)
          clear hK
          simp only [List.drop_succ_cons, List.drop_zero]
          go_wp2
          go_roundw
          case rel => exact ⟨k + 1, by omega, by go_num, ((HO.out.setCell rfl _).setCell rfl _).drew, (row_two (k := k) (X := X) (Y := Y) HRow.out).drew⟩
          case measure => simp [intOf]; omega
        · obtain rfl : k = 4 := by omega
          have hb7 : Below w5.heap.size w5 wr := HB6.out.trans (HO.out.below (by omega))
          have hs7 : wr.heap.size = w5.heap.size + 2 := HO.out.size.trans HS6.out
          have hg2 : Box wr (w5.heap.size + 1) X Y := box_all HRow.out
          have HRg7 := Lib.hid (HRg5.out.below hb7)
          have HM7 := Lib.hid (HM5.out.below hb7)
          have hx7 := (hb7.cell (cell_lt HX5.out)).trans HX5.out
          have HX7 := Lib.hid hx7
          have HB7 := Lib.hid (HB5.out.trans (hb7.mono hs5))
          have hg1 := HGk.out
          have HG1 := Lib.hid hg1
          have HG2 := Lib.hid hg2
          have hgw := cell_lt hx7
          have hs7a : w5.heap.size + 1 < wr.heap.size := by omega
          have hs7b : w.heap.size ≤ wr.heap.size := by omega
          clear hb7 hs7 HRow HGk HG6 HRow6 HO HB6 HS6 HRg5 HM5 HX5 HB5 hs5
          generalize w5.heap.size = b1 at *
          have HCall := Lib.hid (samp_in _ W H s l t wd hd 0 H W F F gr X Y wr.drew HGR.out HWD.out.1 HWD.out.2 (by omega) ⟨by omega, hW1⟩ ⟨by omega, hH1⟩ ⟨hs0, hs1⟩ hl1 ht1 ⟨by omega, hwd1⟩ ⟨by omega, hhd1⟩ rfl
            (fun i hi => by rw [HXd.out, Nat.add_zero, Nat.mod_eq_of_lt hi]) (fun i hi => by rw [HYd.out, Nat.add_zero, Nat.mod_eq_of_lt hi]) (HRg7.out.below ((Below.refl _ _).drew)))
          unfold q8 Q8.vals at HCall
          dsimp only at HCall
          have ca0 : wr.cell? ⟨b1, 0, none⟩ = some (fv (xy (gx W) (gy H) 0)) := hg1.at_ 0 (by omega)
          have ca1 : wr.cell? ⟨b1, 1, none⟩ = some (fv (xy (gx W) (gy H) 1)) := hg1.at_ 1 (by omega)
          have ca2 : wr.cell? ⟨b1, 2, none⟩ = some (fv (xy (gx W) (gy H) 2)) := hg1.at_ 2 (by omega)
          have ca3 : wr.cell? ⟨b1, 3, none⟩ = some (fv (xy (gx W) (gy H) 3)) := hg1.at_ 3 (by omega)
          have ca4 : wr.cell? ⟨b1, 4, none⟩ = some (fv (xy (gx W) (gy H) 4)) := hg1.at_ 4 (by omega)
          have ca5 : wr.cell? ⟨b1, 5, none⟩ = some (fv (xy (gx W) (gy H) 5)) := hg1.at_ 5 (by omega)
          have ca6 : wr.cell? ⟨b1, 6, none⟩ = some (fv (xy (gx W) (gy H) 6)) := hg1.at_ 6 (by omega)
          have ca7 : wr.cell? ⟨b1, 7, none⟩ = some (fv (xy (gx W) (gy H) 7)) := hg1.at_ 7 (by omega)
          have cb0 : wr.cell? ⟨(b1 + 1), 0, none⟩ = some (fv (xy X Y 0)) := hg2.at_ 0 (by omega)
          have cb1 : wr.cell? ⟨(b1 + 1), 1, none⟩ = some (fv (xy X Y 1)) := hg2.at_ 1 (by omega)
          have cb2 : wr.cell? ⟨(b1 + 1), 2, none⟩ = some (fv (xy X Y 2)) := hg2.at_ 2 (by omega)
          have cb3 : wr.cell? ⟨(b1 + 1), 3, none⟩ = some (fv (xy X Y 3)) := hg2.at_ 3 (by omega)
          have cb4 : wr.cell? ⟨(b1 + 1), 4, none⟩ = some (fv (xy X Y 4)) := hg2.at_ 4 (by omega)
          have cb5 : wr.cell? ⟨(b1 + 1), 5, none⟩ = some (fv (xy X Y 5)) := hg2.at_ 5 (by omega)
          have cb6 : wr.cell? ⟨(b1 + 1), 6, none⟩ = some (fv (xy X Y 6)) := hg2.at_ 6 (by omega)
          have cb7 : wr.cell? ⟨(b1 + 1), 7, none⟩ = some (fv (xy X Y 7)) := hg2.at_ 7 (by omega)
          clear hg1 hg2
          have J0 : (0 : Int) < (H : Int) := by omega
          have J0n : 0 < H := by omega
          have J0z : ¬ H = 0 := by omega
          go_wp2
          go_region_held3 (fun w' => w'.cell? ⟨g, 0, none⟩ = some (.slice (some ⟨R 0, 0, none⟩) W W) ∧ w'.cell? ⟨b1, 0, none⟩ = some (fv (xy (gx W) (gy H) 0)) ∧ w'.cell? ⟨b1, 1, none⟩ = some (fv (xy (gx W) (gy H) 1)) ∧ w'.cell? ⟨b1, 2, none⟩ = some (fv (xy (gx W) (gy H) 2)) ∧ w'.cell? ⟨b1, 3, none⟩ = some (fv (xy (gx W) (gy H) 3)) ∧ w'.cell? ⟨b1, 4, none⟩ = some (fv (xy (gx W) (gy H) 4)) ∧ w'.cell? ⟨b1, 5, none⟩ = some (fv (xy (gx W) (gy H) 5)) ∧ w'.cell? ⟨b1, 6, none⟩ = some (fv (xy (gx W) (gy H) 6)) ∧ w'.cell? ⟨b1, 7, none⟩ = some (fv (xy (gx W) (gy H) 7)) ∧ w'.cell? ⟨b1 + 1, 0, none⟩ = some (fv (xy X Y 0)) ∧ w'.cell? ⟨b1 + 1, 1, none⟩ = some (fv (xy X Y 1)) ∧ w'.cell? ⟨b1 + 1, 2, none⟩ = some (fv (xy X Y 2)) ∧ w'.cell? ⟨b1 + 1, 3, none⟩ = some (fv (xy X Y 3)) ∧ w'.cell? ⟨b1 + 1, 4, none⟩ = some (fv (xy X Y 4)) ∧ w'.cell? ⟨b1 + 1, 5, none⟩ = some (fv (xy X Y 5)) ∧ w'.cell? ⟨b1 + 1, 6, none⟩ = some (fv (xy X Y 6)) ∧ w'.cell? ⟨b1 + 1, 7, none⟩ = some (fv (xy X Y 7))) (first | exact ⟨hx7, ca0, ca1, ca2, ca3, ca4, ca5, ca6, ca7, cb0, cb1, cb2, cb3, cb4, cb5, cb6, cb7⟩ | exact ⟨(hb8'.cell (by show g < wr.heap.size; omega)).trans hx7, (hb8'.cell (by show b1 < wr.heap.size; omega)).trans ca0, (hb8'.cell (by show b1 < wr.heap.size; omega)).trans ca1, (hb8'.cell (by show b1 < wr.heap.size; omega)).trans ca2, (hb8'.cell (by show b1 < wr.heap.size; omega)).trans ca3, (hb8'.cell (by show b1 < wr.heap.size; omega)).trans ca4, (hb8'.cell (by show b1 < wr.heap.size; omega)).trans ca5, (hb8'.cell (by show b1 < wr.heap.size; omega)).trans ca6, (hb8'.cell (by show b1 < wr.heap.size; omega)).trans ca7, (hb8'.cell (by show b1 + 1 < wr.heap.size; omega)).trans cb0, (hb8'.cell (by show b1 + 1 < wr.heap.size; omega)).trans cb1, (hb8'.cell (by show b1 + 1 < wr.heap.size; omega)).trans cb2, (hb8'.cell (by show b1 + 1 < wr.heap.size; omega)).trans cb3, (hb8'.cell (by show b1 + 1 < wr.heap.size; omega)).trans cb4, (hb8'.cell (by show b1 + 1 < wr.heap.size; omega)).trans cb5, (hb8'.cell (by show b1 + 1 < wr.heap.size; omega)).trans cb6, (hb8'.cell (by show b1 + 1 < wr.heap.size; omega)).trans cb7⟩) ((go_at_call 19; refine HCall.out.mono ?_; rintro e w8 ⟨v8, rfl, hg8, hb8'⟩))
          have hb8 : Below wr.heap.size wr w8 := ((Below.refl _ _).drew).trans hb8'
          have HG8 := Lib.hid hg8
          have HRg8 := Lib.hid (HRg7.out.below hb8)
          have HM8 := Lib.hid (HM7.out.below hb8)
          have hx8 := (hb8.cell (cell_lt HX7.out)).trans HX7.out
          have HX8 := Lib.hid hx8
          have HG81 := Lib.hid (HG1.out.below hb8)
          have HG82 := Lib.hid (HG2.out.below hb8)
          have HB8 := Lib.hid (HB7.out.trans (hb8.mono hs7b))
          have hs8 := hb8.size
          clear hg8 hb8 hb8' hx7 hx8 HRg7 HM7 HX7 HG1 HG2 HB7 HCall ca0 ca1 ca2 ca3 ca4 ca5 ca6 ca7 cb0 cb1 cb2 cb3 cb4 cb5 cb6 cb7
          go_wp2_with (go_at_call 20; refine (alike_calls _ _ W H F F _ (by omega) (by omega) HG8.out HM8.out (fun _ _ _ _ => rfl)).mono ?_)
          rintro e w9 ⟨rfl, m9, rfl⟩
          have HD9 := Lib.hid (below_drewN (Below.refl w8.heap.size w8) m9)
          obtain ⟨TH, TW, TF, hT⟩ : ∃ TH TW TF, turns H W F ((4 - q) % 4) = (TH, TW, TF) := ⟨_, _, _, rfl⟩
          obtain ⟨⟨t1, t2⟩, t3, t4⟩ := turns_bd H W 15 F ⟨by omega, hH1⟩ ⟨by omega, hW1⟩ ((4 - q) % 4)
          have HTu := Lib.hid (turn_calls _ H W ((4 - q) % 4) (4 - (q : Int)) F _ (HM8.out.below HD9.out) ⟨by omega, by omega⟩ ⟨by omega, by omega⟩ ⟨by omega, by omega⟩ (by omega))
          rw [hT] at t1 t2 t3 t4 HTu
          dsimp only at t1 t2 t3 t4 HTu
          have HT := Lib.hid hT
          clear hT HG8
          go_wp2_with (go_at_call 21; refine HTu.out.mono ?_)
          rintro e w10 ⟨v10, rfl, hg10, hb10⟩
          obtain ⟨g4, c4, rfl, hr4⟩ := hg10
          obtain ⟨u4, hx10, r4, k4, rfl, _⟩ := hr4 0 (by omega)
          have hg10 : Grid w10 (.slice (some ⟨g4, 0, none⟩) TH c4) TH TW TF := ⟨g4, c4, rfl, hr4⟩
          have HT10 := Lib.hid hg10
          have HX10 := Lib.hid hx10
          have hb810 := HD9.out.trans (hb10.mono (Nat.le_refl _))
          have HB810 := Lib.hid hb810
          clear hg10 hx10 hr4 hb10 hb810 HTu HD9
          go_wp2_with (fail)
          refine (grid_calls g4 c4 TH TW _ _ _ (by omega) HX10.out).mono ?_
          rintro e w11 ⟨rfl, hb11⟩
          have hb811 : Below w8.heap.size w8 w11 := HB810.out.trans (hb11.mono HB810.out.size)
          have HT11 := Lib.hid (HT10.out.below hb11)
          have HX11 := Lib.hid ((hb11.cell (cell_lt HX10.out)).trans HX10.out)
          have HRg11 := Lib.hid (HRg8.out.below hb811)
          have HM11 := Lib.hid (HM8.out.below hb811)
          have HM0 := Lib.hid ((hb811.cell (cell_lt HX8.out)).trans HX8.out)
          have HG111 := Lib.hid (HG81.out.below hb811)
          have HG112 := Lib.hid (HG82.out.below hb811)
          have HB11 := Lib.hid (HB8.out.trans (hb811.mono HB8.out.size))
          have hs11 := hb811.size
          clear hb11 hb811 HT10 HX10 HRg8 HM8 HX8 HG81 HG82 HB8 HB810
          unfold gridQ Q8.vals
          dsimp only
          go_wp2
          obtain ⟨h12a, h12b, h12c, hs12, hb12⟩ := blk3 w11 (.cells #[.float .f64 f0, .float .f64 f0, .float .f64 (ofI (TW : Int)), .float .f64 f0, .float .f64 (ofI (TW : Int)), .float .f64 (ofI (TH : Int)), .float .f64 f0, .float .f64 (ofI (TH : Int))] 27) (.cells #[.float .f64 0, .float .f64 0, .float .f64 0, .float .f64 0, .float .f64 0, .float .f64 0, .float .f64 0, .float .f64 0] 27) (.cells #[.float .f64 0, .float .f64 0, .float .f64 0, .float .f64 0, .float .f64 0, .float .f64 0, .float .f64 0, .float .f64 0] 27)
          generalize ((w11.alloc (.cells #[.float .f64 f0, .float .f64 f0, .float .f64 (ofI (TW : Int)), .float .f64 f0, .float .f64 (ofI (TW : Int)), .float .f64 (ofI (TH : Int)), .float .f64 f0, .float .f64 (ofI (TH : Int))] 27)).alloc (.cells #[.float .f64 0, .float .f64 0, .float .f64 0, .float .f64 0, .float .f64 0, .float .f64 0, .float .f64 0, .float .f64 0] 27)).alloc (.cells #[.float .f64 0, .float .f64 0, .float .f64 0, .float .f64 0, .float .f64 0, .float .f64 0, .float .f64 0, .float .f64 0] 27) = w12 at *
          have hg12 : Box w12 w11.heap.size (gx TW) (gy TH) := row_grid h12a
          obtain ⟨X4, hX4⟩ : ∃ X4 : Nat → Nat, X4 = fun i => X ((i + q) % 4) := ⟨_, rfl⟩
          obtain ⟨Y4, hY4⟩ : ∃ Y4 : Nat → Nat, Y4 = fun i => Y ((i + q) % 4) := ⟨_, rfl⟩
          have HX4 := Lib.hid hX4
          have HY4 := Lib.hid hY4
          have hr12 := row_zero h12b X4 Y4
          have hr12' := row_zero h12c XF Y
          have HG123 := Lib.hid hg12
          have HR12 := Lib.hid hr12
          have HR12' := Lib.hid hr12'
          have HB12 := Lib.hid hb12
          have HS12 := Lib.hid hs12
          have hl4 := cell_lt HX11.out
          have hl5 : b1 + 1 < w11.heap.size := by omega
          have hl6 : g < w11.heap.size := by omega
          have hl7 : w.heap.size ≤ w11.heap.size := by omega
          clear h12a h12b h12c hs12 hb12 hg12 hr12 hr12' hX4 hY4
          go_loopw [155] (fun i wr => ∃ k : Nat, k ≤ 4 ∧ i = .int .i64 (k : Int) ∧ Hid (Below (w11.heap.size + 1) w12 wr) ∧ Hid (wr.rowIs (w11.heap.size + 1) 27 8 (fun j => fv (if j < 2 * k then xy X4 Y4 j else 0))) ∧ Hid (wr.rowIs (w11.heap.size + 1 + 1) 27 8 (fun j => fv (if j < 2 * k then xy XF Y j else 0)))) (fun i _ => 4 - (intOf i).toNat)
          case atStart => exact ⟨0, by omega, rfl, Below.refl _ _, HR12, HR12'⟩
          case round =>
            obtain ⟨k, hk, rfl, HBe, HRa, HRb⟩ := hrel
            by_cases hlt : k < 4
            · have HBr := Lib.hid (HB12.out.trans (HBe.out.mono (by omega)))
              have HBx := Lib.hid (HG112.out.below HBr.out)
              obtain ⟨C3, C4⟩ := HBx.out.pt hlt
              obtain ⟨m, hm⟩ : ∃ m, m = (k + q) % 4 := ⟨_, rfl⟩
              have hm4 : m < 4 := by omega
              obtain ⟨C1, C2⟩ := HBx.out.pt hm4
              have e1 : X m = X4 k := by rw [HX4.out, hm]
              have e2 : Y m = Y4 k := by rw [HY4.out, hm]
              rw [e1] at C1
              rw [e2] at C2
              have X1 := HRa.out.cell (i := k * 2) (by omega)
              have X2 := HRa.out.cell (i := k * 2 + 1) (by omega)
              have F1 := HRa.out.frozen (k * 2)
              have F2 := HRa.out.frozen (k * 2 + 1)
              have J0 : (k : Int) < 4 := by omega
              have J1 : 0 ≤ (k : Int) := by omega
              have J2 : (m : Int) < 4 := by omega
              have J3 : 0 ≤ (m : Int) := by omega
              have D1 : ((k : Int) + (q : Int)).tmod 4 = (m : Int) := by rw [Int.tmod_eq_emod_of_nonneg (by omega)]; omega
              have D2 : ((k : Int) + (q : Int)) % 4 = (m : Int) := by omega
              clear e1 e2 hm
              go_wp2
              have hra := row_two (k := k) (X := X4) (Y := Y4) HRa.out
              have hrb : ((wr.setCell ⟨w11.heap.size + 1, k * 2, none⟩ (fv (X4 k))).setCell ⟨w11.heap.size + 1, k * 2 + 1, none⟩ (fv (Y4 k))).rowIs (w11.heap.size + 1 + 1) 27 8 (fun j => fv (if j < 2 * k then xy XF Y j else 0)) := (HRb.out.setOther (a := ⟨w11.heap.size + 1, k * 2, none⟩) (by show w11.heap.size + 1 + 1 ≠ w11.heap.size + 1; omega) _).setOther (a := ⟨w11.heap.size + 1, k * 2 + 1, none⟩) (by show w11.heap.size + 1 + 1 ≠ w11.heap.size + 1; omega) _
              have hba : Below (w11.heap.size + 1) w12 ((wr.setCell ⟨w11.heap.size + 1, k * 2, none⟩ (fv (X4 k))).setCell ⟨w11.heap.size + 1, k * 2 + 1, none⟩ (fv (Y4 k))) := (HBe.out.setCell (p := ⟨w11.heap.size + 1, k * 2, none⟩) (Nat.le_refl _) _).setCell (p := ⟨w11.heap.size + 1, k * 2 + 1, none⟩) (Nat.le_refl _) _
              have hbx : Box ((wr.setCell ⟨w11.heap.size + 1, k * 2, none⟩ (fv (X4 k))).setCell ⟨w11.heap.size + 1, k * 2 + 1, none⟩ (fv (Y4 k))) (b1 + 1) X Y := HG112.out.below (HB12.out.trans (hba.mono (by omega)))
              clear X1 X2 F1 F2 C1 C2 C3 C4 D1 D2 J2 J3
              generalize (wr.setCell ⟨w11.heap.size + 1, k * 2, none⟩ (fv (X4 k))).setCell ⟨w11.heap.size + 1, k * 2 + 1, none⟩ (fv (Y4 k)) = wa at *
              obtain ⟨C3, C4⟩ := hbx.pt hlt
              have X1 := hrb.cell (i := k * 2) (by omega)
              have X2 := hrb.cell (i := k * 2 + 1) (by omega)
              have F1 := hrb.frozen (k * 2)
              have F2 := hrb.frozen (k * 2 + 1)
              obtain ⟨_, _, r5⟩ := HCX.out k
              have W3 : IntKind.i64.wrap ((wd : Int) + 3) = (wd : Int) + 3 := IntWalk.i64_in _ ⟨by omega, by omega⟩
              have R5 := fun t w => run_float_arith (P := Try.prog) w .add t .f64 (X k) _ _ r5
              have Hra := Lib.hid hra
              have Hrb := Lib.hid hrb
              have Hba := Lib.hid hba
              clear hra hrb hba hbx r5
              refine wp_region_fast 166 15 (by kernel_rfl) (by kernel_rfl) (fun ops K hK => ?_)
              simp only [List.take_succ_cons, List.take_zero]
              repeat still_step
              refine wpStill_nil (hK _ ?_)
              clear hK
              simp only [List.drop_succ_cons, List.drop_zero]
              go_wp2
              go_roundw
              case rel => exact ⟨k + 1, by omega, by go_num, ((Hba.out.setCell (p := ⟨w11.heap.size + 1 + 1, k * 2, none⟩) (by show w11.heap.size + 1 ≤ w11.heap.size + 1 + 1; omega) _).setCell (p := ⟨w11.heap.size + 1 + 1, k * 2 + 1, none⟩) (by show w11.heap.size + 1 ≤ w11.heap.size + 1 + 1; omega) _).drew, ((Hra.out.setOther (a := ⟨w11.heap.size + 1 + 1, k * 2, none⟩) (by show w11.heap.size + 1 ≠ w11.heap.size + 1 + 1; omega) _).setOther (a := ⟨w11.heap.size + 1 + 1, k * 2 + 1, none⟩) (by show w11.heap.size + 1 ≠ w11.heap.size + 1 + 1; omega) _).drew, (row_two (k := k) (X := XF) (Y := Y) Hrb.out).drew⟩
              case measure => simp [intOf]; omega
            · obtain rfl : k = 4 := by omega
              have hbr := HB12.out.trans (HBe.out.mono (by omega))
              have HBr := Lib.hid hbr
              have hg4 : Box wr w11.heap.size (gx TW) (gy TH) := HG123.out.of_block (HBe.out.block _ (by omega))
              have hg5 : Box wr (w11.heap.size + 1) X4 Y4 := box_all HRa.out
              have HG6 : Hid (Box wr (w11.heap.size + 1 + 1) XF Y) := box_all HRb.out
              have HG1 := Lib.hid (HG111.out.below hbr)
              have HRg13 := Lib.hid (HRg11.out.below hbr)
              have HM13 := Lib.hid (HM11.out.below hbr)
              have HT13 := Lib.hid (HT11.out.below hbr)
              have hx13 := (hbr.cell (cell_lt HX11.out)).trans HX11.out
              have HX13 := Lib.hid hx13
              have HM0' := Lib.hid ((hbr.cell (cell_lt HM0.out)).trans HM0.out)
              have hs13 : w11.heap.size + 3 ≤ wr.heap.size := by have := HBe.out.size; have := HS12.out; omega
              have HB13 := Lib.hid (HB11.out.trans (hbr.mono hl7))
              clear hbr
              have HCall := Lib.hid (samp_in _ W H s l t wd hd q TH TW F TF gr X4 Y4 wr.drew HGR.out HWD.out.1 HWD.out.2 hq1 ⟨by omega, hW1⟩ ⟨by omega, hH1⟩ ⟨hs0, hs1⟩ hl1 ht1 ⟨by omega, hwd1⟩ ⟨by omega, hhd1⟩ HT.out
                (fun i hi => by rw [HX4.out, HXd.out]) (fun i hi => by rw [HY4.out, HYd.out]) (HRg13.out.below ((Below.refl _ _).drew)))
              unfold q8 Q8.vals at HCall
              dsimp only at HCall
              have ca0 : wr.cell? ⟨w11.heap.size, 0, none⟩ = some (fv (xy (gx TW) (gy TH) 0)) := hg4.at_ 0 (by omega)
              have ca1 : wr.cell? ⟨w11.heap.size, 1, none⟩ = some (fv (xy (gx TW) (gy TH) 1)) := hg4.at_ 1 (by omega)
              have ca2 : wr.cell? ⟨w11.heap.size, 2, none⟩ = some (fv (xy (gx TW) (gy TH) 2)) := hg4.at_ 2 (by omega)
              have ca3 : wr.cell? ⟨w11.heap.size, 3, none⟩ = some (fv (xy (gx TW) (gy TH) 3)) := hg4.at_ 3 (by omega)
              have ca4 : wr.cell? ⟨w11.heap.size, 4, none⟩ = some (fv (xy (gx TW) (gy TH) 4)) := hg4.at_ 4 (by omega)
              have ca5 : wr.cell? ⟨w11.heap.size, 5, none⟩ = some (fv (xy (gx TW) (gy TH) 5)) := hg4.at_ 5 (by omega)
              have ca6 : wr.cell? ⟨w11.heap.size, 6, none⟩ = some (fv (xy (gx TW) (gy TH) 6)) := hg4.at_ 6 (by omega)
              have ca7 : wr.cell? ⟨w11.heap.size, 7, none⟩ = some (fv (xy (gx TW) (gy TH) 7)) := hg4.at_ 7 (by omega)
              have cb0 : wr.cell? ⟨(w11.heap.size + 1), 0, none⟩ = some (fv (xy X4 Y4 0)) := hg5.at_ 0 (by omega)
              have cb1 : wr.cell? ⟨(w11.heap.size + 1), 1, none⟩ = some (fv (xy X4 Y4 1)) := hg5.at_ 1 (by omega)
              have cb2 : wr.cell? ⟨(w11.heap.size + 1), 2, none⟩ = some (fv (xy X4 Y4 2)) := hg5.at_ 2 (by omega)
              have cb3 : wr.cell? ⟨(w11.heap.size + 1), 3, none⟩ = some (fv (xy X4 Y4 3)) := hg5.at_ 3 (by omega)
              have cb4 : wr.cell? ⟨(w11.heap.size + 1), 4, none⟩ = some (fv (xy X4 Y4 4)) := hg5.at_ 4 (by omega)
              have cb5 : wr.cell? ⟨(w11.heap.size + 1), 5, none⟩ = some (fv (xy X4 Y4 5)) := hg5.at_ 5 (by omega)
              have cb6 : wr.cell? ⟨(w11.heap.size + 1), 6, none⟩ = some (fv (xy X4 Y4 6)) := hg5.at_ 6 (by omega)
              have cb7 : wr.cell? ⟨(w11.heap.size + 1), 7, none⟩ = some (fv (xy X4 Y4 7)) := hg5.at_ 7 (by omega)
              have HG4 := Lib.hid hg4
              have HG5 := Lib.hid hg5
              clear hg4 hg5
              have J0t : (0 : Int) < (TH : Int) := by omega
              have J0n : 0 < TH := by omega
              have J0z : ¬ TH = 0 := by omega
              go_wp2
              go_region_held3 (fun w' => w'.cell? ⟨g4, 0, none⟩ = some (.slice (some ⟨r4, 0, none⟩) TW k4) ∧ w'.cell? ⟨w11.heap.size, 0, none⟩ = some (fv (xy (gx TW) (gy TH) 0)) ∧ w'.cell? ⟨w11.heap.size, 1, none⟩ = some (fv (xy (gx TW) (gy TH) 1)) ∧ w'.cell? ⟨w11.heap.size, 2, none⟩ = some (fv (xy (gx TW) (gy TH) 2)) ∧ w'.cell? ⟨w11.heap.size, 3, none⟩ = some (fv (xy (gx TW) (gy TH) 3)) ∧ w'.cell? ⟨w11.heap.size, 4, none⟩ = some (fv (xy (gx TW) (gy TH) 4)) ∧ w'.cell? ⟨w11.heap.size, 5, none⟩ = some (fv (xy (gx TW) (gy TH) 5)) ∧ w'.cell? ⟨w11.heap.size, 6, none⟩ = some (fv (xy (gx TW) (gy TH) 6)) ∧ w'.cell? ⟨w11.heap.size, 7, none⟩ = some (fv (xy (gx TW) (gy TH) 7)) ∧ w'.cell? ⟨w11.heap.size + 1, 0, none⟩ = some (fv (xy X4 Y4 0)) ∧ w'.cell? ⟨w11.heap.size + 1, 1, none⟩ = some (fv (xy X4 Y4 1)) ∧ w'.cell? ⟨w11.heap.size + 1, 2, none⟩ = some (fv (xy X4 Y4 2)) ∧ w'.cell? ⟨w11.heap.size + 1, 3, none⟩ = some (fv (xy X4 Y4 3)) ∧ w'.cell? ⟨w11.heap.size + 1, 4, none⟩ = some (fv (xy X4 Y4 4)) ∧ w'.cell? ⟨w11.heap.size + 1, 5, none⟩ = some (fv (xy X4 Y4 5)) ∧ w'.cell? ⟨w11.heap.size + 1, 6, none⟩ = some (fv (xy X4 Y4 6)) ∧ w'.cell? ⟨w11.heap.size + 1, 7, none⟩ = some (fv (xy X4 Y4 7))) (first | exact ⟨hx13, ca0, ca1, ca2, ca3, ca4, ca5, ca6, ca7, cb0, cb1, cb2, cb3, cb4, cb5, cb6, cb7⟩ | exact ⟨(hb14'.cell (by show g4 < wr.heap.size; omega)).trans hx13, (hb14'.cell (by show w11.heap.size < wr.heap.size; omega)).trans ca0, (hb14'.cell (by show w11.heap.size < wr.heap.size; omega)).trans ca1, (hb14'.cell (by show w11.heap.size < wr.heap.size; omega)).trans ca2, (hb14'.cell (by show w11.heap.size < wr.heap.size; omega)).trans ca3, (hb14'.cell (by show w11.heap.size < wr.heap.size; omega)).trans ca4, (hb14'.cell (by show w11.heap.size < wr.heap.size; omega)).trans ca5, (hb14'.cell (by show w11.heap.size < wr.heap.size; omega)).trans ca6, (hb14'.cell (by show w11.heap.size < wr.heap.size; omega)).trans ca7, (hb14'.cell (by show w11.heap.size + 1 < wr.heap.size; omega)).trans cb0, (hb14'.cell (by show w11.heap.size + 1 < wr.heap.size; omega)).trans cb1, (hb14'.cell (by show w11.heap.size + 1 < wr.heap.size; omega)).trans cb2, (hb14'.cell (by show w11.heap.size + 1 < wr.heap.size; omega)).trans cb3, (hb14'.cell (by show w11.heap.size + 1 < wr.heap.size; omega)).trans cb4, (hb14'.cell (by show w11.heap.size + 1 < wr.heap.size; omega)).trans cb5, (hb14'.cell (by show w11.heap.size + 1 < wr.heap.size; omega)).trans cb6, (hb14'.cell (by show w11.heap.size + 1 < wr.heap.size; omega)).trans cb7⟩) ((go_at_call 19; refine HCall.out.mono ?_; rintro e w14 ⟨v14, rfl, hg14, hb14'⟩))
              have hb14 : Below wr.heap.size wr w14 := ((Below.refl _ _).drew).trans hb14'
              have HG14 := Lib.hid hg14
              have HRg14 := Lib.hid (HRg13.out.below hb14)
              have HT14 := Lib.hid (HT13.out.below hb14)
              have hx14 := (hb14.cell (cell_lt HM0'.out)).trans HM0'.out
              have hg141 := HG1.out.below hb14
              have hg146 := HG6.out.below hb14
              have HB14 := Lib.hid (HB13.out.trans (hb14.mono (by omega)))
              have hs14 := hb14.size
              clear hg14 hb14 hb14' hx13 HRg13 HM13 HT13 HX13 HM0' HG1 HG6 HB13 HCall HG4 HG5 ca0 ca1 ca2 ca3 ca4 ca5 ca6 ca7 cb0 cb1 cb2 cb3 cb4 cb5 cb6 cb7 J0t J0n J0z
              have HCall := Lib.hid (samp_far _ W H s l t wd hd _ XF Y w14.drew ⟨by omega, hW1⟩ ⟨by omega, hH1⟩ ⟨hs0, hs1⟩ hl1 ht1 ⟨by omega, hwd1⟩ ⟨by omega, hhd1⟩
                (fun i hi => by rw [HFd.out]) (fun i hi => by rw [HYd.out]) (HRg14.out.below ((Below.refl _ _).drew)))
              unfold q8 Q8.vals at HCall
              dsimp only at HCall
              have ca0 : w14.cell? ⟨b1, 0, none⟩ = some (fv (xy (gx W) (gy H) 0)) := hg141.at_ 0 (by omega)
              have ca1 : w14.cell? ⟨b1, 1, none⟩ = some (fv (xy (gx W) (gy H) 1)) := hg141.at_ 1 (by omega)
              have ca2 : w14.cell? ⟨b1, 2, none⟩ = some (fv (xy (gx W) (gy H) 2)) := hg141.at_ 2 (by omega)
              have ca3 : w14.cell? ⟨b1, 3, none⟩ = some (fv (xy (gx W) (gy H) 3)) := hg141.at_ 3 (by omega)
              have ca4 : w14.cell? ⟨b1, 4, none⟩ = some (fv (xy (gx W) (gy H) 4)) := hg141.at_ 4 (by omega)
              have ca5 : w14.cell? ⟨b1, 5, none⟩ = some (fv (xy (gx W) (gy H) 5)) := hg141.at_ 5 (by omega)
              have ca6 : w14.cell? ⟨b1, 6, none⟩ = some (fv (xy (gx W) (gy H) 6)) := hg141.at_ 6 (by omega)
              have ca7 : w14.cell? ⟨b1, 7, none⟩ = some (fv (xy (gx W) (gy H) 7)) := hg141.at_ 7 (by omega)
              have cb0 : w14.cell? ⟨(w11.heap.size + 1 + 1), 0, none⟩ = some (fv (xy XF Y 0)) := hg146.at_ 0 (by omega)
              have cb1 : w14.cell? ⟨(w11.heap.size + 1 + 1), 1, none⟩ = some (fv (xy XF Y 1)) := hg146.at_ 1 (by omega)
              have cb2 : w14.cell? ⟨(w11.heap.size + 1 + 1), 2, none⟩ = some (fv (xy XF Y 2)) := hg146.at_ 2 (by omega)
              have cb3 : w14.cell? ⟨(w11.heap.size + 1 + 1), 3, none⟩ = some (fv (xy XF Y 3)) := hg146.at_ 3 (by omega)
              have cb4 : w14.cell? ⟨(w11.heap.size + 1 + 1), 4, none⟩ = some (fv (xy XF Y 4)) := hg146.at_ 4 (by omega)
              have cb5 : w14.cell? ⟨(w11.heap.size + 1 + 1), 5, none⟩ = some (fv (xy XF Y 5)) := hg146.at_ 5 (by omega)
              have cb6 : w14.cell? ⟨(w11.heap.size + 1 + 1), 6, none⟩ = some (fv (xy XF Y 6)) := hg146.at_ 6 (by omega)
              have cb7 : w14.cell? ⟨(w11.heap.size + 1 + 1), 7, none⟩ = some (fv (xy XF Y 7)) := hg146.at_ 7 (by omega)
              clear hg141 hg146
              have J0h : (0 : Int) < (H : Int) := by omega
              have J0n : 0 < H := by omega
              have J0z : ¬ H = 0 := by omega
              go_wp2
              go_region_held3 (fun w' => w'.cell? ⟨g, 0, none⟩ = some (.slice (some ⟨R 0, 0, none⟩) W W) ∧ w'.cell? ⟨b1, 0, none⟩ = some (fv (xy (gx W) (gy H) 0)) ∧ w'.cell? ⟨b1, 1, none⟩ = some (fv (xy (gx W) (gy H) 1)) ∧ w'.cell? ⟨b1, 2, none⟩ = some (fv (xy (gx W) (gy H) 2)) ∧ w'.cell? ⟨b1, 3, none⟩ = some (fv (xy (gx W) (gy H) 3)) ∧ w'.cell? ⟨b1, 4, none⟩ = some (fv (xy (gx W) (gy H) 4)) ∧ w'.cell? ⟨b1, 5, none⟩ = some (fv (xy (gx W) (gy H) 5)) ∧ w'.cell? ⟨b1, 6, none⟩ = some (fv (xy (gx W) (gy H) 6)) ∧ w'.cell? ⟨b1, 7, none⟩ = some (fv (xy (gx W) (gy H) 7)) ∧ w'.cell? ⟨w11.heap.size + 1 + 1, 0, none⟩ = some (fv (xy XF Y 0)) ∧ w'.cell? ⟨w11.heap.size + 1 + 1, 1, none⟩ = some (fv (xy XF Y 1)) ∧ w'.cell? ⟨w11.heap.size + 1 + 1, 2, none⟩ = some (fv (xy XF Y 2)) ∧ w'.cell? ⟨w11.heap.size + 1 + 1, 3, none⟩ = some (fv (xy XF Y 3)) ∧ w'.cell? ⟨w11.heap.size + 1 + 1, 4, none⟩ = some (fv (xy XF Y 4)) ∧ w'.cell? ⟨w11.heap.size + 1 + 1, 5, none⟩ = some (fv (xy XF Y 5)) ∧ w'.cell? ⟨w11.heap.size + 1 + 1, 6, none⟩ = some (fv (xy XF Y 6)) ∧ w'.cell? ⟨w11.heap.size + 1 + 1, 7, none⟩ = some (fv (xy XF Y 7))) (first | exact ⟨hx14, ca0, ca1, ca2, ca3, ca4, ca5, ca6, ca7, cb0, cb1, cb2, cb3, cb4, cb5, cb6, cb7⟩ | exact ⟨(hb15'.cell (by show g < w14.heap.size; omega)).trans hx14, (hb15'.cell (by show b1 < w14.heap.size; omega)).trans ca0, (hb15'.cell (by show b1 < w14.heap.size; omega)).trans ca1, (hb15'.cell (by show b1 < w14.heap.size; omega)).trans ca2, (hb15'.cell (by show b1 < w14.heap.size; omega)).trans ca3, (hb15'.cell (by show b1 < w14.heap.size; omega)).trans ca4, (hb15'.cell (by show b1 < w14.heap.size; omega)).trans ca5, (hb15'.cell (by show b1 < w14.heap.size; omega)).trans ca6, (hb15'.cell (by show b1 < w14.heap.size; omega)).trans ca7, (hb15'.cell (by show w11.heap.size + 1 + 1 < w14.heap.size; omega)).trans cb0, (hb15'.cell (by show w11.heap.size + 1 + 1 < w14.heap.size; omega)).trans cb1, (hb15'.cell (by show w11.heap.size + 1 + 1 < w14.heap.size; omega)).trans cb2, (hb15'.cell (by show w11.heap.size + 1 + 1 < w14.heap.size; omega)).trans cb3, (hb15'.cell (by show w11.heap.size + 1 + 1 < w14.heap.size; omega)).trans cb4, (hb15'.cell (by show w11.heap.size + 1 + 1 < w14.heap.size; omega)).trans cb5, (hb15'.cell (by show w11.heap.size + 1 + 1 < w14.heap.size; omega)).trans cb6, (hb15'.cell (by show w11.heap.size + 1 + 1 < w14.heap.size; omega)).trans cb7⟩) ((go_at_call 19; refine HCall.out.mono ?_; rintro e w15 ⟨v15, rfl, hb15'⟩))
              have hb15 : Below w14.heap.size w14 w15 := ((Below.refl _ _).drew).trans hb15'
              have HG15 := Lib.hid (HG14.out.below hb15)
              have HT15 := Lib.hid (HT14.out.below hb15)
              have HB15 := Lib.hid (HB14.out.trans (hb15.mono (by omega)))
              clear hb15 hb15' hx14 HCall ca0 ca1 ca2 ca3 ca4 ca5 ca6 ca7 cb0 cb1 cb2 cb3 cb4 cb5 cb6 cb7 J0h J0n J0z
              go_wp2_with (go_at_call 20; refine (alike_calls _ _ TW TH TF TF _ (by omega) (by omega) HG15.out HT15.out (fun _ _ _ _ => rfl)).mono ?_)
              rintro e w16 ⟨rfl, m16, rfl⟩
              go_wp2
              go_ret
              exact ⟨rfl, below_drewN HB15.out m16⟩

end Go.Proofs.Ytaadklfendegfaa
