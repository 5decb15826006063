/- The walk of ZXBinary with the binarizer by a histogram. -/
import Derived.Test.YtaadklfendegfaaBi
import Derived.Test.YtaadklfendegfaaGm
import Derived.Test.YtaadklfendegfaaRo
import Derived.Defers
import Derived.Recover
namespace Go.Proofs.Ytaadklfendegfaa
open Go.RowKit

/-- a picture of two grays, both seen in the middle of the four rows -/
def Seen2 (W H : Nat) (gr : Nat → Int) (dk lt : Int) : Prop :=
  0 ≤ dk ∧ dk + 64 ≤ lt ∧ lt ≤ 255 ∧ (∀ i, i < W * H → gr i = dk ∨ gr i = lt) ∧ ∃ kd xd kl xl : Nat, (1 ≤ kd ∧ kd < 5) ∧ (1 ≤ kl ∧ kl < 5) ∧ (W / 5 ≤ xd ∧ xd < W * 4 / 5) ∧ (W / 5 ≤ xl ∧ xl < W * 4 / 5) ∧ gr (H * kd / 5 * W + xd) = dk ∧ gr (H * kl / 5 * W + xl) = lt

theorem meth_gblack (h : Nat) (w : World) : (method 296 138 (.pointer (some ⟨h, 0, none⟩)) "GetBlackMatrix").run Try.prog w = .ok (112, .pointer (some ⟨h, 0, none⟩)) w := by kernel_rfl

set_option maxRecDepth 100000 in
set_option maxHeartbeats 2000000 in
theorem bbm_calls (b h bb lb p gb W H cap : Nat) (gr : Nat → Int) (dk lt : Int) (w : World) (hb : Bmp w b h bb lb p gb W H cap gr) (hW0 : 1 ≤ W) (hH0 : 1 ≤ H) (hW : W ≤ 10000) (hH : H ≤ 10000) (hsee : Seen2 W H gr dk lt) :
    Calls Try.prog 37 #[.pointer (some ⟨b, 0, none⟩)] w fun e w' => ∃ pm gm, e = .returned (.tuple #[.pointer (some ⟨pm, 0, none⟩), .nilIface]) ∧ BM w' pm gm W H (fun x y => decide (gr (y * W + x) = dk)) ∧ w.heap.size ≤ pm ∧ w.heap.size ≤ gm ∧ Touch [b, h, bb] w w' := by
  obtain ⟨hbk, hgh, hsrc, hcap, n1, n2, n3, n4, n5, n6⟩ := hb
  obtain ⟨s1, s2, s3, s4, kd, xd, kl, xl, s5, s6, s7, s8, s9, s10⟩ := hsee
  have HCall := Lib.hid (black_calls h bb lb 0 p gb W H cap gr w hgh hsrc hW0 hH0 hW hH hcap dk lt s1 s2 s3 s4 kd xd kl xl s5 s6 s7 s8 s9 s10 n1 n2 n3 n4)
  have C0 : w.cell? ⟨b, 0, none⟩ = some (.iface 138 (.pointer (some ⟨h, 0, none⟩))) := cell_at_cells hbk rfl
  have C1 : w.cell? ⟨b, 1, none⟩ = some (.pointer none) := cell_at_cells hbk rfl
  have m1 := meth_gblack h
  have HBk := Lib.hid hbk
  clear hbk hgh hsrc s4 s5 s6 s7 s8 s9 s10
  go_enter Try.func37, Try.ntmps37
  go_wp2_with (go_at_call 112; refine HCall.out.mono ?_)
  rintro e w1 ⟨pm, gm, rfl, hbm, hpm, hgm, ht⟩
  have hbl : b < w.heap.size := (Array.getElem?_eq_some_iff.1 HBk.out).1
  have hbk1 : w1.heap[b]? = some (.cells #[.iface 138 (.pointer (some ⟨h, 0, none⟩)), .pointer none] 119) := (ht.block b hbl (by simp; omega)).trans HBk.out
  have D1 : w1.cell? ⟨b, 1, none⟩ = some (.pointer none) := cell_at_cells hbk1 rfl
  have F1 : w1.frozen? ⟨b, 1, none⟩ = false := by simp [World.frozen?, hbk1]
  have hset : Only b w1 (w1.setCell ⟨b, 1, none⟩ (.pointer (some ⟨pm, 0, none⟩))) := (Only.refl b w1).setCell (p := ⟨b, 1, none⟩) rfl _
  have HBM : Hid (BM (w1.setCell ⟨b, 1, none⟩ (.pointer (some ⟨pm, 0, none⟩))) pm gm W H (fun x y => decide (gr (y * W + x) = dk))) := hbm.of_blocks (hset.block _ (by omega)) (hset.block _ (by omega))
  have HT : Hid (Touch [b, h, bb] w (w1.setCell ⟨b, 1, none⟩ (.pointer (some ⟨pm, 0, none⟩)))) := (ht.mono (by intro k hk; simp at hk ⊢; rcases hk with rfl | rfl <;> simp)).setCell (p := ⟨b, 1, none⟩) (by simp) _
  clear hbm ht hbk1 hset HCall
  go_wp2
  go_ret2
  exact ⟨pm, gm, rfl, HBM.out, hpm, hgm, HT.out⟩

theorem caught_idle (p : Addr) (w : World) : CallsD Try.prog 32 #[.pointer (some p)] .returning w fun e u' w' => e = .returned (.tuple #[]) ∧ u' = .returning ∧ w' = w := by
  refine callsD_of_wpS Try.func32 rfl fun c₀ cs hu => ?_
  apply wpS_seq
  apply wpS_region
  simp [wpOpsS, go_sem, recoverD, hu, Try.ntmps32, Exit.thenS]
  refine wpS_cond (t := false) (by simp [Act.eval, Array.replicate]) ?_
  simp only [Bool.false_eq_true, if_false]
  refine wpS_of_wp (wp_skip ?_)
  cases c₀
  simp_all [bodyPostS, results, Try.results32]

set_option maxRecDepth 100000 in
set_option maxHeartbeats 2000000 in
theorem zxbinary_calls (ga n c W H : Nat) (gr : Nat → Int) (kind : Int) (dk lt : Int) (w : World) (hn : n = W * H) (hW0 : 1 ≤ W) (hH0 : 1 ≤ H) (hW : W ≤ 10000) (hH : H ≤ 10000) (hc : ∀ i, i < n → w.cell? ⟨ga, i, none⟩ = some (.int .u8 (gr i))) (hsee : Seen2 W H gr dk lt) :
    Calls Try.prog 25 #[.agg #[.int .i64 (W : Int), .slice (some ⟨ga, 0, none⟩) n c], lookV kind false] w fun e w' => ∃ v, e = .returned (.tuple #[v, .bool true]) ∧ GridO w.heap.size w' v H W (fun y x => decide (gr (y * W + x) = dk)) ∧ Below w.heap.size w w' := by
  have HC := Lib.hid hc
  have HSee := Lib.hid hsee
  have HN := Lib.hid hn
  have hga : ga < w.heap.size := cell_lt (hc 0 (by rw [hn]; exact Nat.mul_pos hW0 hH0))
  clear hc hsee hn
  go_enter_defers Try.func25, Try.ntmps25
  go_wp2_with (fail)
  refine (bitmap_calls ga n c W H gr kind _ HN.out hW0 hH0 hW hH (fun i hi => ?cells)).mono ?_
  case cells =>
    rw [World.cell?_alloc_past _ _ _ (by simp only [blk_size]; show ga < _; omega), World.cell?_alloc_past _ _ _ (by simp only [blk_size]; show ga < _; omega), World.cell?_alloc_past _ _ _ (by show ga < _; omega)]
    exact HC.out i hi
  rintro e w1 ⟨b, h, bb, lb, p, gb, cap, rfl, hbmp, k1, k2, k3, k4, k5, hb1⟩
  have hb0 : Below w.heap.size w (((w.alloc (.cells #[.int .i64 (W : Int), .slice (some ⟨ga, 0, none⟩) n c] 57)).alloc (.cells #[.int .i64 kind, .bool false, .bool false, .bool false, .bool false, .bool false, .bool false] 59)).alloc (.cells #[.bool false] 4)) := (((Below.refl _ _).alloc (Nat.le_refl _) _).alloc (by simp) _).alloc (by simp; omega) _
  simp only [blk_size] at k1 k2 k3 k4 k5
  have hok : w1.heap[w.heap.size + 1 + 1]? = some (.cells #[.bool false] 4) := by
    rw [hb1.block _ (by simp only [blk_size]; omega)]; exact blk_new' _ _ _ (by simp only [blk_size])
  have hs1 := hb1.size
  simp only [blk_size] at hs1
  have hbw : Below w.heap.size w w1 := hb0.trans (hb1.mono (by simp only [blk_size]; omega))
  have HBmp := Lib.hid hbmp
  have HOk := Lib.hid hok
  have HBw := Lib.hid hbw
  clear hbmp hok hb1 hb0 hbw
  go_wp2_with (go_at_call 37; refine (bbm_calls b h bb lb p gb W H cap gr dk lt _ HBmp.out hW0 hH0 hW hH HSee.out).mono ?_)
  rintro e w2 ⟨pm, gm, rfl, hbm, hpm, hgm, ht⟩
  have hok2 : w2.heap[w.heap.size + 1 + 1]? = some (.cells #[.bool false] 4) := (ht.block _ (by omega) (by simp; omega)).trans HOk.out
  have hb2 : Below w.heap.size w1 w2 := ht.below (by omega) (by intro k hk; simp at hk; omega)
  have hs2 := ht.size
  have HOk2 := Lib.hid hok2
  have HB2 := Lib.hid hb2
  have HBM := Lib.hid hbm
  clear hbm ht hb2 hok2
  go_wp2_with (go_at_call 35; refine (rows_calls pm gm W H _ _ HBM.out hW0 hH0 (by omega) (by omega)).mono ?_)
  rintro e w3 ⟨v, rfl, hgrid, hb3⟩
  have hok3 : w3.heap[w.heap.size + 1 + 1]? = some (.cells #[.bool false] 4) := (hb3.block _ (by omega)).trans HOk2.out
  have D0 : w3.cell? ⟨w.heap.size + 1 + 1, 0, none⟩ = some (.bool false) := cell_at_cells hok3 rfl
  have F0 : w3.frozen? ⟨w.heap.size + 1 + 1, 0, none⟩ = false := by simp [World.frozen?, hok3]
  have HGrid := Lib.hid hgrid
  have HB3 := Lib.hid hb3
  have HOk3 := Lib.hid hok3
  clear hgrid hb3 hok3
  go_wp2
  refine leaves_cons (f := 32) (args := #[.pointer (some ⟨w.heap.size + 1 + 1, 0, none⟩)]) (by simp) (by simp [go_sem]) ?_
  refine (caught_idle ⟨w.heap.size + 1 + 1, 0, none⟩ _).mono ?_
  rintro e u' w'' ⟨rfl, rfl, rfl⟩
  have hcell : (w3.setCell ⟨w.heap.size + 1 + 1, 0, none⟩ (.bool true)).cell? ⟨w.heap.size + 1 + 1, 0, none⟩ = some (.bool true) := cell_at_cells (heap_setCell_at (.bool true) HOk3.out) rfl
  refine ⟨.tuple #[v, .bool true], ?_, v, rfl, ?_, ?_⟩
  · simp [results, Try.results25, go_sem, hcell]
  · exact (HGrid.out.mono (by omega)).setCell (base := w.heap.size + 1 + 1 + 1) (a := ⟨w.heap.size + 1 + 1, 0, none⟩) (by show w.heap.size + 1 + 1 < w.heap.size + 1 + 1 + 1; omega) _ |>.mono (by omega)
  · exact ((HBw.out.trans HB2.out).trans (HB3.out.mono (by omega))).setCell (p := ⟨w.heap.size + 1 + 1, 0, none⟩) (by show w.heap.size ≤ w.heap.size + 1 + 1; omega) _

end Go.Proofs.Ytaadklfendegfaa
