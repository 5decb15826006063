/- The walk of ZXBinary with the hybrid binarizer. -/
import Derived.Test.YtaadklfendegfaaHm
import Derived.Test.YtaadklfendegfaaBh
import Derived.Test.YtaadklfendegfaaZy
namespace Go.Proofs.Ytaadklfendegfaa
open Go.RowKit

theorem meth_hblack (y : Nat) (w : World) : (method 296 142 (.pointer (some ⟨y, 0, none⟩)) "GetBlackMatrix").run Try.prog w = .ok (121, .pointer (some ⟨y, 0, none⟩)) w := by kernel_rfl

set_option maxRecDepth 100000 in
set_option maxHeartbeats 2000000 in
theorem bbmh_calls (b y h bb lb p gb W H cap : Nat) (gr : Nat → Int) (dk lt : Int) (w : World) (hb : BmpH w b y h bb lb p gb W H cap gr) (hW0 : 40 ≤ W) (hH0 : 40 ≤ H) (hW : W ≤ 1000) (hH : H ≤ 1000) (hsee : Seen8 W H gr dk lt) :
    Calls Try.prog 37 #[.pointer (some ⟨b, 0, none⟩)] w fun e w' => ∃ pm gm, e = .returned (.tuple #[.pointer (some ⟨pm, 0, none⟩), .nilIface]) ∧ BM w' pm gm W H (fun x y => decide (gr (y * W + x) = dk)) ∧ w.heap.size ≤ pm ∧ w.heap.size ≤ gm ∧ Touch [b, y] w w' := by
  obtain ⟨hbk, hyk, hgh, hsrc, hcap, n1, n2, n3, n4, n5, n6, n7, n8, n9, n10, n11⟩ := hb
  have HCall := Lib.hid (hblack_calls y h bb lb 0 p gb W H cap gr dk lt w hyk hgh hsrc hW0 hH0 hW hH hsee)
  have C0 : w.cell? ⟨b, 0, none⟩ = some (.iface 142 (.pointer (some ⟨y, 0, none⟩))) := cell_at_cells hbk rfl
  have C1 : w.cell? ⟨b, 1, none⟩ = some (.pointer none) := cell_at_cells hbk rfl
  have m1 := meth_hblack y
  have HBk := Lib.hid hbk
  clear hbk hyk hgh hsrc hsee
  go_enter Try.func37, Try.ntmps37
  go_wp2_with (go_at_call 121; refine HCall.out.mono ?_)
  rintro e w1 ⟨pm, gm, rfl, hbm, hpm, hgm, ht⟩
  have hbl : b < w.heap.size := (Array.getElem?_eq_some_iff.1 HBk.out).1
  have hbk1 : w1.heap[b]? = some (.cells #[.iface 142 (.pointer (some ⟨y, 0, none⟩)), .pointer none] 119) := (ht.block b hbl (by simp; omega)).trans HBk.out
  have D1 : w1.cell? ⟨b, 1, none⟩ = some (.pointer none) := cell_at_cells hbk1 rfl
  have F1 : w1.frozen? ⟨b, 1, none⟩ = false := by simp [World.frozen?, hbk1]
  have hset : Only b w1 (w1.setCell ⟨b, 1, none⟩ (.pointer (some ⟨pm, 0, none⟩))) := (Only.refl b w1).setCell (p := ⟨b, 1, none⟩) rfl _
  have HBM : Hid (BM (w1.setCell ⟨b, 1, none⟩ (.pointer (some ⟨pm, 0, none⟩))) pm gm W H (fun x y => decide (gr (y * W + x) = dk))) := hbm.of_blocks (hset.block _ (by omega)) (hset.block _ (by omega))
  have HT : Hid (Touch [b, y] w (w1.setCell ⟨b, 1, none⟩ (.pointer (some ⟨pm, 0, none⟩)))) := (ht.mono (by intro k hk; simp at hk ⊢; simp [hk])).setCell (p := ⟨b, 1, none⟩) (by simp) _
  clear hbm ht hbk1 hset HCall
  go_wp2
  go_ret2
  exact ⟨pm, gm, rfl, HBM.out, hpm, hgm, HT.out⟩

set_option maxRecDepth 100000 in
set_option maxHeartbeats 2000000 in
theorem zxbinaryh_calls (ga n c W H : Nat) (gr : Nat → Int) (kind : Int) (dk lt : Int) (w : World) (hn : n = W * H) (hW0 : 40 ≤ W) (hH0 : 40 ≤ H) (hW : W ≤ 1000) (hH : H ≤ 1000) (hc : ∀ i, i < n → w.cell? ⟨ga, i, none⟩ = some (.int .u8 (gr i))) (hsee : Seen8 W H gr dk lt) :
    Calls Try.prog 25 #[.agg #[.int .i64 (W : Int), .slice (some ⟨ga, 0, none⟩) n c], lookV kind true] w fun e w' => ∃ v, e = .returned (.tuple #[v, .bool true]) ∧ GridO w.heap.size w' v H W (fun y x => decide (gr (y * W + x) = dk)) ∧ Below w.heap.size w w' := by
  have HC := Lib.hid hc
  have HSee := Lib.hid hsee
  have HN := Lib.hid hn
  have hga : ga < w.heap.size := cell_lt (hc 0 (by rw [hn]; exact Nat.mul_pos (by omega) (by omega)))
  clear hc hsee hn
  go_enter_defers Try.func25, Try.ntmps25
  go_wp2_with (fail)
  refine (bitmaph_calls ga n c W H gr kind _ HN.out (by omega) (by omega) (by omega) (by omega) (fun i hi => ?cells)).mono ?_
  case cells =>
    rw [World.cell?_alloc_past _ _ _ (by simp only [blk_size]; show ga < _; omega), World.cell?_alloc_past _ _ _ (by simp only [blk_size]; show ga < _; omega), World.cell?_alloc_past _ _ _ (by show ga < _; omega)]
    exact HC.out i hi
  rintro e w1 ⟨b, y, h, bb, lb, p, gb, cap, rfl, hbmp, k1, k2, k3, k4, k5, k6, hb1⟩
  have hb0 : Below w.heap.size w (((w.alloc (.cells #[.int .i64 (W : Int), .slice (some ⟨ga, 0, none⟩) n c] 57)).alloc (.cells #[.int .i64 kind, .bool true, .bool false, .bool false, .bool false, .bool false, .bool false] 59)).alloc (.cells #[.bool false] 4)) := (((Below.refl _ _).alloc (Nat.le_refl _) _).alloc (by simp) _).alloc (by simp; omega) _
  simp only [blk_size] at k1 k2 k3 k4 k5 k6
  have hok : w1.heap[w.heap.size + 1 + 1]? = some (.cells #[.bool false] 4) := by
    rw [hb1.block _ (by simp only [blk_size]; omega)]; exact blk_new' _ _ _ (by simp only [blk_size])
  have hs1 := hb1.size
  simp only [blk_size] at hs1
  have hbw : Below w.heap.size w w1 := hb0.trans (hb1.mono (by simp only [blk_size]; omega))
  have HBmp := Lib.hid hbmp
  have HOk := Lib.hid hok
  have HBw := Lib.hid hbw
  clear hbmp hok hb1 hb0 hbw
  go_wp2_with (go_at_call 37; refine (bbmh_calls b y h bb lb p gb W H cap gr dk lt _ HBmp.out hW0 hH0 hW hH HSee.out).mono ?_)
  rintro e w2 ⟨pm, gm, rfl, hbm, hpm, hgm, ht⟩
  have hok2 : w2.heap[w.heap.size + 1 + 1]? = some (.cells #[.bool false] 4) := (ht.block _ (by omega) (by simp; omega)).trans HOk.out
  have hb2 : Below w.heap.size w1 w2 := ht.below (by omega) (by intro k hk; simp at hk; omega)
  have hs2 := ht.size
  have HOk2 := Lib.hid hok2
  have HB2 := Lib.hid hb2
  have HBM := Lib.hid hbm
  clear hbm ht hb2 hok2
  go_wp2_with (go_at_call 35; refine (rows_calls pm gm W H _ _ HBM.out (by omega) (by omega) (by omega) (by omega)).mono ?_)
  rintro e w3 ⟨v, rfl, hgrid, hb3⟩
  have hok3 : w3.heap[w.heap.size + 1 + 1]? = some (.cells #[.bool false] 4) := (hb3.block _ (by omega)).trans HOk2.out
  have D0 : w3.cell? ⟨w.heap.size + 1 + 1, 0, none⟩ = some (.bool false) := cell_at_cells hok3 rfl
  have F0 : w3.frozen? ⟨w.heap.size + 1 + 1, 0, none⟩ = false := by simp [World.frozen?, hok3]
  have HGrid := Lib.hid hgrid
  have HB3 := Lib.hid hb3
  have HOk3 := Lib.hid hok3
  clear hgrid hb3 hok3
  go_wp2
  refine leaves_cons (f := 32) (args := #[.pointer (some ⟨w.heap.size + 1 + 1, 0, none⟩)]) (by simp) (by simp [go_sem]) ?_
  refine (caught_idle ⟨w.heap.size + 1 + 1, 0, none⟩ _).mono ?_
  rintro e u' w'' ⟨rfl, rfl, rfl⟩
  have hcell : (w3.setCell ⟨w.heap.size + 1 + 1, 0, none⟩ (.bool true)).cell? ⟨w.heap.size + 1 + 1, 0, none⟩ = some (.bool true) := cell_at_cells (heap_setCell_at (.bool true) HOk3.out) rfl
  refine ⟨.tuple #[v, .bool true], ?_, v, rfl, ?_, ?_⟩
  · simp [results, Try.results25, go_sem, hcell]
  · exact (HGrid.out.mono (by omega)).setCell (base := w.heap.size + 1 + 1 + 1) (a := ⟨w.heap.size + 1 + 1, 0, none⟩) (by show w.heap.size + 1 + 1 < w.heap.size + 1 + 1 + 1; omega) _ |>.mono (by omega)
  · exact ((HBw.out.trans HB2.out).trans (HB3.out.mono (by omega))).setCell (p := ⟨w.heap.size + 1 + 1, 0, none⟩) (by show w.heap.size ≤ w.heap.size + 1 + 1; omega) _

end Go.Proofs.Ytaadklfendegfaa
