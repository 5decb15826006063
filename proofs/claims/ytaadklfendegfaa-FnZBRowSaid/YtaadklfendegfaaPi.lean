/- The walks of PCTurn by no quarter and of scPicture. -/
import Derived.Test.YtaadklfendegfaaZa
namespace Go.Proofs.Ytaadklfendegfaa
open Go.RowKit

set_option maxRecDepth 100000 in
set_option maxHeartbeats 1000000 in
theorem turn0_calls (mv : Value) (w : World) : Calls Try.prog 21 #[mv, .int .i64 0] w fun e w' => e = .returned mv ∧ w = w' := by
  go_enter Try.func21, Try.ntmps21
  go_wp2
  refine wp_loop_rounds 1 ?_
  rw [rounds_succ]
  go_wp2
  go_ret
  exact ⟨rfl, rfl⟩

set_option maxRecDepth 100000 in
set_option maxHeartbeats 2000000 in
theorem scpic_calls (rb rc n : Nat) (f : Nat → Bool) (dk lt : Int) (w : World) (hr : ∀ j, j < n → w.cell? ⟨rb, j, none⟩ = some (.bool (f j))) (hn0 : 1 ≤ n) (hn : n ≤ 1000) :
    Calls Try.prog 27 #[.slice (some ⟨rb, 0, none⟩) n rc, .int .i64 3, .int .i64 0, .int .u8 dk, .int .u8 lt] w fun e w' => ∃ v, e = .returned (.agg #[.int .i64 (n : Int), v]) ∧ Bytes w.heap.size w' v (n * 3) (gray1 (fun _ x => f x) n dk lt) ∧ Below w.heap.size w w' := by
  obtain ⟨iF, hi, hz0, hz1, hz2⟩ := info_parts Try.info44
  have HR := Lib.hid hr
  have hrb : rb < w.heap.size := cell_lt (hr 0 (by omega))
  clear hr
  go_enter Try.func27, Try.ntmps27
  go_wp2
  have h0 : (w.alloc (.cells #[.int .i64 0, .slice none 0 0] 57)).heap[w.heap.size]? = some (.cells #[.int .i64 0, .slice none 0 0] 57) := blk_new _ _
  have hb0 : Below w.heap.size w (w.alloc (.cells #[.int .i64 0, .slice none 0 0] 57)) := (Below.refl _ _).alloc (Nat.le_refl _) _
  have hs0 : (w.alloc (.cells #[.int .i64 0, .slice none 0 0] 57)).heap.size = w.heap.size + 1 := blk_size _ _
  generalize w.alloc (.cells #[.int .i64 0, .slice none 0 0] 57) = w0 at *
  have H0 := Lib.hid h0
  have HB0 := Lib.hid hb0
  have hs0a : w.heap.size < w0.heap.size := by omega
  clear h0 hb0 hs0
  go_loopw [11, 12] (fun v i wr => ∃ k : Nat, k ≤ 3 ∧ i = .int .i64 (k : Int) ∧ wr.ownsRow w0.heap.size 44 1 v k (List.replicate k (.slice (some ⟨rb, 0, none⟩) n rc)) ∧ Below w0.heap.size w0 wr) (fun _ i _ => 3 - (intOf i).toNat)
  case atStart => exact ⟨0, by omega, rfl, World.ownsRow_nil _ _ _ _, Below.refl _ _⟩
  case round =>
    obtain ⟨k, hk, rfl, hown, hbr⟩ := hrel
    have hsr := hbr.size
    have HOwn := Lib.hid hown
    have HBr := Lib.hid hbr
    clear hown hbr
    by_cases hlt : k < 3
    · have hown2 := HOwn.out.alloc (.cells #[.slice (some ⟨rb, 0, none⟩) n rc] 44)
      go_wp2_with (at_builtin; go_must (refine wpList_append_own _ rfl _ _ 40 rfl w0.heap.size 44 iF (.slice none 0 0) 1 24 Try.underlying40 hi hz0 hz1 hz2 rfl (by decide) _ _ _ rfl hown2 ⟨wr.heap.size, 0, none⟩ 1 1 [.slice (some ⟨rb, 0, none⟩) n rc] rfl rfl ?d1 ?d2 ?d3 ?d4 ?d5 ?_))
      case d1 =>
        intro i u hu
        match i, hu with
        | 0, hu => simp at hu; subst hu; exact cell_at_cells (blk_new _ _) (by rfl)
      case d2 => intro u hu; simp at hu; subst hu; rfl
      case d3 => unfold maxLen; omega
      case d4 => omega
      case d5 => simp; omega
      intro v' w4 hown4 hgrow _
      have hrel4 : w4.ownsRow w0.heap.size 44 1 v' (k + 1) (List.replicate (k + 1) (.slice (some ⟨rb, 0, none⟩) n rc)) := by
        rw [List.replicate_succ']; exact hown4
      have hb4 : Below w0.heap.size w0 w4 := (HBr.out.alloc (by omega) _).grown hgrow (by simp; omega) (fun q hq => (HOwn.out.lt q hq).1)
      have HR4 := Lib.hid hrel4
      have HB4 := Lib.hid hb4
      clear hrel4 hb4 hown4 hgrow hown2
      go_wp2
      go_roundw
      case rel => exact ⟨k + 1, by omega, by go_num, HR4.out, HB4.out⟩
      case measure => simp [intOf]; omega
    · obtain rfl : k = 3 := by omega
      have hgrid : ∃ g c, u11 = .slice (some ⟨g, 0, none⟩) 3 c ∧ Grid wr u11 3 n (fun _ x => f x) := by
        rcases HOwn.out.2 with ⟨_, h0⟩ | ⟨g, cap, cur, rfl, hg, hh, hc, _, hs, ht⟩
        · omega
        · refine ⟨g, cap, rfl, g, cap, rfl, fun y hy => ⟨.slice (some ⟨rb, 0, none⟩) n rc, ?_, rb, rc, rfl, fun j hj => ?_⟩⟩
          · have e : (cur.toList.take (3 * 1))[y]? = some (.slice (some ⟨rb, 0, none⟩) n rc) := by
              rw [ht, List.getElem?_replicate]; simp [hy]
            rw [List.getElem?_take_of_lt (by omega)] at e
            simp [World.cell?, hh]
            simpa using e
          · rw [HBr.out.cell (by show rb < w0.heap.size; omega), HB0.out.cell (by exact hrb)]; exact HR.out j hj
      obtain ⟨g, c, rfl, hgr⟩ := hgrid
      have HGr := Lib.hid hgr
      clear hgr
      go_wp2_with (first | (go_at_call 21; refine (turn0_calls _ _).mono ?_; rintro e w' ⟨rfl, rfl⟩))
      refine (draw1_calls _ 3 n (fun _ x => f x) dk lt _ HGr.out (by omega) (by omega) hn0 hn).mono ?_
      rintro e w3 ⟨v, rfl, ⟨gv, rfl, hgv, hbytes⟩, hb3⟩
      have h3 : w3.heap[w.heap.size]? = some (.cells #[.int .i64 0, .slice none 0 0] 57) := (hb3.block _ (by omega)).trans ((HBr.out.block _ (by omega)).trans H0.out)
      have D0 : w3.cell? ⟨w.heap.size, 0, none⟩ = some (.int .i64 0) := cell_at_cells h3 rfl
      have D1 : w3.cell? ⟨w.heap.size, 1, none⟩ = some (.slice none 0 0) := cell_at_cells h3 rfl
      have F0 : w3.frozen? ⟨w.heap.size, 0, none⟩ = false := by simp [World.frozen?, h3]
      have F1 : w3.frozen? ⟨w.heap.size, 1, none⟩ = false := by simp [World.frozen?, h3]
      have H3 := Lib.hid h3
      have HB3 := Lib.hid hb3
      have HBy := Lib.hid hbytes
      clear h3 hb3 hbytes
      go_wp2
      have hz : ((w3.setCell ⟨w.heap.size, 0, none⟩ (.int .i64 (n : Int))).setCell ⟨w.heap.size, 1, none⟩ (.slice (some ⟨gv, 0, none⟩) (n * 3) (n * 3))).heap[w.heap.size]? = some (.cells #[.int .i64 (n : Int), .slice (some ⟨gv, 0, none⟩) (n * 3) (n * 3)] 57) := by
        rw [heap_setCell_at _ (heap_setCell_at _ H3.out)]; rfl
      have E0 : ((w3.setCell ⟨w.heap.size, 0, none⟩ (.int .i64 (n : Int))).setCell ⟨w.heap.size, 1, none⟩ (.slice (some ⟨gv, 0, none⟩) (n * 3) (n * 3))).cell? ⟨w.heap.size, 0, none⟩ = some (.int .i64 (n : Int)) := cell_at_cells hz rfl
      have E1 : ((w3.setCell ⟨w.heap.size, 0, none⟩ (.int .i64 (n : Int))).setCell ⟨w.heap.size, 1, none⟩ (.slice (some ⟨gv, 0, none⟩) (n * 3) (n * 3))).cell? ⟨w.heap.size, 1, none⟩ = some (.slice (some ⟨gv, 0, none⟩) (n * 3) (n * 3)) := cell_at_cells hz rfl
      have hby : ((w3.setCell ⟨w.heap.size, 0, none⟩ (.int .i64 (n : Int))).setCell ⟨w.heap.size, 1, none⟩ (.slice (some ⟨gv, 0, none⟩) (n * 3) (n * 3))).rowIs gv 5 (n * 3) (fun i => .int .u8 (gray1 (fun _ x => f x) n dk lt i)) :=
        (HBy.out.setOther (a := ⟨w.heap.size, 0, none⟩) (by show gv ≠ w.heap.size; omega) _).setOther (a := ⟨w.heap.size, 1, none⟩) (by show gv ≠ w.heap.size; omega) _
      have hbz : Below w.heap.size w ((w3.setCell ⟨w.heap.size, 0, none⟩ (.int .i64 (n : Int))).setCell ⟨w.heap.size, 1, none⟩ (.slice (some ⟨gv, 0, none⟩) (n * 3) (n * 3))) :=
        (((HB0.out.trans (HBr.out.mono (by omega))).trans (HB3.out.mono (by omega))).setCell (p := ⟨w.heap.size, 0, none⟩) (Nat.le_refl _) _).setCell (p := ⟨w.heap.size, 1, none⟩) (Nat.le_refl _) _
      generalize (w3.setCell ⟨w.heap.size, 0, none⟩ (.int .i64 (n : Int))).setCell ⟨w.heap.size, 1, none⟩ (.slice (some ⟨gv, 0, none⟩) (n * 3) (n * 3)) = wz at *
      exact bodyPost_ret (v := .agg #[.int .i64 (n : Int), .slice (some ⟨gv, 0, none⟩) (n * 3) (n * 3)]) (by simp [results, Try.results27, go_sem, E0, E1]) rfl ⟨_, rfl, ⟨gv, rfl, by omega, hby⟩, hbz⟩

end Go.Proofs.Ytaadklfendegfaa
