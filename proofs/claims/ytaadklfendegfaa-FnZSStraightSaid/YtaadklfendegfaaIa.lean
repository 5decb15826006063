/- The walks of NewGlobalHistgramBinarizer and initArrays. -/
import Derived.Test.YtaadklfendegfaaTc
namespace Go.Proofs.Ytaadklfendegfaa
open Go.RowKit

theorem Try.info3 : (Try.prog.info? 3).map (fun i => (i.zero, i.size, i.bytes)) = some (some (.int .i64 0), 1, 8) := by kernel_rfl

/-- the source as it is handed over -/
abbrev srcV (p : Nat) : Value := .iface 112 (.agg #[.iface 131 (.pointer (some ⟨p, 0, none⟩))])

/-- a binarizer by a histogram: its block, the buckets' block -/
def Gh (w : World) (h bb : Nat) (sv lu : Value) : Prop :=
  w.heap[h]? = some (.cells #[sv, lu, .slice (some ⟨bb, 0, none⟩) 32 32] 141) ∧ ∃ f : Nat → Int, w.rowIs bb 3 32 (fun i => .int .i64 (f i))

theorem Gh.lt {w : World} {h bb : Nat} {sv lu : Value} (hg : Gh w h bb sv lu) : h < w.heap.size ∧ bb < w.heap.size := by
  obtain ⟨h1, f, h2⟩ := hg
  exact ⟨(Array.getElem?_eq_some_iff.1 h1).1, h2.lt⟩
theorem Gh.ne {w : World} {h bb : Nat} {sv lu : Value} (hg : Gh w h bb sv lu) : h ≠ bb := by
  obtain ⟨hp, f, ⟨c, hg, _⟩⟩ := hg
  rintro rfl
  rw [hp] at hg
  injection hg with hg
  injection hg with _ hg
  cases hg
theorem Gh.of_blocks {w w' : World} {h bb : Nat} {sv lu : Value} (hg : Gh w h bb sv lu) (h1 : w'.heap[h]? = w.heap[h]?) (h2 : w'.heap[bb]? = w.heap[bb]?) : Gh w' h bb sv lu :=
  ⟨h1.trans hg.1, by obtain ⟨f, hf⟩ := hg.2; exact ⟨f, hf.of_block h2⟩⟩
theorem Gh.below {w w' : World} {h bb : Nat} {sv lu : Value} (hg : Gh w h bb sv lu) (hb : Below w.heap.size w w') : Gh w' h bb sv lu :=
  hg.of_blocks (hb.block _ hg.lt.1) (hb.block _ hg.lt.2)

set_option maxRecDepth 100000 in
set_option maxHeartbeats 1000000 in
theorem newgh_calls (p : Nat) (w : World) : Calls Try.prog 55 #[srcV p] w fun e w' => ∃ h bb lb, e = .returned (.iface 138 (.pointer (some ⟨h, 0, none⟩))) ∧ Gh w' h bb (srcV p) (.slice (some ⟨lb, 0, none⟩) 0 0) ∧ w.heap.size ≤ h ∧ w.heap.size ≤ bb ∧ Below w.heap.size w w' := by
  have hmk : ∀ w : World, (Instr.makeSlice 139 (.int .i64 32) (.int .i64 32)).run Try.prog w = .ok (.slice (some ⟨w.heap.size, 0, none⟩) 32 32) (w.alloc (.cells (madeCells #[.int .i64 0] 32) 3)) := fun w => run_make_row' (P := Try.prog) 139 3 (.int .i64 0) 8 Try.underlying139 Try.info3 rfl .i64 .i64 32 (by omega) (by omega) w
  go_enter Try.func55, Try.ntmps55
  go_wp2
  go_ret
  refine ⟨w.heap.size + 1 + 1, w.heap.size + 1, w.heap.size, rfl, ⟨blk_new' _ _ _ (by simp only [blk_size]), fun _ => 0, ?_⟩, by omega, by omega, (((Below.refl _ _).alloc (Nat.le_refl _) _).alloc (by simp) _).alloc (by simp; omega) _⟩
  have h1 := (World.rowIs_made (w.alloc (.cells #[] 5)) (.int .i64 0) 32 3).alloc (.cells #[srcV p, .slice (some ⟨w.heap.size, 0, none⟩) 0 0, .slice (some ⟨w.heap.size + 1, 0, none⟩) 32 32] 141)
  rw [blk_size] at h1
  exact h1

set_option maxRecDepth 100000 in
set_option maxHeartbeats 2000000 in
theorem init_calls (h bb lb W : Nat) (lc : Nat) (sv : Value) (w : World) (hg : Gh w h bb sv (.slice (some ⟨lb, 0, none⟩) 0 lc)) (hW0 : 1 ≤ W) (hW : W ≤ 100000) :
    Calls Try.prog 117 #[.pointer (some ⟨h, 0, none⟩), .int .i64 (W : Int)] w fun e w' => e = .returned (.tuple #[]) ∧ ∃ nb, w.heap.size ≤ nb ∧ Gh w' h bb sv (.slice (some ⟨nb, 0, none⟩) W W) ∧ w'.rowIs bb 3 32 (fun _ => .int .i64 0) ∧ w'.rowIs nb 5 W (fun _ => .int .u8 0) ∧ Touch [h, bb] w w' := by
  have hmk := fun (w : World) => run_make_row' (P := Try.prog) 39 5 (.int .u8 0) 1 Try.underlying39 Try.info5 rfl .i64 .i64 W (by omega) (by omega) w
  have hne := hg.ne
  have hlt := hg.lt
  obtain ⟨hp, f, hr⟩ := hg
  have C1 : w.cell? ⟨h, 1, none⟩ = some (.slice (some ⟨lb, 0, none⟩) 0 lc) := cell_at_cells hp rfl
  have F1 : w.frozen? ⟨h, 1, none⟩ = false := by simp [World.frozen?, hp]
  have hW1 : decide (0 < W) = true := by simp; omega
  have HP := Lib.hid hp
  have HR := Lib.hid hr
  clear hp hr
  go_enter Try.func117, Try.ntmps117
  go_wp2
  have hp1 : ((w.setCell ⟨h, 1, none⟩ (.slice (some ⟨w.heap.size, 0, none⟩) W W)).alloc (.cells (madeCells #[.int .u8 0] W) 5)).heap[h]? = some (.cells #[sv, .slice (some ⟨w.heap.size, 0, none⟩) W W, .slice (some ⟨bb, 0, none⟩) 32 32] 141) :=
    blk_old _ _ _ _ (heap_setCell_at (.slice (some ⟨w.heap.size, 0, none⟩) W W) HP.out)
  have hr1 : ((w.setCell ⟨h, 1, none⟩ (.slice (some ⟨w.heap.size, 0, none⟩) W W)).alloc (.cells (madeCells #[.int .u8 0] W) 5)).rowIs bb 3 32 (fun i => .int .i64 (f i)) := (HR.out.setOther (a := ⟨h, 1, none⟩) (Ne.symm hne) _).alloc _
  have hn1 : ((w.setCell ⟨h, 1, none⟩ (.slice (some ⟨w.heap.size, 0, none⟩) W W)).alloc (.cells (madeCells #[.int .u8 0] W) 5)).rowIs w.heap.size 5 W (fun _ => .int .u8 0) := by
    have := World.rowIs_made (w.setCell ⟨h, 1, none⟩ (.slice (some ⟨w.heap.size, 0, none⟩) W W)) (.int .u8 0) W 5
    simpa using this
  have ht1 : Touch [h, bb] w ((w.setCell ⟨h, 1, none⟩ (.slice (some ⟨w.heap.size, 0, none⟩) W W)).alloc (.cells (madeCells #[.int .u8 0] W) 5)) := ((Touch.refl _ w).setCell (p := ⟨h, 1, none⟩) (by simp) _).alloc _
  generalize (w.setCell ⟨h, 1, none⟩ (.slice (some ⟨w.heap.size, 0, none⟩) W W)).alloc (.cells (madeCells #[.int .u8 0] W) 5) = w1 at *
  have HT := Lib.hid ht1
  have HN := Lib.hid hn1
  have HP1 := Lib.hid hp1
  clear HP HR C1 F1 ht1 hn1 hp1
  go_loopw [4] (fun i wr => ∃ (k : Nat) (f : Nat → Int), k ≤ 32 ∧ i = .int .i64 (k : Int) ∧ Only bb w1 wr ∧ wr.rowIs bb 3 32 (fun i => .int .i64 (f i)) ∧ Hid (∀ j, j < k → f j = 0)) (fun i _ => 32 - (intOf i).toNat)
  case atStart => exact ⟨0, f, by omega, rfl, Only.refl _ _, hr1, fun j hj => by omega⟩
  case round =>
    obtain ⟨k, f, hk, rfl, ho, hrow, HF⟩ := hrel
    clear hr1
    by_cases hlt : k < 32
    · have C2 : wr.cell? ⟨h, 2, none⟩ = some (.slice (some ⟨bb, 0, none⟩) 32 32) := by
        rw [World.cell?_of_block (w := w1) (ho.block _ hne)]; exact cell_at_cells HP1.out rfl
      have X := hrow.cell hlt
      have F := hrow.frozen k
      have HO := Lib.hid ho
      have HRow := Lib.hid hrow
      clear ho hrow
      go_wp2
      go_roundw
      case rel =>
        refine ⟨k + 1, _, by omega, by go_num, HO.out.setCell rfl _, HRow.out.seti k 0, fun j hj => ?_⟩
        by_cases e : j = k
        · simp [e]
        · simp only [e, if_false]; exact HF.out j (by omega)
      case measure => simp [intOf]; omega
    · obtain rfl : k = 32 := by omega
      have HO := Lib.hid ho
      have HRow := Lib.hid hrow
      clear ho hrow
      go_wp2
      go_end0
      have hb1 : bb ≠ w.heap.size := by omega
      refine ⟨rfl, w.heap.size, Nat.le_refl _, ⟨(HO.out.block _ hne).trans HP1.out, f, HRow.out⟩, HRow.out.congr fun j hj => by rw [HF.out j hj], HN.out.of_block (HO.out.block _ (Ne.symm hb1)), HT.out.trans (Touch.of_only HO.out (by simp))⟩

end Go.Proofs.Ytaadklfendegfaa
