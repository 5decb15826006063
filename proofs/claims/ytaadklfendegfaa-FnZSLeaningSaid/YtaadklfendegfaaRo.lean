/- The walk of rowsOf: the rows of a matrix of bits. -/
import Derived.Test.YtaadklfendegfaaBm
namespace Go.Proofs.Ytaadklfendegfaa
open Go.RowKit

/-- the first k rows are laid -/
def RowsTo (base : Nat) (w : World) (G W H k : Nat) (R : Nat → Nat) (F : Nat → Nat → Bool) : Prop :=
  w.rowIs G 44 H (fun y => if y < k then .slice (some ⟨R y, 0, none⟩) W W else .slice none 0 0) ∧ (∀ y, y < k → w.rowIs (R y) 4 W (fun x => .bool (F y x))) ∧ (∀ y, y < k → base ≤ R y ∧ R y ≠ G) ∧
    ∀ y y', y < k → y' < k → R y = R y' → y = y'

theorem RowsTo.next {base : Nat} {wo wr : World} {G W H k g : Nat} {R : Nat → Nat} {F : Nat → Nat → Bool} {o : Obj} (h : RowsTo base wo G W H k R F) (hg : wo.heap.size = g) (hb : base ≤ g) (hk : k < H)
    (ho : Only g ((wo.setCell ⟨G, k, none⟩ (.slice (some ⟨g, 0, none⟩) W W)).alloc o) wr) (hr : wr.rowIs g 4 W (fun x => .bool (F k x))) : RowsTo base wr G W H (k + 1) (fun y => if y = k then g else R y) F := by
  obtain ⟨h1, h2, h3, h4⟩ := h
  have hG : G < g := by rw [← hg]; exact h1.lt
  refine ⟨?_, ?_, ?_, ?_⟩
  · refine (((h1.set k _).alloc o).of_block (ho.block G (by omega))).congr fun y hy => ?_
    by_cases e : y = k
    · subst e; simp
    · simp only [e, if_false]
      by_cases e2 : y < k
      · rw [if_pos e2, if_pos (by omega)]
      · rw [if_neg e2, if_neg (by omega)]
  · intro y hy
    by_cases e : y = k
    · subst e; simp only [if_true]; exact hr
    · simp only [e, if_false]
      have hy' : y < k := by omega
      have hlt : R y < g := by rw [← hg]; exact (h2 y hy').lt
      exact (((h2 y hy').setOther (a := ⟨G, k, none⟩) (h3 y hy').2 _).alloc o).of_block (ho.block _ (by omega))
  · intro y hy
    by_cases e : y = k
    · simp only [e, if_true]; exact ⟨hb, by omega⟩
    · simp only [e, if_false]; exact h3 y (by omega)
  · intro y y' hy hy' he
    by_cases e : y = k <;> by_cases e' : y' = k <;> simp only [e, e', if_true, if_false] at he
    · omega
    · have : R y' < g := by rw [← hg]; exact (h2 y' (by omega)).lt
      omega
    · have : R y < g := by rw [← hg]; exact (h2 y (by omega)).lt
      omega
    · exact h4 y y' (by omega) (by omega) he

set_option maxRecDepth 100000 in
set_option maxHeartbeats 2000000 in
theorem rows_calls (p g W H : Nat) (B : Nat → Nat → Bool) (w : World) (hb : BM w p g W H B) (hW0 : 1 ≤ W) (hH0 : 1 ≤ H) (hW : W ≤ 100000) (hH : H ≤ 100000) :
    Calls Try.prog 35 #[.pointer (some ⟨p, 0, none⟩)] w fun e w' => ∃ v, e = .returned v ∧ GridO w.heap.size w' v H W (fun y x => B x y) ∧ Below w.heap.size w w' := by
  have HBM := Lib.hid hb
  clear hb
  have hmk1 := fun (w : World) => run_make_row' (P := Try.prog) 40 44 (.slice none 0 0) 24 Try.underlying40 Try.info44 rfl .i64 .i64 H (by omega) (by omega) w
  have hmk2 := fun (w : World) => run_make_row' (P := Try.prog) 44 4 (.bool false) 1 Try.underlying44 Try.info4 rfl .i64 .i64 W (by omega) (by omega) w
  go_enter Try.func35, Try.ntmps35
  go_wp2_with (go_at_call 50; refine (bmh_calls p g W H B _ HBM.out).mono ?_; rintro e w' ⟨rfl, rfl⟩)
  have hR0 : RowsTo w.heap.size (w.alloc (.cells (madeCells #[.slice none 0 0] H) 44)) w.heap.size W H 0 (fun _ => 0) (fun y x => B x y) :=
    ⟨(World.rowIs_made w (.slice none 0 0) H 44).congr fun y _ => by simp, by omega, by omega, by omega⟩
  have hb0 : Below w.heap.size w (w.alloc (.cells (madeCells #[.slice none 0 0] H) 44)) := (Below.refl _ _).alloc (Nat.le_refl _) _
  have hs0 : w.heap.size < (w.alloc (.cells (madeCells #[.slice none 0 0] H) 44)).heap.size := by simp
  generalize w.alloc (.cells (madeCells #[.slice none 0 0] H) 44) = w0 at *
  go_loopw [11] (fun i wr => ∃ (k : Nat) (R : Nat → Nat), k ≤ H ∧ i = .int .i64 (k : Int) ∧ RowsTo w.heap.size wr w.heap.size W H k R (fun y x => B x y) ∧ Below w.heap.size w wr ∧ w.heap.size < wr.heap.size) (fun i _ => H - (intOf i).toNat)
  case atStart => exact ⟨0, _, by omega, rfl, hR0, hb0, hs0⟩
  case round =>
    obtain ⟨wo, rfl⟩ : ∃ wo : World, wo = wr := ⟨_, rfl⟩
    obtain ⟨k, R, hk, rfl, hr, hb, hs⟩ := hrel
    clear hR0 hb0 hs0
    have HR := Lib.hid hr
    have HB := Lib.hid hb
    have HBo := Lib.hid (HBM.out.below hb)
    by_cases hlt : k < H
    · have X0 := hr.1.cell hlt
      have F0 := hr.1.frozen k
      clear hr hb
      go_wp2_with (go_at_call 51; refine (bmw_calls p g W H B _ HBo.out).mono ?_; rintro e w' ⟨rfl, rfl⟩)
      have hs1 : wo.heap.size < ((wo.setCell ⟨w.heap.size, k, none⟩ (.slice (some ⟨wo.heap.size, 0, none⟩) W W)).alloc (.cells (madeCells #[.bool false] W) 4)).heap.size := by simp
      have hrow0 : ((wo.setCell ⟨w.heap.size, k, none⟩ (.slice (some ⟨wo.heap.size, 0, none⟩) W W)).alloc (.cells (madeCells #[.bool false] W) 4)).rowIs wo.heap.size 4 W (fun _ => .bool false) := by
        have := World.rowIs_made (wo.setCell ⟨w.heap.size, k, none⟩ (.slice (some ⟨wo.heap.size, 0, none⟩) W W)) (.bool false) W 4
        simpa using this
      have hbw : Below w.heap.size w ((wo.setCell ⟨w.heap.size, k, none⟩ (.slice (some ⟨wo.heap.size, 0, none⟩) W W)).alloc (.cells (madeCells #[.bool false] W) 4)) :=
        (HB.out.setCell (p := ⟨w.heap.size, k, none⟩) (Nat.le_refl _) _).alloc (by simp; omega) _
      have hXG : ((wo.setCell ⟨w.heap.size, k, none⟩ (.slice (some ⟨wo.heap.size, 0, none⟩) W W)).alloc (.cells (madeCells #[.bool false] W) 4)).cell? ⟨w.heap.size, k, none⟩ = some (.slice (some ⟨wo.heap.size, 0, none⟩) W W) := by
        have := ((HR.out.1.set k (.slice (some ⟨wo.heap.size, 0, none⟩) W W)).alloc (.cells (madeCells #[.bool false] W) 4)).cell hlt
        simpa using this
      generalize hw1 : (wo.setCell ⟨w.heap.size, k, none⟩ (.slice (some ⟨wo.heap.size, 0, none⟩) W W)).alloc (.cells (madeCells #[.bool false] W) 4) = w1 at *
      have HW1 := Lib.hid hw1
      clear hw1 X0 F0
      generalize hg : wo.heap.size = g' at *
      have HG := Lib.hid hg
      clear hg
      have HBW := Lib.hid hbw
      clear hbw
      go_loopw [25] (fun x wr => ∃ (j : Nat) (f : Nat → Bool), j ≤ W ∧ x = .int .i64 (j : Int) ∧ Only g' w1 wr ∧ wr.rowIs g' 4 W (fun x => .bool (f x)) ∧ Hid (∀ x, x < j → f x = B x k)) (fun x _ => W - (intOf x).toNat)
      case atStart => exact ⟨0, fun _ => false, by omega, rfl, Only.refl _ _, hrow0, fun x hx => by omega⟩
      case round =>
        obtain ⟨j, f, hj, rfl, ho, hrow, HF⟩ := hrel
        by_cases hlt2 : j < W
        · have X0 : wr.cell? ⟨w.heap.size, k, none⟩ = some (.slice (some ⟨g', 0, none⟩) W W) := by
            rw [World.cell?_of_block (w := w1) (ho.block _ (by show w.heap.size ≠ _; omega))]; exact hXG
          have X1 := hrow.cell hlt2
          have F1 := hrow.frozen j
          have HBr : Hid (BM wr.drew p g W H B) := HBM.out.below ((HBW.out.trans (ho.below (by omega))).drew)
          have HO := Lib.hid ho
          have HRow := Lib.hid hrow
          have I0 : 0 ≤ (k : Int) := by omega
          have I1 : (k : Int) < (H : Int) := by omega
          have I2 : 0 ≤ (j : Int) := by omega
          have I3 : (j : Int) < (W : Int) := by omega
          clear ho hrow
          go_wp2
          refine wp_region_fast 28 10 (by kernel_rfl) (by kernel_rfl) (fun ops K hK => ?_)
          simp only [List.take_succ_cons, List.take_zero]
          repeat still_step
          still_call ((get_calls p g W H j k B _ HBr.out hlt2 hlt hW hH).mono fun _ _ h => ⟨h.1, h.2.symm⟩)
          repeat still_step
          refine wpStill_nil (hK _ ?_)
          clear hK
          simp only [List.drop_succ_cons, List.drop_zero]
          go_wp2
          go_roundw
          case rel =>
            refine ⟨j + 1, _, by omega, by go_num, HO.out.drew.setCell rfl _, HRow.out.drew.setb j _, fun x hx => ?_⟩
            by_cases e : x = j
            · subst e; simp
            · simp only [e, if_false]; exact HF.out x (by omega)
          case measure => simp [intOf]; omega
        · obtain rfl : j = W := by omega
          have HO := Lib.hid ho
          have HRow := Lib.hid hrow
          clear ho hrow
          go_wp2
          go_roundw
          case rel =>
            refine ⟨k + 1, _, by omega, by go_num, HR.out.next HG.out (by omega) hlt (by rw [HW1.out]; exact HO.out) (HRow.out.congr fun x hx => by rw [HF.out x hx]), HBW.out.trans (HO.out.below (by omega)), ?_⟩
            have := HO.out.size
            omega
          case measure => simp [intOf]; omega
    · obtain rfl : k = H := by omega
      clear hr hb
      go_wp2
      go_ret
      obtain ⟨h1, h2, h3, h4⟩ := HR.out
      refine ⟨_, rfl, ⟨w.heap.size, k, R, rfl, Nat.le_refl _, ⟨fun y hy => ?_, h2, fun y hy => (h3 y hy).2, h4⟩, fun y hy => (h3 y hy).1⟩, HB.out⟩
      have := h1.cell hy
      simpa [hy] using this

end Go.Proofs.Ytaadklfendegfaa
