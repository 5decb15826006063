/- The walk of PCTurn. -/
import Derived.Test.YtaadklfendegfaaRo
import Derived.Test.YtaadklfendegfaaZb
import Derived.BigQuiet
namespace Go.Proofs.Ytaadklfendegfaa
open Go.RowKit

/-- turned by a quarter; h rows were there -/
def turnF (h : Nat) (F : Nat → Nat → Bool) : Nat → Nat → Bool := fun y x => F (h - 1 - x) y

/-- rows, columns and bits after so many quarters -/
def turns (H W : Nat) (F : Nat → Nat → Bool) : Nat → Nat × Nat × (Nat → Nat → Bool)
  | 0 => (H, W, F)
  | k + 1 => ((turns H W F k).2.1, (turns H W F k).1, turnF (turns H W F k).1 (turns H W F k).2.2)

theorem turns_bound (H W : Nat) (F : Nat → Nat → Bool) (hH : 1 ≤ H ∧ H ≤ 1000) (hW : 1 ≤ W ∧ W ≤ 1000) (k : Nat) : (1 ≤ (turns H W F k).1 ∧ (turns H W F k).1 ≤ 1000) ∧ (1 ≤ (turns H W F k).2.1 ∧ (turns H W F k).2.1 ≤ 1000) := by
  induction k with
  | zero => exact ⟨hH, hW⟩
  | succ k ih => exact ⟨ih.2, ih.1⟩

set_option maxRecDepth 100000 in
set_option maxHeartbeats 4000000 in
theorem turn_calls (mv : Value) (H W n : Nat) (q : Int) (F : Nat → Nat → Bool) (w : World) (hg : Grid w mv H W F) (hH : 1 ≤ H ∧ H ≤ 1000) (hW : 1 ≤ W ∧ W ≤ 1000) (hq : 0 ≤ q ∧ q ≤ 4) (hn : q % 4 = (n : Int)) :
    Calls Try.prog 21 #[mv, .int .i64 q] w fun e w' => ∃ v, e = .returned v ∧ Grid w' v (turns H W F n).1 (turns H W F n).2.1 (turns H W F n).2.2 ∧ Below w.heap.size w w' := by
  have HG := Lib.hid hg
  have hT : q.tmod 4 = (n : Int) := by rw [Int.tmod_eq_emod_of_nonneg (by omega)]; exact hn
  have hn3 : n ≤ 3 := by omega
  have hmk1 := fun (m : Nat) (hm : m ≤ 1000) (w : World) => run_make_row' (P := Try.prog) 40 44 (.slice none 0 0) 24 Try.underlying40 Try.info44 rfl .i64 .i64 m (by omega) (by omega) w
  have hmk2 := fun (m : Nat) (hm : m ≤ 1000) (w : World) => run_make_row' (P := Try.prog) 44 4 (.bool false) 1 Try.underlying44 Try.info4 rfl .i64 .i64 m (by omega) (by omega) w
  have HMk1 := Lib.hid hmk1
  have HMk2 := Lib.hid hmk2
  clear hg hmk1 hmk2
  go_enter Try.func21, Try.ntmps21
  go_wp2
  go_loopw [0, 5, 6, 7, 8, 9, 12] (fun v _ _ _ _ _ c wr => ∃ k : Nat, k ≤ n ∧ c = .int .i64 (k : Int) ∧ Hid (Grid wr v (turns H W F k).1 (turns H W F k).2.1 (turns H W F k).2.2) ∧ Hid (Below w.heap.size w wr)) (fun _ _ _ _ _ _ c _ => n - (intOf c).toNat)
  case atStart => exact ⟨0, by omega, rfl, HG, Below.refl _ _⟩
  case round =>
    obtain ⟨wo, rfl⟩ : ∃ wo : World, wo = wr := ⟨_, rfl⟩
    obtain ⟨k, hk, rfl, HGk, HB⟩ := hrel
    by_cases hlt : k < n
    · obtain ⟨⟨b1, b2⟩, b3, b4⟩ := turns_bound H W F hH hW k
      obtain ⟨h, hh⟩ : ∃ h, h = (turns H W F k).1 := ⟨_, rfl⟩
      obtain ⟨m, hm⟩ : ∃ m, m = (turns H W F k).2.1 := ⟨_, rfl⟩
      obtain ⟨G, hG⟩ : ∃ G, G = (turns H W F k).2.2 := ⟨_, rfl⟩
      have HT := Lib.hid (And.intro hh (And.intro hm hG))
      rw [← hh, ← hm, ← hG] at HGk
      rw [← hh] at b1 b2
      rw [← hm] at b3 b4
      clear hh hm hG
      obtain ⟨g, c, rfl, hc⟩ := HGk.out
      obtain ⟨u0, h0, r0, k0, rfl, _⟩ := hc 0 (by omega)
      have HC := Lib.hid hc
      have J0 : (0 : Int) < (h : Int) := by omega
      have J1 : (k : Int) < (n : Int) := by omega
      have M1 := HMk1.out m b4
      have M2 := HMk2.out h b2
      clear hc HGk
      go_wp2
      go_quiet (fail)
      go_wp2
      have hR0 : RowsTo wo.heap.size ((wo.drewN nq).alloc (.cells (madeCells #[.slice none 0 0] m) 44)) wo.heap.size h m 0 (fun _ => 0) (turnF h G) :=
        ⟨by
          have := World.rowIs_made (wo.drewN nq) (.slice none 0 0) m 44
          rw [show (wo.drewN nq).heap.size = wo.heap.size from rfl] at this
          exact this.congr fun y _ => by simp, by omega, by omega, by omega⟩
      have hb0 : Below wo.heap.size wo ((wo.drewN nq).alloc (.cells (madeCells #[.slice none 0 0] m) 44)) := (below_drewN (Below.refl _ _) nq).alloc (Nat.le_refl _) _
      have hs0 : wo.heap.size < ((wo.drewN nq).alloc (.cells (madeCells #[.slice none 0 0] m) 44)).heap.size := by simp
      generalize (wo.drewN nq).alloc (.cells (madeCells #[.slice none 0 0] m) 44) = w0 at *
      have HR0 := Lib.hid hR0
      have HB0 := Lib.hid hb0
      clear hR0 hb0
      have hws := HB.out.size
      go_loopw [24] (fun i wr => ∃ (y : Nat) (R : Nat → Nat), y ≤ m ∧ i = .int .i64 (y : Int) ∧ Hid (RowsTo wo.heap.size wr wo.heap.size h m y R (turnF h G)) ∧ Hid (Below wo.heap.size wo wr) ∧ wo.heap.size < wr.heap.size) (fun i _ => m - (intOf i).toNat)
      case atStart => exact ⟨0, _, by omega, rfl, HR0, HB0, hs0⟩
      case round =>
        obtain ⟨wa, rfl⟩ : ∃ wa : World, wa = wr := ⟨_, rfl⟩
        obtain ⟨y, R, hy, rfl, HRy, HBy, hsy⟩ := hrel
        clear hs0
        by_cases hlt2 : y < m
        · have X0 := HRy.out.1.cell hlt2
          have F0 := HRy.out.1.frozen y
          have J2 : (y : Int) < (m : Int) := by omega
          have J3 : 0 ≤ (y : Int) := by omega
          go_wp2
          have hs1 : wa.heap.size < ((wa.setCell ⟨wo.heap.size, y, none⟩ (.slice (some ⟨wa.heap.size, 0, none⟩) h h)).alloc (.cells (madeCells #[.bool false] h) 4)).heap.size := by simp
          have hrow0 : ((wa.setCell ⟨wo.heap.size, y, none⟩ (.slice (some ⟨wa.heap.size, 0, none⟩) h h)).alloc (.cells (madeCells #[.bool false] h) 4)).rowIs wa.heap.size 4 h (fun _ => .bool false) := by
            have := World.rowIs_made (wa.setCell ⟨wo.heap.size, y, none⟩ (.slice (some ⟨wa.heap.size, 0, none⟩) h h)) (.bool false) h 4
            simpa using this
          have hbw : Below wo.heap.size wo ((wa.setCell ⟨wo.heap.size, y, none⟩ (.slice (some ⟨wa.heap.size, 0, none⟩) h h)).alloc (.cells (madeCells #[.bool false] h) 4)) :=
            (HBy.out.setCell (p := ⟨wo.heap.size, y, none⟩) (Nat.le_refl _) _).alloc (by simp; omega) _
          have hXG : ((wa.setCell ⟨wo.heap.size, y, none⟩ (.slice (some ⟨wa.heap.size, 0, none⟩) h h)).alloc (.cells (madeCells #[.bool false] h) 4)).cell? ⟨wo.heap.size, y, none⟩ = some (.slice (some ⟨wa.heap.size, 0, none⟩) h h) := by
            have := ((HRy.out.1.set y (.slice (some ⟨wa.heap.size, 0, none⟩) h h)).alloc (.cells (madeCells #[.bool false] h) 4)).cell hlt2
            simpa using this
          generalize hw1 : (wa.setCell ⟨wo.heap.size, y, none⟩ (.slice (some ⟨wa.heap.size, 0, none⟩) h h)).alloc (.cells (madeCells #[.bool false] h) 4) = w1 at *
          have HW1 := Lib.hid hw1
          clear hw1 X0 F0
          generalize hg' : wa.heap.size = g' at *
          have HG' := Lib.hid hg'
          clear hg'
          have HBW := Lib.hid hbw
          have HXG := Lib.hid hXG
          clear hbw hXG
          go_loopw [37] (fun x wr => ∃ (j : Nat) (f : Nat → Bool), j ≤ h ∧ x = .int .i64 (j : Int) ∧ Only g' w1 wr ∧ wr.rowIs g' 4 h (fun x => .bool (f x)) ∧ Hid (∀ x, x < j → f x = turnF h G y x)) (fun x _ => h - (intOf x).toNat)
          case atStart => exact ⟨0, fun _ => false, by omega, rfl, Only.refl _ _, hrow0, fun x hx => by omega⟩
          case round =>
            obtain ⟨j, f, hj, rfl, ho, hrow, HF⟩ := hrel
            by_cases hlt3 : j < h
            · have X0 : wr.cell? ⟨wo.heap.size, y, none⟩ = some (.slice (some ⟨g', 0, none⟩) h h) := by
                rw [World.cell?_of_block (w := w1) (ho.block _ (by show wo.heap.size ≠ _; omega))]; exact HXG.out
              have X1 := hrow.cell hlt3
              have F1 := hrow.frozen j
              have hbr : Below wo.heap.size wo wr := HBW.out.trans (ho.below (by omega))
              obtain ⟨u1, c1, r1, k1, rfl, c2⟩ := HC.out (h - 1 - j) (by omega)
              have X2 := (hbr.cell (cell_lt c1)).trans c1
              have X3 := (hbr.cell (cell_lt (c2 y hlt2))).trans (c2 y hlt2)
              have hT2 : (h : Int) - 1 - (j : Int) = ((h - 1 - j : Nat) : Int) := by omega
              have hT0 : IntKind.i64.wrap ((h : Int) - 1) = (h : Int) - 1 := IntWalk.i64_in _ ⟨by omega, by omega⟩
              have hT1 : IntKind.i64.wrap ((h : Int) - 1 - (j : Int)) = ((h - 1 - j : Nat) : Int) := by rw [hT2]; exact IntWalk.i64_in _ ⟨by omega, by omega⟩
              have HTF : Hid (G (h - 1 - j) y = turnF h G y j) := rfl
              generalize h - 1 - j = t at *
              generalize G t y = bb at *
              have HO := Lib.hid ho
              have HRow := Lib.hid hrow
              have I3 : (j : Int) < (h : Int) := by omega
              have I2 : 0 ≤ (j : Int) := by omega
              have I4 : (t : Int) < (h : Int) := by omega
              clear hT2
              have I5 : 0 ≤ (t : Int) := by omega
              clear ho hrow c1 c2 hbr
              go_wp2
              refine wp_region_fast 40 16 (by kernel_rfl) (by kernel_rfl) (fun ops K hK => ?_)
              simp only [List.take_succ_cons, List.take_zero]
              repeat still_step
              refine wpStill_nil (hK _ ?_)
              clear hK
              simp only [List.drop_succ_cons, List.drop_zero]
              go_wp2
              go_roundw
              case rel =>
                refine ⟨j + 1, _, by omega, by go_num, HO.out.drew.setCell rfl _, HRow.out.drew.setb j _, fun x hx => ?_⟩
                by_cases e : x = j
                · subst e; simp only [if_true]; exact HTF.out
                · simp only [e, if_false]; exact HF.out x (by omega)
              case measure => simp [intOf]; omega
            · obtain rfl : j = h := by omega
              have HO := Lib.hid ho
              have HRow := Lib.hid hrow
              clear ho hrow
              go_wp2
              go_roundw
              case rel =>
                refine ⟨y + 1, _, by omega, by go_num, HRy.out.next HG'.out (by omega) hlt2 (by rw [HW1.out]; exact HO.out) (HRow.out.congr fun x hx => by rw [HF.out x hx]), HBW.out.trans (HO.out.below (by omega)), ?_⟩
                have := HO.out.size
                omega
              case measure => simp [intOf]; omega
        · obtain rfl : y = m := by omega
          go_wp2
          go_roundw
          case rel =>
            refine ⟨k + 1, by omega, by go_num, ?_, HB.out.trans (HBy.out.mono hws)⟩
            obtain ⟨e1, e2, e3⟩ := HT.out
            show Grid wa _ (turns H W F k).2.1 (turns H W F k).1 (turnF (turns H W F k).1 (turns H W F k).2.2)
            rw [← e1, ← e2, ← e3]
            obtain ⟨q1, q2, q3, q4⟩ := HRy.out
            refine ⟨wo.heap.size, y, rfl, fun i hi => ⟨_, q1.cell hi, R i, h, by simp [hi], fun j hj => (q2 i hi).cell hj⟩⟩
          case measure => simp [intOf]; omega
    · obtain rfl : k = n := by omega
      go_wp2
      go_ret
      exact ⟨_, rfl, HGk.out, HB.out⟩

end Go.Proofs.Ytaadklfendegfaa
