/- The walk of SCLeaning: a picture of modules, seen aslant. -/
import Derived.Test.YtaadklfendegfaaSal
import Derived.Test.YtaadklfendegfaaXm
import Derived.Test.YtaadklfendegfaaZb
namespace Go.Proofs.Ytaadklfendegfaa
open Go.RowKit

abbrev fge (x y : Nat) : Bool := FloatKind.f64.format.order x y == some .gt || FloatKind.f64.format.order x y == some .eq
/-- a float within 0 and so many, and its whole part -/
def InR (X W i : Nat) : Prop := fge X f0 = true ∧ flt X (ofI (W : Int)) = true ∧ floatToIntVal .f64 X .i64 = some (i : Int)
/-- what a pixel is, if its point lies among the modules -/
def PixOK (o : Nat → Nat) (F : Nat → Nat → Bool) (W H y x : Nat) (b : Bool) : Prop := ∀ X Y i j, ScAtR o (hf x) (hf y) X Y → InR X W i → InR Y H j → b = F j i
/-- SCAt comes as far as its quotients -/
def AtR (o : Nat → Nat) (x y dx dy z n m : Nat) : Prop := fsub x (o 8) = some dx ∧ fsub y (o 9) = some dy ∧ Dot2R (o 6) dx (o 7) dy f1 z ∧ Dot2R (o 0) dx (o 1) dy (o 2) n ∧ Dot2R (o 3) dx (o 4) dy (o 5) m

theorem dot2_same {p1 q1 p2 q2 c z z' : Nat} (h : Dot2R p1 q1 p2 q2 c z) (h' : Dot2R p1 q1 p2 q2 c z') : z = z' := by
  obtain ⟨x, y, u, h1, h2, h3, h4⟩ := h
  obtain ⟨x', y', u', k1, k2, k3, k4⟩ := h'
  rw [h1] at k1; injection k1 with k1; subst k1
  rw [h2] at k2; injection k2 with k2; subst k2
  rw [h3] at k3; injection k3 with k3; subst k3
  rw [h4] at k4; injection k4
theorem at_same {o : Nat → Nat} {x y dx dy z n m X Y X' Y' : Nat} (h : AtR o x y dx dy z n m) (hX : ∀ q, fdiv n z = some q → X = q) (hY : ∀ q, fdiv m z = some q → Y = q) (h' : ScAtR o x y X' Y') : X' = X ∧ Y' = Y := by
  obtain ⟨h1, h2, h3, h4, h5⟩ := h
  obtain ⟨dx', dy', z', n', m', k1, k2, k3, k4, k5, k6, k7⟩ := h'
  rw [h1] at k1; injection k1 with k1; subst k1
  rw [h2] at k2; injection k2 with k2; subst k2
  obtain rfl := dot2_same h3 k3
  obtain rfl := dot2_same h4 k4
  obtain rfl := dot2_same h5 k6
  exact ⟨(hX _ k5).symm, (hY _ k7).symm⟩

theorem read_mod (x : Nat) : Ieee.double.read (x % 18446744073709551616) = Ieee.double.read x := by
  have hs : Ieee.double.signWeight = 9223372036854775808 := by decide
  unfold Ieee.Format.read
  rw [hs]
  have a1 : x % 18446744073709551616 / 9223372036854775808 % 2 = x / 9223372036854775808 % 2 := by omega
  have a2 : x % 18446744073709551616 % 9223372036854775808 = x % 9223372036854775808 := by omega
  rw [a1, a2]

theorem in_of {X W : Nat} (h1 : fge X f0 = true) (h2 : flt X (ofI (W : Int)) = true) (hW : W ≤ 1000) : ∃ i : Nat, i < W ∧ floatToIntVal .f64 X .i64 = some (i : Int) := by
  have w0 := wh0 0 (by omega)
  have wW := wh_ofI (W : Int) 1000 (by omega) (by omega)
  have o1 : Ieee.double.order X f0 = Ieee.double.order (X % 18446744073709551616) f0 := by unfold Ieee.Format.order; rw [read_mod]
  have o2 : Ieee.double.order X (ofI (W : Int)) = Ieee.double.order (X % 18446744073709551616) (ofI (W : Int)) := by unfold Ieee.Format.order; rw [read_mod]
  have g1 : (Ieee.double.order X f0 == some .gt || Ieee.double.order X f0 == some .eq) = true := h1
  have g2 : (Ieee.double.order X (ofI (W : Int)) == some .lt) = true := h2
  rw [o1] at g1
  rw [o2] at g2
  have hfin : Fl.fin (X % 18446744073709551616) := by
    refine ⟨Nat.mod_lt _ (by decide), ?_⟩
    obtain ⟨_, s0, m0, e0, r0⟩ := w0.fin
    obtain ⟨_, s1, m1, e1, r1⟩ := wW.fin
    unfold Ieee.Format.order at g1 g2
    rw [r0] at g1
    rw [r1] at g2
    cases hd : Ieee.double.read (X % 18446744073709551616) with
    | nan => rw [hd] at g1; simp [Ieee.Datum.order] at g1
    | infinity s => rw [hd] at g1 g2; cases s <;> simp [Ieee.Datum.order] at g1 g2
    | number s m e => exact ⟨s, m, e, rfl⟩
  have c1 := Fl.order_val hfin w0.fin
  have c2 := Fl.order_val hfin wW.fin
  rw [w0.eq] at c1
  rw [wW.eq] at c2
  obtain ⟨n, k1, k2, _⟩ := Fl.toInt_val hfin
  generalize Fl.val (X % 18446744073709551616) = v at *
  have hv0 : 0 ≤ v := by
    apply Classical.byContradiction; intro hn
    have hlt : v < ((0 : Int) : Rat) := by have : (((0 : Int)) : Rat) = 0 := rfl; rw [this]; grind
    rw [c1.1 hlt] at g1; simp at g1
  have hvW : v < ((W : Int) : Rat) := by
    apply Classical.byContradiction; intro hn
    rcases (show v = ((W : Int) : Rat) ∨ ((W : Int) : Rat) < v by grind) with h | h
    · rw [c2.2.1 h] at g2; simp at g2
    · rw [c2.2.2 h] at g2; simp at g2
  obtain ⟨p1, p2, p3⟩ := k2 hv0
  have hnW : n < (W : Int) := by
    have : (n : Rat) < ((W : Int) : Rat) := by grind
    exact_mod_cast this
  refine ⟨n.toNat, by omega, ?_⟩
  have hn : ((n.toNat : Nat) : Int) = n := by omega
  rw [hn]
  have k1' : (FloatKind.f64.decode X).toInt .zero = some n := by
    rw [read_mod] at k1; exact k1
  unfold floatToIntVal
  rw [k1']
  have m1 : IntKind.i64.min = -9223372036854775808 := rfl
  have m2 : IntKind.i64.max = 9223372036854775807 := rfl
  show (if IntKind.i64.min ≤ n ∧ n ≤ IntKind.i64.max then some n else none) = _
  rw [if_pos (by rw [m1, m2]; omega)]

set_option maxRecDepth 100000 in
set_option maxHeartbeats 4000000 in
theorem lean_calls (mv : Value) (H W : Nat) (F : Nat → Nat → Bool) (o : Nat → Nat) (w : World) (hg : Grid w mv H W F) (hW : W ≤ 1000) (hH0 : 1 ≤ H) (hH : H ≤ 1000)
    (hat : ∀ x y, x < 170 → y < 170 → ∃ dx dy z n m, AtR o (hf x) (hf y) dx dy z n m) :
    Calls Try.prog 22 #[mv, .agg (tens o), .int .i64 170, .int .i64 170] w fun e w' => ∃ v L, e = .returned v ∧ GridO w.heap.size w' v 170 170 L ∧ Below w.heap.size w w' ∧ ∀ y, y < 170 → ∀ x, x < 170 → PixOK o F W H y x (L y x) := by
  obtain ⟨g, c, rfl, hrows⟩ := hg
  obtain ⟨u0, h0, b0, k0, rfl, hc0⟩ := hrows 0 (by omega)
  have HRows := Lib.hid hrows
  have HAt := Lib.hid hat
  have H0 := Lib.hid h0
  obtain ⟨iF, hi, hz0, hz1, hz2⟩ := info_parts Try.info44
  have hmk := fun (w : World) => run_make_row' (P := Try.prog) 44 4 (.bool false) 1 Try.underlying44 Try.info4 rfl .i64 .i64 170 (by omega) (by omega) w
  simp only [Int.cast_ofNat_Int] at hmk
  clear hrows hat hc0 h0
  unfold tens
  go_enter Try.func22, Try.ntmps22
  go_wp2
  have hx1 : (w.alloc (.cells #[fv (o 0), fv (o 1), fv (o 2), fv (o 3), fv (o 4), fv (o 5), fv (o 6), fv (o 7), fv (o 8), fv (o 9)] 31)).heap[w.heap.size]? = some (.cells #[fv (o 0), fv (o 1), fv (o 2), fv (o 3), fv (o 4), fv (o 5), fv (o 6), fv (o 7), fv (o 8), fv (o 9)] 31) := blk_new _ _
  have hb1 : Below w.heap.size w (w.alloc (.cells #[fv (o 0), fv (o 1), fv (o 2), fv (o 3), fv (o 4), fv (o 5), fv (o 6), fv (o 7), fv (o 8), fv (o 9)] 31)) := (Below.refl _ _).alloc (Nat.le_refl _) _
  have hs1 : (w.alloc (.cells #[fv (o 0), fv (o 1), fv (o 2), fv (o 3), fv (o 4), fv (o 5), fv (o 6), fv (o 7), fv (o 8), fv (o 9)] 31)).heap.size = w.heap.size + 1 := blk_size _ _
  generalize w.alloc (.cells #[fv (o 0), fv (o 1), fv (o 2), fv (o 3), fv (o 4), fv (o 5), fv (o 6), fv (o 7), fv (o 8), fv (o 9)] 31) = w1 at *
  have HX1 := Lib.hid hx1
  have HB1 := Lib.hid hb1
  have hs1a : w.heap.size < w1.heap.size := by omega
  clear hx1 hb1 hs1
  go_loopw [9, 10, 11, 12, 13] (fun v y _ _ _ wr => ∃ (k : Nat) (R : Nat → Nat) (B : Nat → Nat → Bool), k ≤ 170 ∧ y = .int .i64 (k : Int) ∧ Hid (RowsOn w1.heap.size wr v 170 k R B) ∧ Hid (Below w1.heap.size w1 wr) ∧ Hid (∀ y, y < k → ∀ x, x < 170 → PixOK o F W H y x (B y x))) (fun _ y _ _ _ _ => 170 - (intOf y).toNat)
  case atStart => exact ⟨0, fun _ => 0, fun _ _ => false, by omega, rfl, RowsOn.nil _ _ _ _ _, Below.refl _ _, fun y hy => by omega⟩
  case round =>
    obtain ⟨wo, rfl⟩ : ∃ wo : World, wo = wr := ⟨_, rfl⟩
    obtain ⟨k, R, B, hk, rfl, HR, HBo, HF⟩ := hrel
    by_cases hlt : k < 170
    · have J0 : (k : Int) < 170 := by omega
      have J1 : 0 ≤ (k : Int) := by omega
      go_wp2
      have hrow0 := World.rowIs_made wo (.bool false) 170 4
      have hb3 : Below wo.heap.size wo (wo.alloc (.cells (madeCells #[.bool false] 170) 4)) := (Below.refl _ _).alloc (Nat.le_refl _) _
      generalize wo.alloc (.cells (madeCells #[.bool false] 170) 4) = w3 at *
      have hbs : w1.heap.size ≤ wo.heap.size := HBo.out.size
      have HB3 := Lib.hid hb3
      have HRow0 := Lib.hid hrow0
      clear hb3 hrow0
      go_loopw [12, 13] (fun x _ wr => ∃ (j : Nat) (f : Nat → Bool), j ≤ 170 ∧ x = .int .i64 (j : Int) ∧ Hid (Below wo.heap.size wo wr) ∧ Hid (wr.rowIs wo.heap.size 4 170 (fun x => .bool (f x))) ∧ Hid (∀ x, x < 170 → j ≤ x → f x = false) ∧ Hid (∀ x, x < j → PixOK o F W H k x (f x))) (fun x _ _ => 170 - (intOf x).toNat)
      case atStart => exact ⟨0, fun _ => false, by omega, rfl, HB3, HRow0, fun _ _ _ => rfl, fun x hx => by omega⟩
      case round =>
        obtain ⟨j, f, hj, rfl, HBj, HRow, HZ, HFj⟩ := hrel
        by_cases hlt2 : j < 170
        · obtain ⟨dx, dy, z, n, m, hat⟩ := HAt.out j k hlt2 hlt
          have hb1r : Below w1.heap.size w1 wr := HBo.out.trans (HBj.out.mono hbs)
          have hxr := (hb1r.block _ hs1a).trans HX1.out
          have c0 : wr.cell? ⟨w.heap.size, 0, none⟩ = some (fv (o 0)) := cell_at_cells hxr (by rfl)
          have c1 : wr.cell? ⟨w.heap.size, 1, none⟩ = some (fv (o 1)) := cell_at_cells hxr (by rfl)
          have c2 : wr.cell? ⟨w.heap.size, 2, none⟩ = some (fv (o 2)) := cell_at_cells hxr (by rfl)
          have c3 : wr.cell? ⟨w.heap.size, 3, none⟩ = some (fv (o 3)) := cell_at_cells hxr (by rfl)
          have c4 : wr.cell? ⟨w.heap.size, 4, none⟩ = some (fv (o 4)) := cell_at_cells hxr (by rfl)
          have c5 : wr.cell? ⟨w.heap.size, 5, none⟩ = some (fv (o 5)) := cell_at_cells hxr (by rfl)
          have c6 : wr.cell? ⟨w.heap.size, 6, none⟩ = some (fv (o 6)) := cell_at_cells hxr (by rfl)
          have c7 : wr.cell? ⟨w.heap.size, 7, none⟩ = some (fv (o 7)) := cell_at_cells hxr (by rfl)
          have c8 : wr.cell? ⟨w.heap.size, 8, none⟩ = some (fv (o 8)) := cell_at_cells hxr (by rfl)
          have c9 : wr.cell? ⟨w.heap.size, 9, none⟩ = some (fv (o 9)) := cell_at_cells hxr (by rfl)
          have R1 := fun t w => run_float_arith (P := Try.prog) w .add t .f64 (ofI (j : Int)) fHalf _ (hf_spec j (by omega)).1
          have R2 := fun t w => run_float_arith (P := Try.prog) w .add t .f64 (ofI (k : Int)) fHalf _ (hf_spec k (by omega)).1
          have HC := Lib.hid (scat_any o (hf j) (hf k) dx dy z n m wr hat.1 hat.2.1 hat.2.2.1 hat.2.2.2.1 hat.2.2.2.2)
          unfold tens at HC
          have I0 : (j : Int) < 170 := by omega
          have I1 : 0 ≤ (j : Int) := by omega
          have HAtj := Lib.hid hat
          have HBr := Lib.hid (HB1.out.trans (hb1r.mono (by omega)))
          clear hat hb1r hxr
          go_wp2_with (go_at_call 13; refine HC.out.mono ?_)
          rintro e w7 ⟨X, Y, rfl, hX, hY, hb7⟩
          have HSame := Lib.hid (fun X' Y' (h : ScAtR o (hf j) (hf k) X' Y') => at_same HAtj.out hX hY h)
          have HB7 := Lib.hid (HBj.out.trans (hb7.mono (by have := HBj.out.size; omega)))
          have HRow7 := Lib.hid (HRow.out.of_block (hb7.block _ HRow.out.lt))
          have hb7w := HBr.out.trans (hb7.mono HBr.out.size)
          have HB7w := Lib.hid hb7w
          clear hX hY hb7 HC HAtj c0 c1 c2 c3 c4 c5 c6 c7 c8 c9 R1 R2 HBj HRow
          go_wp2
          have hb8 : Below w7.heap.size w7 (w7.alloc (.cells #[.float .f64 X, .float .f64 Y] 26)) := (Below.refl _ _).alloc (Nat.le_refl _) _
          have hp8 : (w7.alloc (.cells #[.float .f64 X, .float .f64 Y] 26)).heap[w7.heap.size]? = some (.cells #[.float .f64 X, .float .f64 Y] 26) := blk_new _ _
          generalize w7.alloc (.cells #[.float .f64 X, .float .f64 Y] 26) = w8 at *
          have P0 : w8.cell? ⟨w7.heap.size, 0, none⟩ = some (fv X) := cell_at_cells hp8 rfl
          have P1 : w8.cell? ⟨w7.heap.size, 1, none⟩ = some (fv Y) := cell_at_cells hp8 rfl
          have hB8 : Below wo.heap.size wo w8 := HB7.out.trans (hb8.mono (by have := HB7.out.size; omega))
          have hRow8 := HRow7.out.of_block (hb8.block _ HRow7.out.lt)
          have hB8w := HB7w.out.trans (hb8.mono HB7w.out.size)
          have Q0 : w8.cell? ⟨g, 0, none⟩ = some (.slice (some ⟨b0, 0, none⟩) W k0) := (hB8w.cell (cell_lt H0.out)).trans H0.out
          have HB8 := Lib.hid hB8
          have HRow8 := Lib.hid hRow8
          have HB8w := Lib.hid hB8w
          have G0 : (0 : Int) < (H : Int) := by omega
          have G1 : 0 < H := by omega
          have G2 : ¬ H = 0 := by omega
          clear hb8 hp8 hB8 hRow8 hB8w HB7 HRow7 HB7w
          generalize w7.heap.size = b7 at *
          cases cX0 : fge X f0 with
          | false =>
            go_quiet (fail)
            go_wp2
            go_roundw
            case rel => exact ⟨j + 1, f, by omega, by go_num, below_drewN HB8.out _, HRow8.out.of_block rfl, fun x hx hjx => HZ.out x hx (by omega), fun x hx => by
              by_cases e : x = j
              · subst e
                intro X' Y' i' j' hat' hx' hy'
                obtain ⟨rfl, rfl⟩ := HSame.out X' Y' hat'
                exfalso
                rw [hx'.1] at cX0; cases cX0
              · exact HFj.out x (by omega)⟩
            case measure => simp [intOf]; omega
          | true =>
            cases cX1 : flt X (ofI (W : Int)) with
            | false =>
              go_quiet (fail)
              go_wp2
              go_roundw
              case rel => exact ⟨j + 1, f, by omega, by go_num, below_drewN HB8.out _, HRow8.out.of_block rfl, fun x hx hjx => HZ.out x hx (by omega), fun x hx => by
                by_cases e : x = j
                · subst e
                  intro X' Y' i' j' hat' hx' hy'
                  obtain ⟨rfl, rfl⟩ := HSame.out X' Y' hat'
                  exfalso
                  rw [hx'.2.1] at cX1; cases cX1
                · exact HFj.out x (by omega)⟩
              case measure => simp [intOf]; omega
            | true =>
              cases cY0 : fge Y f0 with
              | false =>
                go_quiet (fail)
                go_wp2
                go_roundw
                case rel => exact ⟨j + 1, f, by omega, by go_num, below_drewN HB8.out _, HRow8.out.of_block rfl, fun x hx hjx => HZ.out x hx (by omega), fun x hx => by
                  by_cases e : x = j
                  · subst e
                    intro X' Y' i' j' hat' hx' hy'
                    obtain ⟨rfl, rfl⟩ := HSame.out X' Y' hat'
                    exfalso
                    rw [hy'.1] at cY0; cases cY0
                  · exact HFj.out x (by omega)⟩
                case measure => simp [intOf]; omega
              | true =>
                cases cY1 : flt Y (ofI (H : Int)) with
                | false =>
                  go_quiet (fail)
                  go_wp2
                  go_roundw
                  case rel => exact ⟨j + 1, f, by omega, by go_num, below_drewN HB8.out _, HRow8.out.of_block rfl, fun x hx hjx => HZ.out x hx (by omega), fun x hx => by
                    by_cases e : x = j
                    · subst e
                      intro X' Y' i' j' hat' hx' hy'
                      obtain ⟨rfl, rfl⟩ := HSame.out X' Y' hat'
                      exfalso
                      rw [hy'.2.1] at cY1; cases cY1
                    · exact HFj.out x (by omega)⟩
                  case measure => simp [intOf]; omega
                | true =>
                  obtain ⟨i, hi1, ti⟩ := in_of cX0 cX1 hW
                  obtain ⟨i2, hi2, tj⟩ := in_of cY0 cY1 hH
                  have hc1 := fun (w : World) => run_convert_float_int (P := Try.prog) (w := w) 25 3 .f64 .i64 X _ (by kernel_rfl) (by kernel_rfl) ti
                  have hc2 := fun (w : World) => run_convert_float_int (P := Try.prog) (w := w) 25 3 .f64 .i64 Y _ (by kernel_rfl) (by kernel_rfl) tj
                  obtain ⟨u2, q1, b2, k2, rfl, q2⟩ := HRows.out i2 hi2
                  have q2' := q2 i hi1
                  have Q1 := (HB8w.out.cell (cell_lt q1)).trans q1
                  have Q2 := (HB8w.out.cell (cell_lt q2')).trans q2'
                  have X1 := HRow8.out.cell (i := j) (by omega)
                  have F1 := HRow8.out.frozen j
                  have L1 : (i2 : Int) < (H : Int) := by omega
                  have L2 : 0 ≤ (i2 : Int) := by omega
                  have L3 : (i : Int) < (W : Int) := by omega
                  have L4 : 0 ≤ (i : Int) := by omega
                  have HTi := Lib.hid (And.intro ti tj)
                  clear ti tj q1 q2 q2'
                  generalize hFb : F i2 i = fb at *
                  have HFb := Lib.hid hFb
                  clear hFb
                  go_quiet (fail)
                  go_wp2
                  refine wp_region_fast 61 14 (by kernel_rfl) (by kernel_rfl) (fun ops K hK => ?_)
                  simp only [List.take_succ_cons, List.take_zero]
                  repeat still_step
                  refine wpStill_nil (hK _ ?_)
                  clear hK
                  simp only [List.drop_succ_cons, List.drop_zero]
                  go_wp2
                  go_roundw
                  case rel =>
                    refine ⟨j + 1, fun x => if x = j then fb else f x, by omega, by go_num, ?_, ?_, fun x hx hjx => ?_, fun x hx => ?_⟩
                    · first | exact ((below_drewN HB8.out _).setCell (p := ⟨wo.heap.size, j, none⟩) (Nat.le_refl _) _).drew | exact ((below_drewN HB8.out _).drew).setCell (p := ⟨wo.heap.size, j, none⟩) (Nat.le_refl _) _
                    · first | exact ((HRow8.out.setb j fb).of_block rfl) | exact (World.rowIs.setb (HRow8.out.of_block rfl) j fb).of_block rfl
                    · dsimp only; rw [if_neg (by omega)]; exact HZ.out x hx (by omega)
                    · by_cases e : x = j
                      · subst e
                        intro X' Y' i' j' hat' hx' hy'
                        obtain ⟨rfl, rfl⟩ := HSame.out X' Y' hat'
                        obtain ⟨t1, t2⟩ := HTi.out
                        have e1 := hx'.2.2
                        have e2 := hy'.2.2
                        rw [t1] at e1
                        rw [t2] at e2
                        injection e1 with e1
                        injection e2 with e2
                        simp only [if_true]
                        rw [← HFb.out]; congr 1 <;> omega
                      · simp only [e, if_false]; exact HFj.out x (by omega)
                  case measure => simp [intOf]; omega
        · obtain rfl : 170 = j := by omega
          have hbg := HBj.out
          have hown := ((HR.out.after hbg).1).alloc (.cells #[.slice (some ⟨wo.heap.size, 0, none⟩) 170 170] 44)
          have hwr : w1.heap.size ≤ wr.heap.size := by have := hbg.size; omega
          go_wp2_with (at_builtin; go_must (refine wpList_append_own _ rfl _ _ 40 rfl w1.heap.size 44 iF (.slice none 0 0) 1 24 Try.underlying40 hi hz0 hz1 hz2 rfl (by decide) _ _ _ rfl hown ⟨wr.heap.size, 0, none⟩ 1 1 [.slice (some ⟨wo.heap.size, 0, none⟩) 170 170] rfl rfl ?d1 ?d2 ?d3 ?d4 ?d5 ?_))
          case d1 =>
            intro i u hu
            match i, hu with
            | 0, hu => simp at hu; subst hu; exact cell_at_cells (blk_new _ _) (by rfl)
          case d2 => intro u hu; simp at hu; subst hu; rfl
          case d3 => unfold maxLen; omega
          case d4 => omega
          case d5 => simp; omega
          intro v' w4 hown' hgrow _
          have hnext := HR.out.next rfl hbs hbg HRow.out hown' hgrow
          have hb4 : Below w1.heap.size w1 w4 := ((HBo.out.trans (hbg.mono hbs)).alloc hwr _).grown hgrow (by simp; omega) (fun k hk => (HR.out.1.lt k hk).1)
          have HN := Lib.hid hnext
          have HB4 := Lib.hid hb4
          clear hnext hb4 hown' hgrow hown hbg
          go_wp2
          go_roundw
          case rel => exact ⟨k + 1, _, _, by omega, by go_num, HN.out, HB4.out, fun y hy x hx => by
            by_cases e : y = k
            · subst e; simp only [if_true]; exact HFj.out x hx
            · simp only [e, if_false]; exact HF.out y (by omega) x hx⟩
          case measure => simp [intOf]; omega
    · obtain rfl : 170 = k := by omega
      go_wp2
      go_ret
      exact ⟨_, B, rfl, (HR.out.grid (by omega)).mono (by omega), HB1.out.trans (HBo.out.mono (by omega)), HF.out⟩

end Go.Proofs.Ytaadklfendegfaa
