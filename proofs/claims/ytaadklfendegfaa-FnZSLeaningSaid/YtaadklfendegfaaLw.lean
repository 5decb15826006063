/- The walk of FnZSLeaning. -/
import Derived.Test.YtaadklfendegfaaQs
import Derived.Test.YtaadklfendegfaaZq
import Derived.Test.YtaadklfendegfaaSe
import Derived.Test.YtaadklfendegfaaSl
import Derived.Test.YtaadklfendegfaaXw
import Derived.Deep.MidRow
import Derived.Deep.RegionHeld3
namespace Go.Proofs.Ytaadklfendegfaa
open Go.RowKit

def byt8 (b : Nat → Int) : Array Value := #[.int .i8 (b 0), .int .i8 (b 1), .int .i8 (b 2), .int .i8 (b 3), .int .i8 (b 4), .int .i8 (b 5), .int .i8 (b 6), .int .i8 (b 7)]
abbrev f20 : Nat := 4626322717216342016
abbrev f12 : Nat := 4608083138725491507
/-- 20 + (x - 50) * 1.2 -/
def StretchR (x x' : Nat) : Prop := ∃ s t, fsub x f50 = some s ∧ fmul s f12 = some t ∧ fadd f20 t = some x'

/-- what the walk asks of the numbers -/
structure LeanOK (W H : Nat) (X Y : Nat → Nat) (o : Nat → Nat) (PX PY : Nat → Nat → Nat) : Prop where
  map : ScR X Y (gx W) (gy H) o
  at_ : ∀ x y, x < 170 → y < 170 → ∃ dx dy z n m, AtR o (hf x) (hf y) dx dy z n m
  grid : ∃ a a' b r, S2QR (gridQ W H) a ∧ AdjR a a' ∧ S2QR (q8 X Y) b ∧ TimesR b a' r ∧ ∀ i j, i < W → j < H → ∃ x' y', TPtR r (hf i) (hf j) x' y' ∧ floatToIntVal .f64 x' .i64 = some (PX i j : Int) ∧ floatToIntVal .f64 y' .i64 = some (PY i j : Int)
  inn : ∀ i j, i < W → j < H → PX i j < 170 ∧ PY i j < 170
  pix : ∀ i j, i < W → j < H → ∃ X' Y', ScAtR o (hf (PX i j)) (hf (PY i j)) X' Y' ∧ InR X' W i ∧ InR Y' H j

theorem sampl (rv : Value) (W H : Nat) (X Y : Nat → Nat) (o : Nat → Nat) (PX PY : Nat → Nat → Nat) (F L : Nat → Nat → Bool) (w : World) (hW : 1 ≤ W ∧ W ≤ 15) (hH : 1 ≤ H ∧ H ≤ 15) (h : LeanOK W H X Y o PX PY)
    (hL : ∀ y, y < 170 → ∀ x, x < 170 → PixOK o F W H y x (L y x)) (hg : Grid w rv 170 170 L) :
    Calls Try.prog 19 #[rv, .int .i64 (W : Int), .int .i64 (H : Int), .agg (q8 (gx W) (gy H)).vals, .agg (q8 X Y).vals] w fun e w' => ∃ v, e = .returned (.tuple #[v, .bool true]) ∧ Grid w' v H W F ∧ Below w.heap.size w w' := by
  obtain ⟨a, a', b, r, k1, k2, k3, k4, k5⟩ := h.grid
  rw [q8_grid]
  refine (sample_in rv 170 170 W H L (gridQ W H) (q8 X Y) a a' b r PX PY w k1 k2 k3 k4 hg hW.1 hW.2 hH.1 hH.2 (by omega) (by omega) (by omega) (by omega) k5 h.inn).mono ?_
  rintro e w' ⟨v, rfl, h1, h2⟩
  refine ⟨v, rfl, (h1.grid).congr fun y hy x hx => ?_, h2⟩
  obtain ⟨X', Y', p1, p2, p3⟩ := h.pix x y hx hy
  have hin := h.inn x y hx hy
  exact hL _ hin.2 _ hin.1 X' Y' x y p1 p2 p3

theorem scx_calls (X Y : Nat → Nat) (W H : Nat) (o : Nat → Nat) (w : World) (h : ScR X Y (gx W) (gy H) o) :
    Calls Try.prog 12 #[.agg #[fv (xy X Y 0), fv (xy X Y 1), fv (xy X Y 2), fv (xy X Y 3), fv (xy X Y 4), fv (xy X Y 5), fv (xy X Y 6), fv (xy X Y 7)], .agg #[fv (xy (gx W) (gy H) 0), fv (xy (gx W) (gy H) 1), fv (xy (gx W) (gy H) 2), fv (xy (gx W) (gy H) 3), fv (xy (gx W) (gy H) 4), fv (xy (gx W) (gy H) 5), fv (xy (gx W) (gy H) 6), fv (xy (gx W) (gy H) 7)]] w fun e w' => e = .returned (.tuple #[.agg (tens o), .bool true]) ∧ Below w.heap.size w w' := by
  have e : ∀ (A B : Nat → Nat), xy A B 0 = A 0 ∧ xy A B 1 = B 0 ∧ xy A B 2 = A 1 ∧ xy A B 3 = B 1 ∧ xy A B 4 = A 2 ∧ xy A B 5 = B 2 ∧ xy A B 6 = A 3 ∧ xy A B 7 = B 3 := fun A B => ⟨rfl, rfl, rfl, rfl, rfl, rfl, rfl, rfl⟩
  obtain ⟨e0, e1, e2, e3, e4, e5, e6, e7⟩ := e X Y
  obtain ⟨g0, g1, g2, g3, g4, g5, g6, g7⟩ := e (gx W) (gy H)
  rw [e0, e1, e2, e3, e4, e5, e6, e7, g0, g1, g2, g3, g4, g5, g6, g7]
  exact sc_calls X Y (gx W) (gy H) o w h

theorem row_put {w : World} {b k : Nat} {X Y X' Y' : Nat → Nat} (h : w.rowIs b 27 8 (fun j => fv (if j < 2 * k then xy X' Y' j else xy X Y j))) :
    ((w.setCell ⟨b, k * 2, none⟩ (fv (X' k))).setCell ⟨b, k * 2 + 1, none⟩ (fv (Y' k))).rowIs b 27 8 (fun j => fv (if j < 2 * (k + 1) then xy X' Y' j else xy X Y j)) := by
  rw [Nat.mul_comm k 2]
  exact ((h.set (2 * k) _).set (2 * k + 1) _).congr fun j _ => by
    by_cases e1 : j = 2 * k + 1
    · subst e1; simp only [if_true]; rw [if_pos (by omega), xy_odd]
    · by_cases e2 : j = 2 * k
      · subst e2; rw [if_neg (by omega)]; simp only [if_true]; rw [if_pos (by omega), xy_even]
      · simp only [e1, e2, if_false]
        by_cases e3 : j < 2 * k
        · rw [if_pos e3, if_pos (by omega)]
        · rw [if_neg e3, if_neg (by omega)]

theorem row_of8 {w : World} {b : Nat} {Q : Q8} (h : w.heap[b]? = some (.cells Q.vals 27)) : ∃ X Y : Nat → Nat, w.rowIs b 27 8 (fun j => fv (xy X Y j)) ∧ X 0 = Q.x0 ∧ Y 0 = Q.y0 ∧ X 1 = Q.x1 ∧ Y 1 = Q.y1 ∧ X 2 = Q.x2 ∧ Y 2 = Q.y2 ∧ X 3 = Q.x3 ∧ Y 3 = Q.y3 :=
  ⟨fun i => if i = 0 then Q.x0 else if i = 1 then Q.x1 else if i = 2 then Q.x2 else Q.x3, fun i => if i = 0 then Q.y0 else if i = 1 then Q.y1 else if i = 2 then Q.y2 else Q.y3, ⟨_, h, rfl, fun j hj => by
    rcases (show j = 0 ∨ j = 1 ∨ j = 2 ∨ j = 3 ∨ j = 4 ∨ j = 5 ∨ j = 6 ∨ j = 7 by omega) with rfl | rfl | rfl | rfl | rfl | rfl | rfl | rfl <;> rfl⟩, rfl, rfl, rfl, rfl, rfl, rfl, rfl, rfl⟩

set_option maxRecDepth 100000 in
set_option maxHeartbeats 8000000 in
theorem leaning_walk (sa : Option Addr) (len cap : Nat) (zs : List Int) (a1 a2 : Int) (b : Nat → Int) (Q : Q8) (W H : Nat) (X Y o : Nat → Nat) (PX PY : Nat → Nat → Nat) (w : World) (hlen : len ≤ 2147483647) (h1 : 0 ≤ a1 ∧ a1 ≤ 255) (h2 : 0 ≤ a2 ∧ a2 ≤ 255)
    (hz : len = 0 ∨ ∃ ab aoff, sa = some ⟨ab, aoff, none⟩ ∧ ∀ j, j < len → w.cell? ⟨ab, aoff + j, none⟩ = some (.int .u8 (zs.getD j 0)))
    (hW : 2 + a1 % 12 = (W : Int)) (hH : 2 + a2 % 12 = (H : Int)) (hQ : QuadR (b 0) (b 1) (b 2) (b 3) (b 4) (b 5) (b 6) (b 7) Q)
    (hX : StretchR Q.x0 (X 0) ∧ StretchR Q.x1 (X 1) ∧ StretchR Q.x2 (X 2) ∧ StretchR Q.x3 (X 3)) (hY : StretchR Q.y0 (Y 0) ∧ StretchR Q.y1 (Y 1) ∧ StretchR Q.y2 (Y 2) ∧ StretchR Q.y3 (Y 3)) (hok : LeanOK W H X Y o PX PY) :
    Calls Try.prog 6 #[.slice sa len cap, .int .u8 a1, .int .u8 a2, .agg (byt8 b)] w fun e w' => e = .returned (.bool true) ∧ Below w.heap.size w w' := by
  have hlz : decide ((2147483647 : Int) < (len : Int)) = false := by simp; omega
  obtain ⟨h10, h11⟩ := h1
  obtain ⟨h20, h21⟩ := h2
  have Q2 := fun w => quad_calls (b 0) (b 1) (b 2) (b 3) (b 4) (b 5) (b 6) (b 7) Q w hQ
  have hW0 : 2 ≤ W := by omega
  have hW1 : W ≤ 13 := by omega
  have hH0 : 2 ≤ H := by omega
  have hH1 : H ≤ 13 := by omega
  have HOK := Lib.hid hok
  have HZ := Lib.hid hz
  have HSX := Lib.hid hX
  have HSY := Lib.hid hY
  clear hok hz hQ hX hY
  unfold byt8
  go_enter Try.func6, Try.ntmps6
  go_wp2_with (fail)
  refine (mods_calls sa len cap zs (a1 % 12) (a2 % 12) W H _ hlen (by omega) (by omega) (by omega) (by omega) (by
    rcases HZ.out with h | ⟨ab, aoff, h3, h4⟩
    · exact .inl h
    · exact .inr ⟨ab, aoff, h3, fun j hj => by have := h4 j hj; rw [Below.cell ((Below.refl w.heap.size w).alloc (Nat.le_refl _) _) (cell_lt this)]; exact this⟩)).mono ?_
  rintro e w1 ⟨v, F, rfl, hgo, hb1⟩
  obtain ⟨g, c, R, rfl, hg, hrows, hR⟩ := hgo
  have hgr : Grid w1 (.slice (some ⟨g, 0, none⟩) H c) H W F := GridO.grid (base := 0) ⟨g, c, R, rfl, by omega, hrows, fun _ _ => by omega⟩
  have hx1 := hrows.1 0 (by omega)
  have HX1 := Lib.hid hx1
  have hgl := cell_lt hx1
  have HGr := Lib.hid hgr
  have hbw1 : Below w.heap.size w w1 := ((Below.refl _ _).alloc (Nat.le_refl _) _).trans (hb1.mono (by simp))
  have hbox : w1.heap[w.heap.size]? = some (.cells #[.int .i8 (b 0), .int .i8 (b 1), .int .i8 (b 2), .int .i8 (b 3), .int .i8 (b 4), .int .i8 (b 5), .int .i8 (b 6), .int .i8 (b 7)] 23) := by rw [hb1.block _ (by simp)]; exact blk_new _ _
  have hs1 : w.heap.size < w1.heap.size := (Array.getElem?_eq_some_iff.1 hbox).1
  have HBw1 := Lib.hid hbw1
  clear hgr hb1 hrows hR hx1 hbw1 HZ hg
  go_wp2
  refine wp_region_inv (by kernel_rfl) (by kernel_rfl) (InvW 2 (fun L K V => { tmps := #[.slice sa len cap, .int .u8 a1, .int .u8 a2, .agg #[.int .i8 (b 0), .int .i8 (b 1), .int .i8 (b 2), .int .i8 (b 3), .int .i8 (b 4), .int .i8 (b 5), .int .i8 (b 6), .int .i8 (b 7)], undef, undef, undef, .pointer (some ⟨w.heap.size, 0, none⟩), .bool false, .slice (some ⟨g, 0, none⟩) H c, V 0, V 1, undef, undef, undef, undef, undef, .slice sa len cap, .int .i64 (len : Int), .bool false, .slice sa len cap, .int .u8 a1, .int .u8 (a1 % 12), .int .u8 a2, .int .u8 (a2 % 12), .slice (some ⟨g, 0, none⟩) H c, L 0, K 0, L 1, K 1, undef, undef, undef, undef, undef, undef, undef, undef, undef, undef, undef, undef, undef, undef, undef, undef, undef, undef, undef, undef, undef, undef, undef, undef, undef, undef, undef, undef, undef, undef, undef, undef, undef, undef, undef, undef, undef, undef, undef, undef, undef, undef, undef, undef, undef, undef, undef, undef, undef, undef], defers := [] }) w1.heap.size w1 (three (.slice (some ⟨g, 0, none⟩) H c) (.agg #[.int .i8 (b 0), .int .i8 (b 1), .int .i8 (b 2), .int .i8 (b 3), .int .i8 (b 4), .int .i8 (b 5), .int .i8 (b 6), .int .i8 (b 7)]) (.agg #[.int .i8 (b 0), .int .i8 (b 1), .int .i8 (b 2), .int .i8 (b 3), .int .i8 (b 4), .int .i8 (b 5), .int .i8 (b 6), .int .i8 (b 7)])) (three #[fv f0, fv f0, fv (ofI (W : Int)), fv f0, fv (ofI (W : Int)), fv (ofI (H : Int)), fv f0, fv (ofI (H : Int))] #[fv Q.x0, fv Q.y0, fv Q.x1, fv Q.y1, fv Q.x2, fv Q.y2, fv Q.x3, fv Q.y3] #[fv Q.x0, fv Q.y0, fv Q.x1, fv Q.y1, fv Q.x2, fv Q.y2, fv Q.x3, fv Q.y3])) ?_ ?_ ?_
  · exact ⟨fun _ => undef, fun _ => undef, fun _ => undef, fun _ => 0, rfl, (Below.refl _ _).drew, Nat.le_refl _, (fun _ _ h => by cases h), (fun _ _ h => by cases h), (fun _ _ h => by cases h), (fun _ _ _ _ _ h => by cases h), (fun _ _ h => by cases h)⟩
  · intro S hS a wx hI
    obtain ⟨L, K, V, p, rfl, h⟩ := hI
    obtain ⟨va, p1, p2, p3⟩ := h.vars 0 (by omega) (hS _ (by decide))
    obtain ⟨vb, q1', q2', q3'⟩ := h.vars 1 (by omega) (hS _ (by decide))
    have hne := h.apart 0 1 (by omega) (by omega) (by omega) (hS _ (by decide)) (hS _ (by decide))
    rw [hS _ (by decide)] at p3 q3'
    have hA : wx.heap[p 0]? = some (.cells #[fv f0, fv f0, fv (ofI (W : Int)), fv f0, fv (ofI (W : Int)), fv (ofI (H : Int)), fv f0, fv (ofI (H : Int))] 27) := p3
    have hB : wx.heap[p 1]? = some (.cells Q.vals 27) := q3'
    have hbx : Below w1.heap.size w1 wx := h.below
    have hsx := hbx.size
    clear h p3 q3' hbox hS Q2
    generalize p 0 = pa at *
    generalize p 1 = pb at *
    obtain ⟨X0, Y0, hrow, x0, y0, x1, y1, x2, y2, x3, y3⟩ := row_of8 hB
    have hgA : Box wx pa (gx W) (gy H) := row_grid hA
    have hsx' : ∀ k, k < 4 → StretchR (X0 k) (X k) ∧ StretchR (Y0 k) (Y k) := fun k hk => by
      obtain ⟨s0, s1, s2, s3⟩ := HSX.out
      obtain ⟨t0, t1, t2, t3⟩ := HSY.out
      rcases (show k = 0 ∨ k = 1 ∨ k = 2 ∨ k = 3 by omega) with rfl | rfl | rfl | rfl
      · rw [x0, y0]; exact ⟨s0, t0⟩
      · rw [x1, y1]; exact ⟨s1, t1⟩
      · rw [x2, y2]; exact ⟨s2, t2⟩
      · rw [x3, y3]; exact ⟨s3, t3⟩
    have HS := Lib.hid hsx'
    have HRow := Lib.hid hrow
    have HGA := Lib.hid hgA
    have HBx := Lib.hid hbx
    clear hsx' hrow hgA hbx hA hB x0 y0 x1 y1 x2 y2 x3 y3 HSX HSY
    simp only [va, vb]
    go_wp2
    go_loopw [30] (fun i wr => ∃ k : Nat, k ≤ 4 ∧ i = .int .i64 (k : Int) ∧ Hid (Only pb wx wr) ∧ Hid (wr.rowIs pb 27 8 (fun j => fv (if j < 2 * k then xy X Y j else xy X0 Y0 j)))) (fun i _ => 4 - (intOf i).toNat)
    case atStart => exact ⟨0, by omega, rfl, Only.refl _ _, HRow.out.congr fun j _ => by simp⟩
    case round =>
      obtain ⟨k, hk, rfl, HO, HR⟩ := hrel
      by_cases hlt : k < 4
      · have C1 : wr.cell? ⟨pb, k * 2, none⟩ = some (fv (X0 k)) := by
          have := HR.out.cell (i := k * 2) (by omega)
          rw [if_neg (by omega), Nat.mul_comm, xy_even] at this; rw [Nat.mul_comm]; exact this
        have C2 : wr.cell? ⟨pb, k * 2 + 1, none⟩ = some (fv (Y0 k)) := by
          have := HR.out.cell (i := k * 2 + 1) (by omega)
          rw [if_neg (by omega), Nat.mul_comm, xy_odd] at this; rw [Nat.mul_comm]; exact this
        have F1 := HR.out.frozen (k * 2)
        have F2 := HR.out.frozen (k * 2 + 1)
        obtain ⟨⟨s1, t1, r1, r2, r3⟩, ⟨s2, t2, r4, r5, r6⟩⟩ := HS.out k hlt
        have R1 := fun tt w => run_float_arith (P := Try.prog) w .sub tt .f64 (X0 k) f50 _ r1
        have R2 := fun tt w => run_float_arith (P := Try.prog) w .mul tt .f64 s1 f12 _ r2
        have R3 := fun tt w => run_float_arith (P := Try.prog) w .add tt .f64 f20 t1 _ r3
        have R4 := fun tt w => run_float_arith (P := Try.prog) w .sub tt .f64 (Y0 k) f50 _ r4
        have R5 := fun tt w => run_float_arith (P := Try.prog) w .mul tt .f64 s2 f12 _ r5
        have R6 := fun tt w => run_float_arith (P := Try.prog) w .add tt .f64 f20 t2 _ r6
        have J0 : (k : Int) < 4 := by omega
        have J1 : 0 ≤ (k : Int) := by omega
        clear r1 r2 r3 r4 r5 r6
        go_wp2
        refine wp_region_fast 33 17 (by kernel_rfl) (by kernel_rfl) (fun ops K hK => ?_)
        simp only [List.take_succ_cons, List.take_zero]
        repeat still_step
        refine wpStill_nil (hK _ ?_)
        clear hK
        simp only [List.drop_succ_cons, List.drop_zero]
        go_wp2
        go_roundw
        case rel => exact ⟨k + 1, by omega, by go_num, ((HO.out.setCell rfl _).setCell rfl _).drew, (row_put (k := k) HR.out).drew⟩
        case measure => simp [intOf]; omega
      · obtain rfl : k = 4 := by omega
        have hbr : Below w1.heap.size w1 wr := HBx.out.trans (HO.out.below (by omega))
        have hsr : wr.heap.size = wx.heap.size := HO.out.size
        have hg1 : Box wr pa (gx W) (gy H) := HGA.out.of_block (HO.out.block pa hne)
        have hg2 : Box wr pb X Y := HR.out.congr fun j hj => by rw [if_pos (by omega)]
        have HG1 := Lib.hid hg1
        have HG2 := Lib.hid hg2
        have HBr := Lib.hid hbr
        have hla : pa < wr.heap.size := by omega
        have hlb : pb < wr.heap.size := by omega
        have hlw : w1.heap.size ≤ wr.heap.size := by omega
        have HSC := Lib.hid (fun w => scx_calls X Y W H o w HOK.out.map)
        have ca0 : wr.cell? ⟨pa, 0, none⟩ = some (fv (xy (gx W) (gy H) 0)) := hg1.at_ 0 (by omega)
        have ca1 : wr.cell? ⟨pa, 1, none⟩ = some (fv (xy (gx W) (gy H) 1)) := hg1.at_ 1 (by omega)
        have ca2 : wr.cell? ⟨pa, 2, none⟩ = some (fv (xy (gx W) (gy H) 2)) := hg1.at_ 2 (by omega)
        have ca3 : wr.cell? ⟨pa, 3, none⟩ = some (fv (xy (gx W) (gy H) 3)) := hg1.at_ 3 (by omega)
        have ca4 : wr.cell? ⟨pa, 4, none⟩ = some (fv (xy (gx W) (gy H) 4)) := hg1.at_ 4 (by omega)
        have ca5 : wr.cell? ⟨pa, 5, none⟩ = some (fv (xy (gx W) (gy H) 5)) := hg1.at_ 5 (by omega)
        have ca6 : wr.cell? ⟨pa, 6, none⟩ = some (fv (xy (gx W) (gy H) 6)) := hg1.at_ 6 (by omega)
        have ca7 : wr.cell? ⟨pa, 7, none⟩ = some (fv (xy (gx W) (gy H) 7)) := hg1.at_ 7 (by omega)
        have cb0 : wr.cell? ⟨pb, 0, none⟩ = some (fv (xy X Y 0)) := hg2.at_ 0 (by omega)
        have cb1 : wr.cell? ⟨pb, 1, none⟩ = some (fv (xy X Y 1)) := hg2.at_ 1 (by omega)
        have cb2 : wr.cell? ⟨pb, 2, none⟩ = some (fv (xy X Y 2)) := hg2.at_ 2 (by omega)
        have cb3 : wr.cell? ⟨pb, 3, none⟩ = some (fv (xy X Y 3)) := hg2.at_ 3 (by omega)
        have cb4 : wr.cell? ⟨pb, 4, none⟩ = some (fv (xy X Y 4)) := hg2.at_ 4 (by omega)
        have cb5 : wr.cell? ⟨pb, 5, none⟩ = some (fv (xy X Y 5)) := hg2.at_ 5 (by omega)
        have cb6 : wr.cell? ⟨pb, 6, none⟩ = some (fv (xy X Y 6)) := hg2.at_ 6 (by omega)
        have cb7 : wr.cell? ⟨pb, 7, none⟩ = some (fv (xy X Y 7)) := hg2.at_ 7 (by omega)
        clear hg1 hg2 hbr hsr HO HR HGA HRow HBx HS
        go_wp2_with (go_at_call 12; refine (HSC.out _).mono ?_)
        clear ca0 ca1 ca2 ca3 ca4 ca5 ca6 ca7 cb0 cb1 cb2 cb3 cb4 cb5 cb6 cb7
        rintro e w5 ⟨rfl, hb5⟩
        unfold tens
        go_wp2
        have hm6 : (w5.alloc (.cells #[fv (o 0), fv (o 1), fv (o 2), fv (o 3), fv (o 4), fv (o 5), fv (o 6), fv (o 7), fv (o 8), fv (o 9)] 31)).heap[w5.heap.size]? = some (.cells #[fv (o 0), fv (o 1), fv (o 2), fv (o 3), fv (o 4), fv (o 5), fv (o 6), fv (o 7), fv (o 8), fv (o 9)] 31) := blk_new _ _
        have hb6 : Below w5.heap.size w5 (w5.alloc (.cells #[fv (o 0), fv (o 1), fv (o 2), fv (o 3), fv (o 4), fv (o 5), fv (o 6), fv (o 7), fv (o 8), fv (o 9)] 31)) := (Below.refl _ _).alloc (Nat.le_refl _) _
        have hs6 : (w5.alloc (.cells #[fv (o 0), fv (o 1), fv (o 2), fv (o 3), fv (o 4), fv (o 5), fv (o 6), fv (o 7), fv (o 8), fv (o 9)] 31)).heap.size = w5.heap.size + 1 := blk_size _ _
        generalize w5.alloc (.cells #[fv (o 0), fv (o 1), fv (o 2), fv (o 3), fv (o 4), fv (o 5), fv (o 6), fv (o 7), fv (o 8), fv (o 9)] 31) = w6 at *
        have hs5 := hb5.size
        have hb06 : Below wr.heap.size wr w6 := hb5.trans (hb6.mono hs5)
        have hg1 := HG1.out.below hb06
        have hg2 := HG2.out.below hb06
        have hB6 : Below w1.heap.size w1 w6 := HBr.out.trans (hb06.mono hlw)
        have r0 : w6.rangeAt w5.heap.size 0 [fv (o 0), fv (o 1), fv (o 2), fv (o 3), fv (o 4), fv (o 5), fv (o 6), fv (o 7), fv (o 8), fv (o 9)] := fun j v hv => by rw [Nat.zero_add]; exact cell_at_cells hm6 (by simpa using hv)
        have hx6 := (hB6.cell hgl).trans HX1.out
        have hu31 : Try.prog.underlying 31 = some (.array 10 25) := by kernel_rfl
        have hi31 : (Try.prog.info? 31).map (·.size) = some ([fv (o 0), fv (o 1), fv (o 2), fv (o 3), fv (o 4), fv (o 5), fv (o 6), fv (o 7), fv (o 8), fv (o 9)] : List Value).length := by kernel_rfl
        have hm5 : w5.heap.size < w6.heap.size := by omega
        have hla6 : pa < w6.heap.size := by omega
        have hlb6 : pb < w6.heap.size := by omega
        have hlg6 : g < w6.heap.size := by omega
        have hlw6 : w1.heap.size ≤ w6.heap.size := by omega
        have hl1 : w.heap.size ≤ w1.heap.size := by omega
        have HGM := Lib.hid (HGr.out.below hB6)
        have HBw6 := Lib.hid (HBw1.out.trans (hB6.mono hl1))
        generalize w5.heap.size = pm at *
        clear hm6 hb6 hs6 hs5 hb06 hB6 hb5 HG1 HG2 HBr HSC HX1 HGr HBw1 hsx
        have ca0 : w6.cell? ⟨pa, 0, none⟩ = some (fv (xy (gx W) (gy H) 0)) := hg1.at_ 0 (by omega)
        have ca1 : w6.cell? ⟨pa, 1, none⟩ = some (fv (xy (gx W) (gy H) 1)) := hg1.at_ 1 (by omega)
        have ca2 : w6.cell? ⟨pa, 2, none⟩ = some (fv (xy (gx W) (gy H) 2)) := hg1.at_ 2 (by omega)
        have ca3 : w6.cell? ⟨pa, 3, none⟩ = some (fv (xy (gx W) (gy H) 3)) := hg1.at_ 3 (by omega)
        have ca4 : w6.cell? ⟨pa, 4, none⟩ = some (fv (xy (gx W) (gy H) 4)) := hg1.at_ 4 (by omega)
        have ca5 : w6.cell? ⟨pa, 5, none⟩ = some (fv (xy (gx W) (gy H) 5)) := hg1.at_ 5 (by omega)
        have ca6 : w6.cell? ⟨pa, 6, none⟩ = some (fv (xy (gx W) (gy H) 6)) := hg1.at_ 6 (by omega)
        have ca7 : w6.cell? ⟨pa, 7, none⟩ = some (fv (xy (gx W) (gy H) 7)) := hg1.at_ 7 (by omega)
        have cb0 : w6.cell? ⟨pb, 0, none⟩ = some (fv (xy X Y 0)) := hg2.at_ 0 (by omega)
        have cb1 : w6.cell? ⟨pb, 1, none⟩ = some (fv (xy X Y 1)) := hg2.at_ 1 (by omega)
        have cb2 : w6.cell? ⟨pb, 2, none⟩ = some (fv (xy X Y 2)) := hg2.at_ 2 (by omega)
        have cb3 : w6.cell? ⟨pb, 3, none⟩ = some (fv (xy X Y 3)) := hg2.at_ 3 (by omega)
        have cb4 : w6.cell? ⟨pb, 4, none⟩ = some (fv (xy X Y 4)) := hg2.at_ 4 (by omega)
        have cb5 : w6.cell? ⟨pb, 5, none⟩ = some (fv (xy X Y 5)) := hg2.at_ 5 (by omega)
        have cb6 : w6.cell? ⟨pb, 6, none⟩ = some (fv (xy X Y 6)) := hg2.at_ 6 (by omega)
        have cb7 : w6.cell? ⟨pb, 7, none⟩ = some (fv (xy X Y 7)) := hg2.at_ 7 (by omega)
        clear hg1 hg2
        have HLean := Lib.hid (lean_calls _ H W F o w6.drew (HGM.out.below ((Below.refl _ _).drew)) (by omega) (by omega) (by omega) HOK.out.at_)
        unfold tens at HLean
        have HSam := Lib.hid (fun (rv : Value) (L : Nat → Nat → Bool) (w' : World) => sampl rv W H X Y o PX PY F L w' ⟨by omega, by omega⟩ ⟨by omega, by omega⟩ HOK.out)
        unfold q8 Q8.vals at HSam
        dsimp only at HSam
        have J0 : (0 : Int) < (H : Int) := by omega
        have J1 : 0 < H := by omega
        have J2 : ¬ H = 0 := by omega
        go_region_held3 (fun w' => w'.rangeAt pm 0 [fv (o 0), fv (o 1), fv (o 2), fv (o 3), fv (o 4), fv (o 5), fv (o 6), fv (o 7), fv (o 8), fv (o 9)] ∧ w'.cell? ⟨g, 0, none⟩ = some (.slice (some ⟨R 0, 0, none⟩) W W) ∧ w'.cell? ⟨pa, 0, none⟩ = some (fv (xy (gx W) (gy H) 0)) ∧ w'.cell? ⟨pa, 1, none⟩ = some (fv (xy (gx W) (gy H) 1)) ∧ w'.cell? ⟨pa, 2, none⟩ = some (fv (xy (gx W) (gy H) 2)) ∧ w'.cell? ⟨pa, 3, none⟩ = some (fv (xy (gx W) (gy H) 3)) ∧ w'.cell? ⟨pa, 4, none⟩ = some (fv (xy (gx W) (gy H) 4)) ∧ w'.cell? ⟨pa, 5, none⟩ = some (fv (xy (gx W) (gy H) 5)) ∧ w'.cell? ⟨pa, 6, none⟩ = some (fv (xy (gx W) (gy H) 6)) ∧ w'.cell? ⟨pa, 7, none⟩ = some (fv (xy (gx W) (gy H) 7)) ∧ w'.cell? ⟨pb, 0, none⟩ = some (fv (xy X Y 0)) ∧ w'.cell? ⟨pb, 1, none⟩ = some (fv (xy X Y 1)) ∧ w'.cell? ⟨pb, 2, none⟩ = some (fv (xy X Y 2)) ∧ w'.cell? ⟨pb, 3, none⟩ = some (fv (xy X Y 3)) ∧ w'.cell? ⟨pb, 4, none⟩ = some (fv (xy X Y 4)) ∧ w'.cell? ⟨pb, 5, none⟩ = some (fv (xy X Y 5)) ∧ w'.cell? ⟨pb, 6, none⟩ = some (fv (xy X Y 6)) ∧ w'.cell? ⟨pb, 7, none⟩ = some (fv (xy X Y 7))) (first | exact ⟨r0, hx6, ca0, ca1, ca2, ca3, ca4, ca5, ca6, ca7, cb0, cb1, cb2, cb3, cb4, cb5, cb6, cb7⟩ | exact ⟨fun j v hv => (hb7.cell (by show pm < w6.heap.size; omega)).trans (r0 j v hv), (hb7.cell (by show g < w6.heap.size; omega)).trans hx6, (hb7.cell (by show pa < w6.heap.size; omega)).trans ca0, (hb7.cell (by show pa < w6.heap.size; omega)).trans ca1, (hb7.cell (by show pa < w6.heap.size; omega)).trans ca2, (hb7.cell (by show pa < w6.heap.size; omega)).trans ca3, (hb7.cell (by show pa < w6.heap.size; omega)).trans ca4, (hb7.cell (by show pa < w6.heap.size; omega)).trans ca5, (hb7.cell (by show pa < w6.heap.size; omega)).trans ca6, (hb7.cell (by show pa < w6.heap.size; omega)).trans ca7, (hb7.cell (by show pb < w6.heap.size; omega)).trans cb0, (hb7.cell (by show pb < w6.heap.size; omega)).trans cb1, (hb7.cell (by show pb < w6.heap.size; omega)).trans cb2, (hb7.cell (by show pb < w6.heap.size; omega)).trans cb3, (hb7.cell (by show pb < w6.heap.size; omega)).trans cb4, (hb7.cell (by show pb < w6.heap.size; omega)).trans cb5, (hb7.cell (by show pb < w6.heap.size; omega)).trans cb6, (hb7.cell (by show pb < w6.heap.size; omega)).trans cb7⟩ | exact ⟨fun j v hv => (hb8.cell (by show pm < w6.heap.size; omega)).trans (r0 j v hv), (hb8.cell (by show g < w6.heap.size; omega)).trans hx6, (hb8.cell (by show pa < w6.heap.size; omega)).trans ca0, (hb8.cell (by show pa < w6.heap.size; omega)).trans ca1, (hb8.cell (by show pa < w6.heap.size; omega)).trans ca2, (hb8.cell (by show pa < w6.heap.size; omega)).trans ca3, (hb8.cell (by show pa < w6.heap.size; omega)).trans ca4, (hb8.cell (by show pa < w6.heap.size; omega)).trans ca5, (hb8.cell (by show pa < w6.heap.size; omega)).trans ca6, (hb8.cell (by show pa < w6.heap.size; omega)).trans ca7, (hb8.cell (by show pb < w6.heap.size; omega)).trans cb0, (hb8.cell (by show pb < w6.heap.size; omega)).trans cb1, (hb8.cell (by show pb < w6.heap.size; omega)).trans cb2, (hb8.cell (by show pb < w6.heap.size; omega)).trans cb3, (hb8.cell (by show pb < w6.heap.size; omega)).trans cb4, (hb8.cell (by show pb < w6.heap.size; omega)).trans cb5, (hb8.cell (by show pb < w6.heap.size; omega)).trans cb6, (hb8.cell (by show pb < w6.heap.size; omega)).trans cb7⟩) ((first | (go_at_call 22; refine HLean.out.mono ?_; rintro e w7 ⟨v7, L7, rfl, hg7, hb7', hp7⟩; have hb7 : Below w6.heap.size w6 w7 := ((Below.refl _ _).drew).trans hb7'; have hs7 := hb7.size) | (go_at_call 19; refine (HSam.out _ L7 _ hp7 hg7.grid).mono ?_; rintro e w8 ⟨v8, rfl, hg8, hb8'⟩; have hb8 : Below w6.heap.size w6 w8 := hb7.trans (hb8'.mono hs7))))
        have HG8 := Lib.hid hg8
        have HM8 := Lib.hid (HGM.out.below hb8)
        have HB8 := Lib.hid (HBw6.out.trans (hb8.mono (by omega)))
        clear hg8 hb8 hb8' hb7 hb7' hg7 hp7 r0 hx6 hu31 hi31 HLean HSam ca0 ca1 ca2 ca3 ca4 ca5 ca6 ca7 cb0 cb1 cb2 cb3 cb4 cb5 cb6 cb7
        go_wp2_with (go_at_call 20; refine (alike_calls _ _ W H F F _ (by omega) (by omega) HG8.out HM8.out (fun _ _ _ _ => rfl)).mono ?_)
        rintro e w9 ⟨rfl, m9, rfl⟩
        go_wp2
        go_ret
        exact ⟨rfl, below_drewN HB8.out m9⟩
  · intro S i o' ho hS hdep a wx hI
    obtain ⟨L, K, V, p, rfl, h⟩ := hI
    have Y0 : wx.heap[w.heap.size]? = some (.cells #[.int .i8 (b 0), .int .i8 (b 1), .int .i8 (b 2), .int .i8 (b 3), .int .i8 (b 4), .int .i8 (b 5), .int .i8 (b 6), .int .i8 (b 7)] 23) := by rw [h.below.block _ hs1]; exact hbox
    have X0 := (h.below.cell hgl).trans HX1.out
    clear hbox
    match i, ho with
    | 0, ho =>
      cases ho
      have HH := Lib.hid (inv_load h (i := 0) (by omega))
      clear h Y0 X0 hdep hS
      refine wpOp_step (by rfl) (fun KK hK => ?_)
      go_simp
      exact hK _ _ HH.out
    | 1, ho =>
      cases ho
      have d0 : S 0 = true := hdep ⟨0, .data⟩ (by simp) rfl
      have e0 : L 0 = .slice (some ⟨g, 0, none⟩) H c := h.loads 0 (by omega) d0
      have HH := Lib.hid (fun w' hb => inv_call' h (i := 0) (by omega) d0 (w' := w') hb)
      have HGc := Lib.hid (grid_calls g c H W _ _ wx (by omega) X0)
      clear h Y0 X0 hdep hS d0
      refine wpOp_step (by rfl) (fun KK hK => ?_)
      go_simp
      refine HGc.out.mono ?_
      rintro e w' ⟨rfl, hb⟩
      exact hK _ _ (HH.out w' hb)
    | 2, ho =>
      cases ho
      have y0 : wx.cell? ⟨w.heap.size, 0, none⟩ = some (.int .i8 (b 0)) := cell_at_cells Y0 (by rfl)
      have y1 : wx.cell? ⟨w.heap.size, 1, none⟩ = some (.int .i8 (b 1)) := cell_at_cells Y0 (by rfl)
      have y2 : wx.cell? ⟨w.heap.size, 2, none⟩ = some (.int .i8 (b 2)) := cell_at_cells Y0 (by rfl)
      have y3 : wx.cell? ⟨w.heap.size, 3, none⟩ = some (.int .i8 (b 3)) := cell_at_cells Y0 (by rfl)
      have y4 : wx.cell? ⟨w.heap.size, 4, none⟩ = some (.int .i8 (b 4)) := cell_at_cells Y0 (by rfl)
      have y5 : wx.cell? ⟨w.heap.size, 5, none⟩ = some (.int .i8 (b 5)) := cell_at_cells Y0 (by rfl)
      have y6 : wx.cell? ⟨w.heap.size, 6, none⟩ = some (.int .i8 (b 6)) := cell_at_cells Y0 (by rfl)
      have y7 : wx.cell? ⟨w.heap.size, 7, none⟩ = some (.int .i8 (b 7)) := cell_at_cells Y0 (by rfl)
      have HH := Lib.hid (inv_load h (i := 1) (by omega))
      clear h Y0 X0 hdep hS
      refine wpOp_step (by rfl) (fun KK hK => ?_)
      go_simp
      exact hK _ _ HH.out
    | 3, ho =>
      cases ho
      have d0 : S 2 = true := hdep ⟨2, .data⟩ (by simp) rfl
      have e0 : L 1 = .agg #[.int .i8 (b 0), .int .i8 (b 1), .int .i8 (b 2), .int .i8 (b 3), .int .i8 (b 4), .int .i8 (b 5), .int .i8 (b 6), .int .i8 (b 7)] := h.loads 1 (by omega) d0
      have HH := Lib.hid (fun w' hb => inv_call' h (i := 1) (by omega) d0 (w' := w') hb)
      clear h Y0 X0 hdep hS d0
      refine wpOp_step (by rfl) (fun KK hK => ?_)
      go_simp
      refine (Q2 _).mono ?_
      rintro e w' ⟨rfl, hb⟩
      exact hK _ _ (HH.out w' hb)
    | 4, ho =>
      cases ho
      have HH := Lib.hid (inv_alloc h (i := 0) (by omega) hS)
      clear h Y0 X0 hdep hS
      refine wpOp_step (by rfl) (fun KK hK => ?_)
      go_simp
      exact hK _ _ HH.out
    | 5, ho =>
      cases ho
      have HH := Lib.hid (inv_alloc h (i := 1) (by omega) hS)
      clear h Y0 X0 hdep hS
      refine wpOp_step (by rfl) (fun KK hK => ?_)
      go_simp
      exact hK _ _ HH.out
    | 6, ho =>
      cases ho
      have d0 : S 4 = true := hdep ⟨4, .data⟩ (by simp) rfl
      have d1 : S 1 = true := hdep ⟨1, .data⟩ (by simp) rfl
      obtain ⟨e1, _, _, e2⟩ := h.vars 0 (by omega) d0
      have e0 : K 0 = .agg #[fv f0, fv f0, fv (ofI (W : Int)), fv f0, fv (ofI (W : Int)), fv (ofI (H : Int)), fv f0, fv (ofI (H : Int))] := h.calls 0 (by omega) d1
      rw [hS] at e2
      have e2 : wx.heap[p 0]? = some (.cells zero8 27) := e2
      obtain ⟨c0, c1, c2, c3, c4, c5, c6, c7, y0, y1, y2, y3, y4, y5, y6, y7⟩ := cell8 rfl e2
      have z0 : wx.frozen? ⟨p 0, 0, none⟩ = false := by simp [World.frozen?, e2]
      have z1 : wx.frozen? ⟨p 0, 1, none⟩ = false := by simp [World.frozen?, e2]
      have z2 : wx.frozen? ⟨p 0, 2, none⟩ = false := by simp [World.frozen?, e2]
      have z3 : wx.frozen? ⟨p 0, 3, none⟩ = false := by simp [World.frozen?, e2]
      have z4 : wx.frozen? ⟨p 0, 4, none⟩ = false := by simp [World.frozen?, e2]
      have z5 : wx.frozen? ⟨p 0, 5, none⟩ = false := by simp [World.frozen?, e2]
      have z6 : wx.frozen? ⟨p 0, 6, none⟩ = false := by simp [World.frozen?, e2]
      have z7 : wx.frozen? ⟨p 0, 7, none⟩ = false := by simp [World.frozen?, e2]
      have FF := fill8 (x0 := fv f0) (x1 := fv f0) (x2 := fv (ofI (W : Int))) (x3 := fv f0) (x4 := fv (ofI (W : Int))) (x5 := fv (ofI (H : Int))) (x6 := fv f0) (x7 := fv (ofI (H : Int))) rfl e2
      have HH := Lib.hid (inv_store' h (i := 0) (by omega) d0 d1 FF.1 FF.2)
      clear h Y0 X0 hdep hS d0 d1 FF e2
      generalize p 0 = pk at *
      refine wpOp_step (by rfl) (fun KK hK => ?_)
      go_simp
      exact hK _ _ HH.out
    | 7, ho =>
      cases ho
      have d0 : S 5 = true := hdep ⟨5, .data⟩ (by simp) rfl
      have d1 : S 3 = true := hdep ⟨3, .data⟩ (by simp) rfl
      obtain ⟨e1, _, _, e2⟩ := h.vars 1 (by omega) d0
      have e0 : K 1 = .agg #[fv Q.x0, fv Q.y0, fv Q.x1, fv Q.y1, fv Q.x2, fv Q.y2, fv Q.x3, fv Q.y3] := h.calls 1 (by omega) d1
      rw [hS] at e2
      have e2 : wx.heap[p 1]? = some (.cells zero8 27) := e2
      obtain ⟨c0, c1, c2, c3, c4, c5, c6, c7, y0, y1, y2, y3, y4, y5, y6, y7⟩ := cell8 rfl e2
      have z0 : wx.frozen? ⟨p 1, 0, none⟩ = false := by simp [World.frozen?, e2]
      have z1 : wx.frozen? ⟨p 1, 1, none⟩ = false := by simp [World.frozen?, e2]
      have z2 : wx.frozen? ⟨p 1, 2, none⟩ = false := by simp [World.frozen?, e2]
      have z3 : wx.frozen? ⟨p 1, 3, none⟩ = false := by simp [World.frozen?, e2]
      have z4 : wx.frozen? ⟨p 1, 4, none⟩ = false := by simp [World.frozen?, e2]
      have z5 : wx.frozen? ⟨p 1, 5, none⟩ = false := by simp [World.frozen?, e2]
      have z6 : wx.frozen? ⟨p 1, 6, none⟩ = false := by simp [World.frozen?, e2]
      have z7 : wx.frozen? ⟨p 1, 7, none⟩ = false := by simp [World.frozen?, e2]
      have FF := fill8 (x0 := fv Q.x0) (x1 := fv Q.y0) (x2 := fv Q.x1) (x3 := fv Q.y1) (x4 := fv Q.x2) (x5 := fv Q.y2) (x6 := fv Q.x3) (x7 := fv Q.y3) rfl e2
      have HH := Lib.hid (inv_store' h (i := 1) (by omega) d0 d1 FF.1 FF.2)
      clear h Y0 X0 hdep hS d0 d1 FF e2
      generalize p 1 = pk at *
      refine wpOp_step (by rfl) (fun KK hK => ?_)
      go_simp
      exact hK _ _ HH.out
    | j + 8, ho => simp at ho

end Go.Proofs.Ytaadklfendegfaa
