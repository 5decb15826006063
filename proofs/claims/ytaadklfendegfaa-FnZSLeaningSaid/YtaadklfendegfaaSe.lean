/- The walk of SCMap. -/
import Derived.Test.YtaadklfendegfaaChecked
import Derived.Test.YtaadklfendegfaaFast
import Derived.Test.YtaadklfendegfaaSc
import Derived.Test.YtaadklfendegfaaCell
import Derived.Test.YtaadklfendegfaaSm
import Derived.Test.YtaadklfendegfaaAb
import Derived.WalkKit
import Derived.IntWalk
import Derived.BigQuiet
import Derived.Lib.Hide
import Derived.WalkSpells
import Derived.WalkLawsBesides
import Derived.Deep.RegionLaw
import Derived.Deep.OwnRows
import Derived.Deep.CutRange
namespace Go.Proofs.Ytaadklfendegfaa
open Go.RowKit

/-- the cells of four points -/
def PtsAt (w : World) (b : Nat) (ax ay : Nat → Nat) : Prop := ∀ k, k < 4 → w.cell? ⟨b, k * 2, none⟩ = some (fv (ax k)) ∧ w.cell? ⟨b, k * 2 + 1, none⟩ = some (fv (ay k))

theorem pts_at {w : World} {b : Nat} {ax ay : Nat → Nat} {E : TypeId} (h : w.heap[b]? = some (.cells #[fv (ax 0), fv (ay 0), fv (ax 1), fv (ay 1), fv (ax 2), fv (ay 2), fv (ax 3), fv (ay 3)] E)) : PtsAt w b ax ay := by
  intro k hk
  rcases (show k = 0 ∨ k = 1 ∨ k = 2 ∨ k = 3 by omega) with rfl | rfl | rfl | rfl <;> exact ⟨cell_at_cells h (by rfl), cell_at_cells h (by rfl)⟩

def mids (x y : Nat) : Array Value := #[fv 0, fv 0, fv 0, fv 0, fv 0, fv 0, fv 0, fv 0, fv x, fv y]

theorem four_blocks {w w0 : World} {o1 o2 o3 o4 : Obj} (h : (((w.alloc o1).alloc o2).alloc o3).alloc o4 = w0) :
    w0.heap[w.heap.size]? = some o1 ∧ w0.heap[w.heap.size + 1]? = some o2 ∧ w0.heap[w.heap.size + 1 + 1]? = some o3 ∧ w0.heap[w.heap.size + 1 + 1 + 1]? = some o4 ∧ w0.heap.size = w.heap.size + 4 ∧ Below w.heap.size w w0 := by
  subst h
  refine ⟨blk_old _ _ _ _ (blk_old _ _ _ _ (blk_old _ _ _ _ (blk_new _ _))), blk_old _ _ _ _ (blk_old _ _ _ _ (blk_new' _ _ _ (by rw [blk_size]))), blk_old _ _ _ _ (blk_new' _ _ _ (by rw [blk_size, blk_size])), blk_new' _ _ _ (by rw [blk_size, blk_size, blk_size]), by simp only [blk_size], ?_⟩
  exact ((((Below.refl _ _).alloc (Nat.le_refl _) _).alloc (by simp) _).alloc (by simp only [blk_size]; omega) _).alloc (by simp only [blk_size]; omega) _

theorem mids_set {g : Nat} {w wr : World} {x y x' y' : Nat} (ho : Only g w wr) (hg : wr.heap[g]? = some (.cells (mids x y) 31)) :
    Only g w ((wr.setCell ⟨g, 8, none⟩ (fv x')).setCell ⟨g, 9, none⟩ (fv y')) ∧ ((wr.setCell ⟨g, 8, none⟩ (fv x')).setCell ⟨g, 9, none⟩ (fv y')).heap[g]? = some (.cells (mids x' y') 31) :=
  ⟨(ho.setCell rfl _).setCell rfl _, by rw [heap_setCell_at _ (heap_setCell_at _ hg)]; rfl⟩

theorem any_store_row9 {md : Region.Mode} {ops : Array Oper} {Q : Exit → Act → World → Prop} {fuel : Nat} {listed : Array Bool} {a : Act} {w : World} {i : Nat} {o : Oper} (hr : Region.ready md ops listed = [i]) (ho : ops[i]? = some o) (hgd : o.guard = none) (x y : Operand) (hop : o.op = .store 67 x y) (g p : Nat) (cells : Array Value)
    (hx : a.eval x = .pointer (some ⟨g, p, none⟩)) (hy : a.eval y = .agg cells) (hrow : RowAt w g p) (hs : cells.size = 9) (h1 : cells.toList.all (·.oneCell') = true)
    (h : wpAny Try.prog md ops Q fuel (listed.setIfInBounds i true) (a.put o.dst undef) (putList w g p cells.toList 0)) : wpAny Try.prog md ops Q (fuel + 1) listed a w := by
  refine wpAny_ready hr (by simp) (AllReady.cons ho (fun K hK => ?_) AllReady.nil)
  rw [if_pos (by simp [Region.wanted, hgd])]
  unfold Oper.wp execOp
  simp only [hop, hx, hy, Instr.storeAt, Instr.sureAddr, Sem.run_bind, Sem.run_pure, Result.andThen_ok, run_storeVar_nine' _ _ _ _ hs h1 hrow]
  exact hK _ _ h

theorem MatAt.put_list {g : Nat} {M : Nat → Nat → Nat} {w : World} (h : MatAt g M w) {a : Nat} (ha : a < 8) (R : Nat → Nat) :
    MatAt g (setRow M a R) (putList w g (a * 9) [.float .f64 (R 0), .float .f64 (R 1), .float .f64 (R 2), .float .f64 (R 3), .float .f64 (R 4), .float .f64 (R 5), .float .f64 (R 6), .float .f64 (R 7), .float .f64 (R 8)] 0) := h.put ha R

theorem swp_rows (M : Nat → Nat → Nat) (k b : Nat) : setRow (setRow M k (M b)) b (M k) = swp M k b := by
  funext i
  unfold setRow swp
  rfl

/-- what stands in the middle of a round: rows ahead of i are done, row i up to number j -/
def midM (N M' : Nat → Nat → Nat) (i j : Nat) : Nat → Nat → Nat := fun r c => if r < i ∨ (r = i ∧ c < j) then M' r c else N r c


theorem MatAt.of_block {g : Nat} {M : Nat → Nat → Nat} {w w' : World} (h : MatAt g M w) (e : w'.heap[g]? = w.heap[g]?) : MatAt g M w' := by
  obtain ⟨cur, h1, h2⟩ := h
  exact ⟨cur, e.trans h1, h2⟩

/-- the ten numbers, so far found -/
def outN (o : Nat → Nat) (x y k j : Nat) : Nat := if j < k then o j else if j < 8 then 0 else if j = 8 then x else y
theorem outs_zero (o : Nat → Nat) {w : World} {b x y : Nat} (h : w.heap[b]? = some (.cells (mids x y) 31)) : w.rowIs b 31 10 (fun j => fv (outN o x y 0 j)) :=
  ⟨_, h, rfl, fun j hj => by
    rcases (show j = 0 ∨ j = 1 ∨ j = 2 ∨ j = 3 ∨ j = 4 ∨ j = 5 ∨ j = 6 ∨ j = 7 ∨ j = 8 ∨ j = 9 by omega) with rfl | rfl | rfl | rfl | rfl | rfl | rfl | rfl | rfl | rfl <;> rfl⟩
theorem outN_set (o : Nat → Nat) (x y k j : Nat) (hk : k < 8) : (if j = k then fv (o k) else fv (outN o x y k j)) = fv (outN o x y (k + 1) j) := by
  unfold outN
  by_cases e : j = k
  · subst e; rw [if_pos rfl, if_pos (by omega)]
  · rw [if_neg e]
    by_cases e2 : j < k
    · rw [if_pos e2, if_pos (by omega)]
    · rw [if_neg e2, if_neg (show ¬ j < k + 1 by omega)]

theorem ten_set {w : World} {b x0 x1 x2 x3 x4 x5 x6 x7 x8 x9 : Nat} {E : TypeId} (h : w.heap[b]? = some (.cells #[fv 0, fv 0, fv 0, fv 0, fv 0, fv 0, fv 0, fv 0, fv 0, fv 0] E)) :
    ((((((((((w.setCell ⟨b, 0, none⟩ (fv x0)).setCell ⟨b, 1, none⟩ (fv x1)).setCell ⟨b, 2, none⟩ (fv x2)).setCell ⟨b, 3, none⟩ (fv x3)).setCell ⟨b, 4, none⟩ (fv x4)).setCell ⟨b, 5, none⟩ (fv x5)).setCell ⟨b, 6, none⟩ (fv x6)).setCell ⟨b, 7, none⟩ (fv x7)).setCell ⟨b, 8, none⟩ (fv x8)).setCell ⟨b, 9, none⟩ (fv x9)).heap[b]? = some (.cells #[fv x0, fv x1, fv x2, fv x3, fv x4, fv x5, fv x6, fv x7, fv x8, fv x9] E) := by
  rw [heap_setCell_at _ (heap_setCell_at _ (heap_setCell_at _ (heap_setCell_at _ (heap_setCell_at _ (heap_setCell_at _ (heap_setCell_at _ (heap_setCell_at _ (heap_setCell_at _ (heap_setCell_at _ h)))))))))]; simp
theorem ten_below {B : Nat} {w0 w : World} {b x0 x1 x2 x3 x4 x5 x6 x7 x8 x9 : Nat} (h : Below B w0 w) (hb : B ≤ b) :
    Below B w0 ((((((((((w.setCell ⟨b, 0, none⟩ (fv x0)).setCell ⟨b, 1, none⟩ (fv x1)).setCell ⟨b, 2, none⟩ (fv x2)).setCell ⟨b, 3, none⟩ (fv x3)).setCell ⟨b, 4, none⟩ (fv x4)).setCell ⟨b, 5, none⟩ (fv x5)).setCell ⟨b, 6, none⟩ (fv x6)).setCell ⟨b, 7, none⟩ (fv x7)).setCell ⟨b, 8, none⟩ (fv x8)).setCell ⟨b, 9, none⟩ (fv x9)) :=
  (((((((((h.setCell (p := ⟨b, 0, none⟩) hb _).setCell (p := ⟨b, 1, none⟩) hb _).setCell (p := ⟨b, 2, none⟩) hb _).setCell (p := ⟨b, 3, none⟩) hb _).setCell (p := ⟨b, 4, none⟩) hb _).setCell (p := ⟨b, 5, none⟩) hb _).setCell (p := ⟨b, 6, none⟩) hb _).setCell (p := ⟨b, 7, none⟩) hb _).setCell (p := ⟨b, 8, none⟩) hb _).setCell (p := ⟨b, 9, none⟩) hb _

theorem mid_zero (N M' : Nat → Nat → Nat) (r c : Nat) : midM N M' 0 0 r c = N r c := by unfold midM; rw [if_neg (by omega)]
theorem mid_here (N M' : Nat → Nat → Nat) (i j c : Nat) (h : j ≤ c) : midM N M' i j i c = N i c := by unfold midM; rw [if_neg (by omega)]
theorem mid_piv (N M' : Nat → Nat → Nat) (q i j c : Nat) (h : M' q c = N q c) : midM N M' i j q c = N q c := by unfold midM; split <;> simp [h]
theorem mid_skip (N M' : Nat → Nat → Nat) (n r c : Nat) (h : M' n c = N n c) : midM N M' n 0 r c = midM N M' (n + 1) 0 r c := by
  unfold midM
  by_cases e : r = n
  · subst e; rw [if_neg (by omega), if_pos (by omega), h]
  · by_cases e2 : r < n
    · rw [if_pos (by omega), if_pos (by omega)]
    · rw [if_neg (by omega), if_neg (by omega)]
theorem mid_row (N M' : Nat → Nat → Nat) (n q r c : Nat) (h : c < q → M' n c = N n c) : midM N M' n 0 r c = midM N M' n q r c := by
  unfold midM
  by_cases e : r < n
  · rw [if_pos (by omega), if_pos (by omega)]
  · by_cases e2 : r = n ∧ c < q
    · obtain ⟨rfl, e3⟩ := e2
      rw [if_neg (by omega), if_pos (by omega), h e3]
    · rw [if_neg (by omega), if_neg (by omega)]
theorem mid_set (N M' : Nat → Nat → Nat) (n j r c : Nat) : upd1 (midM N M' n j) n j (M' n j) r c = midM N M' n (j + 1) r c := by
  unfold upd1 midM
  by_cases e : r = n ∧ c = j
  · obtain ⟨rfl, rfl⟩ := e; rw [if_pos ⟨rfl, rfl⟩, if_pos (by omega)]
  · rw [if_neg e]
    by_cases e2 : r < n ∨ (r = n ∧ c < j)
    · rw [if_pos e2, if_pos (by omega)]
    · rw [if_neg e2, if_neg (by omega)]
theorem mid_next (N M' : Nat → Nat → Nat) (n r c : Nat) (hc : c < 9) : midM N M' n 9 r c = midM N M' (n + 1) 0 r c := by
  unfold midM
  by_cases e : r < n ∨ (r = n ∧ c < 9)
  · rw [if_pos e, if_pos (by omega)]
  · rw [if_neg e, if_neg (by omega)]

set_option maxRecDepth 100000 in
set_option maxHeartbeats 8000000 in
theorem sc_calls (ax ay bx by' o : Nat → Nat) (w : World) (h : ScR ax ay bx by' o) :
    Calls Try.prog 12 #[.agg #[fv (ax 0), fv (ay 0), fv (ax 1), fv (ay 1), fv (ax 2), fv (ay 2), fv (ax 3), fv (ay 3)], .agg #[fv (bx 0), fv (by' 0), fv (bx 1), fv (by' 1), fv (bx 2), fv (by' 2), fv (bx 3), fv (by' 3)]] w fun e w' =>
      e = .returned (.tuple #[.agg #[fv (o 0), fv (o 1), fv (o 2), fv (o 3), fv (o 4), fv (o 5), fv (o 6), fv (o 7), fv (o 8), fv (o 9)], .bool true]) ∧ Below w.heap.size w w' := by
  obtain ⟨sx, sy, X, Y, M, hmx, hmy, ho8, ho9, hc, hround, hout, hlim⟩ := h
  have HMX := Lib.hid hmx.2
  have HMY := Lib.hid hmy.2
  have HC := Lib.hid hc
  have HR := Lib.hid hround
  have HO := Lib.hid hout
  have HL := Lib.hid hlim
  have hx0 := hmx.1
  have hy0 := hmy.1
  clear hmx hmy hc hround hout hlim
  go_enter Try.func12, Try.ntmps12
  go_wp2
  generalize hW : ((((w.alloc (.cells #[fv (ax 0), fv (ay 0), fv (ax 1), fv (ay 1), fv (ax 2), fv (ay 2), fv (ax 3), fv (ay 3)] 27)).alloc (.cells #[fv (bx 0), fv (by' 0), fv (bx 1), fv (by' 1), fv (bx 2), fv (by' 2), fv (bx 3), fv (by' 3)] 27)).alloc (.cells #[fv 0, fv 0, fv 0, fv 0, fv 0, fv 0, fv 0, fv 0, fv 0, fv 0] 31)).alloc (.cells #[fv 0, fv 0, fv 0, fv 0, fv 0, fv 0, fv 0, fv 0, fv 0, fv 0] 31)) = w0
  obtain ⟨hA, hB, hR, hO, hsz, hbel⟩ := four_blocks hW
  have PA := Lib.hid (pts_at hA)
  have PB := Lib.hid (pts_at hB)
  clear hW
  go_loopw [7] (fun i wr => ∃ k : Nat, k ≤ 4 ∧ i = .int .i64 (k : Int) ∧ Only (w.heap.size + 1 + 1 + 1) w0 wr ∧ wr.heap[w.heap.size + 1 + 1 + 1]? = some (.cells (mids (sx k) (sy k)) 31)) (fun i _ => 4 - (intOf i).toNat)
  case atStart => exact ⟨0, by omega, rfl, Only.refl _ _, by rw [hO, hx0, hy0]; rfl⟩
  case round =>
    obtain ⟨k, hk, rfl, ho, hg⟩ := hrel
    by_cases hlt : k < 4
    · obtain ⟨q, q1, q2⟩ := HMX.out k hlt
      obtain ⟨p, p1, p2⟩ := HMY.out k hlt
      have C0 : wr.cell? ⟨w.heap.size, k * 2, none⟩ = some (fv (ax k)) := by rw [World.cell?_of_block (w := w0) (ho.block _ (by show w.heap.size ≠ _; omega))]; exact (PA.out k hlt).1
      have C1 : wr.cell? ⟨w.heap.size, k * 2 + 1, none⟩ = some (fv (ay k)) := by rw [World.cell?_of_block (w := w0) (ho.block _ (by show w.heap.size ≠ _; omega))]; exact (PA.out k hlt).2
      have C8 : wr.cell? ⟨w.heap.size + 1 + 1 + 1, 8, none⟩ = some (fv (sx k)) := cell_at_cells hg rfl
      have C9 : wr.cell? ⟨w.heap.size + 1 + 1 + 1, 9, none⟩ = some (fv (sy k)) := cell_at_cells hg rfl
      have F8 : wr.frozen? ⟨w.heap.size + 1 + 1 + 1, 8, none⟩ = false := by simp [World.frozen?, hg]
      have F9 : wr.frozen? ⟨w.heap.size + 1 + 1 + 1, 9, none⟩ = false := by simp [World.frozen?, hg]
      have I1 : (k : Int) < 4 := by omega
      have I2 : 0 ≤ (k : Int) := by omega
      have HN := Lib.hid (mids_set (x' := sx (k + 1)) (y' := sy (k + 1)) ho hg)
      have R1 := fun t w => run_float_arith (P := Try.prog) w .quo t .f64 (ax k) f4 q q1
      have R2 := fun t w => run_float_arith (P := Try.prog) w .add t .f64 (sx k) q (sx (k + 1)) q2
      have R3 := fun t w => run_float_arith (P := Try.prog) w .quo t .f64 (ay k) f4 p p1
      have R4 := fun t w => run_float_arith (P := Try.prog) w .add t .f64 (sy k) p (sy (k + 1)) p2
      clear q1 q2 p1 p2 ho hg hA hB hR hO
      go_wp2
      refine wp_region_fast 25 9 (by kernel_rfl) (by kernel_rfl) (fun ops K hK => ?_)
      simp only [List.take_succ_cons, List.take_zero]
      repeat still_step
      refine wpStill_nil (hK _ ?_)
      clear hK
      simp only [List.drop_succ_cons, List.drop_zero]
      go_wp2
      refine wp_region_fast 34 9 (by kernel_rfl) (by kernel_rfl) (fun ops K hK => ?_)
      simp only [List.take_succ_cons, List.take_zero]
      repeat still_step
      refine wpStill_nil (hK _ ?_)
      clear hK
      simp only [List.drop_succ_cons, List.drop_zero]
      go_wp2
      go_roundw
      case rel => exact ⟨k + 1, by omega, by go_num, HN.out.1.drew.drew, HN.out.2⟩
      case measure => simp [intOf]; omega
    · obtain rfl : k = 4 := by omega
      go_wp2
      have hsw : wr.heap.size = w.heap.size + 4 := by rw [ho.size, hsz]
      have hA1 : (wr.alloc (.cells Try.zeroCells68 68)).heap[w.heap.size]? = w0.heap[w.heap.size]? := by rw [Below.heap_alloc _ _ _ (by omega), ho.block _ (by omega)]
      have hB1 : (wr.alloc (.cells Try.zeroCells68 68)).heap[w.heap.size + 1]? = w0.heap[w.heap.size + 1]? := by rw [Below.heap_alloc _ _ _ (by omega), ho.block _ (by omega)]
      have hR1 : (wr.alloc (.cells Try.zeroCells68 68)).heap[w.heap.size + 1 + 1]? = _ := (Below.heap_alloc _ _ _ (by omega)).trans ((ho.block _ (by omega)).trans hR)
      have hO1 : (wr.alloc (.cells Try.zeroCells68 68)).heap[w.heap.size + 1 + 1 + 1]? = _ := (Below.heap_alloc _ _ _ (by omega)).trans hg
      have hM1 : MatAt wr.heap.size (fillTo (M 0) 0) (wr.alloc (.cells Try.zeroCells68 68)) := (MatAt.zero (blk_new _ _)).congr (fun i _ j _ => by unfold fillTo; simp)
      have hs1 : (wr.alloc (.cells Try.zeroCells68 68)).heap.size = wr.heap.size + 1 := blk_size _ _
      have hb1 : Below w.heap.size w (wr.alloc (.cells Try.zeroCells68 68)) := (hbel.trans (ho.below (by omega))).alloc (by omega) _
      generalize wr.alloc (.cells Try.zeroCells68 68) = w1 at *
      generalize wr.heap.size = G at *
      have hGlo : w.heap.size + 4 ≤ G := by omega
      have hGhi : G < w.heap.size + 5 := by omega
      clear hsw
      rw [hA] at hA1
      rw [hB] at hB1
      clear PA PB hA hB hR hO hsz hbel ho hg HMX HMY hx0 hy0
      have PA := Lib.hid (pts_at hA1)
      have PB := Lib.hid (pts_at hB1)
      clear hA1 hB1
      go_loopw [9, 10, 11, 12, 13] (fun i _ _ _ _ wr => ∃ k : Nat, k ≤ 4 ∧ i = .int .i64 (k : Int) ∧ Only G w1 wr ∧ MatAt G (fillTo (M 0) (2 * k)) wr) (fun i _ _ _ _ _ => 4 - (intOf i).toNat)
      case atStart => exact ⟨0, by omega, rfl, Only.refl _ _, hM1⟩
      case round =>
        obtain ⟨k, hk, rfl, ho, hm⟩ := hrel
        by_cases hlt : k < 4
        · obtain ⟨x1, y1, ⟨e0, e1, e2, e3, e4, e5, m6, m7, e8⟩, ⟨g0, g1, g2, g3, g4, g5, n6, n7, g8⟩⟩ := HC.out k hlt
          have C0 : wr.cell? ⟨w.heap.size, k * 2, none⟩ = some (fv (ax k)) := by rw [World.cell?_of_block (w := w1) (ho.block _ (by show w.heap.size ≠ _; omega))]; exact (PA.out k hlt).1
          have C1 : wr.cell? ⟨w.heap.size, k * 2 + 1, none⟩ = some (fv (ay k)) := by rw [World.cell?_of_block (w := w1) (ho.block _ (by show w.heap.size ≠ _; omega))]; exact (PA.out k hlt).2
          have D0 : wr.cell? ⟨w.heap.size + 1, k * 2, none⟩ = some (fv (bx k)) := by rw [World.cell?_of_block (w := w1) (ho.block _ (by show w.heap.size + 1 ≠ _; omega))]; exact (PB.out k hlt).1
          have D1 : wr.cell? ⟨w.heap.size + 1, k * 2 + 1, none⟩ = some (fv (by' k)) := by rw [World.cell?_of_block (w := w1) (ho.block _ (by show w.heap.size + 1 ≠ _; omega))]; exact (PB.out k hlt).2
          have C8 : wr.cell? ⟨w.heap.size + 1 + 1 + 1, 8, none⟩ = some (fv (sx 4)) := by rw [World.cell?_of_block (w := w1) (ho.block _ (by show w.heap.size + 1 + 1 + 1 ≠ _; omega))]; exact cell_at_cells hO1 rfl
          have C9 : wr.cell? ⟨w.heap.size + 1 + 1 + 1, 9, none⟩ = some (fv (sy 4)) := by rw [World.cell?_of_block (w := w1) (ho.block _ (by show w.heap.size + 1 + 1 + 1 ≠ _; omega))]; exact cell_at_cells hO1 rfl
          have I1 : (k : Int) < 4 := by omega
          have I2 : 0 ≤ (k : Int) := by omega
          have R1 := fun t w => run_float_arith (P := Try.prog) w .sub t .f64 (ax k) (sx 4) (X k) x1
          have R2 := fun t w => run_float_arith (P := Try.prog) w .sub t .f64 (ay k) (sy 4) (Y k) y1
          have HM := Lib.hid hm
          have HOn := Lib.hid ho
          clear x1 y1 hO1 hR1
          have RA := hm.row (i := 2 * k) (by omega)
          have RB := hm.row (i := 2 * k + 1) (by omega)
          have HE := Lib.hid (And.intro (And.intro e0 (And.intro e1 (And.intro e2 (And.intro e3 (And.intro e4 (And.intro e5 e8)))))) (And.intro g0 (And.intro g1 (And.intro g2 (And.intro g3 (And.intro g4 (And.intro g5 g8)))))))
          clear e0 e1 e2 e3 e4 e5 e8 g0 g1 g2 g3 g4 g5 g8
          have W0 : IntKind.i64.wrap (2 * (k : Int)) = 2 * (k : Int) := IntWalk.i64_in _ ⟨by omega, by omega⟩
          have W1 : IntKind.i64.wrap (2 * (k : Int) + 1) = 2 * (k : Int) + 1 := IntWalk.i64_in _ ⟨by omega, by omega⟩
          have W2 : (2 * (k : Int) + 1).toNat = 2 * k + 1 := by omega
          have W3 : (2 * (k : Int)).toNat = 2 * k := by omega
          have I3 : 2 * (k : Int) < 8 := by omega
          have I4 : 0 ≤ 2 * (k : Int) := by omega
          have I5 : 2 * (k : Int) + 1 < 8 := by omega
          have I6 : 0 ≤ 2 * (k : Int) + 1 := by omega
          have R3 := fun t w => run_float_arith (P := Try.prog) w .mul t .f64 (fneg (bx k)) (X k) (M 0 (2 * k) 6) m6
          have R4 := fun t w => run_float_arith (P := Try.prog) w .mul t .f64 (fneg (bx k)) (Y k) (M 0 (2 * k) 7) m7
          have R5 := fun t w => run_float_arith (P := Try.prog) w .mul t .f64 (fneg (by' k)) (X k) (M 0 (2 * k + 1) 6) n6
          have R6 := fun t w => run_float_arith (P := Try.prog) w .mul t .f64 (fneg (by' k)) (Y k) (M 0 (2 * k + 1) 7) n7
          clear m6 m7 n6 n7 hm ho
          go_wp2
          go_quiet (fail)
          go_wp2_with (refine wpList_store_row9 rfl _ _ rfl _ _ _ rfl rfl ?_ ?_ ?_ ?_; (· with_reducible first | exact rowAt_drewN RA _ | exact rowAt_putList (rowAt_drewN RB _) _ _ _); (· rfl); (· rfl))
          refine ⟨?_, ?measure⟩
          refine ⟨_, _, _, _, _, _, _, _, _, _, _, _, _, _, _, _, _, _, _, _, _, _, _, _, _, _, _, _, _, _, _, _, _, _, _, _, _, _, _, _, _, _, _, _, _, _, _, _, _, _, _, _, _, _, _, _, _, _, _, _, _, _, ?rel, rfl⟩
          case rel =>
            obtain ⟨⟨e0, e1, e2, e3, e4, e5, e8⟩, ⟨g0, g1, g2, g3, g4, g5, g8⟩⟩ := HE.out
            exact ⟨k + 1, by omega, by go_num, ((HOn.out.drewN _).putList _ _ _).putList _ _ _, ((HM.out.drewN _).fill_list (by omega) e0 e1 e2 e3 e4 e5 rfl rfl e8).fill_list (by omega) g0 g1 g2 g3 g4 g5 rfl rfl g8⟩
          case measure => simp [intOf]; omega
        · obtain rfl : k = 4 := by omega
          have hm0 : MatAt G (M 0) wr := hm.congr fun i hi j _ => by unfold fillTo; rw [if_pos (by omega)]
          clear hm PA PB
          go_wp2
          go_loopw [14, 15, 16, 17, 18, 19] (fun i _ _ _ _ _ wx => ∃ q : Nat, q ≤ 8 ∧ i = .int .i64 (q : Int) ∧ Only G w1 wx ∧ MatAt G (M q) wx) (fun i _ _ _ _ _ _ => 8 - (intOf i).toNat)
          case atStart => exact ⟨0, by omega, rfl, ho, hm0⟩
          case round =>
            obtain ⟨q, hq, rfl, ho, hm⟩ := hrel
            by_cases hlt : q < 8
            · go_wp2
              go_loopw [15, 16] (fun b i wx => ∃ n : Nat, q + n ≤ 8 ∧ b = .int .i64 ((bestOf (M q) q n : Nat) : Int) ∧ i = .int .i64 ((q + n : Nat) : Int) ∧ Only G w1 wx ∧ MatAt G (M q) wx) (fun _ i _ => 8 - (intOf i).toNat)
              case atStart => exact ⟨0, by omega, rfl, rfl, ho, hm⟩
              case round =>
                obtain ⟨n, hn, rfl, rfl, ho2, hm2⟩ := hrel
                by_cases hlt2 : q + n < 8
                · have hb1 := bestOf_lt (M q) q n (by omega) hlt
                  have X0 := hm2.cell (i := q + n) (j := q) (by omega) (by omega)
                  have X1 := hm2.cell (i := bestOf (M q) q n) (j := q) hb1 (by omega)
                  have I1 : ((q + n : Nat) : Int) < 8 := by omega
                  have I2 : 0 ≤ ((q + n : Nat) : Int) := by omega
                  have I3 : (q : Int) < 9 := by omega
                  have I4 : 0 ≤ (q : Int) := by omega
                  have I5 : ((bestOf (M q) q n : Nat) : Int) < 8 := by omega
                  have I6 : 0 ≤ ((bestOf (M q) q n : Nat) : Int) := by omega
                  have L0 := Lib.hid (HL.out q (by omega) (q + n) (by omega) q (by omega))
                  have L1 := Lib.hid (HL.out q (by omega) (bestOf (M q) q n) hb1 q (by omega))
                  have HM2 := Lib.hid hm2
                  have HO2 := Lib.hid ho2
                  clear hm2 ho2 hb1 hm ho hm0
                  go_wp2
                  go_quiet ((first | (go_at_call 29; exact Calls.quiet_of_same ((abs_calls (M q (q + n) q) _ L0.out).mono fun _ _ h => ⟨h.1, h.2.symm⟩)) | (go_at_call 29; exact Calls.quiet_of_same ((abs_calls (M q (bestOf (M q) q n) q) _ L1.out).mono fun _ _ h => ⟨h.1, h.2.symm⟩))))
                  have hbn : bestOf (M q) q (n + 1) = if fgt (fabs (M q (q + n) q)) (fabs (M q (bestOf (M q) q n) q)) then q + n else bestOf (M q) q n := rfl
                  have HB := Lib.hid hbn
                  clear hbn
                  go_wp2
                  all_goals
                    rename_i hgt
                    refine ⟨⟨n + 1, by omega, ?_, by congr 1, HO2.out.drewN _, HM2.out.drewN _⟩, by simp [intOf]; omega⟩
                    rw [HB.out]
                    simp [fgt, fabs, hgt]
                · have hq8 : n = 8 - q := by omega
                  subst hq8
                  have hb := bestOf_lt (M q) q (8 - q) (by omega) hlt
                  obtain ⟨b, hbd⟩ : ∃ b, b = bestOf (M q) q (8 - q) := ⟨_, rfl⟩
                  have HBd := Lib.hid hbd
                  rw [← hbd] at hb ⊢
                  clear hbd hm ho hm0
                  have HM2 := Lib.hid hm2
                  have HO2 := Lib.hid ho2
                  have I1 : (q : Int) < 8 := by omega
                  have I2 : 0 ≤ (q : Int) := by omega
                  have I3 : (b : Int) < 8 := by omega
                  have I4 : 0 ≤ (b : Int) := by omega
                  have B0 := hm2.cell0 hb
                  have B1 := hm2.cell (j := 1) hb (by omega)
                  have B2 := hm2.cell (j := 2) hb (by omega)
                  have B3 := hm2.cell (j := 3) hb (by omega)
                  have B4 := hm2.cell (j := 4) hb (by omega)
                  have B5 := hm2.cell (j := 5) hb (by omega)
                  have B6 := hm2.cell (j := 6) hb (by omega)
                  have B7 := hm2.cell (j := 7) hb (by omega)
                  have B8 := hm2.cell (j := 8) hb (by omega)
                  have A0 := hm2.cell0 hlt
                  have A1 := hm2.cell (j := 1) hlt (by omega)
                  have A2 := hm2.cell (j := 2) hlt (by omega)
                  have A3 := hm2.cell (j := 3) hlt (by omega)
                  have A4 := hm2.cell (j := 4) hlt (by omega)
                  have A5 := hm2.cell (j := 5) hlt (by omega)
                  have A6 := hm2.cell (j := 6) hlt (by omega)
                  have A7 := hm2.cell (j := 7) hlt (by omega)
                  have A8 := hm2.cell (j := 8) hlt (by omega)
                  clear hm2 ho2
                  have K3 : ¬ ((q + (8 - q) : Nat) : Int) < 8 := by omega
                  go_wp2
                  have RA : RowAt wr.drew G (q * 9) := HM2.out.drew.row hlt
                  have RB : RowAt (putList wr.drew G (q * 9) [.float .f64 (M q b 0), .float .f64 (M q b 1), .float .f64 (M q b 2), .float .f64 (M q b 3), .float .f64 (M q b 4), .float .f64 (M q b 5), .float .f64 (M q b 6), .float .f64 (M q b 7), .float .f64 (M q b 8)] 0) G (b * 9) := rowAt_putList (HM2.out.drew.row hb) _ _ _
                  have HFin : Hid (MatAt G (swp (M q) q b) (putList (putList wr.drew G (q * 9) [.float .f64 (M q b 0), .float .f64 (M q b 1), .float .f64 (M q b 2), .float .f64 (M q b 3), .float .f64 (M q b 4), .float .f64 (M q b 5), .float .f64 (M q b 6), .float .f64 (M q b 7), .float .f64 (M q b 8)] 0) G (b * 9) [.float .f64 (M q q 0), .float .f64 (M q q 1), .float .f64 (M q q 2), .float .f64 (M q q 3), .float .f64 (M q q 4), .float .f64 (M q q 5), .float .f64 (M q q 6), .float .f64 (M q q 7), .float .f64 (M q q 8)] 0)) := by
                    rw [← swp_rows]; exact (HM2.out.drew.put_list hlt (M q b)).put_list hb (M q q)
                  go_cut [15] from 100 to 179 (fun s wz => s = .int .i64 (b : Int) ∧ Only G w1 wz ∧ MatAt G (swp (M q) q b) wz)
                  case first =>
                    refine wp_region_any (by kernel_rfl) ?_
                    change wpAny _ _ _ _ _ _ _ (World.drew _)
                    refine wpAny_take (i := 0) (v := ?v0) rfl (by kernel_rfl) (by kernel_rfl) (by kernel_rfl) (fun _ _ _ h => h) (Or.inl ⟨by rfl, ?y0⟩) ?_
                    case y0 =>
                      intro w
                      first | (go_simp; done) | (go_simp; with_reducible rfl)
                    refine wpAny_take (i := 1) (v := ?v1) rfl (by kernel_rfl) (by kernel_rfl) (by kernel_rfl) (fun _ _ _ h => h) (Or.inl ⟨by rfl, ?y1⟩) ?_
                    case y1 =>
                      intro w
                      first | (go_simp; done) | (go_simp; with_reducible rfl)
                    refine wpAny_take (i := 2) (v := ?v2) rfl (by kernel_rfl) (by kernel_rfl) (by kernel_rfl) (fun _ _ _ h => h) (Or.inl ⟨by rfl, ?y2⟩) ?_
                    case y2 =>
                      intro w
                      first | (go_simp; done) | (go_simp; with_reducible rfl)
                    refine wpAny_take (i := 3) (v := ?v3) rfl (by kernel_rfl) (by kernel_rfl) (by kernel_rfl) (fun _ _ _ h => h) (Or.inl ⟨by rfl, ?y3⟩) ?_
                    case y3 =>
                      intro w
                      first | (go_simp; done) | (go_simp; with_reducible rfl)
                    refine wpAny_take (i := 5) (v := ?v5) rfl (by kernel_rfl) (by kernel_rfl) (by kernel_rfl) (fun _ _ _ h => h) (Or.inl ⟨by rfl, ?y5⟩) ?_
                    case y5 =>
                      intro w
                      first | (go_simp; done) | (go_simp; with_reducible rfl)
                    refine wpAny_take (i := 6) (v := ?v6) rfl (by kernel_rfl) (by kernel_rfl) (by kernel_rfl) (fun _ _ _ h => h) (Or.inl ⟨by rfl, ?y6⟩) ?_
                    case y6 =>
                      intro w
                      first | (go_simp; done) | (go_simp; with_reducible rfl)
                    refine wpAny_ready (rs := [4, 7]) (by kernel_rfl) (by simp) ?_
                    refine AllReady.cons rfl (fun K hK => ?b4) (AllReady.cons rfl (fun K hK => ?b7) AllReady.nil)
                    case b4 =>
                      go_simp
                      refine hK _ _ ?_
                      clear hK K
                      refine wpAny_ready (rs := [7]) (by kernel_rfl) (by simp) ?_
                      refine AllReady.cons rfl (fun K hK => ?_) AllReady.nil
                      go_simp
                      refine hK _ _ ?_
                      clear hK K
                      refine wpAny_take (i := 8) (v := ?v8) rfl (by kernel_rfl) (by kernel_rfl) (by kernel_rfl) (fun _ _ _ h => h) (Or.inl ⟨by rfl, ?y8⟩) ?_
                      case y8 =>
                        intro w
                        first | (go_simp; done) | (go_simp; with_reducible rfl)
                      refine any_store_row9 (i := 9) (by kernel_rfl) rfl rfl _ _ rfl G (q * 9) _ rfl rfl RA (by rfl) (by rfl) ?_
                      refine wpAny_take (i := 10) (v := ?v10) rfl (by kernel_rfl) (by kernel_rfl) (by kernel_rfl) (fun _ _ _ h => h) (Or.inl ⟨by rfl, ?y10⟩) ?_
                      case y10 =>
                        intro w
                        first | (go_simp; done) | (go_simp; with_reducible rfl)
                      refine any_store_row9 (i := 11) (by kernel_rfl) rfl rfl _ _ rfl G (b * 9) _ rfl rfl RB (by rfl) (by rfl) ?_
                      refine wpAny_done (by kernel_rfl) ?_ _
                      go_wp2
                      go_meet
                      exact ⟨rfl, HO2.out.drew.putList _ _ _ |>.putList _ _ _, HFin.out⟩
                    case b7 =>
                      go_simp
                      refine hK _ _ ?_
                      clear hK K
                      refine wpAny_ready (rs := [4]) (by kernel_rfl) (by simp) ?_
                      refine AllReady.cons rfl (fun K hK => ?_) AllReady.nil
                      go_simp
                      refine hK _ _ ?_
                      clear hK K
                      refine wpAny_take (i := 8) (v := ?v8) rfl (by kernel_rfl) (by kernel_rfl) (by kernel_rfl) (fun _ _ _ h => h) (Or.inl ⟨by rfl, ?y8⟩) ?_
                      case y8 =>
                        intro w
                        first | (go_simp; done) | (go_simp; with_reducible rfl)
                      refine any_store_row9 (i := 9) (by kernel_rfl) rfl rfl _ _ rfl G (q * 9) _ rfl rfl RA (by rfl) (by rfl) ?_
                      refine wpAny_take (i := 10) (v := ?v10) rfl (by kernel_rfl) (by kernel_rfl) (by kernel_rfl) (fun _ _ _ h => h) (Or.inl ⟨by rfl, ?y10⟩) ?_
                      case y10 =>
                        intro w
                        first | (go_simp; done) | (go_simp; with_reducible rfl)
                      refine any_store_row9 (i := 11) (by kernel_rfl) rfl rfl _ _ rfl G (b * 9) _ rfl rfl RB (by rfl) (by rfl) ?_
                      refine wpAny_done (by kernel_rfl) ?_ _
                      go_wp2
                      go_meet
                      exact ⟨rfl, HO2.out.drew.putList _ _ _ |>.putList _ _ _, HFin.out⟩
                  case rest =>
                    obtain ⟨rfl, ho3, hm3⟩ := hcut
                    have hR := HR.out q hlt
                    unfold RoundR at hR
                    rw [← HBd.out] at hR
                    obtain ⟨hsm, hrow, helim⟩ := hR
                    have hlN : swp (M q) q b q q < 18446744073709551616 := by
                      unfold swp
                      by_cases e : q = b
                      · rw [if_pos e]; exact HL.out q (by omega) q hlt q (by omega)
                      · rw [if_neg e, if_pos rfl]; exact HL.out q (by omega) b hb q (by omega)
                    obtain ⟨N, hN⟩ : ∃ N, N = swp (M q) q b := ⟨_, rfl⟩
                    rw [← hN] at hm3 hsm hrow helim hlN
                    obtain ⟨M', hM'⟩ : ∃ M', M' = M (q + 1) := ⟨_, rfl⟩
                    rw [← hM'] at hrow helim
                    have HM' := Lib.hid hM'
                    have HRow := Lib.hid hrow
                    have HElim := Lib.hid helim
                    have HLN := Lib.hid hlN
                    have C0 := hm3.cell (i := q) (j := q) hlt (by omega)
                    have HM3 := Lib.hid hm3
                    have HO3 := Lib.hid ho3
                    have J3 : (q : Int) < 9 := by omega
                    clear hN hM' hrow helim hlN hm3 ho3 RA RB HFin HM2 HO2 A0 A1 A2 A3 A4 A5 A6 A7 A8 B0 B1 B2 B3 B4 B5 B6 B7 B8
                    go_wp2_with (go_at_call 29; refine (abs_calls (N q q) _ HLN.out).mono ?_; rintro e w' ⟨rfl, rfl⟩)
                    clear C0
                    go_loopw [17, 18, 19] (fun i _ _ wr => ∃ n : Nat, n ≤ 8 ∧ i = .int .i64 (n : Int) ∧ Hid (Only G w1 wr) ∧ Hid (MatAt G (midM N M' n 0) wr)) (fun i _ _ _ => 8 - (intOf i).toNat)
                    case atStart => exact ⟨0, by omega, rfl, HO3, HM3.out.congr fun r _ c _ => (mid_zero N M' r c).symm⟩
                    case round =>
                      obtain ⟨n, hn, rfl, HOn, HMn⟩ := hrel
                      by_cases hlt5 : n < 8
                      · have L1 : (n : Int) < 8 := by omega
                        have L2 : 0 ≤ (n : Int) := by omega
                        by_cases e : n = q
                        · subst e
                          go_wp2
                          go_roundw
                          case rel => exact ⟨n + 1, by omega, by go_num, HOn, HMn.out.congr fun r _ c hc => mid_skip N M' n r c (HRow.out c hc)⟩
                          case measure => simp [intOf]; omega
                        · have E1 : ((n : Int) == (q : Int)) = false := by simp; omega
                          have E2 : (n == q) = false := by simp; omega
                          have E3 : ¬ (n : Int) = (q : Int) := by omega
                          obtain ⟨by0, hdiv, hz, hs⟩ := HElim.out n hlt5 e
                          have HZ := Lib.hid hz
                          have HS := Lib.hid hs
                          have C1 : wr.cell? ⟨G, n * 9 + q, none⟩ = some (fv (N n q)) := by have := HMn.out.cell (i := n) (j := q) hlt5 (by omega); rw [mid_here N M' n 0 q (by omega)] at this; exact this
                          have C2 : wr.cell? ⟨G, q * 9 + q, none⟩ = some (fv (N q q)) := by have := HMn.out.cell (i := q) (j := q) hlt (by omega); rw [mid_piv N M' q n 0 q (HRow.out q (by omega))] at this; exact this
                          have R1 := fun t w => run_float_arith (P := Try.prog) w .quo t .f64 (N n q) (N q q) _ hdiv
                          clear hdiv hz hs
                          go_wp2
                          go_quiet (fail)
                          go_wp2
                          clear C1 C2 R1 E1 E2
                          go_loopw [19] (fun jv wr => ∃ j : Nat, q ≤ j ∧ j ≤ 9 ∧ jv = .int .i64 (j : Int) ∧ Hid (Only G w1 wr) ∧ Hid (MatAt G (midM N M' n j) wr)) (fun jv _ => 9 - (intOf jv).toNat)
                          case atStart => exact ⟨q, by omega, by omega, rfl, HOn.out.drewN _, (HMn.out.drewN _).congr fun r _ c _ => mid_row N M' n q r c (HZ.out c)⟩
                          case round =>
                            obtain ⟨j, hqj, hj, rfl, HOj, HMj⟩ := hrel
                            by_cases hlt6 : j < 9
                            · obtain ⟨t, ht1, ht2⟩ := HS.out j hqj hlt6
                              have C1 : wr.cell? ⟨G, n * 9 + j, none⟩ = some (fv (N n j)) := by have := HMj.out.cell (i := n) (j := j) hlt5 hlt6; rw [mid_here N M' n j j (by omega)] at this; exact this
                              have C2 : wr.cell? ⟨G, q * 9 + j, none⟩ = some (fv (N q j)) := by have := HMj.out.cell (i := q) (j := j) hlt hlt6; rw [mid_piv N M' q n j j (HRow.out j hlt6)] at this; exact this
                              have F1 := HMj.out.frozen (n * 9 + j)
                              have R1 := fun tt w => run_float_arith (P := Try.prog) w .mul tt .f64 by0 (N q j) _ ht1
                              have R2 := fun tt w => run_float_arith (P := Try.prog) w .sub tt .f64 (N n j) t _ ht2
                              have L3 : (j : Int) < 9 := by omega
                              have L4 : 0 ≤ (j : Int) := by omega
                              clear ht1 ht2
                              go_wp2
                              refine wp_region_fast 165 15 (by kernel_rfl) (by kernel_rfl) (fun ops K hK => ?_)
                              simp only [List.take_succ_cons, List.take_zero]
                              repeat still_step
                              refine wpStill_nil (hK _ ?_)
                              clear hK
                              simp only [List.drop_succ_cons, List.drop_zero]
                              go_wp2
                              go_roundw
                              case rel => exact ⟨j + 1, by omega, by omega, by go_num, (HOj.out.setCell rfl _).drew, MatAt.congr (HMj.out.set hlt5 hlt6 (M' n j)).drew fun r _ c _ => mid_set N M' n j r c⟩
                              case measure => simp [intOf]; omega
                            · obtain rfl : j = 9 := by omega
                              go_wp2
                              go_roundw
                              case rel => exact ⟨n + 1, by omega, by go_num, HOj, HMj.out.congr fun r _ c hc => mid_next N M' n r c hc⟩
                              case measure => simp [intOf]; omega
                      · obtain rfl : n = 8 := by omega
                        have HEnd : Hid (MatAt G (M (q + 1)) wr) := HMn.out.congr fun r hr c _ => by rw [← HM'.out]; unfold midM; rw [if_pos (by omega)]
                        go_wp2
                        refine ⟨?_, ?measure⟩
                        refine ⟨_, _, _, _, _, _, _, _, _, _, _, _, _, _, _, _, _, _, _, _, _, _, _, _, _, _, _, _, _, _, _, _, _, _, _, _, _, _, _, _, _, _, _, _, _, _, _, _, _, _, _, _, _, _, _, _, _, _, _, _, _, _, _, _, _, _, _, _, _, _, _, _, _, _, _, _, _, _, _, _, _, _, _, _, _, _, _, ?rel, rfl⟩
                        case rel => exact ⟨q + 1, by omega, by go_num, HOn.out, HEnd.out⟩
                        case measure => simp [intOf]; omega
            · obtain rfl : q = 8 := by omega
              obtain ⟨wo, rfl⟩ : ∃ wo : World, wo = wr := ⟨_, rfl⟩
              have HM8 := Lib.hid hm
              have ho1 := (ho.block (w.heap.size + 1 + 1 + 1) (by omega)).trans hO1
              have hr1 := (ho.block (w.heap.size + 1 + 1) (by omega)).trans hR1
              have hrow8 := outs_zero o ho1
              have HRow8 := Lib.hid hrow8
              have HR8 := Lib.hid hr1
              have HB8 := Lib.hid (hb1.trans (ho.below (B := w.heap.size) (by omega)))
              clear hm ho ho1 hr1 hrow8 hm0 hO1 hR1
              go_wp2
              go_loopw [20] (fun i wr => ∃ k : Nat, k ≤ 8 ∧ i = .int .i64 (k : Int) ∧ Hid (Only (w.heap.size + 1 + 1 + 1) wo wr) ∧ Hid (wr.rowIs (w.heap.size + 1 + 1 + 1) 31 10 (fun j => fv (outN o (sx 4) (sy 4) k j)))) (fun i _ => 8 - (intOf i).toNat)
              case atStart => exact ⟨0, by omega, rfl, Only.refl _ _, HRow8⟩
              case round =>
                obtain ⟨k, hk, rfl, HOk, HRk⟩ := hrel
                by_cases hlt7 : k < 8
                · have hmk := HM8.out.of_block (HOk.out.block G (by omega))
                  have C1 := hmk.cell (i := k) (j := 8) hlt7 (by omega)
                  have C2 := hmk.cell (i := k) (j := k) hlt7 (by omega)
                  have X1 := HRk.out.cell (i := k) (by omega)
                  have F1 := HRk.out.frozen k
                  have R1 := fun tt w => run_float_arith (P := Try.prog) w .quo tt .f64 (M 8 k 8) (M 8 k k) _ (HO.out k hlt7)
                  have L1 : (k : Int) < 8 := by omega
                  have L2 : 0 ≤ (k : Int) := by omega
                  have L3 : (k : Int) < 10 := by omega
                  have L4 : (k : Int) < 9 := by omega
                  clear hmk
                  go_wp2
                  refine wp_region_fast 184 12 (by kernel_rfl) (by kernel_rfl) (fun ops K hK => ?_)
                  simp only [List.take_succ_cons, List.take_zero]
                  repeat still_step
                  refine wpStill_nil (hK _ ?_)
                  clear hK
                  simp only [List.drop_succ_cons, List.drop_zero]
                  go_wp2
                  refine ⟨?_, ?measure⟩
                  refine ⟨_, _, _, _, _, _, _, _, _, _, _, _, _, _, _, _, _, ?rel, rfl⟩
                  case rel => exact ⟨k + 1, by omega, by go_num, (HOk.out.setCell rfl _).drew, ((HRk.out.set k (fv (o k))).drew).congr fun j _ => outN_set o _ _ k j hlt7⟩
                  case measure => simp [intOf]; omega
                · obtain rfl : k = 8 := by omega
                  have hO9 := HRk.out
                  have e0 := hO9.cell (i := 0) (by omega)
                  have e1 := hO9.cell (i := 1) (by omega)
                  have e2 := hO9.cell (i := 2) (by omega)
                  have e3 := hO9.cell (i := 3) (by omega)
                  have e4 := hO9.cell (i := 4) (by omega)
                  have e5 := hO9.cell (i := 5) (by omega)
                  have e6 := hO9.cell (i := 6) (by omega)
                  have e7 := hO9.cell (i := 7) (by omega)
                  have e8 := hO9.cell (i := 8) (by omega)
                  have e9 := hO9.cell (i := 9) (by omega)
                  rw [show outN o (sx 4) (sy 4) 8 0 = o 0 from rfl] at e0
                  rw [show outN o (sx 4) (sy 4) 8 1 = o 1 from rfl] at e1
                  rw [show outN o (sx 4) (sy 4) 8 2 = o 2 from rfl] at e2
                  rw [show outN o (sx 4) (sy 4) 8 3 = o 3 from rfl] at e3
                  rw [show outN o (sx 4) (sy 4) 8 4 = o 4 from rfl] at e4
                  rw [show outN o (sx 4) (sy 4) 8 5 = o 5 from rfl] at e5
                  rw [show outN o (sx 4) (sy 4) 8 6 = o 6 from rfl] at e6
                  rw [show outN o (sx 4) (sy 4) 8 7 = o 7 from rfl] at e7
                  rw [show outN o (sx 4) (sy 4) 8 8 = sx 4 from rfl, ← ho8] at e8
                  rw [show outN o (sx 4) (sy 4) 8 9 = sy 4 from rfl, ← ho9] at e9
                  have hrb : wr.heap[w.heap.size + 1 + 1]? = _ := (HOk.out.block (w.heap.size + 1 + 1) (by omega)).trans HR8.out
                  have r0 : wr.cell? ⟨w.heap.size + 1 + 1, 0, none⟩ = some (fv 0) := cell_at_cells hrb rfl
                  have r1 : wr.cell? ⟨w.heap.size + 1 + 1, 1, none⟩ = some (fv 0) := cell_at_cells hrb rfl
                  have r2 : wr.cell? ⟨w.heap.size + 1 + 1, 2, none⟩ = some (fv 0) := cell_at_cells hrb rfl
                  have r3 : wr.cell? ⟨w.heap.size + 1 + 1, 3, none⟩ = some (fv 0) := cell_at_cells hrb rfl
                  have r4 : wr.cell? ⟨w.heap.size + 1 + 1, 4, none⟩ = some (fv 0) := cell_at_cells hrb rfl
                  have r5 : wr.cell? ⟨w.heap.size + 1 + 1, 5, none⟩ = some (fv 0) := cell_at_cells hrb rfl
                  have r6 : wr.cell? ⟨w.heap.size + 1 + 1, 6, none⟩ = some (fv 0) := cell_at_cells hrb rfl
                  have r7 : wr.cell? ⟨w.heap.size + 1 + 1, 7, none⟩ = some (fv 0) := cell_at_cells hrb rfl
                  have r8 : wr.cell? ⟨w.heap.size + 1 + 1, 8, none⟩ = some (fv 0) := cell_at_cells hrb rfl
                  have r9 : wr.cell? ⟨w.heap.size + 1 + 1, 9, none⟩ = some (fv 0) := cell_at_cells hrb rfl
                  have hfr : ∀ i, wr.frozen? ⟨w.heap.size + 1 + 1, i, none⟩ = false := fun i => by simp [World.frozen?, hrb]
                  have HRB := Lib.hid hrb
                  have HBE := Lib.hid (HB8.out.trans (HOk.out.below (B := w.heap.size) (by omega)))
                  clear hrb hO9
                  go_wp2
                  have hz := ten_set (x0 := o 0) (x1 := o 1) (x2 := o 2) (x3 := o 3) (x4 := o 4) (x5 := o 5) (x6 := o 6) (x7 := o 7) (x8 := sx 4) (x9 := sy 4) HRB.out
                  have hbz : Below w.heap.size w _ := ten_below (b := w.heap.size + 1 + 1) (x0 := o 0) (x1 := o 1) (x2 := o 2) (x3 := o 3) (x4 := o 4) (x5 := o 5) (x6 := o 6) (x7 := o 7) (x8 := sx 4) (x9 := sy 4) HBE.out (by omega)
                  generalize (((((((((wr.setCell ⟨w.heap.size + 1 + 1, 0, none⟩ (fv (o 0))).setCell ⟨w.heap.size + 1 + 1, 1, none⟩ (fv (o 1))).setCell ⟨w.heap.size + 1 + 1, 2, none⟩ (fv (o 2))).setCell ⟨w.heap.size + 1 + 1, 3, none⟩ (fv (o 3))).setCell ⟨w.heap.size + 1 + 1, 4, none⟩ (fv (o 4))).setCell ⟨w.heap.size + 1 + 1, 5, none⟩ (fv (o 5))).setCell ⟨w.heap.size + 1 + 1, 6, none⟩ (fv (o 6))).setCell ⟨w.heap.size + 1 + 1, 7, none⟩ (fv (o 7))).setCell ⟨w.heap.size + 1 + 1, 8, none⟩ (fv (sx 4))).setCell ⟨w.heap.size + 1 + 1, 9, none⟩ (fv (sy 4)) = wz at *
                  have z0 : wz.cell? ⟨w.heap.size + 1 + 1, 0, none⟩ = some (fv (o 0)) := cell_at_cells hz rfl
                  have z1 : wz.cell? ⟨w.heap.size + 1 + 1, 1, none⟩ = some (fv (o 1)) := cell_at_cells hz rfl
                  have z2 : wz.cell? ⟨w.heap.size + 1 + 1, 2, none⟩ = some (fv (o 2)) := cell_at_cells hz rfl
                  have z3 : wz.cell? ⟨w.heap.size + 1 + 1, 3, none⟩ = some (fv (o 3)) := cell_at_cells hz rfl
                  have z4 : wz.cell? ⟨w.heap.size + 1 + 1, 4, none⟩ = some (fv (o 4)) := cell_at_cells hz rfl
                  have z5 : wz.cell? ⟨w.heap.size + 1 + 1, 5, none⟩ = some (fv (o 5)) := cell_at_cells hz rfl
                  have z6 : wz.cell? ⟨w.heap.size + 1 + 1, 6, none⟩ = some (fv (o 6)) := cell_at_cells hz rfl
                  have z7 : wz.cell? ⟨w.heap.size + 1 + 1, 7, none⟩ = some (fv (o 7)) := cell_at_cells hz rfl
                  have z8 : wz.cell? ⟨w.heap.size + 1 + 1, 8, none⟩ = some (fv (sx 4)) := cell_at_cells hz rfl
                  have z9 : wz.cell? ⟨w.heap.size + 1 + 1, 9, none⟩ = some (fv (sy 4)) := cell_at_cells hz rfl
                  refine bodyPost_ret (v := .tuple #[.agg #[fv (o 0), fv (o 1), fv (o 2), fv (o 3), fv (o 4), fv (o 5), fv (o 6), fv (o 7), fv (sx 4), fv (sy 4)], .bool true]) (by simp [results, Try.results12, go_sem, z0, z1, z2, z3, z4, z5, z6, z7, z8, z9]) rfl ⟨by rw [ho8, ho9], hbz⟩
end Go.Proofs.Ytaadklfendegfaa
