/- The walk of TransformPoints. -/
import Derived.Test.YtaadklfendegfaaChecked
import Derived.Test.YtaadklfendegfaaFast
import Derived.Test.YtaadklfendegfaaPt
import Derived.Test.YtaadklfendegfaaCell
import Derived.WalkKit
import Derived.IntWalk
import Derived.Lib.Hide
import Derived.WalkSpells
import Derived.WalkLawsBesides
namespace Go.Proofs.Ytaadklfendegfaa
open Go.RowKit

/-- the list of floats whose first k have been turned -/
def mixed (xs rs : List Nat) (k j : Nat) : Nat := if j < k then rs.getD j 0 else xs.getD j 0

/-- what holds at the head of a round -/
def TpRel (xs rs : List Nat) (m g : Nat) (sz : Nat) (E : TypeId) (w : World) (k : Nat) (wr : World) : Prop :=
  Only g w wr ∧ ∃ cur', wr.heap[g]? = some (.cells cur' E) ∧ cur'.size = sz ∧ ∀ j, j < 2 * m → cur'[j]? = some (fv (mixed xs rs (2 * k) j))

theorem mixed_next {xs rs : List Nat} {m g sz k : Nat} {E : TypeId} {w wr : World} {cur' : Array Value} (hlt : k < m) (ho : Only g w wr) (hg : wr.heap[g]? = some (.cells cur' E)) (hsz : cur'.size = sz)
    (hc : ∀ j, j < 2 * m → cur'[j]? = some (fv (mixed xs rs (2 * k) j))) :
    TpRel xs rs m g sz E w (k + 1) ((wr.setCell ⟨g, 2 * k, none⟩ (fv (rs.getD (2 * k) 0))).setCell ⟨g, 2 * k + 1, none⟩ (fv (rs.getD (2 * k + 1) 0))) := by
  refine ⟨(ho.setCell rfl _).setCell rfl _, _, heap_setCell_at _ (heap_setCell_at _ hg), by simpa using hsz, fun j hj => ?_⟩
  have h1 := hc j hj
  have hlj : j < cur'.size := (Array.getElem?_eq_some_iff.1 h1).1
  rw [Array.getElem?_setIfInBounds, Array.getElem?_setIfInBounds]
  unfold mixed at *
  by_cases e1 : 2 * k + 1 = j
  · subst e1; rw [if_pos rfl, if_pos (by simpa using hlj), if_pos (by omega)]
  · rw [if_neg e1]
    by_cases e2 : 2 * k = j
    · subst e2; rw [if_pos rfl, if_pos hlj, if_pos (by omega)]
    · rw [if_neg e2, h1]
      by_cases e3 : j < 2 * k
      · rw [if_pos e3, if_pos (by omega)]
      · rw [if_neg e3, if_neg (by omega)]

set_option maxRecDepth 100000 in
set_option maxHeartbeats 2000000 in
theorem tp_calls (p : M9) (b g m cap : Nat) (xs rs : List Nat) (w : World) (cur : Array Value) (E : TypeId) (hm : m ≤ 1000000000) (hmc : 2 * m ≤ cap) (hbg : b < g)
    (hp : w.heap[b]? = some (.cells p.cells 102)) (hg : w.heap[g]? = some (.cells cur E)) (hcur : ∀ j, j < 2 * m → cur[j]? = some (fv (xs.getD j 0)))
    (hr : ∀ k, k < m → TPtR p (xs.getD (2 * k) 0) (xs.getD (2 * k + 1) 0) (rs.getD (2 * k) 0) (rs.getD (2 * k + 1) 0)) :
    Calls Try.prog 31 #[.pointer (some ⟨b, 0, none⟩), .slice (some ⟨g, 0, none⟩) (2 * m) cap] w fun e w' => e = .returned (.tuple #[]) ∧ Only g w w' ∧ ∃ cur', w'.heap[g]? = some (.cells cur' E) ∧ cur'.size = cur.size ∧ ∀ j, j < 2 * m → cur'[j]? = some (fv (rs.getD j 0)) := by
  go_enter Try.func31, Try.ntmps31
  go_wp2
  go_loopw [5, 6, 7, 8] (fun i _ _ _ wr => ∃ k : Nat, k ≤ m ∧ i = .int .i64 ((2 * k : Nat) : Int) ∧ Only g w wr ∧ ∃ cur', wr.heap[g]? = some (.cells cur' E) ∧ cur'.size = cur.size ∧ ∀ j, j < 2 * m → cur'[j]? = some (fv (mixed xs rs (2 * k) j))) (fun i _ _ _ _ => 2 * m - (intOf i).toNat)
  case atStart => exact ⟨0, Nat.zero_le _, rfl, Only.refl _ _, cur, hg, rfl, fun j hj => by unfold mixed; rw [if_neg (by omega)]; exact hcur j hj⟩
  case round =>
    obtain ⟨k, hk, rfl, ho, cur', hg', hsz, hc'⟩ := hrel
    by_cases hlt : k < m
    · have T := hr k hlt
      have X0 : wr.cell? ⟨g, 2 * k, none⟩ = some (fv (xs.getD (2 * k) 0)) := cell_at_cells hg' (by rw [hc' _ (by omega)]; unfold mixed; rw [if_neg (by omega)])
      have X1 : wr.cell? ⟨g, 2 * k + 1, none⟩ = some (fv (xs.getD (2 * k + 1) 0)) := cell_at_cells hg' (by rw [hc' _ (by omega)]; unfold mixed; rw [if_neg (by omega)])
      have I1 : 2 * (k : Int) < 2 * (m : Int) := by omega
      have I2 : 0 ≤ 2 * (k : Int) := by omega
      have I3 : 2 * (k : Int) + 1 < 2 * (m : Int) := by omega
      have I4 : 0 ≤ 2 * (k : Int) + 1 := by omega
      have F0 : wr.frozen? ⟨g, 2 * k, none⟩ = false := by simp [World.frozen?, hg']
      have F1 : wr.frozen? ⟨g, 2 * k + 1, none⟩ = false := by simp [World.frozen?, hg']
      have hpb : wr.heap[b]? = some (.cells p.cells 102) := by rw [ho.block b (by omega)]; exact hp
      clear hp hg hcur hr
      have HN := Lib.hid (mixed_next hlt ho hg' hsz hc')
      clear ho hg' hc' hsz
      generalize rs.getD (2 * k) 0 = x' at T HN
      generalize rs.getD (2 * k + 1) 0 = y' at T HN
      generalize xs.getD (2 * k) 0 = x at T X0 X1
      generalize xs.getD (2 * k + 1) 0 = y at T X0 X1
      obtain ⟨a11, a21, a31, a12, a22, a32, a13, a23, a33⟩ := p
      obtain ⟨den, nx, ny, ⟨x0, y0, u0, h0, i0, j0, l0⟩, ⟨x1, y1, u1, h1, i1, j1, l1⟩, d1, ⟨x2, y2, u2, h2, i2, j2, l2⟩, d2⟩ := T
      dsimp only at *
      have c0 : wr.cell? ⟨b, 0, none⟩ = some (fv a11) := cell_at_cells hpb (by rfl)
      have c1 : wr.cell? ⟨b, 1, none⟩ = some (fv a21) := cell_at_cells hpb (by rfl)
      have c2 : wr.cell? ⟨b, 2, none⟩ = some (fv a31) := cell_at_cells hpb (by rfl)
      have c3 : wr.cell? ⟨b, 3, none⟩ = some (fv a12) := cell_at_cells hpb (by rfl)
      have c4 : wr.cell? ⟨b, 4, none⟩ = some (fv a22) := cell_at_cells hpb (by rfl)
      have c5 : wr.cell? ⟨b, 5, none⟩ = some (fv a32) := cell_at_cells hpb (by rfl)
      have c6 : wr.cell? ⟨b, 6, none⟩ = some (fv a13) := cell_at_cells hpb (by rfl)
      have c7 : wr.cell? ⟨b, 7, none⟩ = some (fv a23) := cell_at_cells hpb (by rfl)
      have c8 : wr.cell? ⟨b, 8, none⟩ = some (fv a33) := cell_at_cells hpb (by rfl)
      clear hpb
      have R_h0 := fun t w => run_float_arith (P := Try.prog) w .mul t .f64 a13 x x0 h0
      have R_i0 := fun t w => run_float_arith (P := Try.prog) w .mul t .f64 a23 y y0 i0
      have R_j0 := fun t w => run_float_arith (P := Try.prog) w .add t .f64 x0 y0 u0 j0
      have R_l0 := fun t w => run_float_arith (P := Try.prog) w .add t .f64 u0 a33 den l0
      have R_h1 := fun t w => run_float_arith (P := Try.prog) w .mul t .f64 a11 x x1 h1
      have R_i1 := fun t w => run_float_arith (P := Try.prog) w .mul t .f64 a21 y y1 i1
      have R_j1 := fun t w => run_float_arith (P := Try.prog) w .add t .f64 x1 y1 u1 j1
      have R_l1 := fun t w => run_float_arith (P := Try.prog) w .add t .f64 u1 a31 nx l1
      have R_d1 := fun t w => run_float_arith (P := Try.prog) w .quo t .f64 nx den x' d1
      have R_h2 := fun t w => run_float_arith (P := Try.prog) w .mul t .f64 a12 x x2 h2
      have R_i2 := fun t w => run_float_arith (P := Try.prog) w .mul t .f64 a22 y y2 i2
      have R_j2 := fun t w => run_float_arith (P := Try.prog) w .add t .f64 x2 y2 u2 j2
      have R_l2 := fun t w => run_float_arith (P := Try.prog) w .add t .f64 u2 a32 ny l2
      have R_d2 := fun t w => run_float_arith (P := Try.prog) w .quo t .f64 ny den y' d2
      clear h0 i0 j0 l0 h1 i1 j1 l1 h2 i2 j2 l2 d1 d2
      go_wp2
      refine wp_region_fast 26 18 (by kernel_rfl) (by kernel_rfl) (fun ops K hK => ?_)
      simp only [List.append_eq, List.cons_append, List.nil_append, List.take_succ_cons, List.take_zero]
      repeat still_step
      refine wpStill_nil (hK _ ?_)
      clear hK
      simp only [List.append_eq, List.cons_append, List.nil_append, List.drop_succ_cons, List.drop_zero]
      go_wp2
      refine wp_region_fast 44 23 (by kernel_rfl) (by kernel_rfl) (fun ops K hK => ?_)
      simp only [List.append_eq, List.cons_append, List.nil_append, List.take_succ_cons, List.take_zero]
      repeat still_step
      refine wpStill_nil (hK _ ?_)
      clear hK
      simp only [List.append_eq, List.cons_append, List.nil_append, List.drop_succ_cons, List.drop_zero]
      go_wp2
      all_goals
        have W1 : IntKind.i64.wrap (2 * (k : Int) + 1) = 2 * (k : Int) + 1 := IntWalk.i64_in _ ⟨by omega, by omega⟩
        have W2 : (2 * (k : Int) + 1).toNat = 2 * k + 1 := by omega
        refine wp_region_fast 67 24 (by kernel_rfl) (by kernel_rfl) (fun ops K hK => ?_)
        simp only [List.append_eq, List.cons_append, List.nil_append, List.take_succ_cons, List.take_zero]
        repeat still_step
        refine wpStill_nil (hK _ ?_)
        clear hK
        simp only [List.append_eq, List.cons_append, List.nil_append, List.drop_succ_cons, List.drop_zero]
        clear W1 W2
        go_wp2
        go_roundw
        case rel =>
          obtain ⟨r1, cur2, r2, r3, r4⟩ := HN.out
          exact ⟨k + 1, by omega, by go_num, r1.drew.drew.drew, cur2, r2, r3, r4⟩
        case measure => simp [intOf]; omega
    · obtain rfl : k = m := by omega
      go_wp2
      go_end0
      exact ⟨rfl, ho, cur', hg', hsz, fun j hj => by rw [hc' j hj]; unfold mixed; rw [if_pos hj]⟩

end Go.Proofs.Ytaadklfendegfaa
