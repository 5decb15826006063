/- The walk of ztWithin. -/
import Derived.Test.YtaadklfendegfaaZx
import Derived.Deep.QuietTactic
import Derived.BigQuiet
namespace Go.Proofs.Ytaadklfendegfaa
open Go.RowKit

theorem own_mono {w : World} {base base' : Nat} {e : TypeId} {size : Nat} {v : Value} {n : Nat} {xs : List Value} (h : w.ownsRow base e size v n xs) (hb : base' ≤ base) : w.ownsRow base' e size v n xs := by
  refine ⟨h.1, ?_⟩
  rcases h.2 with h | ⟨g, cap, cur, hv, hg, r⟩
  · exact Or.inl h
  · exact Or.inr ⟨g, cap, cur, hv, by omega, r⟩

/-- a round that appends a point -/
theorem point_next {wq w1 w2 : World} {base : Nat} {v v' : Value} {k x y : Nat} {ps : List Nat} {o1 o2 : Obj} (hl : 2 * (4 + k) + 1 < ps.length) (hx : ps.getD (2 * (4 + k)) 0 = x) (hy : ps.getD (2 * (4 + k) + 1) 0 = y)
    (hown : wq.ownsRow base 26 2 v (4 + k) ((ps.map fv).take (2 * (4 + k)))) (hbw : Below base w1 wq) (hb : base ≤ w1.heap.size)
    (hown' : w2.ownsRow base 26 2 v' (4 + k + 1) ((ps.map fv).take (2 * (4 + k)) ++ [fv x, fv y])) (hgrow : ((wq.alloc o1).alloc o2).drew.drew.grownBy w2 v.ownBlock) :
    w2.ownsRow base 26 2 v' (4 + (k + 1)) ((ps.map fv).take (2 * (4 + (k + 1)))) ∧ Below base w1 w2 := by
  refine ⟨?_, ?_⟩
  · have e : (ps.map fv).take (2 * (4 + (k + 1))) = (ps.map fv).take (2 * (4 + k)) ++ [fv x, fv y] := by
      have h1 : 2 * (4 + (k + 1)) = 2 * (4 + k) + 1 + 1 := by omega
      rw [h1, List.take_add_one, List.take_add_one, ← hx, ← hy, List.getElem?_map, List.getElem?_map]
      simp [List.getD, List.getElem?_eq_getElem (show 2 * (4 + k) < ps.length by omega), List.getElem?_eq_getElem hl]
    rw [e, show 4 + (k + 1) = 4 + k + 1 by omega]; exact hown'
  · have hs := hbw.size
    exact ((hbw.alloc (by omega) _).alloc (by simp; omega) _).drew.drew.grown hgrow (by simp; omega) (own_block_le hown)

set_option maxRecDepth 100000 in
set_option maxHeartbeats 1000000 in
theorem within_calls (q : Q8) (ab aoff len cap m : Nat) (zs : List Int) (ps : List Nat) (w : World) (hlen : len ≤ 1000000000000000) (hm : m = min 12 (len / 2)) (hab : ab < w.heap.size)
    (hat : ∀ j, j < len → w.cell? ⟨ab, aoff + j, none⟩ = some (.int .u16 (zs.getD j 0))) (hl : ps.length = 2 * (4 + m)) (h8 : (ps.map fv).take 8 = q.vals.toList)
    (hps : ∀ k, k < m → ∃ u v, fdiv (ofI (zs.getD (2 * k) 0)) f65535 = some u ∧ fdiv (ofI (zs.getD (2 * k + 1) 0)) f65535 = some v ∧
      WithinR q.x0 q.x1 q.x2 q.x3 u v (ps.getD (2 * (4 + k)) 0) ∧ WithinR q.y0 q.y1 q.y2 q.y3 u v (ps.getD (2 * (4 + k) + 1) 0)) :
    Calls Try.prog 11 #[.agg q.vals, .slice (some ⟨ab, aoff, none⟩) len cap] w fun e w' => ∃ v, e = .returned v ∧ w'.ownsRow w.heap.size 26 2 v (4 + m) (ps.map fv) ∧ Below w.heap.size w w' := by
  obtain ⟨iF, hi, hz0, hz1, hz2⟩ := info_parts Try.info26
  have h8' : (ps.map fv).take (2 * (4 + 0)) = [fv q.x0, fv q.y0, fv q.x1, fv q.y1, fv q.x2, fv q.y2, fv q.x3, fv q.y3] := h8
  have HP := Lib.hid hps
  clear hps
  have HA := Lib.hid hat
  clear hat
  unfold Q8.vals at *
  go_enter Try.func11, Try.ntmps11
  have ho0 := fun (w : World) => World.ownsRow_lit (base := w.heap.size) (e := 26) (size := 2) w #[] 0 (Nat.le_refl _) (by unfold maxLen; omega) rfl
  go_wp2_with (at_builtin; go_must (refine wpList_append_own _ rfl _ _ 29 rfl (w.heap.size + 1) 26 iF (.agg #[fv 0, fv 0]) 2 16 Try.underlying29 hi hz0 hz1 hz2 rfl (by decide) _ 0 [] rfl ?c0 ⟨w.heap.size, 0, none⟩ 4 4 [fv q.x0, fv q.y0, fv q.x1, fv q.y1, fv q.x2, fv q.y2, fv q.x3, fv q.y3] rfl rfl ?c1 ?c2 ?c3 ?c4 ?c5 ?_))
  case c0 => simpa using ho0 (w.alloc (.cells #[fv q.x0, fv q.y0, fv q.x1, fv q.y1, fv q.x2, fv q.y2, fv q.x3, fv q.y3] 27))
  case c2 => exact ⟨rfl, rfl, rfl, rfl, rfl, rfl, rfl, rfl⟩
  case c3 => unfold maxLen; omega
  intro v1 w1 hown1 hgrow1 _
  have hb1 : Below w.heap.size w w1 := (((Below.refl _ _).alloc (Nat.le_refl _) _).alloc (by simp) _).grown hgrow1 (by simp; omega) (by intro k hk; simp [Value.ownBlock] at hk; omega)
  have hq1 : w1.heap[w.heap.size]? = some (.cells #[fv q.x0, fv q.y0, fv q.x1, fv q.y1, fv q.x2, fv q.y2, fv q.x3, fv q.y3] 27) := by
    rw [hgrow1.block _ (by simp; omega) (by simp [Value.ownBlock])]
    simp only [blk_if, blk_size]; simp
  have hs1 : w.heap.size + 2 ≤ w1.heap.size := by have := hgrow1.size; simp at this; omega
  rw [← h8'] at hown1
  clear hgrow1 ho0
  go_wp2
  go_loopw [5, 6] (fun v i wr => ∃ k : Nat, k ≤ m ∧ i = .int .i64 ((2 * k : Nat) : Int) ∧ wr.ownsRow (w.heap.size + 1) 26 2 v (4 + k) ((ps.map fv).take (2 * (4 + k))) ∧ Below (w.heap.size + 1) w1 wr) (fun _ i _ => 2 * m + 2 - (intOf i).toNat)
  case atStart => exact ⟨0, Nat.zero_le _, rfl, hown1, Below.refl _ _⟩
  case round =>
    obtain ⟨k, hk, rfl, hown, hbw⟩ := hrel
    have hsr := hbw.size
    have hwr : w.heap.size < wr.heap.size := by omega
    by_cases hlt : k < m
    · have hk12 : k < 12 := by omega
      have hk24 : 2 * (k : Int) < 24 := by omega
      have hkl : 2 * (k : Int) + 1 < (len : Int) := by omega
      have X0 : wr.cell? ⟨ab, aoff + 2 * k, none⟩ = some (.int .u16 (zs.getD (2 * k) 0)) := by
        rw [hbw.cell (by show ab < _; omega), hb1.cell (by exact hab)]; exact HA.out _ (by omega)
      have X1 : wr.cell? ⟨ab, aoff + (2 * k + 1), none⟩ = some (.int .u16 (zs.getD (2 * k + 1) 0)) := by
        rw [hbw.cell (by show ab < _; omega), hb1.cell (by exact hab)]; exact HA.out _ (by omega)
      have hqr : wr.heap[w.heap.size]? = some (.cells #[fv q.x0, fv q.y0, fv q.x1, fv q.y1, fv q.x2, fv q.y2, fv q.x3, fv q.y3] 27) := by
        rw [hbw.block _ (by omega)]; exact hq1
      have Q0 : wr.cell? ⟨w.heap.size, 0, none⟩ = some (fv q.x0) := cell_at_cells hqr (by rfl)
      have Q1 : wr.cell? ⟨w.heap.size, 1, none⟩ = some (fv q.y0) := cell_at_cells hqr (by rfl)
      have Q2 : wr.cell? ⟨w.heap.size, 2, none⟩ = some (fv q.x1) := cell_at_cells hqr (by rfl)
      have Q3 : wr.cell? ⟨w.heap.size, 3, none⟩ = some (fv q.y1) := cell_at_cells hqr (by rfl)
      have Q4 : wr.cell? ⟨w.heap.size, 4, none⟩ = some (fv q.x2) := cell_at_cells hqr (by rfl)
      have Q5 : wr.cell? ⟨w.heap.size, 5, none⟩ = some (fv q.y2) := cell_at_cells hqr (by rfl)
      have Q6 : wr.cell? ⟨w.heap.size, 6, none⟩ = some (fv q.x3) := cell_at_cells hqr (by rfl)
      have Q7 : wr.cell? ⟨w.heap.size, 7, none⟩ = some (fv q.y3) := cell_at_cells hqr (by rfl)
      obtain ⟨u, v, hu, hv, H0, H1⟩ := HP.out k hlt
      generalize hzx : ps.getD (2 * (4 + k)) 0 = zx at H0
      generalize hzy : ps.getD (2 * (4 + k) + 1) 0 = zy at H1
      generalize zs.getD (2 * k) 0 = n0 at X0 hu
      generalize zs.getD (2 * k + 1) 0 = n1 at X1 hv
      obtain ⟨u0, v0, a0, b0, c0, d0, e0, ff0, g0, h0, i0, j0, h10, h20, h30, h40, h50, h60, h70, h80, h90, i10, i20, i30, i40⟩ := H0
      obtain ⟨u1, v1, a1, b1, c1, d1, e1, ff1, g1, h1, i1, j1, h11, h21, h31, h41, h51, h61, h71, h81, h91, i11, i21, i31, i41⟩ := H1
      obtain rfl : u0 = u1 := Option.some.inj (h10.symm.trans h11)
      obtain rfl : v0 = v1 := Option.some.inj (h20.symm.trans h21)
      obtain rfl : a0 = a1 := Option.some.inj (h30.symm.trans h31)
      obtain rfl : c0 = c1 := Option.some.inj (h50.symm.trans h51)
      obtain rfl : ff0 = ff1 := Option.some.inj (h80.symm.trans h81)
      obtain rfl : i0 = i1 := Option.some.inj (i20.symm.trans i21)
      have HX := Lib.hid hzx
      have HY := Lib.hid hzy
      have HM := Lib.hid hm
      have U0 := fun t w => run_float_arith (P := Try.prog) w .quo t .f64 (ofI n0) f65535 u hu
      have U1 := fun t w => run_float_arith (P := Try.prog) w .quo t .f64 (ofI n1) f65535 v hv
      have R0h1 := fun t w => run_float_arith (P := Try.prog) w .sub t .f64 f1 u u0 h10
      have R0h2 := fun t w => run_float_arith (P := Try.prog) w .sub t .f64 f1 v v0 h20
      have R0h3 := fun t w => run_float_arith (P := Try.prog) w .mul t .f64 u0 v0 a0 h30
      have R0h4 := fun t w => run_float_arith (P := Try.prog) w .mul t .f64 a0 q.x0 b0 h40
      have R0h5 := fun t w => run_float_arith (P := Try.prog) w .mul t .f64 u v0 c0 h50
      have R0h6 := fun t w => run_float_arith (P := Try.prog) w .mul t .f64 c0 q.x1 d0 h60
      have R0h7 := fun t w => run_float_arith (P := Try.prog) w .add t .f64 b0 d0 e0 h70
      have R0h8 := fun t w => run_float_arith (P := Try.prog) w .mul t .f64 u v ff0 h80
      have R0h9 := fun t w => run_float_arith (P := Try.prog) w .mul t .f64 ff0 q.x2 g0 h90
      have R0i1 := fun t w => run_float_arith (P := Try.prog) w .add t .f64 e0 g0 h0 i10
      have R0i2 := fun t w => run_float_arith (P := Try.prog) w .mul t .f64 u0 v i0 i20
      have R0i3 := fun t w => run_float_arith (P := Try.prog) w .mul t .f64 i0 q.x3 j0 i30
      have R0i4 := fun t w => run_float_arith (P := Try.prog) w .add t .f64 h0 j0 zx i40
      have R1h4 := fun t w => run_float_arith (P := Try.prog) w .mul t .f64 a0 q.y0 b1 h41
      have R1h6 := fun t w => run_float_arith (P := Try.prog) w .mul t .f64 c0 q.y1 d1 h61
      have R1h7 := fun t w => run_float_arith (P := Try.prog) w .add t .f64 b1 d1 e1 h71
      have R1h9 := fun t w => run_float_arith (P := Try.prog) w .mul t .f64 ff0 q.y2 g1 h91
      have R1i1 := fun t w => run_float_arith (P := Try.prog) w .add t .f64 e1 g1 h1 i11
      have R1i3 := fun t w => run_float_arith (P := Try.prog) w .mul t .f64 i0 q.y3 j1 i31
      have R1i4 := fun t w => run_float_arith (P := Try.prog) w .add t .f64 h1 j1 zy i41
      clear h10 h20 h30 h40 h50 h60 h70 h80 h90 i10 i20 i30 i40 h11 h21 h31 h41 h51 h61 h71 h81 h91 i11 i21 i31 i41 hu hv hzx hzy hqr hq1 hown1 hm h8' h8
      go_wp2
      have W1 : IntKind.i64.wrap (2 * (k : Int) + 1) = 2 * (k : Int) + 1 := IntWalk.i64_in _ ⟨by omega, by omega⟩
      have W2 : (2 * (k : Int) + 1).toNat = 2 * k + 1 := by omega
      have W3 : 0 ≤ 2 * (k : Int) + 1 := by omega
      have W4 : 0 ≤ 2 * (k : Int) := by omega
      have W5 : 2 * (k : Int) < (len : Int) := by omega
      go_quiet (fail)
      clear W1 W2 W3 W4 W5 X0 X1
      generalize hwq : wr.drewN nq = wq
      replace Q0 : wq.cell? ⟨w.heap.size, 0, none⟩ = some (fv q.x0) := by rw [← hwq]; exact Q0
      replace Q1 : wq.cell? ⟨w.heap.size, 1, none⟩ = some (fv q.y0) := by rw [← hwq]; exact Q1
      replace Q2 : wq.cell? ⟨w.heap.size, 2, none⟩ = some (fv q.x1) := by rw [← hwq]; exact Q2
      replace Q3 : wq.cell? ⟨w.heap.size, 3, none⟩ = some (fv q.y1) := by rw [← hwq]; exact Q3
      replace Q4 : wq.cell? ⟨w.heap.size, 4, none⟩ = some (fv q.x2) := by rw [← hwq]; exact Q4
      replace Q5 : wq.cell? ⟨w.heap.size, 5, none⟩ = some (fv q.y2) := by rw [← hwq]; exact Q5
      replace Q6 : wq.cell? ⟨w.heap.size, 6, none⟩ = some (fv q.x3) := by rw [← hwq]; exact Q6
      replace Q7 : wq.cell? ⟨w.heap.size, 7, none⟩ = some (fv q.y3) := by rw [← hwq]; exact Q7
      replace hown : wq.ownsRow (w.heap.size + 1) 26 2 u5 (4 + k) ((ps.map fv).take (2 * (4 + k))) := by rw [← hwq]; exact hown
      replace hbw : Below (w.heap.size + 1) w1 wq := by rw [← hwq]; exact below_drewN hbw _
      replace hwr : w.heap.size < wq.heap.size := by rw [← hwq]; exact hwr
      have hsq : w1.heap.size ≤ wq.heap.size := by rw [← hwq]; exact hsr
      clear hwq hsr
      go_wp2
      refine wp_loop_rounds 3 ?_
      rw [rounds_succ]
      go_wp2
      have K0 : IntKind.i64.wrap 0 = 0 := by decide
      refine wp_region_fast 41 41 (by kernel_rfl) (by kernel_rfl) (fun ops K hK => ?_)
      simp only [List.append_eq, List.cons_append, List.nil_append, List.take_succ_cons, List.take_zero]
      repeat still_step
      refine wpStill_nil (hK _ ?_)
      clear hK
      simp only [List.append_eq, List.cons_append, List.nil_append, List.drop_succ_cons, List.drop_zero]
      go_wp2
      rw [rounds_succ]
      go_wp2
      refine wp_region_fast 41 41 (by kernel_rfl) (by kernel_rfl) (fun ops K hK => ?_)
      simp only [List.append_eq, List.cons_append, List.nil_append, List.take_succ_cons, List.take_zero]
      repeat still_step
      refine wpStill_nil (hK _ ?_)
      clear hK
      simp only [List.append_eq, List.cons_append, List.nil_append, List.drop_succ_cons, List.drop_zero]
      go_wp2
      rw [rounds_succ]
      have hown3 : ((wq.alloc (.cells #[fv zx, fv zy] 26)).alloc (.cells #[fv zx, fv zy] 26)).drew.drew.ownsRow (w.heap.size + 1) 26 2 u5 (4 + k) ((ps.map fv).take (2 * (4 + k))) := (hown.alloc _).alloc _
      go_wp2_with (at_builtin; go_must (refine wpList_append_own _ rfl _ _ 29 rfl (w.heap.size + 1) 26 iF (.agg #[fv 0, fv 0]) 2 16 Try.underlying29 hi hz0 hz1 hz2 rfl (by decide) _ _ _ rfl hown3 ⟨wq.heap.size + 1, 0, none⟩ 1 1 [fv zx, fv zy] rfl rfl ?d1 ?d2 ?d3 ?d4 ?d5 ?_))
      case d1 =>
        intro j u hj
        match j, hj with
        | 0, hj => simp at hj; subst hj; exact cell_at_cells (by rw [blk_drew, blk_drew, blk_if, blk_size, if_pos rfl]) (by rfl)
        | 1, hj => simp at hj; subst hj; exact cell_at_cells (by simp only [Addr.add]; rw [blk_drew, blk_drew, blk_if, blk_size]; exact if_pos rfl) (by rfl)
      case d2 => intro u hu; simp at hu; rcases hu with rfl | rfl <;> rfl
      case d3 => unfold maxLen; omega
      case d4 => omega
      case d5 => simp; omega
      intro v' w2 hown' hgrow _
      have R := Lib.hid (point_next (by omega) HX.out HY.out hown hbw (by omega) hown' hgrow)
      clear hown' hgrow hown hown3 hbw hz1 hz2 hi hz0 Q0 Q1 Q2 Q3 Q4 Q5 Q6 Q7
      go_wp2
      go_roundw
      case rel => exact ⟨k + 1, by omega, by go_num, R.out.1, R.out.2⟩
      case measure => simp [intOf]; omega
    · obtain rfl : k = m := by omega
      have hk12 : k ≤ 12 := by omega
      have hsk : ¬ (2 * (k : Int) + 1 < (len : Int) ∧ 2 * (k : Int) < 24) := by omega
      have hlk : (ps.map fv).take (2 * (4 + k)) = ps.map fv := List.take_of_length_le (by simp; omega)
      rw [hlk] at hown
      have HO := Lib.hid (own_mono hown (Nat.le_succ w.heap.size))
      have HB := Lib.hid (hb1.trans (hbw.mono (by omega)))
      have HM := Lib.hid hm
      clear hown hbw hb1 hlk hm h8 h8' hown1
      by_cases hc : 2 * (k : Int) + 1 < (len : Int)
      · have hc2 : ¬ 2 * (k : Int) < 24 := fun h => hsk ⟨hc, h⟩
        clear hsk
        go_wp2
        go_ret
        exact ⟨_, rfl, HO.out, HB.out⟩
      · clear hsk
        go_wp2
        go_ret
        exact ⟨_, rfl, HO.out, HB.out⟩

set_option maxRecDepth 100000 in
set_option maxHeartbeats 1000000 in
/-- with no numbers: the corners alone -/
theorem within_nil (q : Q8) (a : Option Addr) (cap : Nat) (w : World) :
    Calls Try.prog 11 #[.agg q.vals, .slice a 0 cap] w fun e w' => ∃ v, e = .returned v ∧ w'.ownsRow w.heap.size 26 2 v 4 q.vals.toList ∧ Below w.heap.size w w' := by
  obtain ⟨iF, hi, hz0, hz1, hz2⟩ := info_parts Try.info26
  unfold Q8.vals at *
  go_enter Try.func11, Try.ntmps11
  have ho0 := fun (w : World) => World.ownsRow_lit (base := w.heap.size) (e := 26) (size := 2) w #[] 0 (Nat.le_refl _) (by unfold maxLen; omega) rfl
  go_wp2_with (at_builtin; go_must (refine wpList_append_own _ rfl _ _ 29 rfl (w.heap.size + 1) 26 iF (.agg #[fv 0, fv 0]) 2 16 Try.underlying29 hi hz0 hz1 hz2 rfl (by decide) _ 0 [] rfl ?c0 ⟨w.heap.size, 0, none⟩ 4 4 [fv q.x0, fv q.y0, fv q.x1, fv q.y1, fv q.x2, fv q.y2, fv q.x3, fv q.y3] rfl rfl ?c1 ?c2 ?c3 ?c4 ?c5 ?_))
  case c0 => simpa using ho0 (w.alloc (.cells #[fv q.x0, fv q.y0, fv q.x1, fv q.y1, fv q.x2, fv q.y2, fv q.x3, fv q.y3] 27))
  case c2 => exact ⟨rfl, rfl, rfl, rfl, rfl, rfl, rfl, rfl⟩
  case c3 => unfold maxLen; omega
  intro v1 w1 hown1 hgrow1 _
  have hb1 : Below w.heap.size w w1 := (((Below.refl _ _).alloc (Nat.le_refl _) _).alloc (by simp) _).grown hgrow1 (by simp; omega) (by intro k hk; simp [Value.ownBlock] at hk; omega)
  have hq1 : w1.heap[w.heap.size]? = some (.cells #[fv q.x0, fv q.y0, fv q.x1, fv q.y1, fv q.x2, fv q.y2, fv q.x3, fv q.y3] 27) := by
    rw [hgrow1.block _ (by simp; omega) (by simp [Value.ownBlock])]
    simp only [blk_if, blk_size]; simp
  have hs1 : w.heap.size + 2 ≤ w1.heap.size := by have := hgrow1.size; simp at this; omega
  clear hgrow1 ho0
  go_wp2
  refine wp_loop_rounds 1 ?_
  rw [rounds_succ]
  have HO := Lib.hid (own_mono hown1 (Nat.le_succ w.heap.size))
  have HB := Lib.hid hb1
  clear hown1 hb1
  go_wp2
  go_ret
  exact ⟨_, rfl, HO.out, HB.out⟩

end Go.Proofs.Ytaadklfendegfaa
