/- The walk of ZXTransform. -/
import Derived.Test.YtaadklfendegfaaQq
import Derived.Test.YtaadklfendegfaaTp
namespace Go.Proofs.Ytaadklfendegfaa
open Go.RowKit

theorem Try.info25 : (Try.prog.info? 25).map (fun i => (i.zero, i.size, i.bytes)) = some (some (.float .f64 0), 1, 8) := by kernel_rfl

theorem Try.info26 : (Try.prog.info? 26).map (fun i => (i.zero, i.size, i.bytes)) = some (some (.agg #[.float .f64 0, .float .f64 0]), 2, 16) := by kernel_rfl

/-- 'make([][2]float64, n)' -/
theorem mk_points (n : Nat) (h : n ≤ 1000000) (w : World) : (Instr.makeSlice 29 (.int .i64 (n : Int)) (.int .i64 (n : Int))).run Try.prog w = .ok (.slice (some ⟨w.heap.size, 0, none⟩) n n) (w.alloc (.cells (madeCells #[fv 0, fv 0] (n * 2)) 26)) := by
  obtain ⟨i, hi, hz0, hz1, hz2⟩ := info_parts Try.info26
  have := run_make (P := Try.prog) w 29 26 i _ Try.underlying29 hi hz0 .i64 .i64 n n (by omega) (Int.le_refl _) (by rw [hz2]; omega) (by omega)
  rw [hz1] at this
  simp only [Int.toNat_natCast] at this
  exact this

theorem own_block_le {w : World} {base e size n : Nat} {v : Value} {xs : List Value} (h : w.ownsRow base e size v n xs) : ∀ k, v.ownBlock = some k → base ≤ k := by
  intro k hk
  rcases h.2 with ⟨hv, _⟩ | ⟨g, cap, cur, hv, hg, _⟩
  · subst hv; simp [Value.ownBlock] at hk
  · subst hv; simp [Value.ownBlock] at hk; omega

theorem own_get {w : World} {base e size n : Nat} {v : Value} {xs : List Value} (h : w.ownsRow base e size v n xs) (hn : 1 ≤ n) :
    ∃ g cap cur, v = .slice (some ⟨g, 0, none⟩) n cap ∧ base ≤ g ∧ w.heap[g]? = some (.cells cur e) ∧ n ≤ cap ∧ cur.size = cap * size ∧ ∀ j, j < n * size → cur[j]? = xs[j]? := by
  rcases h.2 with ⟨_, hn0⟩ | ⟨g, cap, cur, hv, hg, hh, hc, _, hs, ht⟩
  · omega
  · refine ⟨g, cap, cur, hv, hg, hh, hc, hs, fun j hj => ?_⟩
    rw [← ht, List.getElem?_take_of_lt hj]; simp

/-- a round that appends two -/
theorem own_two {wr w1 w2 : World} {base : Nat} {v v' : Value} {k x y : Nat} {ps : List Nat} {o1 o2 : Obj} (hl : 2 * k + 1 < ps.length) (hx : ps.getD (2 * k) 0 = x) (hy : ps.getD (2 * k + 1) 0 = y)
    (hown : wr.ownsRow base 25 1 v (2 * k) ((ps.map fv).take (2 * k))) (hbw : Below base w1 wr) (hb : base ≤ w1.heap.size)
    (hown' : w2.ownsRow base 25 1 v' (2 * k + 2) ((ps.map fv).take (2 * k) ++ [fv x, fv y])) (hgrow : ((wr.alloc o1).alloc o2).grownBy w2 v.ownBlock) :
    w2.ownsRow base 25 1 v' (2 * (k + 1)) ((ps.map fv).take (2 * (k + 1))) ∧ Below base w1 w2 := by
  refine ⟨?_, ?_⟩
  · have e : (ps.map fv).take (2 * (k + 1)) = (ps.map fv).take (2 * k) ++ [fv x, fv y] := by
      have h1 : 2 * (k + 1) = 2 * k + 1 + 1 := by omega
      rw [h1, List.take_add_one, List.take_add_one, ← hx, ← hy, List.getElem?_map, List.getElem?_map]
      simp [List.getD, List.getElem?_eq_getElem (show 2 * k < ps.length by omega), List.getElem?_eq_getElem hl]
    rw [e, show 2 * (k + 1) = 2 * k + 2 by omega]; exact hown'
  · have hs := hbw.size
    exact ((hbw.alloc (by omega) _).alloc (by simp; omega) _).grown hgrow (by simp; omega) (own_block_le hown)

/-- the points that are laid, up to q -/
def LaidTo (rs : List Nat) (m G q : Nat) (w wx : World) : Prop :=
  Only G w wx ∧ ∃ c3, wx.heap[G]? = some (.cells c3 26) ∧ c3.size = m * 2 ∧ ∀ j, j < 2 * q → c3[j]? = some (fv (rs.getD j 0))

theorem laid_own {rs : List Nat} {m G base : Nat} {w wx : World} (h : LaidTo rs m G m w wx) (hl : rs.length = 2 * m) (hb : base ≤ G) (hm : m ≤ 1000000) :
    wx.ownsRow base 26 2 (.slice (some ⟨G, 0, none⟩) m m) m (rs.map fv) := by
  obtain ⟨_, c3, hc, hs, hv⟩ := h
  refine ⟨by simp; omega, Or.inr ⟨G, m, c3, rfl, hb, hc, Nat.le_refl _, by unfold maxLen; omega, hs, ?_⟩⟩
  apply List.ext_getElem?
  intro j
  by_cases hj : j < 2 * m
  · rw [List.getElem?_take_of_lt (by omega), Array.getElem?_toList, hv j hj, List.getElem?_map, List.getElem?_eq_getElem (by omega)]
    simp [List.getD, List.getElem?_eq_getElem (show j < rs.length by omega)]
  · rw [List.getElem?_eq_none (by simp; omega), List.getElem?_eq_none (by simp; omega)]

theorem laid_next {rs : List Nat} {m G q : Nat} {w wx : World} (hq : q < m) (h : LaidTo rs m G q w wx) :
    LaidTo rs m G (q + 1) w ((wx.setCell ⟨G, q * 2, none⟩ (fv (rs.getD (2 * q) 0))).setCell ⟨G, q * 2 + 1, none⟩ (fv (rs.getD (2 * q + 1) 0))).drew := by
  obtain ⟨ho, c3, hc, hs, hv⟩ := h
  refine ⟨((ho.setCell rfl _).setCell rfl _).drew, _, heap_setCell_at _ (heap_setCell_at _ hc), by simpa using hs, fun j hj => ?_⟩
  rw [Array.getElem?_setIfInBounds, Array.getElem?_setIfInBounds]
  by_cases e1 : q * 2 + 1 = j
  · subst e1; rw [if_pos rfl, if_pos (by simp; omega), Nat.mul_comm]
  · rw [if_neg e1]
    by_cases e2 : q * 2 = j
    · subst e2; rw [if_pos rfl, if_pos (by omega), Nat.mul_comm]
    · rw [if_neg e2]; exact hv j (by omega)

set_option maxRecDepth 100000 in
set_option maxHeartbeats 1000000 in
theorem zxt_calls (A B : Q8) (a o b r : M9) (ps rs : List Nat) (n cap pb : Nat) (w : World) (cs : Array Value) (h1 : S2QR A a) (h2 : AdjR a o) (h3 : S2QR B b) (h4 : TimesR b o r)
    (hn : 1 ≤ n) (hn2 : n ≤ 100000) (hps : w.heap[pb]? = some (.cells cs 26)) (hcs : ∀ j, j < 2 * n → cs[j]? = some (fv (ps.getD j 0))) (hl : ps.length = 2 * n)
    (hr : ∀ k, k < n → TPtR r (ps.getD (2 * k) 0) (ps.getD (2 * k + 1) 0) (rs.getD (2 * k) 0) (rs.getD (2 * k + 1) 0)) (hlr : rs.length = 2 * n) :
    Calls Try.prog 15 #[.agg A.vals, .agg B.vals, .slice (some ⟨pb, 0, none⟩) n cap] w fun e w' => ∃ v, e = .returned v ∧ w'.ownsRow w.heap.size 26 2 v n (rs.map fv) ∧ Below w.heap.size w w' := by
  have H1 := fun w => q2q_calls A B a o b r w h1 h2 h3 h4
  clear h1 h2 h3 h4
  unfold Q8.vals
  go_enter Try.func15, Try.ntmps15
  go_wp2_with fail
  refine (H1 _).mono ?_
  rintro e w1 ⟨rfl, hw1⟩
  have hp1 : w1.heap[w.heap.size + 5]? = some (.cells r.cells 102) := by
    subst hw1; simp only [blk_drew, blk_if, blk_size, blk_dsize]; simp
  have hb1 : Below w.heap.size w w1 := by
    subst hw1
    exact (((((((Below.refl _ _).alloc (Nat.le_refl _) _).alloc (by simp) _).alloc (by simp; omega) _).alloc (by simp; omega) _).alloc (by simp; omega) _).alloc (by simp; omega) _).drew.drew
  have hs1 : w1.heap.size = w.heap.size + 6 := by
    subst hw1; simp only [blk_size, blk_dsize]
  have hpb : pb < w.heap.size := (Array.getElem?_eq_some_iff.1 hps).1
  have hz : (some ⟨(((((w.alloc (Obj.cells #[fv A.x0, fv A.y0, fv A.x1, fv A.y1, fv A.x2, fv A.y2, fv A.x3, fv A.y3] 27)).alloc
    (Obj.cells #[fv B.x0, fv B.y0, fv B.x1, fv B.y1, fv B.x2, fv B.y2, fv B.x3, fv B.y3] 27)))).heap.size + 3), 0, none⟩ : Option Addr) = some ⟨w.heap.size + 5, 0, none⟩ := by simp [blk_size]
  clear hw1 H1
  simp only [hz]
  go_wp2
  obtain ⟨i0, hi, hz0, hz1, hz2⟩ := info_parts Try.info25
  have hlen := hl
  go_loopw [8, 64] (fun v i wr => ∃ k : Nat, k ≤ n ∧ i = .int .i64 (k : Int) ∧ wr.ownsRow (w.heap.size + 6) 25 1 v (2 * k) ((ps.map fv).take (2 * k)) ∧ Below (w.heap.size + 6) w1 wr) (fun _ i _ => n - (intOf i).toNat)
  case atStart => exact ⟨0, Nat.zero_le _, rfl, World.ownsRow_nil _ _ _ _, Below.refl _ _⟩
  case round =>
    obtain ⟨k, hk, rfl, hown, hbw⟩ := hrel
    by_cases hlt : k < n
    · have X0 : wr.cell? ⟨pb, k * 2, none⟩ = some (fv (ps.getD (2 * k) 0)) := cell_at_cells (by rw [hbw.block pb (by omega), hb1.block pb hpb]; exact hps) (by rw [Nat.mul_comm]; exact hcs _ (by omega))
      have X1 : wr.cell? ⟨pb, k * 2 + 1, none⟩ = some (fv (ps.getD (2 * k + 1) 0)) := cell_at_cells (by rw [hbw.block pb (by omega), hb1.block pb hpb]; exact hps) (by rw [Nat.mul_comm]; exact hcs _ (by omega))
      clear hps hcs hr hlr hl hp1
      generalize hx : ps.getD (2 * k) 0 = x at X0
      generalize hy : ps.getD (2 * k + 1) 0 = y at X1
      have HX := Lib.hid hx
      have HY := Lib.hid hy
      clear hx hy
      go_wp2_with (at_builtin; refine wpList_append_own _ rfl _ _ 72 rfl (w.heap.size + 6) 25 i0 (.float .f64 0) 1 8 Try.underlying72 hi hz0 hz1 hz2 rfl (by decide) _ _ _ rfl ((hown.alloc _).alloc _) ⟨wr.heap.size + 1, 0, none⟩ 2 2 [fv x, fv y] rfl rfl ?c1 ?c2 ?c3 ?c4 ?c5 ?_)
      case c1 =>
        intro j u hj
        match j, hj with
        | 0, hj => simp at hj; subst hj; exact cell_at_cells (by rw [blk_if, blk_size, if_pos rfl]) (by simp)
        | 1, hj => simp at hj; subst hj; exact cell_at_cells (by simp only [Addr.add]; rw [blk_if, blk_size, if_pos rfl]) (by simp)
      case c2 => intro u hu; simp at hu; rcases hu with rfl | rfl <;> rfl
      case c3 => unfold maxLen; omega
      case c4 => omega
      case c5 => have := hbw.size; simp; omega
      intro v' w2 hown' hgrow _
      have R := Lib.hid (own_two (by omega) HX.out HY.out hown hbw (by omega) hown' hgrow)
      clear hown' hgrow hown hbw hz1 hz2 hi hz0 X0 X1
      go_wp2
      go_roundw
      case rel => exact ⟨k + 1, by omega, by go_num, R.out.1, R.out.2⟩
      case measure => simp [intOf]; omega
    · obtain rfl : k = n := by omega
      have hlk : ((ps.map fv).take (2 * k)) = ps.map fv := List.take_of_length_le (by simp; omega)
      rw [hlk] at hown
      obtain ⟨g, cap', cur, hv, hg, hgc, hcap, hsz, hcur⟩ := own_get hown (by omega)
      subst hv
      have hpr : wr.heap[w.heap.size + 5]? = some (.cells r.cells 102) := by rw [hbw.block _ (by omega)]; exact hp1
      have T := fun hh => tp_calls r (w.heap.size + 5) g k cap' ps rs wr cur 25 (by omega) hcap (by omega) hpr hgc hh hr
      have T2 := T (fun j hj => by
        rw [hcur j (by omega), List.getElem?_map, List.getElem?_eq_getElem (by omega)]; simp [List.getD, List.getElem?_eq_getElem (show j < ps.length by omega)])
      clear T hcur hown hps hcs hp1 hpr hlk hr hgc
      go_wp2_with (go_at_call 31; refine T2.mono ?_)
      clear T2
      rintro e w2 ⟨rfl, ho2, cur2, hc2, hsz2, hcells2⟩
      have H2 := Lib.hid hcells2
      clear hcells2
      have hmk := mk_points k (by omega)
      go_wp2
      clear hmk
      have hsw2 : w2.heap.size = wr.heap.size := ho2.size
      have hb2 : Below (w.heap.size + 6) w1 w2 := hbw.trans (ho2.below hg)
      have hgw2 : g < w2.heap.size := (Array.getElem?_eq_some_iff.1 hc2).1
      have hs1' := hbw.size
      have hw3 := Lib.hid (blk_new w2 (.cells (madeCells #[fv 0, fv 0] (k * 2)) 26))
      have hb3 : Below (w.heap.size + 6) w1 (w2.alloc (.cells (madeCells #[fv 0, fv 0] (k * 2)) 26)) := hb2.alloc (by omega) _
      have hg3 : (w2.alloc (.cells (madeCells #[fv 0, fv 0] (k * 2)) 26)).heap[g]? = some (.cells cur2 25) := blk_old _ _ _ _ hc2
      have hG6 : w.heap.size + 6 ≤ w2.heap.size := by omega
      clear hsw2
      generalize hw3e : w2.alloc (.cells (madeCells #[fv 0, fv 0] (k * 2)) 26) = w3 at *
      generalize hGe : w2.heap.size = G at *
      clear hw3e hb2 hbw ho2 hc2 hsz2
      go_loopw [84, 12] (fun i _ wx => ∃ q : Nat, q ≤ k ∧ i = .int .i64 (q : Int) ∧ LaidTo rs k G q w3 wx) (fun i _ _ => k - (intOf i).toNat)
      case atStart => exact ⟨0, Nat.zero_le _, rfl, Only.refl _ _, _, hw3.out, by rw [size_madeCells], fun j hj => by omega⟩
      case round =>
        obtain ⟨q, hq, rfl, hlaid⟩ := hrel
        by_cases hlt2 : q < k
        · have hL := Lib.hid (laid_next hlt2 hlaid)
          obtain ⟨ho, c3, hc3, hsz3, _⟩ := hlaid
          have hgx : wr.heap[g]? = some (.cells cur2 25) := by rw [ho.block g (by omega)]; exact hg3
          have X0 : wr.cell? ⟨g, 2 * q, none⟩ = some (fv (rs.getD (2 * q) 0)) := cell_at_cells hgx (H2.out _ (by omega))
          have X1 : wr.cell? ⟨g, 2 * q + 1, none⟩ = some (fv (rs.getD (2 * q + 1) 0)) := cell_at_cells hgx (H2.out _ (by omega))
          have Y0 : (wr.cell? ⟨G, q * 2, none⟩).isSome = true := by simp [World.cell?, hc3]; omega
          have Y1 : (wr.cell? ⟨G, q * 2 + 1, none⟩).isSome = true := by simp [World.cell?, hc3]; omega
          have F0 : wr.frozen? ⟨G, q * 2, none⟩ = false := by simp [World.frozen?, hc3]
          have F1 : wr.frozen? ⟨G, q * 2 + 1, none⟩ = false := by simp [World.frozen?, hc3]
          obtain ⟨y0, Y0⟩ := Option.isSome_iff_exists.1 Y0
          obtain ⟨y1, Y1⟩ := Option.isSome_iff_exists.1 Y1
          generalize rs.getD (2 * q) 0 = x at hL X0
          generalize rs.getD (2 * q + 1) 0 = y at hL X1
          have I1 : 2 * (q : Int) < 2 * (k : Int) := by omega
          have I2 : 0 ≤ 2 * (q : Int) := by omega
          have I3 : 2 * (q : Int) + 1 < 2 * (k : Int) := by omega
          have I4 : 0 ≤ 2 * (q : Int) + 1 := by omega
          clear ho hc3 hgx hg3
          go_wp2
          have W0 : IntKind.i64.wrap (2 * (q : Int)) = 2 * (q : Int) := IntWalk.i64_in _ ⟨by omega, by omega⟩
          have W1 : IntKind.i64.wrap (2 * (q : Int) + 1) = 2 * (q : Int) + 1 := IntWalk.i64_in _ ⟨by omega, by omega⟩
          have W2 : (2 * (q : Int) + 1).toNat = 2 * q + 1 := by omega
          have W3 : (2 * (q : Int)).toNat = 2 * q := by omega
          refine wp_region_fast 87 15 (by kernel_rfl) (by kernel_rfl) (fun ops K hK => ?_)
          simp only [List.append_eq, List.cons_append, List.nil_append, List.take_succ_cons, List.take_zero]
          repeat still_step
          refine wpStill_nil (hK _ ?_)
          clear hK W0 W1 W2 W3
          simp only [List.append_eq, List.cons_append, List.nil_append, List.drop_succ_cons, List.drop_zero]
          go_wp2
          go_roundw
          case rel => exact ⟨q + 1, by omega, by go_num, hL.out⟩
          case measure => simp [intOf]; omega
        · obtain rfl : q = k := by omega
          go_wp2
          go_ret
          refine ⟨_, rfl, laid_own hlaid hlr (by omega) (by omega), ?_⟩
          exact hb1.trans ((hb3.mono (by omega)).trans (hlaid.1.below (by omega)))

end Go.Proofs.Ytaadklfendegfaa
