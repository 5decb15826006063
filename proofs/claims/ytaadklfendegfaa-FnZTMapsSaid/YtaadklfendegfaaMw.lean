/- The walk of FnZTMaps. -/
import Derived.Test.YtaadklfendegfaaWw
import Derived.Test.YtaadklfendegfaaSe
import Derived.Test.YtaadklfendegfaaSat
import Derived.Deep.AppendLies
import Derived.Deep.RegionHeld3
import Derived.Deep.MidRow
namespace Go.Proofs.Ytaadklfendegfaa
open Go.RowKit

/-- the corners' numbers -/
def qx (q : Q8) : Nat → Nat
  | 0 => q.x0
  | 1 => q.x1
  | 2 => q.x2
  | _ => q.x3
def qy (q : Q8) : Nat → Nat
  | 0 => q.y0
  | 1 => q.y1
  | 2 => q.y2
  | _ => q.y3

theorem scq_calls (A B : Q8) (o : Nat → Nat) (w : World) (h : ScR (qx A) (qy A) (qx B) (qy B) o) :
    Calls Try.prog 12 #[.agg #[fv A.x0, fv A.y0, fv A.x1, fv A.y1, fv A.x2, fv A.y2, fv A.x3, fv A.y3], .agg #[fv B.x0, fv B.y0, fv B.x1, fv B.y1, fv B.x2, fv B.y2, fv B.x3, fv B.y3]] w fun e w' => e = .returned (.tuple #[.agg (tens o), .bool true]) ∧ Below w.heap.size w w' :=
  sc_calls (qx A) (qy A) (qx B) (qy B) o w h

theorem news_two (w : World) (x y : Nat) : ∀ j u, ([fv x, fv y] : List Value)[j]? = some u → (w.alloc (.cells #[fv x, fv y] 26)).cell? ((⟨w.heap.size, 0, none⟩ : Addr).add j) = some u := by
  intro j u hj
  match j, hj with
  | 0, hj => simp at hj; subst hj; exact cell_at_cells (by rw [blk_if, if_pos rfl]) (by rfl)
  | 1, hj => simp at hj; subst hj; rw [add_plain]; exact cell_at_cells (by rw [blk_if, if_pos rfl]) (by rfl)
theorem one_two (x y : Nat) : ∀ u ∈ ([fv x, fv y] : List Value), u.oneCell' = true := by
  intro u hu; simp at hu; rcases hu with rfl | rfl <;> rfl
theorem take_two (ws : List Nat) (k : Nat) (h : 2 * k + 1 < ws.length) : (ws.take (2 * (k + 1))).map fv = (ws.take (2 * k)).map fv ++ [fv (ws.getD (2 * k) 0), fv (ws.getD (2 * k + 1) 0)] := by
  have h1 : 2 * (k + 1) = 2 * k + 1 + 1 := by omega
  have h' : 2 * k < ws.length := by omega
  have g1 : ws.getD (2 * k) 0 = ws[2 * k] := by simp [List.getD, List.getElem?_eq_getElem h']
  have g2 : ws.getD (2 * k + 1) 0 = ws[2 * k + 1] := by simp [List.getD, List.getElem?_eq_getElem h]
  rw [h1, List.take_succ_eq_append_getElem h, List.take_succ_eq_append_getElem h', List.map_append, List.map_append, g1, g2, List.append_assoc]
  rfl

theorem two_blk (w : World) (o1 o2 : Obj) : ((w.alloc o1).alloc o2).heap[w.heap.size]? = some o1 ∧ ((w.alloc o1).alloc o2).heap[w.heap.size + 1]? = some o2 ∧ ((w.alloc o1).alloc o2).heap.size = w.heap.size + 2 ∧ Below w.heap.size w ((w.alloc o1).alloc o2) :=
  ⟨blk_old _ _ _ _ (blk_new _ _), blk_new' _ _ _ (by rw [blk_size]), by simp only [blk_size], ((Below.refl _ _).alloc (Nat.le_refl _) _).alloc (by simp) _⟩

set_option maxRecDepth 100000 in
set_option maxHeartbeats 8000000 in
theorem maps_calls (b1 b2 : Nat → Int) (A B : Q8) (sa : Option Addr) (len cap n : Nat) (ps rs ws : List Nat) (o : Nat → Nat) (w : World) (hlen : len ≤ 2147483647)
    (hA : QuadsR b1 A) (hB : QuadsR b2 B) (hn : 4 ≤ n) (hn2 : n ≤ 100000)
    (hw : ∀ W, Below w.heap.size w W → Calls Try.prog 11 #[.agg A.vals, .slice sa len cap] W fun e w' => ∃ v, e = .returned v ∧ w'.ownsRow W.heap.size 26 2 v n (ps.map fv) ∧ Below W.heap.size W w')
    (t1 : TransR A B n ps rs) (hsc : ScR (qx A) (qy A) (qx B) (qy B) o) (hws : ws.length = 2 * n) (hat : ∀ k, k < n → ScAtR o (ps.getD (2 * k) 0) (ps.getD (2 * k + 1) 0) (ws.getD (2 * k) 0) (ws.getD (2 * k + 1) 0))
    (hnear : ∀ j, j < 2 * n → NearR (rs.getD j 0) (ws.getD j 0)) :
    Calls Try.prog 3 #[.agg (ints8 b1), .agg (ints8 b2), .slice sa len cap] w fun e w' => e = .returned (.bool true) ∧ Below w.heap.size w w' := by
  have hlz : decide ((2147483647 : Int) < (len : Int)) = false := by simp; omega
  have Q1 := fun w => quad_calls (b1 0) (b1 1) (b1 2) (b1 3) (b1 4) (b1 5) (b1 6) (b1 7) A w hA
  have Q2 := fun w => quad_calls (b2 0) (b2 1) (b2 2) (b2 3) (b2 4) (b2 5) (b2 6) (b2 7) B w hB
  have HW := Lib.hid hw
  have HSC := Lib.hid (fun w => scq_calls A B o w hsc)
  have HAt := Lib.hid hat
  have HNear := Lib.hid hnear
  clear hA hB hw hsc hat hnear
  unfold ints8
  go_enter Try.func3, Try.ntmps3
  go_wp2
  obtain ⟨hX0, hX1, hXs, hXb⟩ := two_blk w (.cells #[.int .i8 (b1 0), .int .i8 (b1 1), .int .i8 (b1 2), .int .i8 (b1 3), .int .i8 (b1 4), .int .i8 (b1 5), .int .i8 (b1 6), .int .i8 (b1 7)] 23) (.cells #[.int .i8 (b2 0), .int .i8 (b2 1), .int .i8 (b2 2), .int .i8 (b2 3), .int .i8 (b2 4), .int .i8 (b2 5), .int .i8 (b2 6), .int .i8 (b2 7)] 23)
  generalize (w.alloc (.cells #[.int .i8 (b1 0), .int .i8 (b1 1), .int .i8 (b1 2), .int .i8 (b1 3), .int .i8 (b1 4), .int .i8 (b1 5), .int .i8 (b1 6), .int .i8 (b1 7)] 23)).alloc (.cells #[.int .i8 (b2 0), .int .i8 (b2 1), .int .i8 (b2 2), .int .i8 (b2 3), .int .i8 (b2 4), .int .i8 (b2 5), .int .i8 (b2 6), .int .i8 (b2 7)] 23) = w0 at *
  refine wp_region_inv (by kernel_rfl) (by kernel_rfl) (InvW 2 (fun L K V => { tmps := #[.agg #[.int .i8 (b1 0), .int .i8 (b1 1), .int .i8 (b1 2), .int .i8 (b1 3), .int .i8 (b1 4), .int .i8 (b1 5), .int .i8 (b1 6), .int .i8 (b1 7)], .agg #[.int .i8 (b2 0), .int .i8 (b2 1), .int .i8 (b2 2), .int .i8 (b2 3), .int .i8 (b2 4), .int .i8 (b2 5), .int .i8 (b2 6), .int .i8 (b2 7)], .slice sa len cap, .pointer (some ⟨w.heap.size, 0, none⟩), .pointer (some ⟨w.heap.size + 1, 0, none⟩), undef, .bool false, V 0, V 1, undef, undef, undef, undef, undef, .slice sa len cap, .int .i64 (len : Int), .bool false, L 0, K 0, L 1, K 1, undef, undef, undef, undef, undef, undef, undef, undef, undef, undef, undef, undef, undef, undef, undef, undef, undef, undef, undef, undef, undef, undef, undef, undef, undef, undef, undef, undef, undef, undef, undef, undef], defers := [] }) (w.heap.size + 2) w0 (three (.agg #[.int .i8 (b1 0), .int .i8 (b1 1), .int .i8 (b1 2), .int .i8 (b1 3), .int .i8 (b1 4), .int .i8 (b1 5), .int .i8 (b1 6), .int .i8 (b1 7)]) (.agg #[.int .i8 (b2 0), .int .i8 (b2 1), .int .i8 (b2 2), .int .i8 (b2 3), .int .i8 (b2 4), .int .i8 (b2 5), .int .i8 (b2 6), .int .i8 (b2 7)]) (.agg #[.int .i8 (b2 0), .int .i8 (b2 1), .int .i8 (b2 2), .int .i8 (b2 3), .int .i8 (b2 4), .int .i8 (b2 5), .int .i8 (b2 6), .int .i8 (b2 7)])) (three #[fv A.x0, fv A.y0, fv A.x1, fv A.y1, fv A.x2, fv A.y2, fv A.x3, fv A.y3] #[fv B.x0, fv B.y0, fv B.x1, fv B.y1, fv B.x2, fv B.y2, fv B.x3, fv B.y3] #[fv B.x0, fv B.y0, fv B.x1, fv B.y1, fv B.x2, fv B.y2, fv B.x3, fv B.y3])) ?_ ?_ ?_
  · exact ⟨fun _ => undef, fun _ => undef, fun _ => undef, fun _ => 0, rfl, (Below.refl _ _).drew, by show _ ≤ w0.heap.size; omega, (fun _ _ h => by cases h), (fun _ _ h => by cases h), (fun _ _ h => by cases h), (fun _ _ _ _ _ h => by cases h), (fun _ _ h => by cases h)⟩
  · intro S hS a wx hI
    obtain ⟨L, K, V, p, rfl, h⟩ := hI
    obtain ⟨va, a1, a2, a3⟩ := h.vars 0 (by omega) (hS _ (by decide))
    obtain ⟨vb, b1', b2', b3'⟩ := h.vars 1 (by omega) (hS _ (by decide))
    rw [hS _ (by decide)] at a3 b3'
    have hA : wx.heap[p 0]? = some (.cells A.vals 27) := a3
    have hB : wx.heap[p 1]? = some (.cells B.vals 27) := b3'
    have hbx : Below w.heap.size w wx := hXb.trans (h.below.mono (by omega))
    have hwx : w.heap.size ≤ wx.heap.size := hbx.size
    clear h a3 b3' hX0 hX1 hXb hXs hS Q1 Q2
    generalize p 0 = pa at *
    generalize p 1 = pb at *
    have HA := Lib.hid hA
    have HB := Lib.hid hB
    obtain ⟨x0, x1, x2, x3, x4, x5, x6, x7⟩ := quad_cells hA
    clear hA hB
    go_wp2_with (go_at_call 11; refine (HW.out _ hbx).mono ?_)
    clear x0 x1 x2 x3 x4 x5 x6 x7
    rintro e w4 ⟨vp, rfl, hvp, hb4⟩
    obtain ⟨gp, cp, _, rfl, _⟩ := own_get hvp (by omega)
    have hA4 : w4.heap[pa]? = some (.cells A.vals 27) := by rw [hb4.block _ a2]; exact HA.out
    have hB4 : w4.heap[pb]? = some (.cells B.vals 27) := by rw [hb4.block _ b2']; exact HB.out
    have hs4 := hb4.size
    have HA4 := Lib.hid hA4
    have HB4 := Lib.hid hB4
    obtain ⟨x0, x1, x2, x3, x4, x5, x6, x7⟩ := quad_cells hA4
    obtain ⟨y0, y1, y2, y3, y4, y5, y6, y7⟩ := quad_cells hB4
    clear hA4 hB4 HA HB
    have HVp := Lib.hid hvp
    have HB04 := Lib.hid (hbx.trans (hb4.mono hwx))
    clear hvp hb4 hbx
    go_wp2_with (go_at_call 12; refine (HSC.out _).mono ?_)
    clear x0 x1 x2 x3 x4 x5 x6 x7 y0 y1 y2 y3 y4 y5 y6 y7
    rintro e w5 ⟨rfl, hb5⟩
    have hVp5 := own_below HVp.out hb5
    have hA5 : w5.heap[pa]? = some (.cells A.vals 27) := by rw [hb5.block _ (by omega)]; exact HA4.out
    have hB5 : w5.heap[pb]? = some (.cells B.vals 27) := by rw [hb5.block _ (by omega)]; exact HB4.out
    have hb05 : Below w.heap.size w w5 := HB04.out.trans (hb5.mono (by omega))
    have hs5 := hb5.size
    clear HVp HA4 HB4 HB04 hb5 HSC
    unfold tens
    go_wp2
    have hm6 : (w5.alloc (.cells #[fv (o 0), fv (o 1), fv (o 2), fv (o 3), fv (o 4), fv (o 5), fv (o 6), fv (o 7), fv (o 8), fv (o 9)] 31)).heap[w5.heap.size]? = some (.cells #[fv (o 0), fv (o 1), fv (o 2), fv (o 3), fv (o 4), fv (o 5), fv (o 6), fv (o 7), fv (o 8), fv (o 9)] 31) := blk_new _ _
    have hb6 : Below w5.heap.size w5 (w5.alloc (.cells #[fv (o 0), fv (o 1), fv (o 2), fv (o 3), fv (o 4), fv (o 5), fv (o 6), fv (o 7), fv (o 8), fv (o 9)] 31)) := (Below.refl _ _).alloc (Nat.le_refl _) _
    have hs6 : (w5.alloc (.cells #[fv (o 0), fv (o 1), fv (o 2), fv (o 3), fv (o 4), fv (o 5), fv (o 6), fv (o 7), fv (o 8), fv (o 9)] 31)).heap.size = w5.heap.size + 1 := blk_size _ _
    generalize w5.alloc (.cells #[fv (o 0), fv (o 1), fv (o 2), fv (o 3), fv (o 4), fv (o 5), fv (o 6), fv (o 7), fv (o 8), fv (o 9)] 31) = w6 at *
    have hVp6 := own_below hVp5 hb6
    have hA6 : w6.heap[pa]? = some (.cells A.vals 27) := by rw [hb6.block _ (by omega)]; exact hA5
    have hB6 : w6.heap[pb]? = some (.cells B.vals 27) := by rw [hb6.block _ (by omega)]; exact hB5
    have hb06 : Below w.heap.size w w6 := hb05.trans (hb6.mono (by omega))
    have hl6 : w5.heap.size < w6.heap.size := by omega
    have hl6a : pa < w6.heap.size := by omega
    have hl6b : pb < w6.heap.size := by omega
    have hl6w : w.heap.size ≤ w6.heap.size := by omega
    generalize w5.heap.size = pm at *
    clear hVp5 hA5 hB5 hb05 hb6 hs6 hs5 hs4
    obtain ⟨gp', cp', curp, hve, hgp0, hgp, hcp, hsp, hcurp⟩ := own_get hVp6 (by omega)
    obtain ⟨rfl, rfl⟩ : gp = gp' ∧ cp = cp' := by injection hve with h1 h2 h3; injection h1 with h1; injection h1 with h1; exact ⟨h1, h3⟩
    clear hve
    have hgl : gp < w6.heap.size := (Array.getElem?_eq_some_iff.1 hgp).1
    have HVp := Lib.hid hVp6
    have HM6 := Lib.hid hm6
    have HA6 := Lib.hid hA6
    have HB6 := Lib.hid hB6
    have HB06 := Lib.hid hb06
    have HPs := Lib.hid (And.intro hgp hcurp)
    have hpl : ps.length = 2 * n := t1.1
    have HPl := Lib.hid hpl
    have HT1 := Lib.hid t1
    clear hVp6 hm6 hA6 hB6 hb06 hgp hcurp hcp hsp hgp0 hpl t1
    obtain ⟨iF, hi, hz0, hz1, hz2⟩ := info_parts Try.info26
    go_loopw [12, 34] (fun v i wr => ∃ k : Nat, k ≤ n ∧ i = .int .i64 (k : Int) ∧ Hid (wr.ownsRow w6.heap.size 26 2 v k ((ws.take (2 * k)).map fv)) ∧ Hid (Below w6.heap.size w6 wr)) (fun _ i _ => n - (intOf i).toNat)
    case atStart => exact ⟨0, by omega, rfl, World.ownsRow_nil _ _ _ _, Below.refl _ _⟩
    case round =>
      obtain ⟨wo, rfl⟩ : ∃ wo : World, wo = wr := ⟨_, rfl⟩
      obtain ⟨k, hk, rfl, HOwn, HBo⟩ := hrel
      by_cases hlt : k < n
      · have hsr := HBo.out.size
        have hm := (HBo.out.block pm hl6).trans HM6.out
        have hg := (HBo.out.block gp hgl).trans HPs.out.1
        have r0 : wo.rangeAt pm 0 [fv (o 0), fv (o 1), fv (o 2), fv (o 3), fv (o 4), fv (o 5), fv (o 6), fv (o 7), fv (o 8), fv (o 9)] := fun j v hv => by rw [Nat.zero_add]; exact cell_at_cells hm (by simpa using hv)
        have hu31 : Try.prog.underlying 31 = some (.array 10 25) := by kernel_rfl
        have hi31 : (Try.prog.info? 31).map (·.size) = some ([fv (o 0), fv (o 1), fv (o 2), fv (o 3), fv (o 4), fv (o 5), fv (o 6), fv (o 7), fv (o 8), fv (o 9)] : List Value).length := by kernel_rfl
        have p0 : wo.cell? ⟨gp, k * 2, none⟩ = some (fv (ps.getD (2 * k) 0)) := cell_at_cells hg (by rw [HPs.out.2 (k * 2) (by omega), Nat.mul_comm]; exact map_get (by have := HPl.out; omega))
        have p1 : wo.cell? ⟨gp, k * 2 + 1, none⟩ = some (fv (ps.getD (2 * k + 1) 0)) := cell_at_cells hg (by rw [HPs.out.2 (k * 2 + 1) (by omega), Nat.mul_comm]; exact map_get (by have := HPl.out; omega))
        have r6 : w6.rangeAt pm 0 [fv (o 0), fv (o 1), fv (o 2), fv (o 3), fv (o 4), fv (o 5), fv (o 6), fv (o 7), fv (o 8), fv (o 9)] := fun j v hv => by rw [Nat.zero_add]; exact cell_at_cells HM6.out (by simpa using hv)
        have q0 : w6.cell? ⟨gp, k * 2, none⟩ = some (fv (ps.getD (2 * k) 0)) := cell_at_cells HPs.out.1 (by rw [HPs.out.2 (k * 2) (by omega), Nat.mul_comm]; exact map_get (by have := HPl.out; omega))
        have q1 : w6.cell? ⟨gp, k * 2 + 1, none⟩ = some (fv (ps.getD (2 * k + 1) 0)) := cell_at_cells HPs.out.1 (by rw [HPs.out.2 (k * 2 + 1) (by omega), Nat.mul_comm]; exact map_get (by have := HPl.out; omega))
        have HC := Lib.hid (scat_calls o (ps.getD (2 * k) 0) (ps.getD (2 * k + 1) 0) (ws.getD (2 * k) 0) (ws.getD (2 * k + 1) 0) wo.drew (HAt.out k hlt))
        unfold tens at HC
        have hpm : pm < wo.heap.size := by omega
        have hgw : gp < wo.heap.size := by omega
        have I0 : (k : Int) < (n : Int) := by omega
        have I1 : 0 ≤ (k : Int) := by omega
        have HTk := Lib.hid (take_two ws k (by omega))
        have hmx : k + 1 ≤ maxLen := by unfold maxLen; omega
        have hby : (k + 1) * 16 ≤ 140737488355328 := by omega
        clear hm hg
        generalize ps.getD (2 * k) 0 = px at *
        generalize ps.getD (2 * k + 1) 0 = py at *
        generalize ws.getD (2 * k) 0 = qx0 at *
        generalize ws.getD (2 * k + 1) 0 = qy0 at *
        go_wp2
        go_region_held3 (fun w' => w'.rangeAt pm 0 [fv (o 0), fv (o 1), fv (o 2), fv (o 3), fv (o 4), fv (o 5), fv (o 6), fv (o 7), fv (o 8), fv (o 9)] ∧ w'.cell? ⟨gp, k * 2, none⟩ = some (fv px) ∧ w'.cell? ⟨gp, k * 2 + 1, none⟩ = some (fv py)) (first | exact ⟨r0, p0, p1⟩ | exact ⟨fun j v hv => (hb7.cell (by show pm < wo.heap.size; omega)).trans (r0 j v hv), (hb7.cell (by show gp < wo.heap.size; omega)).trans p0, (hb7.cell (by show gp < wo.heap.size; omega)).trans p1⟩ | exact ⟨fun j v hv => ((hb7.alloc (by omega) _).cell (by show pm < wo.heap.size; omega)).trans (r0 j v hv), ((hb7.alloc (by omega) _).cell (by show gp < wo.heap.size; omega)).trans p0, ((hb7.alloc (by omega) _).cell (by show gp < wo.heap.size; omega)).trans p1⟩ | exact ⟨fun j v hv => (hb9.cell (by show pm < w6.heap.size; omega)).trans (r6 j v hv), (hb9.cell (by show gp < w6.heap.size; omega)).trans q0, (hb9.cell (by show gp < w6.heap.size; omega)).trans q1⟩) ((first | (go_at_call 13; refine HC.out.mono ?_; rintro e w7 ⟨rfl, hb7'⟩; have hb7 : Below wo.heap.size wo w7 := ((Below.refl _ _).drew).trans hb7'; have hs7 := hb7.size) | (refine step_append_lies _ (by rfl) (.tmp 37) (.tmp 44) 29 (by rfl) w6.heap.size 26 iF (.agg #[fv 0, fv 0]) 2 16 Try.underlying29 hi hz0 hz1 hz2 (by rfl) (by omega) _ k _ (by rfl) ((own_below HOwn.out hb7).alloc _) ⟨w7.heap.size, 0, none⟩ 1 1 [fv qx0, fv qy0] (by rfl) (by simp) (news_two _ _ _) (one_two _ _) (by omega) hmx hby (by simp; omega) _ rfl ?_; intro g9 cap9 w9 hown9 hgrow9 hat9 hlt9; have hb9 : Below w6.heap.size w6 w9 := (((HBo.out.trans (hb7.mono hsr)).alloc (by omega) _).grown hgrow9 (by simp; omega) (own_block_le HOwn.out)))))
        rw [← HTk.out] at hown9
        have HOwn9 := Lib.hid hown9
        have HB9 := Lib.hid hb9
        clear hown9 hb9 hgrow9 hat9 hlt9 hb7 hb7' r0 r6 p0 p1 q0 q1 hu31 hi31
        go_wp2
        go_roundw
        case rel => exact ⟨k + 1, by omega, by go_num, HOwn9.out, HB9.out⟩
        case measure => simp [intOf]; omega
      · obtain rfl : k = n := by omega
        have hA7 := (HBo.out.block pa hl6a).trans HA6.out
        have hB7 := (HBo.out.block pb hl6b).trans HB6.out
        have hV7 := own_below HVp.out HBo.out
        have hW7 := HOwn.out
        rw [List.take_of_length_le (by omega)] at hW7
        have HV7 := Lib.hid hV7
        have HW7 := Lib.hid hW7
        have HB7 := Lib.hid (HB06.out.trans (HBo.out.mono hl6w))
        have hs7 := HBo.out.size
        obtain ⟨x0, x1, x2, x3, x4, x5, x6, x7⟩ := quad_cells hA7
        obtain ⟨y0, y1, y2, y3, y4, y5, y6, y7⟩ := quad_cells hB7
        clear hA7 hB7 hV7 hW7
        go_wp2_with (go_at_call 15; refine (zxt_own HT1.out (by omega) hn2 HV7.out).mono ?_)
        clear x0 x1 x2 x3 x4 x5 x6 x7 y0 y1 y2 y3 y4 y5 y6 y7
        rintro e w8 ⟨v8, rfl, hv8, hb8⟩
        have HV8 := Lib.hid hv8
        have HW8 := Lib.hid (own_below HW7.out hb8)
        have HB8 := Lib.hid (HB7.out.trans (hb8.mono (by omega)))
        clear hv8 hb8
        go_wp2_with (go_at_call 14; refine (near_own (by omega) (by omega) HV8.out HW8.out HNear.out).mono ?_)
        rintro e w9 ⟨rfl, m9, rfl⟩
        go_wp2
        go_ret
        exact ⟨rfl, below_drewN HB8.out m9⟩
  · intro S i o' ho hS hdep a wx hI
    obtain ⟨L, K, V, p, rfl, h⟩ := hI
    have Y0 : wx.heap[w.heap.size]? = some (.cells #[.int .i8 (b1 0), .int .i8 (b1 1), .int .i8 (b1 2), .int .i8 (b1 3), .int .i8 (b1 4), .int .i8 (b1 5), .int .i8 (b1 6), .int .i8 (b1 7)] 23) := by rw [h.below.block _ (by omega)]; exact hX0
    have Y1 : wx.heap[w.heap.size + 1]? = some (.cells #[.int .i8 (b2 0), .int .i8 (b2 1), .int .i8 (b2 2), .int .i8 (b2 3), .int .i8 (b2 4), .int .i8 (b2 5), .int .i8 (b2 6), .int .i8 (b2 7)] 23) := by rw [h.below.block _ (by omega)]; exact hX1
    clear hX0 hX1
    match i, ho with
    | 0, ho =>
      cases ho
      have y0 : wx.cell? ⟨w.heap.size, 0, none⟩ = some (.int .i8 (b1 0)) := cell_at_cells Y0 (by rfl)
      have y1 : wx.cell? ⟨w.heap.size, 1, none⟩ = some (.int .i8 (b1 1)) := cell_at_cells Y0 (by rfl)
      have y2 : wx.cell? ⟨w.heap.size, 2, none⟩ = some (.int .i8 (b1 2)) := cell_at_cells Y0 (by rfl)
      have y3 : wx.cell? ⟨w.heap.size, 3, none⟩ = some (.int .i8 (b1 3)) := cell_at_cells Y0 (by rfl)
      have y4 : wx.cell? ⟨w.heap.size, 4, none⟩ = some (.int .i8 (b1 4)) := cell_at_cells Y0 (by rfl)
      have y5 : wx.cell? ⟨w.heap.size, 5, none⟩ = some (.int .i8 (b1 5)) := cell_at_cells Y0 (by rfl)
      have y6 : wx.cell? ⟨w.heap.size, 6, none⟩ = some (.int .i8 (b1 6)) := cell_at_cells Y0 (by rfl)
      have y7 : wx.cell? ⟨w.heap.size, 7, none⟩ = some (.int .i8 (b1 7)) := cell_at_cells Y0 (by rfl)
      have HH := Lib.hid (inv_load h (i := 0) (by omega))
      clear h Y0 Y1 hdep hS
      refine wpOp_step (by rfl) (fun KK hK => ?_)
      go_simp
      exact hK _ _ HH.out
    | 1, ho =>
      cases ho
      have d0 : S 0 = true := hdep ⟨0, .data⟩ (by simp) rfl
      have e0 : L 0 = .agg #[.int .i8 (b1 0), .int .i8 (b1 1), .int .i8 (b1 2), .int .i8 (b1 3), .int .i8 (b1 4), .int .i8 (b1 5), .int .i8 (b1 6), .int .i8 (b1 7)] := h.loads 0 (by omega) d0
      have HH := Lib.hid (fun w' hb => inv_call' h (i := 0) (by omega) d0 (w' := w') hb)
      clear h Y0 Y1 hdep hS d0
      refine wpOp_step (by rfl) (fun KK hK => ?_)
      go_simp
      refine (Q1 _).mono ?_
      rintro e w' ⟨rfl, hb⟩
      exact hK _ _ (HH.out w' hb)
    | 2, ho =>
      cases ho
      have y0 : wx.cell? ⟨w.heap.size + 1, 0, none⟩ = some (.int .i8 (b2 0)) := cell_at_cells Y1 (by rfl)
      have y1 : wx.cell? ⟨w.heap.size + 1, 1, none⟩ = some (.int .i8 (b2 1)) := cell_at_cells Y1 (by rfl)
      have y2 : wx.cell? ⟨w.heap.size + 1, 2, none⟩ = some (.int .i8 (b2 2)) := cell_at_cells Y1 (by rfl)
      have y3 : wx.cell? ⟨w.heap.size + 1, 3, none⟩ = some (.int .i8 (b2 3)) := cell_at_cells Y1 (by rfl)
      have y4 : wx.cell? ⟨w.heap.size + 1, 4, none⟩ = some (.int .i8 (b2 4)) := cell_at_cells Y1 (by rfl)
      have y5 : wx.cell? ⟨w.heap.size + 1, 5, none⟩ = some (.int .i8 (b2 5)) := cell_at_cells Y1 (by rfl)
      have y6 : wx.cell? ⟨w.heap.size + 1, 6, none⟩ = some (.int .i8 (b2 6)) := cell_at_cells Y1 (by rfl)
      have y7 : wx.cell? ⟨w.heap.size + 1, 7, none⟩ = some (.int .i8 (b2 7)) := cell_at_cells Y1 (by rfl)
      have HH := Lib.hid (inv_load h (i := 1) (by omega))
      clear h Y0 Y1 hdep hS
      refine wpOp_step (by rfl) (fun KK hK => ?_)
      go_simp
      exact hK _ _ HH.out
    | 3, ho =>
      cases ho
      have d0 : S 2 = true := hdep ⟨2, .data⟩ (by simp) rfl
      have e0 : L 1 = .agg #[.int .i8 (b2 0), .int .i8 (b2 1), .int .i8 (b2 2), .int .i8 (b2 3), .int .i8 (b2 4), .int .i8 (b2 5), .int .i8 (b2 6), .int .i8 (b2 7)] := h.loads 1 (by omega) d0
      have HH := Lib.hid (fun w' hb => inv_call' h (i := 1) (by omega) d0 (w' := w') hb)
      clear h Y0 Y1 hdep hS d0
      refine wpOp_step (by rfl) (fun KK hK => ?_)
      go_simp
      refine (Q2 _).mono ?_
      rintro e w' ⟨rfl, hb⟩
      exact hK _ _ (HH.out w' hb)
    | 4, ho =>
      cases ho
      have HH := Lib.hid (inv_alloc h (i := 0) (by omega) hS)
      clear h Y0 Y1 hdep hS
      refine wpOp_step (by rfl) (fun KK hK => ?_)
      go_simp
      exact hK _ _ HH.out
    | 5, ho =>
      cases ho
      have HH := Lib.hid (inv_alloc h (i := 1) (by omega) hS)
      clear h Y0 Y1 hdep hS
      refine wpOp_step (by rfl) (fun KK hK => ?_)
      go_simp
      exact hK _ _ HH.out
    | 6, ho =>
      cases ho
      have d0 : S 4 = true := hdep ⟨4, .data⟩ (by simp) rfl
      have d1 : S 1 = true := hdep ⟨1, .data⟩ (by simp) rfl
      obtain ⟨e1, _, _, e2⟩ := h.vars 0 (by omega) d0
      have e0 : K 0 = .agg #[fv A.x0, fv A.y0, fv A.x1, fv A.y1, fv A.x2, fv A.y2, fv A.x3, fv A.y3] := h.calls 0 (by omega) d1
      rw [hS] at e2
      have e2 : wx.heap[p 0]? = some (.cells zero8 27) := e2
      obtain ⟨c0, c1, c2, c3, c4, c5, c6, c7, y0, y1, y2, y3, y4, y5, y6, y7⟩ := cell8 rfl e2
      have z0 : wx.frozen? ⟨p 0, 0, none⟩ = false := by simp [World.frozen?, e2]
      have z1 : wx.frozen? ⟨p 0, 1, none⟩ = false := by simp [World.frozen?, e2]
      have z2 : wx.frozen? ⟨p 0, 2, none⟩ = false := by simp [World.frozen?, e2]
      have z3 : wx.frozen? ⟨p 0, 3, none⟩ = false := by simp [World.frozen?, e2]
      have z4 : wx.frozen? ⟨p 0, 4, none⟩ = false := by simp [World.frozen?, e2]
      have z5 : wx.frozen? ⟨p 0, 5, none⟩ = false := by simp [World.frozen?, e2]
      have z6 : wx.frozen? ⟨p 0, 6, none⟩ = false := by simp [World.frozen?, e2]
      have z7 : wx.frozen? ⟨p 0, 7, none⟩ = false := by simp [World.frozen?, e2]
      have F := fill8 (x0 := fv A.x0) (x1 := fv A.y0) (x2 := fv A.x1) (x3 := fv A.y1) (x4 := fv A.x2) (x5 := fv A.y2) (x6 := fv A.x3) (x7 := fv A.y3) rfl e2
      have HH := Lib.hid (inv_store' h (i := 0) (by omega) d0 d1 F.1 F.2)
      clear h Y0 Y1 hdep hS d0 d1 F e2
      generalize p 0 = pk at *
      refine wpOp_step (by rfl) (fun KK hK => ?_)
      go_simp
      exact hK _ _ HH.out
    | 7, ho =>
      cases ho
      have d0 : S 5 = true := hdep ⟨5, .data⟩ (by simp) rfl
      have d1 : S 3 = true := hdep ⟨3, .data⟩ (by simp) rfl
      obtain ⟨e1, _, _, e2⟩ := h.vars 1 (by omega) d0
      have e0 : K 1 = .agg #[fv B.x0, fv B.y0, fv B.x1, fv B.y1, fv B.x2, fv B.y2, fv B.x3, fv B.y3] := h.calls 1 (by omega) d1
      rw [hS] at e2
      have e2 : wx.heap[p 1]? = some (.cells zero8 27) := e2
      obtain ⟨c0, c1, c2, c3, c4, c5, c6, c7, y0, y1, y2, y3, y4, y5, y6, y7⟩ := cell8 rfl e2
      have z0 : wx.frozen? ⟨p 1, 0, none⟩ = false := by simp [World.frozen?, e2]
      have z1 : wx.frozen? ⟨p 1, 1, none⟩ = false := by simp [World.frozen?, e2]
      have z2 : wx.frozen? ⟨p 1, 2, none⟩ = false := by simp [World.frozen?, e2]
      have z3 : wx.frozen? ⟨p 1, 3, none⟩ = false := by simp [World.frozen?, e2]
      have z4 : wx.frozen? ⟨p 1, 4, none⟩ = false := by simp [World.frozen?, e2]
      have z5 : wx.frozen? ⟨p 1, 5, none⟩ = false := by simp [World.frozen?, e2]
      have z6 : wx.frozen? ⟨p 1, 6, none⟩ = false := by simp [World.frozen?, e2]
      have z7 : wx.frozen? ⟨p 1, 7, none⟩ = false := by simp [World.frozen?, e2]
      have F := fill8 (x0 := fv B.x0) (x1 := fv B.y0) (x2 := fv B.x1) (x3 := fv B.y1) (x4 := fv B.x2) (x5 := fv B.y2) (x6 := fv B.x3) (x7 := fv B.y3) rfl e2
      have HH := Lib.hid (inv_store' h (i := 1) (by omega) d0 d1 F.1 F.2)
      clear h Y0 Y1 hdep hS d0 d1 F e2
      generalize p 1 = pk at *
      refine wpOp_step (by rfl) (fun KK hK => ?_)
      go_simp
      exact hK _ _ HH.out
    | j + 8, ho => simp at ho

end Go.Proofs.Ytaadklfendegfaa
