/- FnZTMaps returns true at every input; the arguments read as before. No condition. -/
import Derived.Test.YtaadklfendegfaaVo
import Derived.Test.YtaadklfendegfaaPr
import Derived.Test.YtaadklfendegfaaFj
import Derived.Test.YtaadklfendegfaaMw
namespace Go.Proofs.Ytaadklfendegfaa
open Go.ChangeShapes Go.WideShapes Go.ChangeAt Go.RowKit

theorem maps_big (b1 b2 : Nat → Int) (sa : Option Addr) (len cap : Nat) (w : World) (hlen : 2147483647 < len) :
    Calls Try.prog 3 #[.agg (eight8 b1), .agg (eight8 b2), .slice sa len cap] w fun e w' => e = .returned (.bool true) ∧ Below w.heap.size w w' := by
  unfold eight8
  have hl : (2147483647 : Int) < (len : Int) := by omega
  have hX := (two_blk w (.cells #[.int .i8 (b1 0), .int .i8 (b1 1), .int .i8 (b1 2), .int .i8 (b1 3), .int .i8 (b1 4), .int .i8 (b1 5), .int .i8 (b1 6), .int .i8 (b1 7)] 23) (.cells #[.int .i8 (b2 0), .int .i8 (b2 1), .int .i8 (b2 2), .int .i8 (b2 3), .int .i8 (b2 4), .int .i8 (b2 5), .int .i8 (b2 6), .int .i8 (b2 7)] 23)).2.2.2
  go_enter Try.func3, Try.ntmps3
  go_wp2
  go_ret
  exact ⟨rfl, hX⟩

open Fl Geo in
/-- all that the law asks of the points -/
theorem maps_ap {A B : Q8} {QA QB : Quad} {a1 a3 b1 b3 : Rat} (hA : QZ A QA a1 a3) (hB : QZ B QB b1 b3) (hp : Pairs QA.d123 QA.d023 QA.d013 QA.d012) {n : Nat} {W : Nat → Wt} {ps : List Nat} (hps : PtsAp n W QA ps (91/100000000000000 : Rat)) :
    ∃ (rs ws : List Nat) (o : Nat → Nat), TransR A B n ps rs ∧ ScR (qx A) (qy A) (qx B) (qy B) o ∧ ws.length = 2 * n ∧ (∀ k, k < n → ScAtR o (ps.getD (2 * k) 0) (ps.getD (2 * k + 1) 0) (ws.getD (2 * k) 0) (ws.getD (2 * k + 1) 0)) ∧ ∀ j, j < 2 * n → NearR (rs.getD j 0) (ws.getD j 0) := by
  obtain ⟨rs, t1, p1⟩ := trans_ap hA hB hps (by decide +kernel)
  have hx : ∀ {q : Q8} {Q : Quad} {a1 a3 : Rat}, QZ q Q a1 a3 → (∀ i, i < 4 → Ex (qx q i) (Q.X i) 3 1400) ∧ ∀ i, i < 4 → Ex (qy q i) (Q.Y i) 3 1400 := by
    intro q Q a1 a3 h
    constructor <;> intro i hi <;> rcases (show i = 0 ∨ i = 1 ∨ i = 2 ∨ i = 3 by omega) with rfl | rfl | rfl | rfl
    · exact h.x0
    · exact h.x1
    · exact h.x2
    · exact h.x3
    · exact h.y0
    · exact h.y1
    · exact h.y2
    · exact h.y3
  obtain ⟨o, z, s1, s2, s3, s4⟩ := map_ex hA hB hp (hx hA).1 (hx hA).2 (hx hB).1 (hx hB).2
  obtain ⟨ws, l1, l2⟩ := list_of_pairs n (fun k x y => ScAtR o (ps.getD (2 * k) 0) (ps.getD (2 * k + 1) 0) x y ∧ Ap x (((W k).img (tau QA a1 a3 b1 b3)).px QB) (72/100000000) ∧ Ap y (((W k).img (tau QA a1 a3 b1 b3)).py QB) (72/100000000)) (by
    intro k hk
    obtain ⟨Z, z1, _, z2, z3, z4⟩ := s4 (W k) (hps.ok k hk)
    exact at_ap hA hB s2 s3 (hps.ok k hk) z1 z2 z3 z4 (hps.px k hk) (hps.py k hk))
  refine ⟨rs, ws, o, t1, s1, l1, fun k hk => (l2 k hk).1, fun j hj => ?_⟩
  obtain ⟨_, c1, c2⟩ := l2 (j / 2) (by omega)
  rcases (show j = 2 * (j / 2) ∨ j = 2 * (j / 2) + 1 by omega) with e | e
  · rw [e]; exact near_ap (p1.px _ (by omega)) c1 (by decide +kernel)
  · rw [e]; exact near_ap (p1.py _ (by omega)) c2 (by decide +kernel)

open Fl Geo in
theorem maps_walk (b1 b2 : Nat → Int) (h1 : ∀ i, i < 8 → -128 ≤ b1 i ∧ b1 i ≤ 127) (h2 : ∀ i, i < 8 → -128 ≤ b2 i ∧ b2 i ≤ 127)
    (sa : Option Addr) (len cap : Nat) (zs : List Int) (w : World) (hr : IsRow .u16 w sa len cap zs) :
    Calls Try.prog 3 #[.agg (eight8 b1), .agg (eight8 b2), .slice sa len cap] w fun e w' => e = .returned (.bool true) ∧ Below w.heap.size w w' := by
  by_cases hlen : 2147483647 < len
  · exact maps_big b1 b2 sa len cap w hlen
  obtain ⟨A, QA, a1, a3, rA, hA, hpA⟩ := quad_qw b1 h1
  obtain ⟨B, QB, c1, c3, rB, hB, _⟩ := quad_qw b2 h2
  by_cases h0 : len = 0
  · subst h0
    obtain ⟨W, ps, hp, hu, h8, _⟩ := pts_within hA 0 [] (fun j hj => by omega)
    have hps : ps.map fv = A.vals.toList := by
      have hl := hp.len
      rw [← h8, List.take_of_length_le (by simp; omega)]
    obtain ⟨rs, ws, o, t1, t2, t3, t4, t5⟩ := maps_ap hA hB hpA hp
    exact maps_calls b1 b2 A B sa 0 cap 4 ps rs ws o w (by omega) rA rB (by omega) (by omega)
      (fun W0 _ => by rw [hps]; exact within_nil A sa cap W0) t1 t2 t3 t4 t5
  · rcases hr with ⟨rfl, rfl, rfl, rfl⟩ | ⟨x, rfl, hl, hm, hz, hcell, hwz⟩
    · exact absurd rfl h0
    obtain ⟨ab, aoff, spot⟩ := x
    have hc := hcell 0 (by omega)
    have hspot : spot = none := by simpa [Addr.add] using World.cell?_spot hc
    subst hspot
    have hat : ∀ j, j < len → w.cell? ⟨ab, aoff + j, none⟩ = some (.int .u16 (zs.getD j 0)) := fun j hj => by
      have := hcell j (by omega)
      by_cases hj0 : j = 0
      · subst hj0; simpa [Addr.add] using this
      · simpa [Addr.add, hj0] using this
    have hab : ab < w.heap.size := by
      have := hat 0 (by omega)
      apply Classical.byContradiction; intro hn
      have e : w.heap[ab]? = none := Array.getElem?_eq_none (by omega)
      simp [World.cell?, e] at this
    obtain ⟨W, ps, hp, hu, h8, hw⟩ := pts_within hA (min 12 (len / 2)) zs (fun j _ => range_u16 hwz j)
    obtain ⟨rs, ws, o, t1, t2, t3, t4, t5⟩ := maps_ap hA hB hpA hp
    exact maps_calls b1 b2 A B (some ⟨ab, aoff, none⟩) len cap (4 + min 12 (len / 2)) ps rs ws o w (by omega) rA rB (by omega) (by omega)
      (fun W0 hb => within_calls A ab aoff len cap (min 12 (len / 2)) zs ps W0 (by omega) rfl (by have := hb.size; omega)
        (fun j hj => by rw [hb.cell (by exact hab)]; exact hat j hj) hp.len h8 hw) t1 t2 t3 t4 t5



set_option maxRecDepth 100000 in
theorem fnZTMaps_lifted (os : Os) (started : os.Started) (H : Type) (enc : TypeId × Value → H) :
    ReturnsInHanded {} Try.checked os 3 .any (Rows.fnZTMapsSpec.pre6 enc Try.prog Try.f3 Rows.fnZTMapsRow.domain false) (Rows.fnZTMapsSpec.post enc Try.prog Try.f3 false true false false) := by
  refine returnsInHanded_of_change (C := Try.checked) Try.own started (by kernel_rfl) Try.func3
    (ChangeSpec.witness6 (enc := enc) (C := Try.checked) false ⟨#[], #[.agg (eight8 fun _ => 0), .agg (eight8 fun _ => 0), .slice none 0 0], []⟩ 8 (by kernel_rfl) (by kernel_rfl) (by kernel_rfl) (by kernel_rfl)) ?_
  intro W base args ds gs before hval0 hW hcnd _
  have hval : ∀ (j : Nat) t v, Try.f3.params[j]? = some t → args[j]? = some v → Value.okWide Try.prog W .any base t v := hval0
  have hW' := hW
  obtain ⟨p, q, hA0, hV, rfl, hfz, hnd⟩ := hW
  have hA : DataW.TrodAll enc Try.prog W 0 (fun _ => true) true Try.f3.params.toList args.toList ds p := hA0
  rw [Try.params3] at hA hval
  obtain ⟨v0, vs0, d0, ds0, p0, q0, hargs, rfl, rfl, h0, r0⟩ := trodAll_cons hA
  obtain ⟨v1, vs1, d1, ds1, p1, q1, rfl, rfl, rfl, h1, r1⟩ := trodAll_cons r0
  obtain ⟨v2, vs2, d2, ds2, p2, q2, rfl, rfl, rfl, h2, r2⟩ := trodAll_cons r1
  obtain ⟨rfl, rfl, rfl⟩ := trodAll_nil r2
  obtain rfl : args = #[v0, v1, v2] := by cases args; simp_all
  obtain ⟨rfl, rfl⟩ := trodVars_none hV
  have k0 := h0
  have k1 := h1
  have k2 := h2
  have lt0 : ∀ x ∈ p0, x.block < W.heap.size := by obtain ⟨m, hm⟩ := k0; exact DataW.trod_lt m _ _ _ hm
  have lt1 : ∀ x ∈ p1, x.block < W.heap.size := by obtain ⟨m, hm⟩ := k1; exact DataW.trod_lt m _ _ _ hm
  have lt2 : ∀ x ∈ p2, x.block < W.heap.size := by obtain ⟨m, hm⟩ := k2; exact DataW.trod_lt m _ _ _ hm
  obtain ⟨b0, rfl, w0⟩ := open_eight8 (hval 0 23 v0 rfl rfl) h0
  obtain ⟨b1, rfl, w1⟩ := open_eight8 (hval 1 23 v1 rfl rfl) h1
  obtain ⟨sa, len, cap, rfl⟩ := okWide_slice Try.underlying24 (hval 2 24 v2 rfl rfl)
  obtain ⟨zs, w2⟩ : ∃ zs, IsRow .u16 W sa len cap zs := by
    obtain ⟨fuel, hf⟩ := h2
    rcases open_ints Try.underlying24 Try.underlying66 (by kernel_rfl) hf with ⟨hcs, _⟩ | ⟨x, l, c, zs, hcs, _, hl, hm, hz, _, hcell, hwz⟩
    · simp [Value.cells] at hcs
      obtain ⟨rfl, rfl, rfl⟩ := hcs
      exact ⟨[], .inl ⟨rfl, rfl, rfl, rfl⟩⟩
    · simp [Value.cells] at hcs
      obtain ⟨rfl, rfl, rfl⟩ := hcs
      exact ⟨zs, .inr ⟨_, rfl, hl, hm, by simpa using hz, hcell, hwz⟩⟩
  clear hA0 hval0
  refine (maps_walk b0 b1 w0 w1 sa len cap zs W w2).mono fun e W' ⟨he, bel⟩ => ?_
  subst he
  exact ⟨_, rfl, _, _, _, [], _, [], hW', trodAll_mk1 (shut_bool Try.underlying4 _), (trodAll_cons_mk (Below.trod Try.laidOut (by kernel_rfl) (of_decide_eq_true (by kernel_rfl)) k0 bel lt0) (trodAll_cons_mk (Below.trod Try.laidOut (by kernel_rfl) (of_decide_eq_true (by kernel_rfl)) k1 bel lt1) (trodAll_cons_mk (Below.trod Try.laidOut (by kernel_rfl) (of_decide_eq_true (by kernel_rfl)) k2 bel lt2) trodAll_mk0))), rfl, bel.frame _, fun h => by cases h⟩

theorem fnZTMaps_holds : Rows.FnZTMapsSaid :=
  OpenClaim.holds_of_wide 3 Try.f3 rfl rfl rfl rfl rfl rfl rfl ⟨rfl, rfl, rfl, rfl, rfl⟩ rfl rfl rfl rfl rfl (by kernel_rfl) Try.func3 (by kernel_rfl)
    (of_decide_eq_true (by kernel_rfl)) (by unfold Func.isWrapper; first | (rw [if_pos (by decide +kernel)]; kernel_rfl) | (rw [if_neg (by decide +kernel)]; exact ⟨rfl, rfl⟩))
    (fun os started H enc _ => fnZTMaps_lifted os started H enc)

end Go.Proofs.Ytaadklfendegfaa
