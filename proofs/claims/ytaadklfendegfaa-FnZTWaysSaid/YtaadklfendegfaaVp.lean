/- FnZTWays returns true at every input; the arguments read as before. No condition. -/
import Derived.Test.YtaadklfendegfaaVo
import Derived.Test.YtaadklfendegfaaPr
namespace Go.Proofs.Ytaadklfendegfaa
open Go.ChangeShapes Go.WideShapes Go.ChangeAt Go.RowKit

theorem ways_big (b1 b2 b3 : Nat → Int) (sa : Option Addr) (len cap : Nat) (w : World) (hlen : 2147483647 < len) :
    Calls Try.prog 4 #[.agg (eight8 b1), .agg (eight8 b2), .agg (eight8 b3), .slice sa len cap] w fun e w' => e = .returned (.bool true) ∧ Below w.heap.size w w' := by
  unfold eight8
  have hl : (2147483647 : Int) < (len : Int) := by omega
  have hX := below3 w (.cells #[.int .i8 (b1 0), .int .i8 (b1 1), .int .i8 (b1 2), .int .i8 (b1 3), .int .i8 (b1 4), .int .i8 (b1 5), .int .i8 (b1 6), .int .i8 (b1 7)] 23) (.cells #[.int .i8 (b2 0), .int .i8 (b2 1), .int .i8 (b2 2), .int .i8 (b2 3), .int .i8 (b2 4), .int .i8 (b2 5), .int .i8 (b2 6), .int .i8 (b2 7)] 23) (.cells #[.int .i8 (b3 0), .int .i8 (b3 1), .int .i8 (b3 2), .int .i8 (b3 3), .int .i8 (b3 4), .int .i8 (b3 5), .int .i8 (b3 6), .int .i8 (b3 7)] 23)
  go_enter Try.func4, Try.ntmps4
  go_wp2
  go_ret
  exact ⟨rfl, hX⟩

theorem zs_bounds {zs : List Int} (h : ∀ n ∈ zs, (Lit.int .u16 n).wf = true) (j : Nat) : 0 ≤ zs.getD j 0 ∧ zs.getD j 0 ≤ 65535 := range_u16 h j

theorem ways_walk (b1 b2 b3 : Nat → Int) (h1 : ∀ i, i < 8 → -128 ≤ b1 i ∧ b1 i ≤ 127) (h2 : ∀ i, i < 8 → -128 ≤ b2 i ∧ b2 i ≤ 127) (h3 : ∀ i, i < 8 → -128 ≤ b3 i ∧ b3 i ≤ 127)
    (sa : Option Addr) (len cap : Nat) (zs : List Int) (w : World) (hr : IsRow .u16 w sa len cap zs) :
    Calls Try.prog 4 #[.agg (eight8 b1), .agg (eight8 b2), .agg (eight8 b3), .slice sa len cap] w fun e w' => e = .returned (.bool true) ∧ Below w.heap.size w w' := by
  by_cases hlen : 2147483647 < len
  · exact ways_big b1 b2 b3 sa len cap w hlen
  obtain ⟨A, QA, a1, a3, rA, hA⟩ := quad_qz b1 h1
  obtain ⟨B, QB, c1, c3, rB, hB⟩ := quad_qz b2 h2
  obtain ⟨C, QC, d1, d3, rC, hC⟩ := quad_qz b3 h3
  by_cases h0 : len = 0
  · subst h0
    obtain ⟨W, ps, hp, hu, h8, _⟩ := pts_within hA 0 [] (fun j hj => by omega)
    have hps : ps.map fv = A.vals.toList := by
      have hl := hp.len
      rw [← h8, List.take_of_length_le (by simp; omega)]
    obtain ⟨r1, r2, r3, r4, t1, t2, t3, t4, n1, n2, n3⟩ := ways_ap hA hB hC (n := 4) (by omega) hp hu
    exact ways_calls b1 b2 b3 A B C sa 0 cap 4 ps r1 r2 r3 r4 w (by omega) rA rB rC (by omega) (by omega)
      (fun W0 _ => by rw [hps]; exact within_nil A sa cap W0) t1 t2 t3 t4 n1 n2 n3
  · rcases hr with ⟨rfl, rfl, rfl, rfl⟩ | ⟨x, rfl, hl, hm, hz, hcell, hwz⟩
    · exact absurd rfl h0
    obtain ⟨ab, aoff, spot⟩ := x
    have hc := hcell 0 (by omega)
    have hspot : spot = none := by simpa [Addr.add] using World.cell?_spot hc
    subst hspot
    have hat : ∀ j, j < len → w.cell? ⟨ab, aoff + j, none⟩ = some (.int .u16 (zs.getD j 0)) := fun j hj => by
      have := hcell j (by omega)
      by_cases hj0 : j = 0
      · subst hj0; simpa [Addr.add] using this
      · simpa [Addr.add, hj0] using this
    have hab : ab < w.heap.size := by
      have := hat 0 (by omega)
      apply Classical.byContradiction; intro hn
      have e : w.heap[ab]? = none := Array.getElem?_eq_none (by omega)
      simp [World.cell?, e] at this
    obtain ⟨W, ps, hp, hu, h8, hw⟩ := pts_within hA (min 12 (len / 2)) zs (fun j _ => zs_bounds hwz j)
    obtain ⟨r1, r2, r3, r4, t1, t2, t3, t4, n1, n2, n3⟩ := ways_ap hA hB hC (n := 4 + min 12 (len / 2)) (by omega) hp hu
    exact ways_calls b1 b2 b3 A B C (some ⟨ab, aoff, none⟩) len cap (4 + min 12 (len / 2)) ps r1 r2 r3 r4 w (by omega) rA rB rC (by omega) (by omega)
      (fun W0 hb => within_calls A ab aoff len cap (min 12 (len / 2)) zs ps W0 (by omega) rfl (by have := hb.size; omega)
        (fun j hj => by rw [hb.cell (by exact hab)]; exact hat j hj) hp.len h8 hw) t1 t2 t3 t4 n1 n2 n3

set_option maxRecDepth 100000 in
theorem ways_lifted (os : Os) (started : os.Started) (H : Type) (enc : TypeId × Value → H) :
    ReturnsInHanded {} Try.checked os 4 .any (Rows.fnZTWaysSpec.pre6 enc Try.prog Try.f4 Rows.fnZTWaysRow.domain false) (Rows.fnZTWaysSpec.post enc Try.prog Try.f4 false true false false) := by
  refine returnsInHanded_of_change (C := Try.checked) Try.own started (by kernel_rfl) Try.func4
    (ChangeSpec.witness6 (enc := enc) (C := Try.checked) false ⟨#[], #[.agg (eight8 fun _ => 0), .agg (eight8 fun _ => 0), .agg (eight8 fun _ => 0), .slice none 0 0], []⟩ 8 (by kernel_rfl) (by kernel_rfl) (by kernel_rfl) (by kernel_rfl)) ?_
  intro W base args ds gs before hval0 hW hcnd _
  have hval : ∀ (j : Nat) t v, Try.f4.params[j]? = some t → args[j]? = some v → Value.okWide Try.prog W .any base t v := hval0
  have hW' := hW
  obtain ⟨p, q, hA0, hV, rfl, hfz, hnd⟩ := hW
  have hA : DataW.TrodAll enc Try.prog W 0 (fun _ => true) true Try.f4.params.toList args.toList ds p := hA0
  rw [Try.params4] at hA hval
  obtain ⟨v0, vs0, d0, ds0, p0, q0, hargs, rfl, rfl, h0, r0⟩ := trodAll_cons hA
  obtain ⟨v1, vs1, d1, ds1, p1, q1, rfl, rfl, rfl, h1, r1⟩ := trodAll_cons r0
  obtain ⟨v2, vs2, d2, ds2, p2, q2, rfl, rfl, rfl, h2, r2⟩ := trodAll_cons r1
  obtain ⟨v3, vs3, d3, ds3, p3, q3, rfl, rfl, rfl, h3, r3⟩ := trodAll_cons r2
  obtain ⟨rfl, rfl, rfl⟩ := trodAll_nil r3
  obtain rfl : args = #[v0, v1, v2, v3] := by cases args; simp_all
  obtain ⟨rfl, rfl⟩ := trodVars_none hV
  have k0 := h0
  have k1 := h1
  have k2 := h2
  have k3 := h3
  have lt0 : ∀ x ∈ p0, x.block < W.heap.size := by obtain ⟨m, hm⟩ := k0; exact DataW.trod_lt m _ _ _ hm
  have lt1 : ∀ x ∈ p1, x.block < W.heap.size := by obtain ⟨m, hm⟩ := k1; exact DataW.trod_lt m _ _ _ hm
  have lt2 : ∀ x ∈ p2, x.block < W.heap.size := by obtain ⟨m, hm⟩ := k2; exact DataW.trod_lt m _ _ _ hm
  have lt3 : ∀ x ∈ p3, x.block < W.heap.size := by obtain ⟨m, hm⟩ := k3; exact DataW.trod_lt m _ _ _ hm
  obtain ⟨b0, rfl, w0⟩ := open_eight8 (hval 0 23 v0 rfl rfl) h0
  obtain ⟨b1, rfl, w1⟩ := open_eight8 (hval 1 23 v1 rfl rfl) h1
  obtain ⟨b2, rfl, w2⟩ := open_eight8 (hval 2 23 v2 rfl rfl) h2
  obtain ⟨sa, len, cap, rfl⟩ := okWide_slice Try.underlying24 (hval 3 24 v3 rfl rfl)
  obtain ⟨zs, w3⟩ : ∃ zs, IsRow .u16 W sa len cap zs := by
    obtain ⟨fuel, hf⟩ := h3
    rcases open_ints Try.underlying24 Try.underlying66 (by kernel_rfl) hf with ⟨hcs, _⟩ | ⟨x, l, c, zs, hcs, _, hl, hm, hz, _, hcell, hwz⟩
    · simp [Value.cells] at hcs
      obtain ⟨rfl, rfl, rfl⟩ := hcs
      exact ⟨[], .inl ⟨rfl, rfl, rfl, rfl⟩⟩
    · simp [Value.cells] at hcs
      obtain ⟨rfl, rfl, rfl⟩ := hcs
      exact ⟨zs, .inr ⟨_, rfl, hl, hm, by simpa using hz, hcell, hwz⟩⟩
  clear hA0 hval0
  refine (ways_walk b0 b1 b2 w0 w1 w2 sa len cap zs W w3).mono fun e W' ⟨he, bel⟩ => ?_
  subst he
  exact ⟨_, rfl, _, _, _, [], _, [], hW', trodAll_mk1 (shut_bool Try.underlying4 _), (trodAll_cons_mk (Below.trod Try.laidOut (by kernel_rfl) (of_decide_eq_true (by kernel_rfl)) k0 bel lt0) (trodAll_cons_mk (Below.trod Try.laidOut (by kernel_rfl) (of_decide_eq_true (by kernel_rfl)) k1 bel lt1) (trodAll_cons_mk (Below.trod Try.laidOut (by kernel_rfl) (of_decide_eq_true (by kernel_rfl)) k2 bel lt2) (trodAll_cons_mk (Below.trod Try.laidOut (by kernel_rfl) (of_decide_eq_true (by kernel_rfl)) k3 bel lt3) trodAll_mk0)))), rfl, bel.frame _, fun h => by cases h⟩

theorem fnZTWays_holds : Rows.FnZTWaysSaid :=
  OpenClaim.holds_of_wide 4 Try.f4 rfl rfl rfl rfl rfl rfl rfl ⟨rfl, rfl, rfl, rfl, rfl⟩ rfl rfl rfl rfl rfl (by kernel_rfl) Try.func4 (by kernel_rfl)
    (of_decide_eq_true (by kernel_rfl)) (by unfold Func.isWrapper; first | (rw [if_pos (by decide +kernel)]; kernel_rfl) | (rw [if_neg (by decide +kernel)]; exact ⟨rfl, rfl⟩))
    (fun os started H enc _ => ways_lifted os started H enc)

end Go.Proofs.Ytaadklfendegfaa
