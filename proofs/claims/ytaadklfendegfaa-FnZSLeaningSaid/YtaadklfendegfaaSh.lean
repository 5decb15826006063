/- The walk of SampleGrid. -/
import Derived.Test.YtaadklfendegfaaSf
import Derived.Test.YtaadklfendegfaaQq
namespace Go.Proofs.Ytaadklfendegfaa
open Go.RowKit

/-- the arguments of SampleGrid -/
def sgArgs (pm W H : Nat) (q p : Q8) : Array Value :=
  #[.agg #[], .pointer (some ⟨pm, 0, none⟩), .int .i64 (W : Int), .int .i64 (H : Int), fv q.x0, fv q.y0, fv q.x1, fv q.y1, fv q.x2, fv q.y2, fv q.x3, fv q.y3, fv p.x0, fv p.y0, fv p.x1, fv p.y1, fv p.x2, fv p.y2, fv p.x3, fv p.y3]

set_option maxRecDepth 100000 in
set_option maxHeartbeats 1000000 in
theorem sg_in (pm gm IW IH W H : Nat) (B : Nat → Nat → Bool) (q p : Q8) (a o b r : M9) (PX PY : Nat → Nat → Nat) (w : World) (h1 : S2QR q a) (h2 : AdjR a o) (h3 : S2QR p b) (h4 : TimesR b o r) (hbm : BM w pm gm IW IH B) (hW0 : 1 ≤ W) (hW : W ≤ 15) (hH0 : 1 ≤ H) (hH : H ≤ 15) (hIW : IW ≤ 10000)
    (hIH : IH ≤ 10000) (hT : ∀ i j, i < W → j < H → ∃ x' y', TPtR r (hf i) (hf j) x' y' ∧ floatToIntVal .f64 x' .i64 = some (PX i j : Int) ∧ floatToIntVal .f64 y' .i64 = some (PY i j : Int)) (hin : ∀ i j, i < W → j < H → PX i j < IW ∧ PY i j < IH) :
    Calls Try.prog 86 (sgArgs pm W H q p) w fun e w' => ∃ pn gn, e = .returned (.tuple #[.pointer (some ⟨pn, 0, none⟩), .nilIface]) ∧ BM w' pn gn W H (fun x y => B (PX x y) (PY x y)) ∧ w.heap.size ≤ pn ∧ w.heap.size ≤ gn ∧ Below w.heap.size w w' := by
  have HQ := fun w => q2q_calls q p a o b r w h1 h2 h3 h4
  have HBM := Lib.hid hbm
  clear h1 h2 h3 h4 hbm
  unfold sgArgs
  go_enter Try.func86, Try.ntmps86
  go_wp2_with (go_at_call 30; refine (HQ _).mono ?_)
  rintro e w1 ⟨rfl, hw1⟩
  have hb1 : Below w.heap.size w w1 := by
    rw [← hw1]
    exact (((((Below.refl _ _).alloc (Nat.le_refl _) _).alloc (by simp) _).alloc (by simp; omega) _).alloc (by simp; omega) _ |>.alloc (by simp; omega) _).drew.drew
  have hr1 : w1.heap[w.heap.size + 1 + 3]? = some (.cells r.cells 102) := by
    rw [← hw1]; simp only [blk_drew, blk_if, blk_size]; simp
  have hbm1 : BM w1 pm gm IW IH B := HBM.out.below hb1
  have HCall := Lib.hid (sgt_in pm gm IW IH W H _ B r PX PY w1 hbm1 hr1 hW0 hW hH0 hH hIW hIH hT hin)
  have HB1 := Lib.hid hb1
  have hs1 := hb1.size
  clear hw1 hr1 hbm1 hb1
  go_wp2_with (go_at_call 87; refine HCall.out.mono ?_)
  rintro e w2 ⟨pn, gn, rfl, hbm2, hpn, hgn, hb2⟩
  have HB2 : Hid (Below w.heap.size w w2) := HB1.out.trans (hb2.mono hs1)
  have HBM2 := Lib.hid hbm2
  clear hbm2 hb2
  go_wp2
  go_ret2
  exact ⟨pn, gn, rfl, HBM2.out, by omega, by omega, HB2.out⟩

set_option maxRecDepth 100000 in
set_option maxHeartbeats 1000000 in
theorem sg_far (pm gm IW IH W H : Nat) (B : Nat → Nat → Bool) (q p : Q8) (a o b r : M9) (w : World) (h1 : S2QR q a) (h2 : AdjR a o) (h3 : S2QR p b) (h4 : TimesR b o r) (hbm : BM w pm gm IW IH B) (hW0 : 1 ≤ W) (hW : W ≤ 15) (hH0 : 1 ≤ H) (hH : H ≤ 15) (hIW : IW ≤ 10000)
    (hT : ∀ i, i < W → ∃ x' y', TPtR r (hf i) (hf 0) x' y' ∧ ∃ px py : Int, floatToIntVal .f64 x' .i64 = some px ∧ floatToIntVal .f64 y' .i64 = some py ∧ (IW : Int) < px) :
    Calls Try.prog 86 (sgArgs pm W H q p) w fun e w' => ∃ x, e = .returned (.tuple #[.pointer none, .iface 179 x]) ∧ Below w.heap.size w w' := by
  have HQ := fun w => q2q_calls q p a o b r w h1 h2 h3 h4
  have HBM := Lib.hid hbm
  clear h1 h2 h3 h4 hbm
  unfold sgArgs
  go_enter Try.func86, Try.ntmps86
  go_wp2_with (go_at_call 30; refine (HQ _).mono ?_)
  rintro e w1 ⟨rfl, hw1⟩
  have hb1 : Below w.heap.size w w1 := by
    rw [← hw1]
    exact (((((Below.refl _ _).alloc (Nat.le_refl _) _).alloc (by simp) _).alloc (by simp; omega) _).alloc (by simp; omega) _ |>.alloc (by simp; omega) _).drew.drew
  have hr1 : w1.heap[w.heap.size + 1 + 3]? = some (.cells r.cells 102) := by
    rw [← hw1]; simp only [blk_drew, blk_if, blk_size]; simp
  have hbm1 : BM w1 pm gm IW IH B := HBM.out.below hb1
  have HCall := Lib.hid (sgt_far pm gm IW IH W H _ B r w1 hbm1 hr1 hW0 hW hH0 hH hIW hT)
  have HB1 := Lib.hid hb1
  have hs1 := hb1.size
  clear hw1 hr1 hbm1 hb1
  go_wp2_with (go_at_call 87; refine HCall.out.mono ?_)
  rintro e w2 ⟨x, rfl, hb2⟩
  have HB2 : Hid (Below w.heap.size w w2) := HB1.out.trans (hb2.mono hs1)
  clear hb2
  go_wp2
  go_ret2
  exact ⟨_, rfl, HB2.out⟩

end Go.Proofs.Ytaadklfendegfaa
