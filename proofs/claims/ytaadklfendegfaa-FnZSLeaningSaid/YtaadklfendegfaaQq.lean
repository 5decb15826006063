/- The walks of QuadrilateralToSquare and QuadrilateralToQuadrilateral. -/
import Derived.Test.YtaadklfendegfaaSq
import Derived.Test.YtaadklfendegfaaAdj
import Derived.Test.YtaadklfendegfaaTimes
namespace Go.Proofs.Ytaadklfendegfaa
open Go.RowKit

set_option maxRecDepth 100000 in
set_option maxHeartbeats 400000 in
/-- QuadrilateralToSquare -/
theorem q2s_calls (q : Q8) (a o : M9) (w : World) (h : S2QR q a) (h2 : AdjR a o) :
    Calls Try.prog 44 #[fv q.x0, fv q.y0, fv q.x1, fv q.y1, fv q.x2, fv q.y2, fv q.x3, fv q.y3] w fun e w' => e = .returned (.pointer (some ⟨w.heap.size + 1, 0, none⟩)) ∧ ((w.alloc (.cells a.cells 102)).alloc (.cells o.cells 102)).drew = w' := by
  have H1 := fun w => s2q_calls q a w h
  have H2 := fun b w hc => adj_calls a o b w hc h2
  clear h h2
  go_enter Try.func44, Try.ntmps44
  go_wp2_with (first
    | (go_at_call 45; refine (H1 _).mono ?_; rintro e w' ⟨rfl, rfl⟩)
    | (go_at_call 59; refine (H2 _ _ ?_).mono ?_; (· simp only [blk_drew, blk_if, blk_size, blk_dsize]; simp); rintro e w' ⟨rfl, rfl⟩))
  go_ret
  exact ⟨rfl, rfl⟩

set_option maxRecDepth 100000 in
set_option maxHeartbeats 400000 in
/-- QuadrilateralToQuadrilateral -/
theorem q2q_calls (q p : Q8) (a o b r : M9) (w : World) (h : S2QR q a) (h2 : AdjR a o) (h3 : S2QR p b) (h4 : TimesR b o r) :
    Calls Try.prog 30 #[fv q.x0, fv q.y0, fv q.x1, fv q.y1, fv q.x2, fv q.y2, fv q.x3, fv q.y3, fv p.x0, fv p.y0, fv p.x1, fv p.y1, fv p.x2, fv p.y2, fv p.x3, fv p.y3] w
      fun e w' => e = .returned (.pointer (some ⟨w.heap.size + 3, 0, none⟩)) ∧ ((((w.alloc (.cells a.cells 102)).alloc (.cells o.cells 102)).alloc (.cells b.cells 102)).alloc (.cells r.cells 102)).drew.drew = w' := by
  have H1 := fun w => q2s_calls q a o w h h2
  have H2 := fun w => s2q_calls p b w h3
  have H3 := fun b1 b2 w hc hd => times_calls b o r b1 b2 w hc hd h4
  clear h h2 h3 h4
  go_enter Try.func30, Try.ntmps30
  go_wp2_with (first
    | (go_at_call 44; refine (H1 _).mono ?_; rintro e w' ⟨rfl, rfl⟩)
    | (go_at_call 45; refine (H2 _).mono ?_; rintro e w' ⟨rfl, rfl⟩)
    | (go_at_call 46; refine (H3 _ _ _ ?_ ?_).mono ?_; (· simp only [blk_drew, blk_if, blk_size, blk_dsize]; simp); (· simp only [blk_drew, blk_if, blk_size, blk_dsize]; simp); rintro e w' ⟨rfl, rfl⟩))
  go_ret
  exact ⟨rfl, rfl⟩

end Go.Proofs.Ytaadklfendegfaa
