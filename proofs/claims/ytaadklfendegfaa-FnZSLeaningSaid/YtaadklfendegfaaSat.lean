/- The walk of SCAt. -/
import Derived.Test.YtaadklfendegfaaChecked
import Derived.Test.YtaadklfendegfaaFast
import Derived.Test.YtaadklfendegfaaSc
import Derived.Test.YtaadklfendegfaaCell
import Derived.WalkKit
import Derived.IntWalk
import Derived.BigQuiet
import Derived.Below
import Derived.Lib.Hide
import Derived.WalkSpells
import Derived.WalkLawsBesides
namespace Go.Proofs.Ytaadklfendegfaa
open Go.RowKit

/-- ten numbers -/
def tens (o : Nat → Nat) : Array Value := #[fv (o 0), fv (o 1), fv (o 2), fv (o 3), fv (o 4), fv (o 5), fv (o 6), fv (o 7), fv (o 8), fv (o 9)]

set_option maxRecDepth 100000 in
set_option maxHeartbeats 2000000 in
theorem scat_calls (o : Nat → Nat) (x y x' y' : Nat) (w : World) (h : ScAtR o x y x' y') :
    Calls Try.prog 13 #[.agg (tens o), .agg #[fv x, fv y]] w fun e w' => e = .returned (.agg #[fv x', fv y']) ∧ Below w.heap.size w w' := by
  obtain ⟨dx, dy, z, n, m, h1, h2, ⟨a1, a2, a3, b1, b2, b3, b4⟩, ⟨c1, c2, c3, d1, d2, d3, d4⟩, h3, ⟨e1, e2, e3, g1, g2, g3, g4⟩, h4⟩ := h
  have R1 := fun t w => run_float_arith (P := Try.prog) w .sub t .f64 _ _ _ h1
  have R2 := fun t w => run_float_arith (P := Try.prog) w .sub t .f64 _ _ _ h2
  have R3 := fun t w => run_float_arith (P := Try.prog) w .mul t .f64 _ _ _ b1
  have R4 := fun t w => run_float_arith (P := Try.prog) w .mul t .f64 _ _ _ b2
  have R5 := fun t w => run_float_arith (P := Try.prog) w .add t .f64 _ _ _ b3
  have R6 := fun t w => run_float_arith (P := Try.prog) w .add t .f64 _ _ _ b4
  have R7 := fun t w => run_float_arith (P := Try.prog) w .mul t .f64 _ _ _ d1
  have R8 := fun t w => run_float_arith (P := Try.prog) w .mul t .f64 _ _ _ d2
  have R9 := fun t w => run_float_arith (P := Try.prog) w .add t .f64 _ _ _ d3
  have R10 := fun t w => run_float_arith (P := Try.prog) w .add t .f64 _ _ _ d4
  have R11 := fun t w => run_float_arith (P := Try.prog) w .quo t .f64 _ _ _ h3
  have R12 := fun t w => run_float_arith (P := Try.prog) w .mul t .f64 _ _ _ g1
  have R13 := fun t w => run_float_arith (P := Try.prog) w .mul t .f64 _ _ _ g2
  have R14 := fun t w => run_float_arith (P := Try.prog) w .add t .f64 _ _ _ g3
  have R15 := fun t w => run_float_arith (P := Try.prog) w .add t .f64 _ _ _ g4
  have R16 := fun t w => run_float_arith (P := Try.prog) w .quo t .f64 _ _ _ h4
  clear h1 h2 b1 b2 b3 b4 d1 d2 d3 d4 h3 g1 g2 g3 g4 h4
  unfold tens
  generalize o 0 = o0 at *
  generalize o 1 = o1 at *
  generalize o 2 = o2 at *
  generalize o 3 = o3 at *
  generalize o 4 = o4 at *
  generalize o 5 = o5 at *
  generalize o 6 = o6 at *
  generalize o 7 = o7 at *
  generalize o 8 = o8 at *
  generalize o 9 = o9 at *
  go_enter Try.func13, Try.ntmps13
  go_wp2
  go_quiet (fail)
  go_wp2
  refine bodyPost_ret (v := .agg #[fv x', fv y']) (by simp [results, Try.results13, go_sem]) rfl ⟨rfl, ?_⟩
  exact ((below_drewN ((((Below.refl _ _).alloc (Nat.le_refl _) _).alloc (by simp) _).alloc (by simp; omega) _) nq).setCell (p := ⟨w.heap.size + 1 + 1, 0, none⟩) (by show w.heap.size ≤ w.heap.size + 1 + 1; omega) _).setCell (p := ⟨w.heap.size + 1 + 1, 1, none⟩) (by show w.heap.size ≤ w.heap.size + 1 + 1; omega) _

end Go.Proofs.Ytaadklfendegfaa
