/- The deferred 'caught' where nothing panics. -/
import Derived.Test.YtaadklfendegfaaChecked
import Derived.WalkKit
import Derived.Defers
import Derived.Recover
namespace Go.Proofs.Ytaadklfendegfaa
open Go.RowKit

theorem caught_idle2 (p : Addr) (w : World) : CallsD Try.prog 32 #[.pointer (some p)] .returning w fun e u' w' => e = .returned (.tuple #[]) ∧ u' = .returning ∧ w' = w := by
  refine callsD_of_wpS Try.func32 rfl fun c₀ cs hu => ?_
  apply wpS_seq
  apply wpS_region
  simp [wpOpsS, go_sem, recoverD, hu, Try.ntmps32, Exit.thenS]
  refine wpS_cond (t := false) (by simp [Act.eval, Array.replicate]) ?_
  simp only [Bool.false_eq_true, if_false]
  refine wpS_of_wp (wp_skip ?_)
  cases c₀
  simp_all [bodyPostS, results, Try.results32]

end Go.Proofs.Ytaadklfendegfaa
