/- The walks of what gives the grid sampler. -/
import Derived.Test.YtaadklfendegfaaZe
namespace Go.Proofs.Ytaadklfendegfaa
open Go.RowKit

theorem meth_sample (w : World) : (method 296 130 (.agg #[]) "SampleGrid").run Try.prog w = .ok (86, .agg #[]) w := by kernel_rfl

set_option maxRecDepth 100000 in
theorem newsampler_calls (w : World) : Calls Try.prog 49 #[] w fun e w' => e = .returned (.iface 130 (.agg #[])) ∧ w = w' := by
  go_enter Try.func49, Try.ntmps49
  go_wp2
  go_ret
  exact ⟨rfl, rfl⟩

set_option maxRecDepth 100000 in
theorem getsampler_calls (w : World) : Calls Try.prog 34 #[] w fun e w' => e = .returned (.iface 130 (.agg #[])) ∧ w = w' := by
  go_enter Try.func34, Try.ntmps34
  go_wp2_with (go_at_call 49; refine (newsampler_calls _).mono ?_; rintro e w' ⟨rfl, rfl⟩)
  go_ret
  exact ⟨rfl, rfl⟩

end Go.Proofs.Ytaadklfendegfaa
