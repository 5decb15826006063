/- The walks of the errors that say that nothing was found. -/
import Derived.Test.YtaadklfendegfaaZm
namespace Go.Proofs.Ytaadklfendegfaa
open Go.RowKit

set_option maxRecDepth 100000 in
theorem newexc_calls (s : ByteArray) (av : Value) (w : World) : Calls Try.prog 91 #[.string s, av] w fun e w' => e = .returned (.agg #[.string s, .nilIface]) ∧ Below w.heap.size w w' := by
  go_enter Try.func91, Try.ntmps91
  go_wp2
  refine bodyPost_ret (v := .agg #[.string s, .nilIface]) (by simp [results, Try.results91, go_sem]) rfl ⟨rfl, ?_⟩
  repeat (refine Below.drew ?_)
  exact (Below.refl _ _).alloc (Nat.le_refl _) _

set_option maxRecDepth 100000 in
theorem wrapexc_calls (s : ByteArray) (T : TypeId) (x : Value) (w : World) : Calls Try.prog 92 #[.string s, .iface T x] w fun e w' => e = .returned (.agg #[.string s, .iface T x]) ∧ Below w.heap.size w w' := by
  go_enter Try.func92, Try.ntmps92
  go_wp2
  refine bodyPost_ret (v := .agg #[.string s, .iface T x]) (by simp [results, Try.results92, go_sem]) rfl ⟨rfl, ?_⟩
  repeat (refine Below.drew ?_)
  exact (Below.refl _ _).alloc (Nat.le_refl _) _

set_option maxRecDepth 100000 in
theorem newnf_calls (av : Value) (w : World) : Calls Try.prog 88 #[av] w fun e w' => ∃ x, e = .returned (.iface 179 x) ∧ Below w.heap.size w w' := by
  go_enter Try.func88, Try.ntmps88
  go_wp2_with (go_at_call 91; refine (newexc_calls _ _ _).mono ?_)
  rintro e w1 ⟨rfl, hb⟩
  have HB := Lib.hid hb
  clear hb
  go_wp2
  go_ret
  exact ⟨_, rfl, HB.out⟩

set_option maxRecDepth 100000 in
theorem wrapnf_calls (T : TypeId) (x : Value) (w : World) : Calls Try.prog 90 #[.iface T x] w fun e w' => ∃ x, e = .returned (.iface 179 x) ∧ Below w.heap.size w w' := by
  go_enter Try.func90, Try.ntmps90
  go_wp2_with (go_at_call 92; refine (wrapexc_calls _ _ _ _).mono ?_)
  rintro e w1 ⟨rfl, hb⟩
  have HB := Lib.hid hb
  clear hb
  go_wp2
  go_ret
  exact ⟨_, rfl, HB.out⟩

end Go.Proofs.Ytaadklfendegfaa
