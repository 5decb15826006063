/- The walk of math.Abs. -/
import Derived.Test.YtaadklfendegfaaChecked
import Derived.Test.YtaadklfendegfaaPt
import Derived.WalkKit
import Derived.WalkSpells
import Derived.WalkLawsBesides
import Derived.Laws.Externs
import Derived.Laws.BitsAllLaws
namespace Go.Proofs.Ytaadklfendegfaa
open Go.RowKit

theorem run_f43 (x : Nat) (w : World) : (callFunc 43 #[fv x]).run Try.prog w = .ok (.value (.int .u64 (x : Int))) w := by kernel_rfl
theorem run_f42 (n : Int) (w : World) : (callFunc 42 #[.int .u64 n]).run Try.prog w = .ok (.value (fv n.toNat)) w := by kernel_rfl

theorem bits_abs (x : Nat) (hx : x < 18446744073709551616) : bits .andNot .u64 (x : Int) 9223372036854775808 = ((x % 9223372036854775808 : Nat) : Int) := by
  have := u64_andNot_nat x 9223372036854775808 hx (by omega)
  have e : (18446744073709551615 - 9223372036854775808 : Nat) = 2 ^ 63 - 1 := by decide
  rw [e, Nat.and_two_pow_sub_one_eq_mod] at this
  exact this

set_option maxRecDepth 100000 in
theorem abs_calls (x : Nat) (w : World) (hx : x < 18446744073709551616) : Calls Try.prog 29 #[fv x] w fun e w' => e = .returned (fv (x % 9223372036854775808)) ∧ w = w' := by
  have h1 := fun w => run_f43 x w
  have h2 := fun w => run_f42 ((x % 9223372036854775808 : Nat) : Int) w
  have h3 := bits_abs x hx
  simp only [Int.toNat_natCast] at h2
  generalize x % 9223372036854775808 = y at *
  clear hx
  generalize hB : bits .andNot .u64 (x : Int) 9223372036854775808 = B at *
  subst h3
  go_enter Try.func29, Try.ntmps29
  go_wp2_with fail
  go_ret
  exact ⟨rfl, rfl⟩

end Go.Proofs.Ytaadklfendegfaa
