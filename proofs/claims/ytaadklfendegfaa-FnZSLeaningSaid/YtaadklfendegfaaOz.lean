/- The walks of ODSame and zbAlike: two tables that are the same. -/
import Derived.Test.YtaadklfendegfaaChecked
import Derived.Test.YtaadklfendegfaaGr
import Derived.Test.YtaadklfendegfaaCell
import Derived.Lib.Hide
import Derived.Deep.QuietTactic
import Derived.BigQuiet
import Derived.IntWalk
import Derived.WalkLawsBesides
namespace Go.Proofs.Ytaadklfendegfaa
open Go.RowKit

set_option maxRecDepth 100000 in
set_option maxHeartbeats 1000000 in
theorem same_calls (a b : Value) (n : Nat) (f g : Nat → Bool) (w : World) (hn : n ≤ 1000000) (ha : BRow w a n f) (hb : BRow w b n g) (h : ∀ j, j < n → f j = g j) :
    Calls Try.prog 28 #[a, b] w fun e w' => e = .returned (.bool true) ∧ ∃ m, w' = w.drewN m := by
  obtain ⟨ba, ca, rfl, h1⟩ := ha
  obtain ⟨bb, cb, rfl, h2⟩ := hb
  have H1 := Lib.hid h1
  have H2 := Lib.hid h2
  have H := Lib.hid h
  clear h1 h2 h
  go_enter Try.func28, Try.ntmps28
  go_wp2
  go_loopw [13, 5] (fun i _ wr => ∃ k : Nat, k ≤ n ∧ i = .int .i64 (k : Int) ∧ ∃ m, wr = w.drewN m) (fun i _ _ => n - (intOf i).toNat)
  case atStart => exact ⟨0, Nat.zero_le _, rfl, 0, rfl⟩
  case round =>
    obtain ⟨k, hk, rfl, m, hm⟩ := hrel
    by_cases hlt : k < n
    · have X0 : wr.cell? ⟨ba, k, none⟩ = some (.bool (f k)) := by rw [hm]; exact H1.out k hlt
      have Y0 : wr.cell? ⟨bb, k, none⟩ = some (.bool (f k)) := by rw [hm, H.out k hlt]; exact H2.out k hlt
      have HM := Lib.hid hm
      clear hm
      go_wp2
      go_quiet (fail)
      go_wp2
      go_roundw
      case rel => exact ⟨k + 1, by omega, by go_num, m + nq, by rw [HM.out, World.drewN_drewN]⟩
      case measure => simp [intOf]; omega
    · obtain rfl : k = n := by omega
      have HM := Lib.hid hm
      clear hm
      go_wp2
      go_ret
      exact ⟨rfl, m, HM.out⟩

theorem BRow.drewN {w : World} {v : Value} {n : Nat} {f : Nat → Bool} (h : BRow w v n f) (m : Nat) : BRow (w.drewN m) v n f := h.below (below_drewN (Below.refl _ _) m)

set_option maxRecDepth 100000 in
set_option maxHeartbeats 1000000 in
theorem alike_calls (a b : Value) (n h : Nat) (F G : Nat → Nat → Bool) (w : World) (hn : n ≤ 1000000) (hh : h ≤ 1000000) (ha : Grid w a h n F) (hb : Grid w b h n G) (he : ∀ y, y < h → ∀ j, j < n → F y j = G y j) :
    Calls Try.prog 20 #[a, b] w fun e w' => e = .returned (.bool true) ∧ ∃ m, w' = w.drewN m := by
  obtain ⟨ba, ca, rfl, h1⟩ := ha
  obtain ⟨bb, cb, rfl, h2⟩ := hb
  have H1 := Lib.hid h1
  have H2 := Lib.hid h2
  have H := Lib.hid he
  clear h1 h2 he
  go_enter Try.func20, Try.ntmps20
  go_wp2
  go_loopw [13, 5] (fun i _ wr => ∃ k : Nat, k ≤ h ∧ i = .int .i64 (k : Int) ∧ ∃ m, wr = w.drewN m) (fun i _ _ => h - (intOf i).toNat)
  case atStart => exact ⟨0, Nat.zero_le _, rfl, 0, rfl⟩
  case round =>
    obtain ⟨k, hk, rfl, m, hm⟩ := hrel
    by_cases hlt : k < h
    · obtain ⟨u, X0, hu⟩ := H1.out k hlt
      obtain ⟨v, Y0, hv⟩ := H2.out k hlt
      replace X0 : wr.cell? ⟨ba, k, none⟩ = some u := by rw [hm]; exact X0
      replace Y0 : wr.cell? ⟨bb, k, none⟩ = some v := by rw [hm]; exact Y0
      have HU : Hid (∀ m, BRow (wr.drewN m) u n (F k)) := fun m' => by rw [hm]; exact (hu.drewN _).drewN _
      have HV : Hid (∀ m, BRow (wr.drewN m) v n (G k)) := fun m' => by rw [hm]; exact (hv.drewN _).drewN _
      have HM := Lib.hid hm
      clear hm hu hv
      go_wp2
      go_quiet ((go_at_call 28; exact Calls.quiet_of (same_calls u v n (F k) (G k) _ hn (HU.out _) (HV.out _) (H.out k hlt))))
      go_wp2
      go_roundw
      case rel => exact ⟨k + 1, by omega, by go_num, m + nq, by rw [HM.out, World.drewN_drewN]⟩
      case measure => simp [intOf]; omega
    · obtain rfl : k = h := by omega
      have HM := Lib.hid hm
      clear hm
      go_wp2
      go_ret
      exact ⟨rfl, m, HM.out⟩

end Go.Proofs.Ytaadklfendegfaa
