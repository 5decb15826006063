/- The walks of zsModules and zsGrid. -/
import Derived.Test.YtaadklfendegfaaZb
import Derived.Test.YtaadklfendegfaaPt
namespace Go.Proofs.Ytaadklfendegfaa
open Go.RowKit

set_option maxRecDepth 100000 in
set_option maxHeartbeats 1000000 in
theorem mods_calls (sa : Option Addr) (len cap : Nat) (zs : List Int) (a1 a2 : Int) (W H : Nat) (w : World) (hlen : len ≤ 2147483647) (h1 : 0 ≤ a1 ∧ a1 ≤ 255) (h2 : 0 ≤ a2 ∧ a2 ≤ 255) (hW : 2 + a1 % 14 = (W : Int)) (hH : 2 + a2 % 14 = (H : Int))
    (hz : len = 0 ∨ ∃ ab aoff, sa = some ⟨ab, aoff, none⟩ ∧ ∀ j, j < len → w.cell? ⟨ab, aoff + j, none⟩ = some (.int .u8 (zs.getD j 0))) :
    Calls Try.prog 16 #[.slice sa len cap, .int .u8 a1, .int .u8 a2] w fun e w' => ∃ v F, e = .returned v ∧ GridO w.heap.size w' v H W F ∧ Below w.heap.size w w' := by
  obtain ⟨h10, h11⟩ := h1
  obtain ⟨h20, h21⟩ := h2
  have HZ := Lib.hid hz
  have hW0 : 2 ≤ W := by omega
  have hW1 : W ≤ 15 := by omega
  have hH0 : 2 ≤ H := by omega
  have hH1 : H ≤ 15 := by omega
  clear hz
  go_enter Try.func16, Try.ntmps16
  go_wp2_with (fail)
  refine (bits_calls sa len cap W H zs _ hlen (by omega) (by omega) (by omega) (by omega) HZ.out).mono ?_
  rintro e w1 ⟨v, F, rfl, hgo, hb1⟩
  have HGo := Lib.hid hgo
  have HB := Lib.hid hb1
  clear hgo hb1
  go_wp2
  go_ret
  exact ⟨v, F, rfl, HGo.out, HB.out⟩

/-- the corners of a grid of so many modules -/
def gridQ (W H : Nat) : Q8 := ⟨f0, f0, ofI W, f0, ofI W, ofI H, f0, ofI H⟩

set_option maxRecDepth 100000 in
set_option maxHeartbeats 1000000 in
theorem grid_calls (g c H W c0 : Nat) (a : Option Addr) (w : World) (hH : 1 ≤ H) (hc : w.cell? ⟨g, 0, none⟩ = some (.slice a W c0)) :
    Calls Try.prog 18 #[.slice (some ⟨g, 0, none⟩) H c] w fun e w' => e = .returned (.agg (gridQ W H).vals) ∧ Below w.heap.size w w' := by
  have hg : g < w.heap.size := cell_lt hc
  have I0 : (0 : Int) < (H : Int) := by omega
  go_enter Try.func18, Try.ntmps18
  go_wp2
  refine bodyPost_ret (v := .agg (gridQ W H).vals) (by simp [results, Try.results18, go_sem, gridQ, Q8.vals]) rfl ⟨rfl, ?_⟩
  repeat (refine Below.drew ?_)
  exact (Below.refl _ _).alloc (Nat.le_refl _) _

end Go.Proofs.Ytaadklfendegfaa
