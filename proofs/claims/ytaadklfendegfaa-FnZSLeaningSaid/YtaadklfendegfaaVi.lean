/- A slice of integers that came in, as the walks want it. -/
import Derived.Test.YtaadklfendegfaaVo
namespace Go.Proofs.Ytaadklfendegfaa
open Go.ChangeShapes Go.WideShapes Go.ChangeAt Go.RowKit

/-- a slice that came in, as the walks want it -/
theorem IsRow.at_ {k : IntKind} {w : World} {sa : Option Addr} {len cap : Nat} {zs : List Int} (h : IsRow k w sa len cap zs) : len = 0 ∨ ∃ ab aoff, sa = some ⟨ab, aoff, none⟩ ∧ ∀ j, j < len → w.cell? ⟨ab, aoff + j, none⟩ = some (.int k (zs.getD j 0)) := by
  by_cases h0 : len = 0
  · exact .inl h0
  rcases h with ⟨rfl, rfl, rfl, rfl⟩ | ⟨x, rfl, hl, hm, hz, hcell, hwz⟩
  · exact absurd rfl h0
  obtain ⟨ab, aoff, spot⟩ := x
  have hc := hcell 0 (by omega)
  have hspot : spot = none := by simpa [Addr.add] using World.cell?_spot hc
  subst hspot
  refine .inr ⟨ab, aoff, rfl, fun j hj => ?_⟩
  have := hcell j (by omega)
  by_cases hj0 : j = 0
  · subst hj0; simpa [Addr.add] using this
  · simpa [Addr.add, hj0] using this

end Go.Proofs.Ytaadklfendegfaa
