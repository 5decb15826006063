/- Opening an array of eight small integers that is handed over by value. -/
import Derived.Test.YtaadklfendegfaaRows
import Derived.WalkKit
import Derived.ProofKit
import Derived.OpenShut
import Derived.ChangeOld
import Derived.Below
namespace Go.Proofs.Ytaadklfendegfaa
open Go.ChangeShapes Go.WideShapes Go.ChangeAt Go.RowKit

theorem Try.own : ownKnob Try.prog.godebug = none := by kernel_rfl
theorem Try.laidOut : laidOutB Try.prog = true := by kernel_rfl
theorem Try.cells22 : Try.prog.cellsOf 22 = 1 := by kernel_rfl
theorem Try.cells23 : Try.prog.cellsOf 23 = 8 := by kernel_rfl

/-- eight small numbers -/
def eight8 (b : Nat → Int) : Array Value := #[.int .i8 (b 0), .int .i8 (b 1), .int .i8 (b 2), .int .i8 (b 3), .int .i8 (b 4), .int .i8 (b 5), .int .i8 (b 6), .int .i8 (b 7)]

theorem eight8_of {xs : Array Value} (hs : xs.size = 8) {b : Nat → Int} (h : ∀ i, i < 8 → xs[i]? = some (.int .i8 (b i))) : xs = eight8 b := by
  apply Array.ext_getElem?
  intro i
  by_cases hi : i < 8
  · rw [h i hi]
    rcases (show i = 0 ∨ i = 1 ∨ i = 2 ∨ i = 3 ∨ i = 4 ∨ i = 5 ∨ i = 6 ∨ i = 7 by omega) with rfl | rfl | rfl | rfl | rfl | rfl | rfl | rfl <;> rfl
  · rw [Array.getElem?_eq_none (by omega), Array.getElem?_eq_none (by show 8 ≤ i; omega)]

set_option maxRecDepth 100000 in
theorem open_eight8 {H : Type} {enc : TypeId × Value → H} {w : World} {base : Nat} {sp : Nat → Bool} {held : Bool} {r : Reach} {b0 : Nat} {v : Value} {d : DataW H} {ps : List MemPlace}
    (hval : Value.okWide Try.prog w r b0 23 v) (hd : DataW.Trod enc Try.prog w base sp held 23 v d ps) : ∃ b : Nat → Int, v = .agg (eight8 b) ∧ ∀ i, i < 8 → -128 ≤ b i ∧ b i ≤ 127 := by
  simp only [Value.okWide, Try.underlying23] at hval
  obtain ⟨cs, rfl, hs, _⟩ := hval
  rw [Try.cells23] at hs
  obtain ⟨fuel, hf⟩ := hd
  obtain ⟨xs, m, rfl, _, _, hl, hi⟩ := DataW.trod_array Try.underlying23 hf
  have one : ∀ i, i < 8 → ∃ n, cs[i]? = some (.int .i8 n) ∧ -128 ≤ n ∧ n ≤ 127 := by
    intro i h8
    have h1 := hi i h8
    rw [List.getElem?_eq_getElem (by omega)] at h1
    obtain ⟨n, e, _, hw⟩ := DataW.trod_int Try.underlying22 h1
    refine ⟨n, ?_, bounds_i8 hw⟩
    rw [Try.cells22] at e
    have e2 : ((cs.toList.drop (i * 1)).take 1)[0]? = some (.int .i8 n) := by
      have e' : ((cs.toList.drop (i * 1)).take 1) = [.int .i8 n] := e
      rw [e']; rfl
    rw [List.getElem?_take, if_pos (by decide), List.getElem?_drop] at e2
    simpa using e2
  refine ⟨fun i => if h : i < 8 then (one i h).choose else 0, ?_, ?_⟩
  · refine congrArg Value.agg (eight8_of hs fun i h => ?_)
    simp only [h, dif_pos]
    exact (one i h).choose_spec.1
  · intro i h
    simp only [h, dif_pos]
    exact (one i h).choose_spec.2

/-- what is known of a slice of integers that came in -/
def IsRow (k : IntKind) (w : World) (a : Option Addr) (len cap : Nat) (zs : List Int) : Prop :=
  (a = none ∧ len = 0 ∧ cap = 0 ∧ zs = []) ∨
  ∃ x, a = some x ∧ len ≤ cap ∧ cap ≤ maxLen ∧ zs.length = cap ∧ (∀ i, i < zs.length → w.cell? (x.add i) = some (.int k (zs.getD i 0))) ∧ ∀ n ∈ zs, (Lit.int k n).wf = true

end Go.Proofs.Ytaadklfendegfaa
