/-
  No cell of these rows narrows 'for every input' (looked for: loops, veiled, ifaces, maps, wideKeys, modest, calm, conditions, laid).
  DERIVED. THE GIVEN ROWS OF THIS SEAT. 7 by the template 'for every input the law returns true; each argument reads behind the call as it read before'; 0 by the template 'total and deterministic' (their statements: YtaadklfendegfaaTotals.lean).
  GIVEN WITH THE SEED: the statements are not yours to turn. If you find one false, say at which input.
  Laid BY PROGRAM, IN A SANDBOX (cutbox-rows.mjs): the forced cells as the released guide's own fill.sh prints them over the translation 0a3a96223e0c4b68… (all of the seat's roots in one cut). By AI agents, Wed Nov 11 2026. No macro, syntax, notation, axiom, sorry.
-/
import Derived.Test.YtaadklfendegfaaChecked
import GoSem.Claim
import GoSem.ClaimJoined
import GoSem.ClaimMapViews
import Derived.JoinedTies
import Derived.KernelRfl
namespace Go.Proofs.Ytaadklfendegfaa
/- THE CELL 'sum', in the pinned program and in every row, IS THE sha256 OF THE DUMP (.gsa) THAT YtaadklfendegfaaProg.lean LOADS. Nothing in Lean hashes anything: it is a label: what it is worth is what the hold of that sum in a sandbox is worth. -/
noncomputable def Try.pinned : Pinned := { name := "ytaadklfendegfaa", sum := "0a3a96223e0c4b68934ae1237f9c13432eea568976595a691c9064839e24a8c3", checked := Try.checked }
namespace Rows
def none {H : Type} : Left H := { results := [], args := [] }

/-- 'laws.FnZTMaps': WHATEVER THE INPUT: true; the input reads as it did. -/
def fnZTMapsSpec : ChangeSpec := { name := "fnZTMaps", fn := fun _ => fun
  | [d1, d2, d3] => { results := [.lit (.bool true)], args := [d1, d2, d3] }
  | _ => none }
def fnZTMapsRow : OpenClaim := { program := "ytaadklfendegfaa", sum := "0a3a96223e0c4b68934ae1237f9c13432eea568976595a691c9064839e24a8c3", func := "given.example/pub-calotype/laws.FnZTMaps", spec := "fnZTMaps", inPlace := ["math.Float64bits", "math.Float64frombits"], apart := false }
def FnZTMapsSaid : Prop := fnZTMapsRow.holds Try.pinned (OpenSpec.ofChange fnZTMapsSpec)

/-- ITS FALSE NEIGHBOUR: 'it returns false'. Refute it at one input. -/
def fnZTMapsWrong : ChangeSpec := { name := "fnZTMaps", fn := fun _ => fun
  | [d1, d2, d3] => { results := [.lit (.bool false)], args := [d1, d2, d3] }
  | _ => none }
def FnZTMapsWrongFalsely : Prop := fnZTMapsRow.holds Try.pinned (OpenSpec.ofChange fnZTMapsWrong)

/-- 'laws.FnZTWays': WHATEVER THE INPUT: true; the input reads as it did. -/
def fnZTWaysSpec : ChangeSpec := { name := "fnZTWays", fn := fun _ => fun
  | [d1, d2, d3, d4] => { results := [.lit (.bool true)], args := [d1, d2, d3, d4] }
  | _ => none }
def fnZTWaysRow : OpenClaim := { program := "ytaadklfendegfaa", sum := "0a3a96223e0c4b68934ae1237f9c13432eea568976595a691c9064839e24a8c3", func := "given.example/pub-calotype/laws.FnZTWays", spec := "fnZTWays", inPlace := ["math.Float64bits", "math.Float64frombits"], apart := false }
def FnZTWaysSaid : Prop := fnZTWaysRow.holds Try.pinned (OpenSpec.ofChange fnZTWaysSpec)

/-- ITS FALSE NEIGHBOUR: 'it returns false'. Refute it at one input. -/
def fnZTWaysWrong : ChangeSpec := { name := "fnZTWays", fn := fun _ => fun
  | [d1, d2, d3, d4] => { results := [.lit (.bool false)], args := [d1, d2, d3, d4] }
  | _ => none }
def FnZTWaysWrongFalsely : Prop := fnZTWaysRow.holds Try.pinned (OpenSpec.ofChange fnZTWaysWrong)

/-- 'laws.FnZSStraight': WHATEVER THE INPUT: true; the input reads as it did. -/
def fnZSStraightSpec : ChangeSpec := { name := "fnZSStraight", fn := fun _ => fun
  | [d1, d2, d3, d4, d5, d6, d7] => { results := [.lit (.bool true)], args := [d1, d2, d3, d4, d5, d6, d7] }
  | _ => none }
def fnZSStraightRow : OpenClaim := { program := "ytaadklfendegfaa", sum := "0a3a96223e0c4b68934ae1237f9c13432eea568976595a691c9064839e24a8c3", func := "given.example/pub-calotype/laws.FnZSStraight", spec := "fnZSStraight", unfollowed := true, recurses := true, apart := false }
def FnZSStraightSaid : Prop := fnZSStraightRow.holds Try.pinned (OpenSpec.ofChange fnZSStraightSpec)

/-- ITS FALSE NEIGHBOUR: 'it returns false'. Refute it at one input. -/
def fnZSStraightWrong : ChangeSpec := { name := "fnZSStraight", fn := fun _ => fun
  | [d1, d2, d3, d4, d5, d6, d7] => { results := [.lit (.bool false)], args := [d1, d2, d3, d4, d5, d6, d7] }
  | _ => none }
def FnZSStraightWrongFalsely : Prop := fnZSStraightRow.holds Try.pinned (OpenSpec.ofChange fnZSStraightWrong)

/-- 'laws.FnZSLeaning': WHATEVER THE INPUT: true; the input reads as it did. -/
def fnZSLeaningSpec : ChangeSpec := { name := "fnZSLeaning", fn := fun _ => fun
  | [d1, d2, d3, d4] => { results := [.lit (.bool true)], args := [d1, d2, d3, d4] }
  | _ => none }
def fnZSLeaningRow : OpenClaim := { program := "ytaadklfendegfaa", sum := "0a3a96223e0c4b68934ae1237f9c13432eea568976595a691c9064839e24a8c3", func := "given.example/pub-calotype/laws.FnZSLeaning", spec := "fnZSLeaning", inPlace := ["math.Float64bits", "math.Float64frombits"], unfollowed := true, recurses := true, apart := false }
def FnZSLeaningSaid : Prop := fnZSLeaningRow.holds Try.pinned (OpenSpec.ofChange fnZSLeaningSpec)

/-- ITS FALSE NEIGHBOUR: 'it returns false'. Refute it at one input. -/
def fnZSLeaningWrong : ChangeSpec := { name := "fnZSLeaning", fn := fun _ => fun
  | [d1, d2, d3, d4] => { results := [.lit (.bool false)], args := [d1, d2, d3, d4] }
  | _ => none }
def FnZSLeaningWrongFalsely : Prop := fnZSLeaningRow.holds Try.pinned (OpenSpec.ofChange fnZSLeaningWrong)

/-- 'laws.FnZBGlobal': WHATEVER THE INPUT: true; the input reads as it did. -/
def fnZBGlobalSpec : ChangeSpec := { name := "fnZBGlobal", fn := fun _ => fun
  | [d1, d2, d3, d4, d5] => { results := [.lit (.bool true)], args := [d1, d2, d3, d4, d5] }
  | _ => none }
def fnZBGlobalRow : OpenClaim := { program := "ytaadklfendegfaa", sum := "0a3a96223e0c4b68934ae1237f9c13432eea568976595a691c9064839e24a8c3", func := "given.example/pub-calotype/laws.FnZBGlobal", spec := "fnZBGlobal", unfollowed := true, recurses := true, apart := false }
def FnZBGlobalSaid : Prop := fnZBGlobalRow.holds Try.pinned (OpenSpec.ofChange fnZBGlobalSpec)

/-- ITS FALSE NEIGHBOUR: 'it returns false'. Refute it at one input. -/
def fnZBGlobalWrong : ChangeSpec := { name := "fnZBGlobal", fn := fun _ => fun
  | [d1, d2, d3, d4, d5] => { results := [.lit (.bool false)], args := [d1, d2, d3, d4, d5] }
  | _ => none }
def FnZBGlobalWrongFalsely : Prop := fnZBGlobalRow.holds Try.pinned (OpenSpec.ofChange fnZBGlobalWrong)

/-- 'laws.FnZBHybrid': WHATEVER THE INPUT: true; the input reads as it did. -/
def fnZBHybridSpec : ChangeSpec := { name := "fnZBHybrid", fn := fun _ => fun
  | [d1, d2, d3, d4, d5] => { results := [.lit (.bool true)], args := [d1, d2, d3, d4, d5] }
  | _ => none }
def fnZBHybridRow : OpenClaim := { program := "ytaadklfendegfaa", sum := "0a3a96223e0c4b68934ae1237f9c13432eea568976595a691c9064839e24a8c3", func := "given.example/pub-calotype/laws.FnZBHybrid", spec := "fnZBHybrid", unfollowed := true, recurses := true, apart := false }
def FnZBHybridSaid : Prop := fnZBHybridRow.holds Try.pinned (OpenSpec.ofChange fnZBHybridSpec)

/-- ITS FALSE NEIGHBOUR: 'it returns false'. Refute it at one input. -/
def fnZBHybridWrong : ChangeSpec := { name := "fnZBHybrid", fn := fun _ => fun
  | [d1, d2, d3, d4, d5] => { results := [.lit (.bool false)], args := [d1, d2, d3, d4, d5] }
  | _ => none }
def FnZBHybridWrongFalsely : Prop := fnZBHybridRow.holds Try.pinned (OpenSpec.ofChange fnZBHybridWrong)

/-- 'laws.FnZBRow': WHATEVER THE INPUT: true; the input reads as it did. -/
def fnZBRowSpec : ChangeSpec := { name := "fnZBRow", fn := fun _ => fun
  | [d1, d2, d3, d4, d5] => { results := [.lit (.bool true)], args := [d1, d2, d3, d4, d5] }
  | _ => none }
def fnZBRowRow : OpenClaim := { program := "ytaadklfendegfaa", sum := "0a3a96223e0c4b68934ae1237f9c13432eea568976595a691c9064839e24a8c3", func := "given.example/pub-calotype/laws.FnZBRow", spec := "fnZBRow", unfollowed := true, recurses := true, apart := false }
def FnZBRowSaid : Prop := fnZBRowRow.holds Try.pinned (OpenSpec.ofChange fnZBRowSpec)

/-- ITS FALSE NEIGHBOUR: 'it returns false'. Refute it at one input. -/
def fnZBRowWrong : ChangeSpec := { name := "fnZBRow", fn := fun _ => fun
  | [d1, d2, d3, d4, d5] => { results := [.lit (.bool false)], args := [d1, d2, d3, d4, d5] }
  | _ => none }
def FnZBRowWrongFalsely : Prop := fnZBRowRow.holds Try.pinned (OpenSpec.ofChange fnZBRowWrong)

/- THE SECOND FORM. 'bulk': how many values and letters a reading holds, each counted each time it is reached (what is shared counts as often as it is met; a slice's spare places count too). A statement '..UptoSaid' is the law's where the arguments, and the package variables that the reading takes, are together of bulk at most 1048576: NARROWER than '..Said'. Prove '..Said' where nothing that the law and all that it calls make is longer than what came in: it says more and counts as full. Else prove '..UptoSaid'. A law counts once. -/
mutual
def uptoBulk {H : Type} : DataW H → Nat
  | .lit (.string bytes) => bytes.length + 1
  | .lit _ => 1
  | .nil => 1
  | .ptr d => uptoBulk d + 1
  | .slice elems spare => uptoBulkAll elems + uptoBulkAll spare + 1
  | .agg parts => uptoBulkAll parts + 1
  | .iface _ d => uptoBulk d + 1
  | .map entries => uptoBulkEntries entries + 1
  | .held _ => 1
def uptoBulkAll {H : Type} : List (DataW H) → Nat
  | [] => 0
  | d :: r => uptoBulk d + uptoBulkAll r
def uptoBulkEntries {H : Type} : List (Lit × DataW H) → Nat
  | [] => 0
  | x :: r => uptoBulkEntry x + uptoBulkEntries r
def uptoBulkEntry {H : Type} : Lit × DataW H → Nat
  | (.string bytes, d) => bytes.length + uptoBulk d + 1
  | (_, d) => uptoBulk d + 1
 end
def uptoSmall : (H : Type) → List (DataW H) → Bool := fun _ ds => decide (uptoBulkAll ds ≤ 1048576)
def OpenSpec.upto (s : _root_.Go.ChangeSpec) : _root_.Go.OpenSpec := { _root_.Go.OpenSpec.ofChange s with cond := some uptoSmall }

/-- 'laws.FnZTMaps', WHERE WHAT IT READS IS OF BULK AT MOST 1048576: true; the input reads as it did. -/
def fnZTMapsUptoRow : OpenClaim := { program := "ytaadklfendegfaa", sum := "0a3a96223e0c4b68934ae1237f9c13432eea568976595a691c9064839e24a8c3", func := "given.example/pub-calotype/laws.FnZTMaps", spec := "fnZTMaps", inPlace := ["math.Float64bits", "math.Float64frombits"], apart := false, narrowed := true }
def FnZTMapsUptoSaid : Prop := fnZTMapsUptoRow.holds Try.pinned (OpenSpec.upto fnZTMapsSpec)

/-- 'laws.FnZTWays', WHERE WHAT IT READS IS OF BULK AT MOST 1048576: true; the input reads as it did. -/
def fnZTWaysUptoRow : OpenClaim := { program := "ytaadklfendegfaa", sum := "0a3a96223e0c4b68934ae1237f9c13432eea568976595a691c9064839e24a8c3", func := "given.example/pub-calotype/laws.FnZTWays", spec := "fnZTWays", inPlace := ["math.Float64bits", "math.Float64frombits"], apart := false, narrowed := true }
def FnZTWaysUptoSaid : Prop := fnZTWaysUptoRow.holds Try.pinned (OpenSpec.upto fnZTWaysSpec)

/-- 'laws.FnZSStraight', WHERE WHAT IT READS IS OF BULK AT MOST 1048576: true; the input reads as it did. -/
def fnZSStraightUptoRow : OpenClaim := { program := "ytaadklfendegfaa", sum := "0a3a96223e0c4b68934ae1237f9c13432eea568976595a691c9064839e24a8c3", func := "given.example/pub-calotype/laws.FnZSStraight", spec := "fnZSStraight", unfollowed := true, recurses := true, apart := false, narrowed := true }
def FnZSStraightUptoSaid : Prop := fnZSStraightUptoRow.holds Try.pinned (OpenSpec.upto fnZSStraightSpec)

/-- 'laws.FnZSLeaning', WHERE WHAT IT READS IS OF BULK AT MOST 1048576: true; the input reads as it did. -/
def fnZSLeaningUptoRow : OpenClaim := { program := "ytaadklfendegfaa", sum := "0a3a96223e0c4b68934ae1237f9c13432eea568976595a691c9064839e24a8c3", func := "given.example/pub-calotype/laws.FnZSLeaning", spec := "fnZSLeaning", inPlace := ["math.Float64bits", "math.Float64frombits"], unfollowed := true, recurses := true, apart := false, narrowed := true }
def FnZSLeaningUptoSaid : Prop := fnZSLeaningUptoRow.holds Try.pinned (OpenSpec.upto fnZSLeaningSpec)

/-- 'laws.FnZBGlobal', WHERE WHAT IT READS IS OF BULK AT MOST 1048576: true; the input reads as it did. -/
def fnZBGlobalUptoRow : OpenClaim := { program := "ytaadklfendegfaa", sum := "0a3a96223e0c4b68934ae1237f9c13432eea568976595a691c9064839e24a8c3", func := "given.example/pub-calotype/laws.FnZBGlobal", spec := "fnZBGlobal", unfollowed := true, recurses := true, apart := false, narrowed := true }
def FnZBGlobalUptoSaid : Prop := fnZBGlobalUptoRow.holds Try.pinned (OpenSpec.upto fnZBGlobalSpec)

/-- 'laws.FnZBHybrid', WHERE WHAT IT READS IS OF BULK AT MOST 1048576: true; the input reads as it did. -/
def fnZBHybridUptoRow : OpenClaim := { program := "ytaadklfendegfaa", sum := "0a3a96223e0c4b68934ae1237f9c13432eea568976595a691c9064839e24a8c3", func := "given.example/pub-calotype/laws.FnZBHybrid", spec := "fnZBHybrid", unfollowed := true, recurses := true, apart := false, narrowed := true }
def FnZBHybridUptoSaid : Prop := fnZBHybridUptoRow.holds Try.pinned (OpenSpec.upto fnZBHybridSpec)

/-- 'laws.FnZBRow', WHERE WHAT IT READS IS OF BULK AT MOST 1048576: true; the input reads as it did. -/
def fnZBRowUptoRow : OpenClaim := { program := "ytaadklfendegfaa", sum := "0a3a96223e0c4b68934ae1237f9c13432eea568976595a691c9064839e24a8c3", func := "given.example/pub-calotype/laws.FnZBRow", spec := "fnZBRow", unfollowed := true, recurses := true, apart := false, narrowed := true }
def FnZBRowUptoSaid : Prop := fnZBRowUptoRow.holds Try.pinned (OpenSpec.upto fnZBRowSpec)

end Rows
end Go.Proofs.Ytaadklfendegfaa
