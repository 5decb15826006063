/- What SCMap computes, as relations between words of floats. -/
import Derived.Test.YtaadklfendegfaaPt
namespace Go.Proofs.Ytaadklfendegfaa
open Go

abbrev f4 : Nat := 4616189618054758400
abbrev fSmall : Nat := 4472406533629990549
abbrev fabs (x : Nat) : Nat := x % 9223372036854775808
abbrev fgt (x y : Nat) : Bool := FloatKind.f64.format.order x y == some .gt

/-- the mean of four numbers, by sums: s i is what has been summed ahead of the i-th -/
def MidR (a s : Nat → Nat) : Prop := s 0 = f0 ∧ ∀ i, i < 4 → ∃ q, fdiv (a i) f4 = some q ∧ fadd (s i) q = some (s (i + 1))

/-- rows changed round -/
def swp (M : Nat → Nat → Nat) (k b : Nat) : Nat → Nat → Nat := fun i => if i = b then M k else if i = k then M b else M i

/-- where the greatest lies among k, .., k + n - 1 -/
def bestOf (M : Nat → Nat → Nat) (k : Nat) : Nat → Nat
  | 0 => k
  | n + 1 => if fgt (fabs (M (k + n) k)) (fabs (M (bestOf M k n) k)) then k + n else bestOf M k n

theorem bestOf_lt (M : Nat → Nat → Nat) (k n : Nat) (hn : k + n ≤ 8) (hk : k < 8) : bestOf M k n < 8 := by
  induction n with
  | zero => exact hk
  | succ n ih =>
    unfold bestOf
    split
    · omega
    · exact ih (by omega)
theorem bestOf_ge (M : Nat → Nat → Nat) (k n : Nat) : k ≤ bestOf M k n := by
  induction n with
  | zero => exact Nat.le_refl _
  | succ n ih =>
    unfold bestOf
    split
    · omega
    · exact ih

/-- a row less so many times another, from the k-th number on -/
def RowR (N : Nat → Nat → Nat) (k i : Nat) (by' : Nat) (R : Nat → Nat) : Prop :=
  (∀ j, j < k → R j = N i j) ∧ ∀ j, k ≤ j → j < 9 → ∃ t, fmul by' (N k j) = some t ∧ fsub (N i j) t = some (R j)

/-- one round of the elimination, behind the change of rows -/
def ElimR (N M' : Nat → Nat → Nat) (k : Nat) : Prop :=
  flt (fabs (N k k)) fSmall = false ∧ (∀ j, j < 9 → M' k j = N k j) ∧ ∀ i, i < 8 → i ≠ k → ∃ by', fdiv (N i k) (N k k) = some by' ∧ RowR N k i by' (M' i)

def RoundR (M M' : Nat → Nat → Nat) (k : Nat) : Prop := ElimR (swp M k (bestOf M k (8 - k))) M' k

abbrev fneg (x : Nat) : Nat := Op.negFloat .f64 x

/-- the two rows of a corner -/
def CornerR (x y u v : Nat) (R S : Nat → Nat) : Prop :=
  (R 0 = x ∧ R 1 = y ∧ R 2 = f1 ∧ R 3 = f0 ∧ R 4 = f0 ∧ R 5 = f0 ∧ fmul (fneg u) x = some (R 6) ∧ fmul (fneg u) y = some (R 7) ∧ R 8 = u) ∧
  (S 0 = f0 ∧ S 1 = f0 ∧ S 2 = f0 ∧ S 3 = x ∧ S 4 = y ∧ S 5 = f1 ∧ fmul (fneg v) x = some (S 6) ∧ fmul (fneg v) y = some (S 7) ∧ S 8 = v)

/-- the whole: ax, ay the first four corners, bx, by the others; o the ten numbers -/
def ScR (ax ay bx by' o : Nat → Nat) : Prop :=
  ∃ (sx sy : Nat → Nat) (X Y : Nat → Nat) (M : Nat → Nat → Nat → Nat), MidR ax sx ∧ MidR ay sy ∧ o 8 = sx 4 ∧ o 9 = sy 4 ∧
    (∀ i, i < 4 → fsub (ax i) (sx 4) = some (X i) ∧ fsub (ay i) (sy 4) = some (Y i) ∧ CornerR (X i) (Y i) (bx i) (by' i) (M 0 (2 * i)) (M 0 (2 * i + 1))) ∧
    (∀ k, k < 8 → RoundR (M k) (M (k + 1)) k) ∧ (∀ k, k < 8 → fdiv (M 8 k 8) (M 8 k k) = some (o k)) ∧ ∀ k, k ≤ 8 → ∀ i, i < 8 → ∀ j, j < 9 → M k i j < 18446744073709551616

/-- where a map takes a point -/
def ScAtR (o : Nat → Nat) (x y x' y' : Nat) : Prop :=
  ∃ dx dy z n m, fsub x (o 8) = some dx ∧ fsub y (o 9) = some dy ∧ Dot2R (o 6) dx (o 7) dy f1 z ∧ Dot2R (o 0) dx (o 1) dy (o 2) n ∧ fdiv n z = some x' ∧ Dot2R (o 3) dx (o 4) dy (o 5) m ∧ fdiv m z = some y'

end Go.Proofs.Ytaadklfendegfaa
