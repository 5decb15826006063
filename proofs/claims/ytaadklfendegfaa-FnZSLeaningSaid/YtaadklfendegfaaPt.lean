/- What the perspective transform computes, as relations between words of floats. -/
import Derived.Laws.FloatArith
namespace Go.Proofs.Ytaadklfendegfaa
open Go

abbrev fadd (x y : Nat) : Option Nat := floatBits .add .f64 x y
abbrev fsub (x y : Nat) : Option Nat := floatBits .sub .f64 x y
abbrev fmul (x y : Nat) : Option Nat := floatBits .mul .f64 x y
abbrev fdiv (x y : Nat) : Option Nat := floatBits .quo .f64 x y
abbrev fv (x : Nat) : Value := .float .f64 x
abbrev feq (x y : Nat) : Bool := FloatKind.f64.format.order x y == some .eq
abbrev f0 : Nat := 0
abbrev f1 : Nat := 4607182418800017408

/-- nine numbers, in the order of the struct's fields -/
structure M9 where
  (a11 a21 a31 a12 a22 a32 a13 a23 a33 : Nat)

def M9.cells (a : M9) : Array Value := #[fv a.a11, fv a.a21, fv a.a31, fv a.a12, fv a.a22, fv a.a32, fv a.a13, fv a.a23, fv a.a33]

/-- p q - r s -/
def PdR (p q r s z : Nat) : Prop := ∃ x y, fmul p q = some x ∧ fmul r s = some y ∧ fsub x y = some z
/-- p1 q1 + p2 q2 + p3 q3 -/
def DotR (p1 q1 p2 q2 p3 q3 z : Nat) : Prop := ∃ x y u v, fmul p1 q1 = some x ∧ fmul p2 q2 = some y ∧ fadd x y = some u ∧ fmul p3 q3 = some v ∧ fadd u v = some z
/-- x - y + z - w -/
def AltR (x y z w r : Nat) : Prop := ∃ a b, fsub x y = some a ∧ fadd a z = some b ∧ fsub b w = some r
/-- x - y + a x' -/
def LeanR (x y a x' r : Nat) : Prop := ∃ s t, fsub x y = some s ∧ fmul a x' = some t ∧ fadd s t = some r

def AdjR (a o : M9) : Prop :=
  PdR a.a22 a.a33 a.a23 a.a32 o.a11 ∧ PdR a.a23 a.a31 a.a21 a.a33 o.a21 ∧ PdR a.a21 a.a32 a.a22 a.a31 o.a31 ∧
  PdR a.a13 a.a32 a.a12 a.a33 o.a12 ∧ PdR a.a11 a.a33 a.a13 a.a31 o.a22 ∧ PdR a.a12 a.a31 a.a11 a.a32 o.a32 ∧
  PdR a.a12 a.a23 a.a13 a.a22 o.a13 ∧ PdR a.a13 a.a21 a.a11 a.a23 o.a23 ∧ PdR a.a11 a.a22 a.a12 a.a21 o.a33

def TimesR (p o r : M9) : Prop :=
  DotR p.a11 o.a11 p.a21 o.a12 p.a31 o.a13 r.a11 ∧ DotR p.a11 o.a21 p.a21 o.a22 p.a31 o.a23 r.a21 ∧ DotR p.a11 o.a31 p.a21 o.a32 p.a31 o.a33 r.a31 ∧
  DotR p.a12 o.a11 p.a22 o.a12 p.a32 o.a13 r.a12 ∧ DotR p.a12 o.a21 p.a22 o.a22 p.a32 o.a23 r.a22 ∧ DotR p.a12 o.a31 p.a22 o.a32 p.a32 o.a33 r.a32 ∧
  DotR p.a13 o.a11 p.a23 o.a12 p.a33 o.a13 r.a13 ∧ DotR p.a13 o.a21 p.a23 o.a22 p.a33 o.a23 r.a23 ∧ DotR p.a13 o.a31 p.a23 o.a32 p.a33 o.a33 r.a33

/-- a quadrilateral's corners -/
structure Q8 where
  (x0 y0 x1 y1 x2 y2 x3 y3 : Nat)

def AffR (q : Q8) (a : M9) : Prop :=
  fsub q.x1 q.x0 = some a.a11 ∧ fsub q.x2 q.x1 = some a.a21 ∧ a.a31 = q.x0 ∧ fsub q.y1 q.y0 = some a.a12 ∧ fsub q.y2 q.y1 = some a.a22 ∧ a.a32 = q.y0 ∧ a.a13 = f0 ∧ a.a23 = f0 ∧ a.a33 = f1

def PersR (q : Q8) (dx3 dy3 : Nat) (a : M9) : Prop :=
  ∃ dx1 dx2 dy1 dy2 den n1 n2, fsub q.x1 q.x2 = some dx1 ∧ fsub q.x3 q.x2 = some dx2 ∧ fsub q.y1 q.y2 = some dy1 ∧ fsub q.y3 q.y2 = some dy2 ∧
    PdR dx1 dy2 dx2 dy1 den ∧ PdR dx3 dy2 dx2 dy3 n1 ∧ fdiv n1 den = some a.a13 ∧ PdR dx1 dy3 dx3 dy1 n2 ∧ fdiv n2 den = some a.a23 ∧
    LeanR q.x1 q.x0 a.a13 q.x1 a.a11 ∧ LeanR q.x3 q.x0 a.a23 q.x3 a.a21 ∧ a.a31 = q.x0 ∧ LeanR q.y1 q.y0 a.a13 q.y1 a.a12 ∧ LeanR q.y3 q.y0 a.a23 q.y3 a.a22 ∧ a.a32 = q.y0 ∧ a.a33 = f1

/-- what SquareToQuadrilateral computes -/
def S2QR (q : Q8) (a : M9) : Prop :=
  ∃ dx3 dy3, AltR q.x0 q.x1 q.x2 q.x3 dx3 ∧ AltR q.y0 q.y1 q.y2 q.y3 dy3 ∧
    ((feq dx3 f0 = true ∧ feq dy3 f0 = true ∧ AffR q a) ∨ ((feq dx3 f0 = false ∨ (feq dx3 f0 = true ∧ feq dy3 f0 = false)) ∧ PersR q dx3 dy3 a))

/-- p1 q1 + p2 q2 + c -/
def Dot2R (p1 q1 p2 q2 c z : Nat) : Prop := ∃ x y u, fmul p1 q1 = some x ∧ fmul p2 q2 = some y ∧ fadd x y = some u ∧ fadd u c = some z

/-- where TransformPoints takes a point -/
def TPtR (p : M9) (x y x' y' : Nat) : Prop :=
  ∃ den nx ny, Dot2R p.a13 x p.a23 y p.a33 den ∧ Dot2R p.a11 x p.a21 y p.a31 nx ∧ fdiv nx den = some x' ∧ Dot2R p.a12 x p.a22 y p.a32 ny ∧ fdiv ny den = some y'

abbrev f50 : Nat := 4632233691727265792
abbrev f150 : Nat := 4639481672377565184
abbrev f8 : Nat := 4620693217682128896
abbrev f65535 : Nat := 4679239875398991872
abbrev ofI (n : Int) : Nat := floatOfInt .f64 n

/-- a corner's number: the square's, and an eighth of what is given -/
def CornR (base : Nat) (b : Int) (z : Nat) : Prop := ∃ t, fdiv (ofI b) f8 = some t ∧ fadd base t = some z

/-- what ztQuad makes -/
def QuadR (b0 b1 b2 b3 b4 b5 b6 b7 : Int) (q : Q8) : Prop :=
  CornR f50 b0 q.x0 ∧ CornR f50 b1 q.y0 ∧ CornR f150 b2 q.x1 ∧ CornR f50 b3 q.y1 ∧ CornR f150 b4 q.x2 ∧ CornR f150 b5 q.y2 ∧ CornR f50 b6 q.x3 ∧ CornR f150 b7 q.y3

def Q8.vals (q : Q8) : Array Value := #[fv q.x0, fv q.y0, fv q.x1, fv q.y1, fv q.x2, fv q.y2, fv q.x3, fv q.y3]

abbrev fMillionth : Nat := 4517329193108106637
abbrev flt (x y : Nat) : Bool := FloatKind.f64.format.order x y == some .lt

/-- two floats that 'ztNear' takes for the same -/
def NearR (x y : Nat) : Prop := ∃ d, fsub x y = some d ∧ d < 18446744073709551616 ∧ flt (d % 9223372036854775808) fMillionth = true

/-- the point of a quadrilateral by two numbers: one of its coordinates -/
def WithinR (q0 q1 q2 q3 u v z : Nat) : Prop :=
  ∃ u' v' a b c d e f g h i j, fsub f1 u = some u' ∧ fsub f1 v = some v' ∧ fmul u' v' = some a ∧ fmul a q0 = some b ∧ fmul u v' = some c ∧ fmul c q1 = some d ∧ fadd b d = some e ∧
    fmul u v = some f ∧ fmul f q2 = some g ∧ fadd e g = some h ∧ fmul u' v = some i ∧ fmul i q3 = some j ∧ fadd h j = some z

end Go.Proofs.Ytaadklfendegfaa
