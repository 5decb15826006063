/- The adjoint and the product of two tables of nine: near the exact numbers. -/
import Derived.Test.YtaadklfendegfaaSa
namespace Go.Proofs.Ytaadklfendegfaa
open Go Fl Geo

theorem bx0 {q : Q8} {Q : Quad} {a1 a3 : Rat} (h : QZ q Q a1 a3) : Bd Q.x0 67 := h.ix0.bd (by decide +kernel) (by decide +kernel)
theorem by0 {q : Q8} {Q : Quad} {a1 a3 : Rat} (h : QZ q Q a1 a3) : Bd Q.y0 67 := h.iy0.bd (by decide +kernel) (by decide +kernel)

theorem adj11 {q : Q8} {Q : Quad} {a1 a3 : Rat} {a : M9} (h : QZ q Q a1 a3) (k : NearA a Q a1 a3) : ∃ z, PdR a.a22 a.a33 a.a23 a.a32 z ∧ Ap z (O11 Q a1 a3) (17/50000000000000 : Rat) := by
  have bo1 : Bd (1 : Rat) 1 := by unfold Bd; constructor <;> decide +kernel
  obtain ⟨z1, o1, A1⟩ := Ap.mul k.a22 k.a33 (445 : Rat) (1 : Rat) (3/12500000000000 : Rat) (bA22 h) bo1 (by decide +kernel) (by decide +kernel)
  have bd1 : Bd ((A22 Q a3) * (1 : Rat)) (445 : Rat) := (Bd.mul (bA22 h) bo1).mono (by decide +kernel)
  obtain ⟨z2, o2, A2⟩ := Ap.mul k.a23 k.a32 (13/7 : Rat) (67 : Rat) (7/125000000000000 : Rat) (bA23 h) (by0 h) (by decide +kernel) (by decide +kernel)
  have bd2 : Bd ((a3 - 1) * Q.y0) (871/7 : Rat) := (Bd.mul (bA23 h) (by0 h)).mono (by decide +kernel)
  have e : ((A22 Q a3) * (1 : Rat)) - ((a3 - 1) * Q.y0) = O11 Q a1 a3 := by unfold O11 A22; grind
  obtain ⟨z, o, A⟩ := Ap.sub A1 A2 (383 : Rat) (17/50000000000000 : Rat) (by rw [e]; exact bO11 h) (by decide +kernel) (by decide +kernel)
  exact ⟨z, ⟨_, _, o1, o2, o⟩, A.eq e⟩
theorem adj21 {q : Q8} {Q : Quad} {a1 a3 : Rat} {a : M9} (h : QZ q Q a1 a3) (k : NearA a Q a1 a3) : ∃ z, PdR a.a23 a.a31 a.a21 a.a33 z ∧ Ap z (O21 Q a1 a3) (1/6250000000000 : Rat) := by
  have bo1 : Bd (1 : Rat) 1 := by unfold Bd; constructor <;> decide +kernel
  obtain ⟨z1, o1, A1⟩ := Ap.mul k.a23 k.a31 (13/7 : Rat) (67 : Rat) (7/125000000000000 : Rat) (bA23 h) (bx0 h) (by decide +kernel) (by decide +kernel)
  have bd1 : Bd ((a3 - 1) * Q.x0) (871/7 : Rat) := (Bd.mul (bA23 h) (bx0 h)).mono (by decide +kernel)
  obtain ⟨z2, o2, A2⟩ := Ap.mul k.a21 k.a33 (159 : Rat) (1 : Rat) (23/250000000000000 : Rat) (bA21 h) bo1 (by decide +kernel) (by decide +kernel)
  have bd2 : Bd ((A21 Q a3) * (1 : Rat)) (159 : Rat) := (Bd.mul (bA21 h) bo1).mono (by decide +kernel)
  have e : ((a3 - 1) * Q.x0) - ((A21 Q a3) * (1 : Rat)) = O21 Q a1 a3 := by unfold O21 A21; grind
  obtain ⟨z, o, A⟩ := Ap.sub A1 A2 (98 : Rat) (1/6250000000000 : Rat) (by rw [e]; exact bO21 h) (by decide +kernel) (by decide +kernel)
  exact ⟨z, ⟨_, _, o1, o2, o⟩, A.eq e⟩
theorem adj31 {q : Q8} {Q : Quad} {a1 a3 : Rat} {a : M9} (h : QZ q Q a1 a3) (k : NearA a Q a1 a3) : ∃ z, PdR a.a21 a.a32 a.a22 a.a31 z ∧ Ap z (O31 Q a1 a3) (27/1000000000000 : Rat) := by
  have bo1 : Bd (1 : Rat) 1 := by unfold Bd; constructor <;> decide +kernel
  obtain ⟨z1, o1, A1⟩ := Ap.mul k.a21 k.a32 (159 : Rat) (67 : Rat) (31/5000000000000 : Rat) (bA21 h) (by0 h) (by decide +kernel) (by decide +kernel)
  have bd1 : Bd ((A21 Q a3) * Q.y0) (10653 : Rat) := (Bd.mul (bA21 h) (by0 h)).mono (by decide +kernel)
  obtain ⟨z2, o2, A2⟩ := Ap.mul k.a22 k.a31 (445 : Rat) (67 : Rat) (17/1000000000000 : Rat) (bA22 h) (bx0 h) (by decide +kernel) (by decide +kernel)
  have bd2 : Bd ((A22 Q a3) * Q.x0) (29815 : Rat) := (Bd.mul (bA22 h) (bx0 h)).mono (by decide +kernel)
  have e : ((A21 Q a3) * Q.y0) - ((A22 Q a3) * Q.x0) = O31 Q a1 a3 := by unfold O31 A21 A22; grind
  obtain ⟨z, o, A⟩ := Ap.sub A1 A2 (29000 : Rat) (27/1000000000000 : Rat) (by rw [e]; exact bO31 h) (by decide +kernel) (by decide +kernel)
  exact ⟨z, ⟨_, _, o1, o2, o⟩, A.eq e⟩
theorem adj12 {q : Q8} {Q : Quad} {a1 a3 : Rat} {a : M9} (h : QZ q Q a1 a3) (k : NearA a Q a1 a3) : ∃ z, PdR a.a13 a.a32 a.a12 a.a33 z ∧ Ap z (O12 Q a1 a3) (1/6250000000000 : Rat) := by
  have bo1 : Bd (1 : Rat) 1 := by unfold Bd; constructor <;> decide +kernel
  obtain ⟨z1, o1, A1⟩ := Ap.mul k.a13 k.a32 (13/7 : Rat) (67 : Rat) (7/125000000000000 : Rat) (bA13 h) (by0 h) (by decide +kernel) (by decide +kernel)
  have bd1 : Bd ((a1 - 1) * Q.y0) (871/7 : Rat) := (Bd.mul (bA13 h) (by0 h)).mono (by decide +kernel)
  obtain ⟨z2, o2, A2⟩ := Ap.mul k.a12 k.a33 (159 : Rat) (1 : Rat) (23/250000000000000 : Rat) (bA12 h) bo1 (by decide +kernel) (by decide +kernel)
  have bd2 : Bd ((A12 Q a1) * (1 : Rat)) (159 : Rat) := (Bd.mul (bA12 h) bo1).mono (by decide +kernel)
  have e : ((a1 - 1) * Q.y0) - ((A12 Q a1) * (1 : Rat)) = O12 Q a1 a3 := by unfold O12 A12; grind
  obtain ⟨z, o, A⟩ := Ap.sub A1 A2 (98 : Rat) (1/6250000000000 : Rat) (by rw [e]; exact bO12 h) (by decide +kernel) (by decide +kernel)
  exact ⟨z, ⟨_, _, o1, o2, o⟩, A.eq e⟩
theorem adj22 {q : Q8} {Q : Quad} {a1 a3 : Rat} {a : M9} (h : QZ q Q a1 a3) (k : NearA a Q a1 a3) : ∃ z, PdR a.a11 a.a33 a.a13 a.a31 z ∧ Ap z (O22 Q a1 a3) (17/50000000000000 : Rat) := by
  have bo1 : Bd (1 : Rat) 1 := by unfold Bd; constructor <;> decide +kernel
  obtain ⟨z1, o1, A1⟩ := Ap.mul k.a11 k.a33 (445 : Rat) (1 : Rat) (3/12500000000000 : Rat) (bA11 h) bo1 (by decide +kernel) (by decide +kernel)
  have bd1 : Bd ((A11 Q a1) * (1 : Rat)) (445 : Rat) := (Bd.mul (bA11 h) bo1).mono (by decide +kernel)
  obtain ⟨z2, o2, A2⟩ := Ap.mul k.a13 k.a31 (13/7 : Rat) (67 : Rat) (7/125000000000000 : Rat) (bA13 h) (bx0 h) (by decide +kernel) (by decide +kernel)
  have bd2 : Bd ((a1 - 1) * Q.x0) (871/7 : Rat) := (Bd.mul (bA13 h) (bx0 h)).mono (by decide +kernel)
  have e : ((A11 Q a1) * (1 : Rat)) - ((a1 - 1) * Q.x0) = O22 Q a1 a3 := by unfold O22 A11; grind
  obtain ⟨z, o, A⟩ := Ap.sub A1 A2 (383 : Rat) (17/50000000000000 : Rat) (by rw [e]; exact bO22 h) (by decide +kernel) (by decide +kernel)
  exact ⟨z, ⟨_, _, o1, o2, o⟩, A.eq e⟩
theorem adj32 {q : Q8} {Q : Quad} {a1 a3 : Rat} {a : M9} (h : QZ q Q a1 a3) (k : NearA a Q a1 a3) : ∃ z, PdR a.a12 a.a31 a.a11 a.a32 z ∧ Ap z (O32 Q a1 a3) (27/1000000000000 : Rat) := by
  have bo1 : Bd (1 : Rat) 1 := by unfold Bd; constructor <;> decide +kernel
  obtain ⟨z1, o1, A1⟩ := Ap.mul k.a12 k.a31 (159 : Rat) (67 : Rat) (31/5000000000000 : Rat) (bA12 h) (bx0 h) (by decide +kernel) (by decide +kernel)
  have bd1 : Bd ((A12 Q a1) * Q.x0) (10653 : Rat) := (Bd.mul (bA12 h) (bx0 h)).mono (by decide +kernel)
  obtain ⟨z2, o2, A2⟩ := Ap.mul k.a11 k.a32 (445 : Rat) (67 : Rat) (17/1000000000000 : Rat) (bA11 h) (by0 h) (by decide +kernel) (by decide +kernel)
  have bd2 : Bd ((A11 Q a1) * Q.y0) (29815 : Rat) := (Bd.mul (bA11 h) (by0 h)).mono (by decide +kernel)
  have e : ((A12 Q a1) * Q.x0) - ((A11 Q a1) * Q.y0) = O32 Q a1 a3 := by unfold O32 A12 A11; grind
  obtain ⟨z, o, A⟩ := Ap.sub A1 A2 (29000 : Rat) (27/1000000000000 : Rat) (by rw [e]; exact bO32 h) (by decide +kernel) (by decide +kernel)
  exact ⟨z, ⟨_, _, o1, o2, o⟩, A.eq e⟩
theorem adj13 {q : Q8} {Q : Quad} {a1 a3 : Rat} {a : M9} (h : QZ q Q a1 a3) (k : NearA a Q a1 a3) : ∃ z, PdR a.a12 a.a23 a.a13 a.a22 z ∧ Ap z (O13 Q a1 a3) (3/2500000000000 : Rat) := by
  have bo1 : Bd (1 : Rat) 1 := by unfold Bd; constructor <;> decide +kernel
  obtain ⟨z1, o1, A1⟩ := Ap.mul k.a12 k.a23 (159 : Rat) (13/7 : Rat) (27/100000000000000 : Rat) (bA12 h) (bA23 h) (by decide +kernel) (by decide +kernel)
  have bd1 : Bd ((A12 Q a1) * (a3 - 1)) (2067/7 : Rat) := (Bd.mul (bA12 h) (bA23 h)).mono (by decide +kernel)
  obtain ⟨z2, o2, A2⟩ := Ap.mul k.a13 k.a22 (13/7 : Rat) (445 : Rat) (73/100000000000000 : Rat) (bA13 h) (bA22 h) (by decide +kernel) (by decide +kernel)
  have bd2 : Bd ((a1 - 1) * (A22 Q a3)) (5785/7 : Rat) := (Bd.mul (bA13 h) (bA22 h)).mono (by decide +kernel)
  have e : ((A12 Q a1) * (a3 - 1)) - ((a1 - 1) * (A22 Q a3)) = O13 Q a1 a3 := by unfold O13; grind
  obtain ⟨z, o, A⟩ := Ap.sub A1 A2 (1130 : Rat) (3/2500000000000 : Rat) (by rw [e]; exact bO13 h) (by decide +kernel) (by decide +kernel)
  exact ⟨z, ⟨_, _, o1, o2, o⟩, A.eq e⟩
theorem adj23 {q : Q8} {Q : Quad} {a1 a3 : Rat} {a : M9} (h : QZ q Q a1 a3) (k : NearA a Q a1 a3) : ∃ z, PdR a.a13 a.a21 a.a11 a.a23 z ∧ Ap z (O23 Q a1 a3) (3/2500000000000 : Rat) := by
  have bo1 : Bd (1 : Rat) 1 := by unfold Bd; constructor <;> decide +kernel
  obtain ⟨z1, o1, A1⟩ := Ap.mul k.a13 k.a21 (13/7 : Rat) (159 : Rat) (27/100000000000000 : Rat) (bA13 h) (bA21 h) (by decide +kernel) (by decide +kernel)
  have bd1 : Bd ((a1 - 1) * (A21 Q a3)) (2067/7 : Rat) := (Bd.mul (bA13 h) (bA21 h)).mono (by decide +kernel)
  obtain ⟨z2, o2, A2⟩ := Ap.mul k.a11 k.a23 (445 : Rat) (13/7 : Rat) (73/100000000000000 : Rat) (bA11 h) (bA23 h) (by decide +kernel) (by decide +kernel)
  have bd2 : Bd ((A11 Q a1) * (a3 - 1)) (5785/7 : Rat) := (Bd.mul (bA11 h) (bA23 h)).mono (by decide +kernel)
  have e : ((a1 - 1) * (A21 Q a3)) - ((A11 Q a1) * (a3 - 1)) = O23 Q a1 a3 := by unfold O23; grind
  obtain ⟨z, o, A⟩ := Ap.sub A1 A2 (1130 : Rat) (3/2500000000000 : Rat) (by rw [e]; exact bO23 h) (by decide +kernel) (by decide +kernel)
  exact ⟨z, ⟨_, _, o1, o2, o⟩, A.eq e⟩
theorem adj33 {q : Q8} {Q : Quad} {a1 a3 : Rat} {a : M9} (h : QZ q Q a1 a3) (k : NearA a Q a1 a3) : ∃ z, PdR a.a11 a.a22 a.a12 a.a21 z ∧ Ap z (O33 Q a1 a3) (13/50000000000 : Rat) := by
  have bo1 : Bd (1 : Rat) 1 := by unfold Bd; constructor <;> decide +kernel
  obtain ⟨z1, o1, A1⟩ := Ap.mul k.a11 k.a22 (445 : Rat) (445 : Rat) (1/5000000000 : Rat) (bA11 h) (bA22 h) (by decide +kernel) (by decide +kernel)
  have bd1 : Bd ((A11 Q a1) * (A22 Q a3)) (198025 : Rat) := (Bd.mul (bA11 h) (bA22 h)).mono (by decide +kernel)
  obtain ⟨z2, o2, A2⟩ := Ap.mul k.a12 k.a21 (159 : Rat) (159 : Rat) (27/1000000000000 : Rat) (bA12 h) (bA21 h) (by decide +kernel) (by decide +kernel)
  have bd2 : Bd ((A12 Q a1) * (A21 Q a3)) (25281 : Rat) := (Bd.mul (bA12 h) (bA21 h)).mono (by decide +kernel)
  have e : ((A11 Q a1) * (A22 Q a3)) - ((A12 Q a1) * (A21 Q a3)) = O33 Q a1 a3 := by unfold O33; grind
  obtain ⟨z, o, A⟩ := Ap.sub A1 A2 (230000 : Rat) (13/50000000000 : Rat) (by rw [e]; exact bO33 h) (by decide +kernel) (by decide +kernel)
  exact ⟨z, ⟨_, _, o1, o2, o⟩, A.eq e⟩

structure NearO (o : M9) (Q : Quad) (a1 a3 : Rat) : Prop where
  a11 : Ap o.a11 (O11 Q a1 a3) (17/50000000000000 : Rat)
  a21 : Ap o.a21 (O21 Q a1 a3) (1/6250000000000 : Rat)
  a31 : Ap o.a31 (O31 Q a1 a3) (27/1000000000000 : Rat)
  a12 : Ap o.a12 (O12 Q a1 a3) (1/6250000000000 : Rat)
  a22 : Ap o.a22 (O22 Q a1 a3) (17/50000000000000 : Rat)
  a32 : Ap o.a32 (O32 Q a1 a3) (27/1000000000000 : Rat)
  a13 : Ap o.a13 (O13 Q a1 a3) (3/2500000000000 : Rat)
  a23 : Ap o.a23 (O23 Q a1 a3) (3/2500000000000 : Rat)
  a33 : Ap o.a33 (O33 Q a1 a3) (13/50000000000 : Rat)

theorem adj_ap {q : Q8} {Q : Quad} {a1 a3 : Rat} {a : M9} (h : QZ q Q a1 a3) (k : NearA a Q a1 a3) : ∃ o, AdjR a o ∧ NearO o Q a1 a3 := by
  obtain ⟨z11, r11, k11⟩ := adj11 h k
  obtain ⟨z21, r21, k21⟩ := adj21 h k
  obtain ⟨z31, r31, k31⟩ := adj31 h k
  obtain ⟨z12, r12, k12⟩ := adj12 h k
  obtain ⟨z22, r22, k22⟩ := adj22 h k
  obtain ⟨z32, r32, k32⟩ := adj32 h k
  obtain ⟨z13, r13, k13⟩ := adj13 h k
  obtain ⟨z23, r23, k23⟩ := adj23 h k
  obtain ⟨z33, r33, k33⟩ := adj33 h k
  exact ⟨⟨z11, z21, z31, z12, z22, z32, z13, z23, z33⟩, ⟨r11, r21, r31, r12, r22, r32, r13, r23, r33⟩, ⟨k11, k21, k31, k12, k22, k32, k13, k23, k33⟩⟩

theorem tim11 {q p : Q8} {Q P : Quad} {a1 a3 b1 b3 : Rat} {o b : M9} (h : QZ q Q a1 a3) (g : QZ p P b1 b3) (k : NearO o Q a1 a3) (j : NearA b P b1 b3) : ∃ z, DotR b.a11 o.a11 b.a21 o.a12 b.a31 o.a13 z ∧ Ap z (H11 Q P a1 a3 b1 b3) (43/100000000000 : Rat) ∧ Bd (H11 Q P a1 a3 b1 b3) (261727 : Rat) := by
  have bo1 : Bd (1 : Rat) 1 := by unfold Bd; constructor <;> decide +kernel
  obtain ⟨z1, o1, A1⟩ := Ap.mul j.a11 k.a11 (445 : Rat) (383 : Rat) (1/4000000000 : Rat) (bA11 g) (bO11 h) (by decide +kernel) (by decide +kernel)
  have bd1 : Bd ((A11 P b1) * (O11 Q a1 a3)) (170435 : Rat) := (Bd.mul (bA11 g) (bO11 h)).mono (by decide +kernel)
  obtain ⟨z2, o2, A2⟩ := Ap.mul j.a21 k.a12 (159 : Rat) (98 : Rat) (7/200000000000 : Rat) (bA21 g) (bO12 h) (by decide +kernel) (by decide +kernel)
  have bd2 : Bd ((A21 P b3) * (O12 Q a1 a3)) (15582 : Rat) := (Bd.mul (bA21 g) (bO12 h)).mono (by decide +kernel)
  obtain ⟨z3, o3, A3⟩ := Ap.add A1 A2 (186017 : Rat) (31/100000000000 : Rat) ((Bd.add bd1 bd2).mono (by decide +kernel)) (by decide +kernel) (by decide +kernel)
  have bd3 : Bd (((A11 P b1) * (O11 Q a1 a3)) + ((A21 P b3) * (O12 Q a1 a3))) (186017 : Rat) := ((Bd.add bd1 bd2).mono (by decide +kernel))
  obtain ⟨z4, o4, A4⟩ := Ap.mul j.a31 k.a13 (67 : Rat) (1130 : Rat) (89/1000000000000 : Rat) (bx0 g) (bO13 h) (by decide +kernel) (by decide +kernel)
  have bd4 : Bd (P.x0 * (O13 Q a1 a3)) (75710 : Rat) := (Bd.mul (bx0 g) (bO13 h)).mono (by decide +kernel)
  obtain ⟨z5, o5, A5⟩ := Ap.add A3 A4 (261727 : Rat) (43/100000000000 : Rat) ((Bd.add bd3 bd4).mono (by decide +kernel)) (by decide +kernel) (by decide +kernel)
  have bd5 : Bd ((((A11 P b1) * (O11 Q a1 a3)) + ((A21 P b3) * (O12 Q a1 a3))) + (P.x0 * (O13 Q a1 a3))) (261727 : Rat) := ((Bd.add bd3 bd4).mono (by decide +kernel))
  have e : ((((A11 P b1) * (O11 Q a1 a3)) + ((A21 P b3) * (O12 Q a1 a3))) + (P.x0 * (O13 Q a1 a3))) = H11 Q P a1 a3 b1 b3 := by unfold H11; rfl
  exact ⟨_, ⟨_, _, _, _, o1, o2, o3, o4, o5⟩, A5.eq e, e ▸ bd5⟩
theorem tim21 {q p : Q8} {Q P : Quad} {a1 a3 b1 b3 : Rat} {o b : M9} (h : QZ q Q a1 a3) (g : QZ p P b1 b3) (k : NearO o Q a1 a3) (j : NearA b P b1 b3) : ∃ z, DotR b.a11 o.a21 b.a21 o.a22 b.a31 o.a23 z ∧ Ap z (H21 Q P a1 a3 b1 b3) (31/100000000000 : Rat) ∧ Bd (H21 Q P a1 a3 b1 b3) (180217 : Rat) := by
  have bo1 : Bd (1 : Rat) 1 := by unfold Bd; constructor <;> decide +kernel
  obtain ⟨z1, o1, A1⟩ := Ap.mul j.a11 k.a21 (445 : Rat) (98 : Rat) (19/200000000000 : Rat) (bA11 g) (bO21 h) (by decide +kernel) (by decide +kernel)
  have bd1 : Bd ((A11 P b1) * (O21 Q a1 a3)) (43610 : Rat) := (Bd.mul (bA11 g) (bO21 h)).mono (by decide +kernel)
  obtain ⟨z2, o2, A2⟩ := Ap.mul j.a21 k.a22 (159 : Rat) (383 : Rat) (9/100000000000 : Rat) (bA21 g) (bO22 h) (by decide +kernel) (by decide +kernel)
  have bd2 : Bd ((A21 P b3) * (O22 Q a1 a3)) (60897 : Rat) := (Bd.mul (bA21 g) (bO22 h)).mono (by decide +kernel)
  obtain ⟨z3, o3, A3⟩ := Ap.add A1 A2 (104507 : Rat) (1/5000000000 : Rat) ((Bd.add bd1 bd2).mono (by decide +kernel)) (by decide +kernel) (by decide +kernel)
  have bd3 : Bd (((A11 P b1) * (O21 Q a1 a3)) + ((A21 P b3) * (O22 Q a1 a3))) (104507 : Rat) := ((Bd.add bd1 bd2).mono (by decide +kernel))
  obtain ⟨z4, o4, A4⟩ := Ap.mul j.a31 k.a23 (67 : Rat) (1130 : Rat) (89/1000000000000 : Rat) (bx0 g) (bO23 h) (by decide +kernel) (by decide +kernel)
  have bd4 : Bd (P.x0 * (O23 Q a1 a3)) (75710 : Rat) := (Bd.mul (bx0 g) (bO23 h)).mono (by decide +kernel)
  obtain ⟨z5, o5, A5⟩ := Ap.add A3 A4 (180217 : Rat) (31/100000000000 : Rat) ((Bd.add bd3 bd4).mono (by decide +kernel)) (by decide +kernel) (by decide +kernel)
  have bd5 : Bd ((((A11 P b1) * (O21 Q a1 a3)) + ((A21 P b3) * (O22 Q a1 a3))) + (P.x0 * (O23 Q a1 a3))) (180217 : Rat) := ((Bd.add bd3 bd4).mono (by decide +kernel))
  have e : ((((A11 P b1) * (O21 Q a1 a3)) + ((A21 P b3) * (O22 Q a1 a3))) + (P.x0 * (O23 Q a1 a3))) = H21 Q P a1 a3 b1 b3 := by unfold H21; rfl
  exact ⟨_, ⟨_, _, _, _, o1, o2, o3, o4, o5⟩, A5.eq e, e ▸ bd5⟩
theorem tim31 {q p : Q8} {Q P : Quad} {a1 a3 b1 b3 : Rat} {o b : M9} (h : QZ q Q a1 a3) (g : QZ p P b1 b3) (k : NearO o Q a1 a3) (j : NearA b P b1 b3) : ∃ z, DotR b.a11 o.a31 b.a21 o.a32 b.a31 o.a33 z ∧ Ap z (H31 Q P a1 a3 b1 b3) (13/250000000 : Rat) ∧ Bd (H31 Q P a1 a3 b1 b3) (32926000 : Rat) := by
  have bo1 : Bd (1 : Rat) 1 := by unfold Bd; constructor <;> decide +kernel
  obtain ⟨z1, o1, A1⟩ := Ap.mul j.a11 k.a31 (445 : Rat) (29000 : Rat) (19/1000000000 : Rat) (bA11 g) (bO31 h) (by decide +kernel) (by decide +kernel)
  have bd1 : Bd ((A11 P b1) * (O31 Q a1 a3)) (12905000 : Rat) := (Bd.mul (bA11 g) (bO31 h)).mono (by decide +kernel)
  obtain ⟨z2, o2, A2⟩ := Ap.mul j.a21 k.a32 (159 : Rat) (29000 : Rat) (7/1000000000 : Rat) (bA21 g) (bO32 h) (by decide +kernel) (by decide +kernel)
  have bd2 : Bd ((A21 P b3) * (O32 Q a1 a3)) (4611000 : Rat) := (Bd.mul (bA21 g) (bO32 h)).mono (by decide +kernel)
  obtain ⟨z3, o3, A3⟩ := Ap.add A1 A2 (17516000 : Rat) (7/250000000 : Rat) ((Bd.add bd1 bd2).mono (by decide +kernel)) (by decide +kernel) (by decide +kernel)
  have bd3 : Bd (((A11 P b1) * (O31 Q a1 a3)) + ((A21 P b3) * (O32 Q a1 a3))) (17516000 : Rat) := ((Bd.add bd1 bd2).mono (by decide +kernel))
  obtain ⟨z4, o4, A4⟩ := Ap.mul j.a31 k.a33 (67 : Rat) (230000 : Rat) (1/50000000 : Rat) (bx0 g) (bO33 h) (by decide +kernel) (by decide +kernel)
  have bd4 : Bd (P.x0 * (O33 Q a1 a3)) (15410000 : Rat) := (Bd.mul (bx0 g) (bO33 h)).mono (by decide +kernel)
  obtain ⟨z5, o5, A5⟩ := Ap.add A3 A4 (32926000 : Rat) (13/250000000 : Rat) ((Bd.add bd3 bd4).mono (by decide +kernel)) (by decide +kernel) (by decide +kernel)
  have bd5 : Bd ((((A11 P b1) * (O31 Q a1 a3)) + ((A21 P b3) * (O32 Q a1 a3))) + (P.x0 * (O33 Q a1 a3))) (32926000 : Rat) := ((Bd.add bd3 bd4).mono (by decide +kernel))
  have e : ((((A11 P b1) * (O31 Q a1 a3)) + ((A21 P b3) * (O32 Q a1 a3))) + (P.x0 * (O33 Q a1 a3))) = H31 Q P a1 a3 b1 b3 := by unfold H31; rfl
  exact ⟨_, ⟨_, _, _, _, o1, o2, o3, o4, o5⟩, A5.eq e, e ▸ bd5⟩
theorem tim12 {q p : Q8} {Q P : Quad} {a1 a3 b1 b3 : Rat} {o b : M9} (h : QZ q Q a1 a3) (g : QZ p P b1 b3) (k : NearO o Q a1 a3) (j : NearA b P b1 b3) : ∃ z, DotR b.a12 o.a11 b.a22 o.a12 b.a32 o.a13 z ∧ Ap z (H12 Q P a1 a3 b1 b3) (31/100000000000 : Rat) ∧ Bd (H12 Q P a1 a3 b1 b3) (180217 : Rat) := by
  have bo1 : Bd (1 : Rat) 1 := by unfold Bd; constructor <;> decide +kernel
  obtain ⟨z1, o1, A1⟩ := Ap.mul j.a12 k.a11 (159 : Rat) (383 : Rat) (9/100000000000 : Rat) (bA12 g) (bO11 h) (by decide +kernel) (by decide +kernel)
  have bd1 : Bd ((A12 P b1) * (O11 Q a1 a3)) (60897 : Rat) := (Bd.mul (bA12 g) (bO11 h)).mono (by decide +kernel)
  obtain ⟨z2, o2, A2⟩ := Ap.mul j.a22 k.a12 (445 : Rat) (98 : Rat) (19/200000000000 : Rat) (bA22 g) (bO12 h) (by decide +kernel) (by decide +kernel)
  have bd2 : Bd ((A22 P b3) * (O12 Q a1 a3)) (43610 : Rat) := (Bd.mul (bA22 g) (bO12 h)).mono (by decide +kernel)
  obtain ⟨z3, o3, A3⟩ := Ap.add A1 A2 (104507 : Rat) (1/5000000000 : Rat) ((Bd.add bd1 bd2).mono (by decide +kernel)) (by decide +kernel) (by decide +kernel)
  have bd3 : Bd (((A12 P b1) * (O11 Q a1 a3)) + ((A22 P b3) * (O12 Q a1 a3))) (104507 : Rat) := ((Bd.add bd1 bd2).mono (by decide +kernel))
  obtain ⟨z4, o4, A4⟩ := Ap.mul j.a32 k.a13 (67 : Rat) (1130 : Rat) (89/1000000000000 : Rat) (by0 g) (bO13 h) (by decide +kernel) (by decide +kernel)
  have bd4 : Bd (P.y0 * (O13 Q a1 a3)) (75710 : Rat) := (Bd.mul (by0 g) (bO13 h)).mono (by decide +kernel)
  obtain ⟨z5, o5, A5⟩ := Ap.add A3 A4 (180217 : Rat) (31/100000000000 : Rat) ((Bd.add bd3 bd4).mono (by decide +kernel)) (by decide +kernel) (by decide +kernel)
  have bd5 : Bd ((((A12 P b1) * (O11 Q a1 a3)) + ((A22 P b3) * (O12 Q a1 a3))) + (P.y0 * (O13 Q a1 a3))) (180217 : Rat) := ((Bd.add bd3 bd4).mono (by decide +kernel))
  have e : ((((A12 P b1) * (O11 Q a1 a3)) + ((A22 P b3) * (O12 Q a1 a3))) + (P.y0 * (O13 Q a1 a3))) = H12 Q P a1 a3 b1 b3 := by unfold H12; rfl
  exact ⟨_, ⟨_, _, _, _, o1, o2, o3, o4, o5⟩, A5.eq e, e ▸ bd5⟩
theorem tim22 {q p : Q8} {Q P : Quad} {a1 a3 b1 b3 : Rat} {o b : M9} (h : QZ q Q a1 a3) (g : QZ p P b1 b3) (k : NearO o Q a1 a3) (j : NearA b P b1 b3) : ∃ z, DotR b.a12 o.a21 b.a22 o.a22 b.a32 o.a23 z ∧ Ap z (H22 Q P a1 a3 b1 b3) (43/100000000000 : Rat) ∧ Bd (H22 Q P a1 a3 b1 b3) (261727 : Rat) := by
  have bo1 : Bd (1 : Rat) 1 := by unfold Bd; constructor <;> decide +kernel
  obtain ⟨z1, o1, A1⟩ := Ap.mul j.a12 k.a21 (159 : Rat) (98 : Rat) (7/200000000000 : Rat) (bA12 g) (bO21 h) (by decide +kernel) (by decide +kernel)
  have bd1 : Bd ((A12 P b1) * (O21 Q a1 a3)) (15582 : Rat) := (Bd.mul (bA12 g) (bO21 h)).mono (by decide +kernel)
  obtain ⟨z2, o2, A2⟩ := Ap.mul j.a22 k.a22 (445 : Rat) (383 : Rat) (1/4000000000 : Rat) (bA22 g) (bO22 h) (by decide +kernel) (by decide +kernel)
  have bd2 : Bd ((A22 P b3) * (O22 Q a1 a3)) (170435 : Rat) := (Bd.mul (bA22 g) (bO22 h)).mono (by decide +kernel)
  obtain ⟨z3, o3, A3⟩ := Ap.add A1 A2 (186017 : Rat) (31/100000000000 : Rat) ((Bd.add bd1 bd2).mono (by decide +kernel)) (by decide +kernel) (by decide +kernel)
  have bd3 : Bd (((A12 P b1) * (O21 Q a1 a3)) + ((A22 P b3) * (O22 Q a1 a3))) (186017 : Rat) := ((Bd.add bd1 bd2).mono (by decide +kernel))
  obtain ⟨z4, o4, A4⟩ := Ap.mul j.a32 k.a23 (67 : Rat) (1130 : Rat) (89/1000000000000 : Rat) (by0 g) (bO23 h) (by decide +kernel) (by decide +kernel)
  have bd4 : Bd (P.y0 * (O23 Q a1 a3)) (75710 : Rat) := (Bd.mul (by0 g) (bO23 h)).mono (by decide +kernel)
  obtain ⟨z5, o5, A5⟩ := Ap.add A3 A4 (261727 : Rat) (43/100000000000 : Rat) ((Bd.add bd3 bd4).mono (by decide +kernel)) (by decide +kernel) (by decide +kernel)
  have bd5 : Bd ((((A12 P b1) * (O21 Q a1 a3)) + ((A22 P b3) * (O22 Q a1 a3))) + (P.y0 * (O23 Q a1 a3))) (261727 : Rat) := ((Bd.add bd3 bd4).mono (by decide +kernel))
  have e : ((((A12 P b1) * (O21 Q a1 a3)) + ((A22 P b3) * (O22 Q a1 a3))) + (P.y0 * (O23 Q a1 a3))) = H22 Q P a1 a3 b1 b3 := by unfold H22; rfl
  exact ⟨_, ⟨_, _, _, _, o1, o2, o3, o4, o5⟩, A5.eq e, e ▸ bd5⟩
theorem tim32 {q p : Q8} {Q P : Quad} {a1 a3 b1 b3 : Rat} {o b : M9} (h : QZ q Q a1 a3) (g : QZ p P b1 b3) (k : NearO o Q a1 a3) (j : NearA b P b1 b3) : ∃ z, DotR b.a12 o.a31 b.a22 o.a32 b.a32 o.a33 z ∧ Ap z (H32 Q P a1 a3 b1 b3) (13/250000000 : Rat) ∧ Bd (H32 Q P a1 a3 b1 b3) (32926000 : Rat) := by
  have bo1 : Bd (1 : Rat) 1 := by unfold Bd; constructor <;> decide +kernel
  obtain ⟨z1, o1, A1⟩ := Ap.mul j.a12 k.a31 (159 : Rat) (29000 : Rat) (7/1000000000 : Rat) (bA12 g) (bO31 h) (by decide +kernel) (by decide +kernel)
  have bd1 : Bd ((A12 P b1) * (O31 Q a1 a3)) (4611000 : Rat) := (Bd.mul (bA12 g) (bO31 h)).mono (by decide +kernel)
  obtain ⟨z2, o2, A2⟩ := Ap.mul j.a22 k.a32 (445 : Rat) (29000 : Rat) (19/1000000000 : Rat) (bA22 g) (bO32 h) (by decide +kernel) (by decide +kernel)
  have bd2 : Bd ((A22 P b3) * (O32 Q a1 a3)) (12905000 : Rat) := (Bd.mul (bA22 g) (bO32 h)).mono (by decide +kernel)
  obtain ⟨z3, o3, A3⟩ := Ap.add A1 A2 (17516000 : Rat) (7/250000000 : Rat) ((Bd.add bd1 bd2).mono (by decide +kernel)) (by decide +kernel) (by decide +kernel)
  have bd3 : Bd (((A12 P b1) * (O31 Q a1 a3)) + ((A22 P b3) * (O32 Q a1 a3))) (17516000 : Rat) := ((Bd.add bd1 bd2).mono (by decide +kernel))
  obtain ⟨z4, o4, A4⟩ := Ap.mul j.a32 k.a33 (67 : Rat) (230000 : Rat) (1/50000000 : Rat) (by0 g) (bO33 h) (by decide +kernel) (by decide +kernel)
  have bd4 : Bd (P.y0 * (O33 Q a1 a3)) (15410000 : Rat) := (Bd.mul (by0 g) (bO33 h)).mono (by decide +kernel)
  obtain ⟨z5, o5, A5⟩ := Ap.add A3 A4 (32926000 : Rat) (13/250000000 : Rat) ((Bd.add bd3 bd4).mono (by decide +kernel)) (by decide +kernel) (by decide +kernel)
  have bd5 : Bd ((((A12 P b1) * (O31 Q a1 a3)) + ((A22 P b3) * (O32 Q a1 a3))) + (P.y0 * (O33 Q a1 a3))) (32926000 : Rat) := ((Bd.add bd3 bd4).mono (by decide +kernel))
  have e : ((((A12 P b1) * (O31 Q a1 a3)) + ((A22 P b3) * (O32 Q a1 a3))) + (P.y0 * (O33 Q a1 a3))) = H32 Q P a1 a3 b1 b3 := by unfold H32; rfl
  exact ⟨_, ⟨_, _, _, _, o1, o2, o3, o4, o5⟩, A5.eq e, e ▸ bd5⟩
theorem tim13 {q p : Q8} {Q P : Quad} {a1 a3 b1 b3 : Rat} {o b : M9} (h : QZ q Q a1 a3) (g : QZ p P b1 b3) (k : NearO o Q a1 a3) (j : NearA b P b1 b3) : ∃ z, DotR b.a13 o.a11 b.a23 o.a12 b.a33 o.a13 z ∧ Ap z (H13 Q a1 a3 b1 b3) (1/312500000000 : Rat) ∧ Bd (H13 Q a1 a3 b1 b3) (14163/7 : Rat) := by
  have bo1 : Bd (1 : Rat) 1 := by unfold Bd; constructor <;> decide +kernel
  obtain ⟨z1, o1, A1⟩ := Ap.mul j.a13 k.a11 (13/7 : Rat) (383 : Rat) (19/20000000000000 : Rat) (bA13 g) (bO11 h) (by decide +kernel) (by decide +kernel)
  have bd1 : Bd ((b1 - 1) * (O11 Q a1 a3)) (4979/7 : Rat) := (Bd.mul (bA13 g) (bO11 h)).mono (by decide +kernel)
  obtain ⟨z2, o2, A2⟩ := Ap.mul j.a23 k.a12 (13/7 : Rat) (98 : Rat) (19/50000000000000 : Rat) (bA23 g) (bO12 h) (by decide +kernel) (by decide +kernel)
  have bd2 : Bd ((b3 - 1) * (O12 Q a1 a3)) (182 : Rat) := (Bd.mul (bA23 g) (bO12 h)).mono (by decide +kernel)
  obtain ⟨z3, o3, A3⟩ := Ap.add A1 A2 (6253/7 : Rat) (3/2000000000000 : Rat) ((Bd.add bd1 bd2).mono (by decide +kernel)) (by decide +kernel) (by decide +kernel)
  have bd3 : Bd (((b1 - 1) * (O11 Q a1 a3)) + ((b3 - 1) * (O12 Q a1 a3))) (6253/7 : Rat) := ((Bd.add bd1 bd2).mono (by decide +kernel))
  obtain ⟨z4, o4, A4⟩ := Ap.mul j.a33 k.a13 (1 : Rat) (1130 : Rat) (7/5000000000000 : Rat) bo1 (bO13 h) (by decide +kernel) (by decide +kernel)
  have bd4 : Bd ((1 : Rat) * (O13 Q a1 a3)) (1130 : Rat) := (Bd.mul bo1 (bO13 h)).mono (by decide +kernel)
  obtain ⟨z5, o5, A5⟩ := Ap.add A3 A4 (14163/7 : Rat) (1/312500000000 : Rat) ((Bd.add bd3 bd4).mono (by decide +kernel)) (by decide +kernel) (by decide +kernel)
  have bd5 : Bd ((((b1 - 1) * (O11 Q a1 a3)) + ((b3 - 1) * (O12 Q a1 a3))) + ((1 : Rat) * (O13 Q a1 a3))) (14163/7 : Rat) := ((Bd.add bd3 bd4).mono (by decide +kernel))
  have e : ((((b1 - 1) * (O11 Q a1 a3)) + ((b3 - 1) * (O12 Q a1 a3))) + ((1 : Rat) * (O13 Q a1 a3))) = H13 Q a1 a3 b1 b3 := by unfold H13; rfl
  exact ⟨_, ⟨_, _, _, _, o1, o2, o3, o4, o5⟩, A5.eq e, e ▸ bd5⟩
theorem tim23 {q p : Q8} {Q P : Quad} {a1 a3 b1 b3 : Rat} {o b : M9} (h : QZ q Q a1 a3) (g : QZ p P b1 b3) (k : NearO o Q a1 a3) (j : NearA b P b1 b3) : ∃ z, DotR b.a13 o.a21 b.a23 o.a22 b.a33 o.a23 z ∧ Ap z (H23 Q a1 a3 b1 b3) (1/312500000000 : Rat) ∧ Bd (H23 Q a1 a3 b1 b3) (14163/7 : Rat) := by
  have bo1 : Bd (1 : Rat) 1 := by unfold Bd; constructor <;> decide +kernel
  obtain ⟨z1, o1, A1⟩ := Ap.mul j.a13 k.a21 (13/7 : Rat) (98 : Rat) (19/50000000000000 : Rat) (bA13 g) (bO21 h) (by decide +kernel) (by decide +kernel)
  have bd1 : Bd ((b1 - 1) * (O21 Q a1 a3)) (182 : Rat) := (Bd.mul (bA13 g) (bO21 h)).mono (by decide +kernel)
  obtain ⟨z2, o2, A2⟩ := Ap.mul j.a23 k.a22 (13/7 : Rat) (383 : Rat) (19/20000000000000 : Rat) (bA23 g) (bO22 h) (by decide +kernel) (by decide +kernel)
  have bd2 : Bd ((b3 - 1) * (O22 Q a1 a3)) (4979/7 : Rat) := (Bd.mul (bA23 g) (bO22 h)).mono (by decide +kernel)
  obtain ⟨z3, o3, A3⟩ := Ap.add A1 A2 (6253/7 : Rat) (3/2000000000000 : Rat) ((Bd.add bd1 bd2).mono (by decide +kernel)) (by decide +kernel) (by decide +kernel)
  have bd3 : Bd (((b1 - 1) * (O21 Q a1 a3)) + ((b3 - 1) * (O22 Q a1 a3))) (6253/7 : Rat) := ((Bd.add bd1 bd2).mono (by decide +kernel))
  obtain ⟨z4, o4, A4⟩ := Ap.mul j.a33 k.a23 (1 : Rat) (1130 : Rat) (7/5000000000000 : Rat) bo1 (bO23 h) (by decide +kernel) (by decide +kernel)
  have bd4 : Bd ((1 : Rat) * (O23 Q a1 a3)) (1130 : Rat) := (Bd.mul bo1 (bO23 h)).mono (by decide +kernel)
  obtain ⟨z5, o5, A5⟩ := Ap.add A3 A4 (14163/7 : Rat) (1/312500000000 : Rat) ((Bd.add bd3 bd4).mono (by decide +kernel)) (by decide +kernel) (by decide +kernel)
  have bd5 : Bd ((((b1 - 1) * (O21 Q a1 a3)) + ((b3 - 1) * (O22 Q a1 a3))) + ((1 : Rat) * (O23 Q a1 a3))) (14163/7 : Rat) := ((Bd.add bd3 bd4).mono (by decide +kernel))
  have e : ((((b1 - 1) * (O21 Q a1 a3)) + ((b3 - 1) * (O22 Q a1 a3))) + ((1 : Rat) * (O23 Q a1 a3))) = H23 Q a1 a3 b1 b3 := by unfold H23; rfl
  exact ⟨_, ⟨_, _, _, _, o1, o2, o3, o4, o5⟩, A5.eq e, e ▸ bd5⟩
theorem tim33 {q p : Q8} {Q P : Quad} {a1 a3 b1 b3 : Rat} {o b : M9} (h : QZ q Q a1 a3) (g : QZ p P b1 b3) (k : NearO o Q a1 a3) (j : NearA b P b1 b3) : ∃ z, DotR b.a13 o.a31 b.a23 o.a32 b.a33 o.a33 z ∧ Ap z (H33 Q a1 a3 b1 b3) (1/2000000000 : Rat) ∧ Bd (H33 Q a1 a3 b1 b3) (2364000/7 : Rat) := by
  have bo1 : Bd (1 : Rat) 1 := by unfold Bd; constructor <;> decide +kernel
  obtain ⟨z1, o1, A1⟩ := Ap.mul j.a13 k.a31 (13/7 : Rat) (29000 : Rat) (3/40000000000 : Rat) (bA13 g) (bO31 h) (by decide +kernel) (by decide +kernel)
  have bd1 : Bd ((b1 - 1) * (O31 Q a1 a3)) (377000/7 : Rat) := (Bd.mul (bA13 g) (bO31 h)).mono (by decide +kernel)
  obtain ⟨z2, o2, A2⟩ := Ap.mul j.a23 k.a32 (13/7 : Rat) (29000 : Rat) (3/40000000000 : Rat) (bA23 g) (bO32 h) (by decide +kernel) (by decide +kernel)
  have bd2 : Bd ((b3 - 1) * (O32 Q a1 a3)) (377000/7 : Rat) := (Bd.mul (bA23 g) (bO32 h)).mono (by decide +kernel)
  obtain ⟨z3, o3, A3⟩ := Ap.add A1 A2 (754000/7 : Rat) (17/100000000000 : Rat) ((Bd.add bd1 bd2).mono (by decide +kernel)) (by decide +kernel) (by decide +kernel)
  have bd3 : Bd (((b1 - 1) * (O31 Q a1 a3)) + ((b3 - 1) * (O32 Q a1 a3))) (754000/7 : Rat) := ((Bd.add bd1 bd2).mono (by decide +kernel))
  obtain ⟨z4, o4, A4⟩ := Ap.mul j.a33 k.a33 (1 : Rat) (230000 : Rat) (29/100000000000 : Rat) bo1 (bO33 h) (by decide +kernel) (by decide +kernel)
  have bd4 : Bd ((1 : Rat) * (O33 Q a1 a3)) (230000 : Rat) := (Bd.mul bo1 (bO33 h)).mono (by decide +kernel)
  obtain ⟨z5, o5, A5⟩ := Ap.add A3 A4 (2364000/7 : Rat) (1/2000000000 : Rat) ((Bd.add bd3 bd4).mono (by decide +kernel)) (by decide +kernel) (by decide +kernel)
  have bd5 : Bd ((((b1 - 1) * (O31 Q a1 a3)) + ((b3 - 1) * (O32 Q a1 a3))) + ((1 : Rat) * (O33 Q a1 a3))) (2364000/7 : Rat) := ((Bd.add bd3 bd4).mono (by decide +kernel))
  have e : ((((b1 - 1) * (O31 Q a1 a3)) + ((b3 - 1) * (O32 Q a1 a3))) + ((1 : Rat) * (O33 Q a1 a3))) = H33 Q a1 a3 b1 b3 := by unfold H33; rfl
  exact ⟨_, ⟨_, _, _, _, o1, o2, o3, o4, o5⟩, A5.eq e, e ▸ bd5⟩

structure NearH (r : M9) (Q P : Quad) (a1 a3 b1 b3 : Rat) : Prop where
  a11 : Ap r.a11 (H11 Q P a1 a3 b1 b3) (43/100000000000 : Rat)
  a21 : Ap r.a21 (H21 Q P a1 a3 b1 b3) (31/100000000000 : Rat)
  a31 : Ap r.a31 (H31 Q P a1 a3 b1 b3) (13/250000000 : Rat)
  a12 : Ap r.a12 (H12 Q P a1 a3 b1 b3) (31/100000000000 : Rat)
  a22 : Ap r.a22 (H22 Q P a1 a3 b1 b3) (43/100000000000 : Rat)
  a32 : Ap r.a32 (H32 Q P a1 a3 b1 b3) (13/250000000 : Rat)
  a13 : Ap r.a13 (H13 Q a1 a3 b1 b3) (1/312500000000 : Rat)
  a23 : Ap r.a23 (H23 Q a1 a3 b1 b3) (1/312500000000 : Rat)
  a33 : Ap r.a33 (H33 Q a1 a3 b1 b3) (1/2000000000 : Rat)
  b11 : Bd (H11 Q P a1 a3 b1 b3) (261727 : Rat)
  b21 : Bd (H21 Q P a1 a3 b1 b3) (180217 : Rat)
  b31 : Bd (H31 Q P a1 a3 b1 b3) (32926000 : Rat)
  b12 : Bd (H12 Q P a1 a3 b1 b3) (180217 : Rat)
  b22 : Bd (H22 Q P a1 a3 b1 b3) (261727 : Rat)
  b32 : Bd (H32 Q P a1 a3 b1 b3) (32926000 : Rat)
  b13 : Bd (H13 Q a1 a3 b1 b3) (14163/7 : Rat)
  b23 : Bd (H23 Q a1 a3 b1 b3) (14163/7 : Rat)
  b33 : Bd (H33 Q a1 a3 b1 b3) (2364000/7 : Rat)

theorem times_ap {q p : Q8} {Q P : Quad} {a1 a3 b1 b3 : Rat} {o b : M9} (h : QZ q Q a1 a3) (g : QZ p P b1 b3) (k : NearO o Q a1 a3) (j : NearA b P b1 b3) : ∃ r, TimesR b o r ∧ NearH r Q P a1 a3 b1 b3 := by
  obtain ⟨z11, r11, k11, l11⟩ := tim11 h g k j
  obtain ⟨z21, r21, k21, l21⟩ := tim21 h g k j
  obtain ⟨z31, r31, k31, l31⟩ := tim31 h g k j
  obtain ⟨z12, r12, k12, l12⟩ := tim12 h g k j
  obtain ⟨z22, r22, k22, l22⟩ := tim22 h g k j
  obtain ⟨z32, r32, k32, l32⟩ := tim32 h g k j
  obtain ⟨z13, r13, k13, l13⟩ := tim13 h g k j
  obtain ⟨z23, r23, k23, l23⟩ := tim23 h g k j
  obtain ⟨z33, r33, k33, l33⟩ := tim33 h g k j
  exact ⟨⟨z11, z21, z31, z12, z22, z32, z13, z23, z33⟩, ⟨r11, r21, r31, r12, r22, r32, r13, r23, r33⟩, ⟨k11, k21, k31, k12, k22, k32, k13, k23, k33, l11, l21, l31, l12, l22, l32, l13, l23, l33⟩⟩

theorem ptDD {Q P : Quad} {a1 a3 b1 b3 : Rat} {r : M9} {x y : Nat} (k : NearH r Q P a1 a3 b1 b3) (hx : Fl.fin x) (hy : Fl.fin y) (bx : Bd (val x) 168) (bY : Bd (val y) 168) : ∃ z, Dot2R r.a13 x r.a23 y r.a33 z ∧ Ap z (DD Q a1 a3 b1 b3 (val x) (val y)) (1/500000000 : Rat) := by
  obtain ⟨z1, o1, A1⟩ := Ap.mul k.a13 (Ap.self hx) (14163/7 : Rat) (168 : Rat) (29/50000000000 : Rat) k.b13 bx (by decide +kernel) (by decide +kernel)
  have bd1 : Bd ((H13 Q a1 a3 b1 b3) * (val x)) (339912 : Rat) := (Bd.mul k.b13 bx).mono (by decide +kernel)
  obtain ⟨z2, o2, A2⟩ := Ap.mul k.a23 (Ap.self hy) (14163/7 : Rat) (168 : Rat) (29/50000000000 : Rat) k.b23 bY (by decide +kernel) (by decide +kernel)
  have bd2 : Bd ((H23 Q a1 a3 b1 b3) * (val y)) (339912 : Rat) := (Bd.mul k.b23 bY).mono (by decide +kernel)
  obtain ⟨z3, o3, A3⟩ := Ap.add A1 A2 (679824 : Rat) (13/10000000000 : Rat) ((Bd.add bd1 bd2).mono (by decide +kernel)) (by decide +kernel) (by decide +kernel)
  have bd3 : Bd (((H13 Q a1 a3 b1 b3) * (val x)) + ((H23 Q a1 a3 b1 b3) * (val y))) (679824 : Rat) := ((Bd.add bd1 bd2).mono (by decide +kernel))
  obtain ⟨z4, o4, A4⟩ := Ap.add A3 k.a33 (7122768/7 : Rat) (1/500000000 : Rat) ((Bd.add bd3 k.b33).mono (by decide +kernel)) (by decide +kernel) (by decide +kernel)
  have bd4 : Bd ((((H13 Q a1 a3 b1 b3) * (val x)) + ((H23 Q a1 a3 b1 b3) * (val y))) + (H33 Q a1 a3 b1 b3)) (7122768/7 : Rat) := ((Bd.add bd3 k.b33).mono (by decide +kernel))
  have e : ((((H13 Q a1 a3 b1 b3) * (val x)) + ((H23 Q a1 a3 b1 b3) * (val y))) + (H33 Q a1 a3 b1 b3)) = DD Q a1 a3 b1 b3 (val x) (val y) := by unfold DD; rfl
  exact ⟨_, ⟨_, _, _, o1, o2, o3, o4⟩, A4.eq e⟩
theorem ptNX {Q P : Quad} {a1 a3 b1 b3 : Rat} {r : M9} {x y : Nat} (k : NearH r Q P a1 a3 b1 b3) (hx : Fl.fin x) (hy : Fl.fin y) (bx : Bd (val x) 168) (bY : Bd (val y) 168) : ∃ z, Dot2R r.a11 x r.a21 y r.a31 z ∧ Ap z (NX Q P a1 a3 b1 b3 (val x) (val y)) (11/50000000 : Rat) := by
  obtain ⟨z1, o1, A1⟩ := Ap.mul k.a11 (Ap.self hx) (261727 : Rat) (168 : Rat) (39/500000000 : Rat) k.b11 bx (by decide +kernel) (by decide +kernel)
  have bd1 : Bd ((H11 Q P a1 a3 b1 b3) * (val x)) (43970136 : Rat) := (Bd.mul k.b11 bx).mono (by decide +kernel)
  obtain ⟨z2, o2, A2⟩ := Ap.mul k.a21 (Ap.self hy) (180217 : Rat) (168 : Rat) (7/125000000 : Rat) k.b21 bY (by decide +kernel) (by decide +kernel)
  have bd2 : Bd ((H21 Q P a1 a3 b1 b3) * (val y)) (30276456 : Rat) := (Bd.mul k.b21 bY).mono (by decide +kernel)
  obtain ⟨z3, o3, A3⟩ := Ap.add A1 A2 (74246592 : Rat) (3/20000000 : Rat) ((Bd.add bd1 bd2).mono (by decide +kernel)) (by decide +kernel) (by decide +kernel)
  have bd3 : Bd (((H11 Q P a1 a3 b1 b3) * (val x)) + ((H21 Q P a1 a3 b1 b3) * (val y))) (74246592 : Rat) := ((Bd.add bd1 bd2).mono (by decide +kernel))
  obtain ⟨z4, o4, A4⟩ := Ap.add A3 k.a31 (107172592 : Rat) (11/50000000 : Rat) ((Bd.add bd3 k.b31).mono (by decide +kernel)) (by decide +kernel) (by decide +kernel)
  have bd4 : Bd ((((H11 Q P a1 a3 b1 b3) * (val x)) + ((H21 Q P a1 a3 b1 b3) * (val y))) + (H31 Q P a1 a3 b1 b3)) (107172592 : Rat) := ((Bd.add bd3 k.b31).mono (by decide +kernel))
  have e : ((((H11 Q P a1 a3 b1 b3) * (val x)) + ((H21 Q P a1 a3 b1 b3) * (val y))) + (H31 Q P a1 a3 b1 b3)) = NX Q P a1 a3 b1 b3 (val x) (val y) := by unfold NX; rfl
  exact ⟨_, ⟨_, _, _, o1, o2, o3, o4⟩, A4.eq e⟩
theorem ptNY {Q P : Quad} {a1 a3 b1 b3 : Rat} {r : M9} {x y : Nat} (k : NearH r Q P a1 a3 b1 b3) (hx : Fl.fin x) (hy : Fl.fin y) (bx : Bd (val x) 168) (bY : Bd (val y) 168) : ∃ z, Dot2R r.a12 x r.a22 y r.a32 z ∧ Ap z (NY Q P a1 a3 b1 b3 (val x) (val y)) (11/50000000 : Rat) := by
  obtain ⟨z1, o1, A1⟩ := Ap.mul k.a12 (Ap.self hx) (180217 : Rat) (168 : Rat) (7/125000000 : Rat) k.b12 bx (by decide +kernel) (by decide +kernel)
  have bd1 : Bd ((H12 Q P a1 a3 b1 b3) * (val x)) (30276456 : Rat) := (Bd.mul k.b12 bx).mono (by decide +kernel)
  obtain ⟨z2, o2, A2⟩ := Ap.mul k.a22 (Ap.self hy) (261727 : Rat) (168 : Rat) (39/500000000 : Rat) k.b22 bY (by decide +kernel) (by decide +kernel)
  have bd2 : Bd ((H22 Q P a1 a3 b1 b3) * (val y)) (43970136 : Rat) := (Bd.mul k.b22 bY).mono (by decide +kernel)
  obtain ⟨z3, o3, A3⟩ := Ap.add A1 A2 (74246592 : Rat) (3/20000000 : Rat) ((Bd.add bd1 bd2).mono (by decide +kernel)) (by decide +kernel) (by decide +kernel)
  have bd3 : Bd (((H12 Q P a1 a3 b1 b3) * (val x)) + ((H22 Q P a1 a3 b1 b3) * (val y))) (74246592 : Rat) := ((Bd.add bd1 bd2).mono (by decide +kernel))
  obtain ⟨z4, o4, A4⟩ := Ap.add A3 k.a32 (107172592 : Rat) (11/50000000 : Rat) ((Bd.add bd3 k.b32).mono (by decide +kernel)) (by decide +kernel) (by decide +kernel)
  have bd4 : Bd ((((H12 Q P a1 a3 b1 b3) * (val x)) + ((H22 Q P a1 a3 b1 b3) * (val y))) + (H32 Q P a1 a3 b1 b3)) (107172592 : Rat) := ((Bd.add bd3 k.b32).mono (by decide +kernel))
  have e : ((((H12 Q P a1 a3 b1 b3) * (val x)) + ((H22 Q P a1 a3 b1 b3) * (val y))) + (H32 Q P a1 a3 b1 b3)) = NY Q P a1 a3 b1 b3 (val x) (val y) := by unfold NY; rfl
  exact ⟨_, ⟨_, _, _, o1, o2, o3, o4⟩, A4.eq e⟩

theorem pt_ap {Q P : Quad} {a1 a3 b1 b3 : Rat} {r : M9} {x y : Nat} {s t : Rat} (k : NearH r Q P a1 a3 b1 b3) (hx : Fl.fin x) (hy : Fl.fin y) (bx : Bd (val x) 168) (bY : Bd (val y) 168)
    (hd : (427 : Rat) ≤ DD Q a1 a3 b1 b3 (val x) (val y)) (hs : s * DD Q a1 a3 b1 b3 (val x) (val y) = NX Q P a1 a3 b1 b3 (val x) (val y)) (ht : t * DD Q a1 a3 b1 b3 (val x) (val y) = NY Q P a1 a3 b1 b3 (val x) (val y)) (bs : Bd s 168) (bt : Bd t 168) :
    ∃ x' y', TPtR r x y x' y' ∧ Ap x' s (3/2000000000 : Rat) ∧ Ap y' t (3/2000000000 : Rat) := by
  obtain ⟨zd, rd, kd⟩ := ptDD k hx hy bx bY
  obtain ⟨zx, rx, kx⟩ := ptNX k hx hy bx bY
  obtain ⟨zy, ry, ky⟩ := ptNY k hx hy bx bY
  obtain ⟨x', o1, p1⟩ := Ap.div kx kd s 168 (427 : Rat) (7/5000000000 : Rat) (3/2000000000 : Rat) hs bs (Or.inl hd) (by decide +kernel) (by decide +kernel) (by decide +kernel) (by decide +kernel) (by decide +kernel)
  obtain ⟨y', o2, p2⟩ := Ap.div ky kd t 168 (427 : Rat) (7/5000000000 : Rat) (3/2000000000 : Rat) ht bt (Or.inl hd) (by decide +kernel) (by decide +kernel) (by decide +kernel) (by decide +kernel) (by decide +kernel)
  exact ⟨x', y', ⟨zd, zx, zy, rd, rx, o1, ry, o2⟩, p1, p2⟩

end Go.Proofs.Ytaadklfendegfaa
