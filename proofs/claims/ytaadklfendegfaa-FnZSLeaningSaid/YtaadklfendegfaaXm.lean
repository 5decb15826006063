/- Exact maps of grids to parallelograms of whole pixels. -/
import Derived.Test.YtaadklfendegfaaFlB
import Derived.Test.YtaadklfendegfaaZm
namespace Go.Proofs.Ytaadklfendegfaa
open Go Fl

/-- a float that is a whole number -/
def Wh (x : Nat) (n : Int) (M : Nat) : Prop := Ex x (n : Rat) 0 M
/-- a float that is so many halves -/
def Hw (x : Nat) (n : Int) (M : Nat) : Prop := Ex x ((n : Rat) * (2:Rat) ^ (-1:Int)) 1 M

theorem Wh.add {x y : Nat} {n m : Int} {M M' : Nat} (hx : Wh x n M) (hy : Wh y m M') (hM : M + M' < 9007199254740992) : ∃ z, fadd x y = some z ∧ Wh z (n + m) (M + M') := by
  obtain ⟨z, h, e⟩ := Ex.add hx hy (by omega) hM
  exact ⟨z, h, by unfold Wh; rw [Rat.intCast_add]; exact e⟩
theorem Wh.sub {x y : Nat} {n m : Int} {M M' : Nat} (hx : Wh x n M) (hy : Wh y m M') (hM : M + M' < 9007199254740992) : ∃ z, fsub x y = some z ∧ Wh z (n - m) (M + M') := by
  obtain ⟨z, h, e⟩ := Ex.sub hx hy (by omega) hM
  exact ⟨z, h, by unfold Wh; rw [Rat.intCast_sub]; exact e⟩
theorem Wh.mul {x y : Nat} {n m : Int} {M M' : Nat} (hx : Wh x n M) (hy : Wh y m M') (hM : M * M' < 9007199254740992) : ∃ z, fmul x y = some z ∧ Wh z (n * m) (M * M') := by
  obtain ⟨z, h, e⟩ := Ex.mul hx hy (by omega) hM
  exact ⟨z, h, by unfold Wh; rw [Rat.intCast_mul]; exact e⟩
theorem Wh.mono {x : Nat} {n : Int} {M M' : Nat} (h : Wh x n M) (hM : M ≤ M') : Wh x n M' := by
  obtain ⟨h1, h2, N, h3, h4⟩ := h
  exact ⟨h1, h2, N, h3, Nat.le_trans h4 hM⟩
theorem Wh.to {x : Nat} {n m : Int} {M : Nat} (h : Wh x n M) (e : n = m) : Wh x m M := e ▸ h
theorem Hw.to {x : Nat} {n m : Int} {M : Nat} (h : Hw x n M) (e : n = m) : Hw x m M := e ▸ h
theorem Hw.mono {x : Nat} {n : Int} {M M' : Nat} (h : Hw x n M) (hM : M ≤ M') : Hw x n M' := by
  obtain ⟨h1, h2, N, h3, h4⟩ := h
  exact ⟨h1, h2, N, h3, Nat.le_trans h4 hM⟩
theorem half_ne : (2:Rat) ^ (-1:Int) ≠ 0 := by decide +kernel
theorem Hw.bound {x : Nat} {n : Int} {M : Nat} (h : Hw x n M) : n.natAbs ≤ M := by
  obtain ⟨_, _, N, h3, h4⟩ := h
  have e : (-((1 : Nat) : Int)) = -1 := rfl
  rw [e] at h3
  have h5 : (n : Rat) = (N : Rat) := by
    have := half_ne
    generalize (2:Rat) ^ (-1:Int) = a at *
    have h6 : ((n : Rat) - N) * a = 0 := by grind
    rcases Rat.mul_eq_zero.1 h6 with h | h
    · grind
    · exact absurd h this
  have : n = N := by exact_mod_cast h5
  omega
theorem Hw.add {x y : Nat} {n m : Int} {M M' : Nat} (hx : Hw x n M) (hy : Hw y m M') (hM : M + M' < 9007199254740992) : ∃ z, fadd x y = some z ∧ Hw z (n + m) (M + M') := by
  obtain ⟨z, h, e⟩ := Ex.add hx hy (by omega) hM
  exact ⟨z, h, by unfold Hw; rw [Rat.intCast_add, Rat.add_mul]; exact e⟩
theorem Wh.mulh {x y : Nat} {n m : Int} {M M' : Nat} (hx : Wh x n M) (hy : Hw y m M') (hM : M * M' < 9007199254740992) : ∃ z, fmul x y = some z ∧ Hw z (n * m) (M * M') := by
  obtain ⟨z, h, e⟩ := Ex.mul hx hy (by omega) hM
  exact ⟨z, h, by unfold Hw; rw [Rat.intCast_mul, Rat.mul_assoc]; exact e⟩
theorem Wh.lift {x : Nat} {n : Int} {M : Nat} (h : Wh x n M) : Hw x (2 * n) (2 * M) := by
  obtain ⟨h1, h2, N, h3, h4⟩ := h
  have e1 : (2:Rat) ^ (-((0:Nat) : Int)) = 1 := rfl
  have e2 : (2:Rat) ^ (-1:Int) * 2 = 1 := by decide +kernel
  have e3 : (-((1 : Nat) : Int)) = -1 := rfl
  have e4 : (((2 * n : Int)) : Rat) = 2 * (n : Rat) := by rw [Rat.intCast_mul]; rfl
  have e5 : (((2 * N : Int)) : Rat) = 2 * (N : Rat) := by rw [Rat.intCast_mul]; rfl
  rw [e1] at h3
  refine ⟨h1, ?_, 2 * N, ?_, by omega⟩
  · rw [h2, e4]; generalize (2:Rat) ^ (-1:Int) = a at *; grind
  · rw [e3, e4, e5]; generalize (2:Rat) ^ (-1:Int) = a at *; grind

theorem wh_ofI (n : Int) (M : Nat) (hn : n.natAbs ≤ M) (hM : M < 9007199254740992) : Wh (ofI n) n M := ofI_ex n M hn hM
theorem ofI_0 : ofI 0 = f0 := by decide +kernel
theorem ofI_1 : ofI 1 = f1 := by decide +kernel
theorem wh0 (M : Nat) (hM : M < 9007199254740992) : Wh f0 0 M := by rw [← ofI_0]; exact wh_ofI 0 M (by omega) hM
theorem wh1 (M : Nat) (h1 : 1 ≤ M) (hM : M < 9007199254740992) : Wh f1 1 M := by rw [← ofI_1]; exact wh_ofI 1 M (by omega) hM

theorem Wh.feq {x : Nat} {M : Nat} (h : Wh x 0 M) : feq x f0 = true := by
  have h0 := wh0 0 (by omega)
  have o := (order_val h.fin h0.fin).2.1 (by rw [h.eq, h0.eq])
  have e : Go.Proofs.Ytaadklfendegfaa.feq x f0 = (Ieee.double.order x f0 == some .eq) := rfl
  rw [e, o]; rfl

theorem pd_wh {p q r s : Nat} {a b c d : Int} {M N : Nat} (hp : Wh p a M) (hq : Wh q b N) (hr : Wh r c M) (hs : Wh s d N) (hM : M * N + M * N < 9007199254740992) : ∃ z, PdR p q r s z ∧ Wh z (a * b - c * d) (M * N + M * N) := by
  obtain ⟨x, h1, e1⟩ := hp.mul hq (by omega)
  obtain ⟨y, h2, e2⟩ := hr.mul hs (by omega)
  obtain ⟨z, h3, e3⟩ := e1.sub e2 hM
  exact ⟨z, ⟨x, y, h1, h2, h3⟩, e3⟩
theorem dot_wh {p1 q1 p2 q2 p3 q3 : Nat} {a1 b1 a2 b2 a3 b3 : Int} {M N : Nat} (hp1 : Wh p1 a1 M) (hq1 : Wh q1 b1 N) (hp2 : Wh p2 a2 M) (hq2 : Wh q2 b2 N) (hp3 : Wh p3 a3 M) (hq3 : Wh q3 b3 N) (hM : M * N + M * N + M * N < 9007199254740992) :
    ∃ z, DotR p1 q1 p2 q2 p3 q3 z ∧ Wh z (a1 * b1 + a2 * b2 + a3 * b3) (M * N + M * N + M * N) := by
  obtain ⟨x, h1, e1⟩ := hp1.mul hq1 (by omega)
  obtain ⟨y, h2, e2⟩ := hp2.mul hq2 (by omega)
  obtain ⟨u, h3, e3⟩ := e1.add e2 (by omega)
  obtain ⟨v, h4, e4⟩ := hp3.mul hq3 (by omega)
  obtain ⟨z, h5, e5⟩ := e3.add e4 hM
  exact ⟨z, ⟨x, y, u, v, h1, h2, h3, h4, h5⟩, e5⟩

/-- nine whole numbers -/
structure I9 where
  (a11 a21 a31 a12 a22 a32 a13 a23 a33 : Int)
structure WM (m : M9) (i : I9) (M : Nat) : Prop where
  h11 : Wh m.a11 i.a11 M
  h21 : Wh m.a21 i.a21 M
  h31 : Wh m.a31 i.a31 M
  h12 : Wh m.a12 i.a12 M
  h22 : Wh m.a22 i.a22 M
  h32 : Wh m.a32 i.a32 M
  h13 : Wh m.a13 i.a13 M
  h23 : Wh m.a23 i.a23 M
  h33 : Wh m.a33 i.a33 M

def adjI (a : I9) : I9 :=
  ⟨a.a22 * a.a33 - a.a23 * a.a32, a.a23 * a.a31 - a.a21 * a.a33, a.a21 * a.a32 - a.a22 * a.a31,
   a.a13 * a.a32 - a.a12 * a.a33, a.a11 * a.a33 - a.a13 * a.a31, a.a12 * a.a31 - a.a11 * a.a32,
   a.a12 * a.a23 - a.a13 * a.a22, a.a13 * a.a21 - a.a11 * a.a23, a.a11 * a.a22 - a.a12 * a.a21⟩
def mulI (p o : I9) : I9 :=
  ⟨p.a11 * o.a11 + p.a21 * o.a12 + p.a31 * o.a13, p.a11 * o.a21 + p.a21 * o.a22 + p.a31 * o.a23, p.a11 * o.a31 + p.a21 * o.a32 + p.a31 * o.a33,
   p.a12 * o.a11 + p.a22 * o.a12 + p.a32 * o.a13, p.a12 * o.a21 + p.a22 * o.a22 + p.a32 * o.a23, p.a12 * o.a31 + p.a22 * o.a32 + p.a32 * o.a33,
   p.a13 * o.a11 + p.a23 * o.a12 + p.a33 * o.a13, p.a13 * o.a21 + p.a23 * o.a22 + p.a33 * o.a23, p.a13 * o.a31 + p.a23 * o.a32 + p.a33 * o.a33⟩

theorem adj_wh {a : M9} {i : I9} {M : Nat} (h : WM a i M) (hM : M * M + M * M < 9007199254740992) : ∃ o, AdjR a o ∧ WM o (adjI i) (M * M + M * M) := by
  obtain ⟨h11, h21, h31, h12, h22, h32, h13, h23, h33⟩ := h
  obtain ⟨o11, r11, e11⟩ := pd_wh h22 h33 h23 h32 hM
  obtain ⟨o21, r21, e21⟩ := pd_wh h23 h31 h21 h33 hM
  obtain ⟨o31, r31, e31⟩ := pd_wh h21 h32 h22 h31 hM
  obtain ⟨o12, r12, e12⟩ := pd_wh h13 h32 h12 h33 hM
  obtain ⟨o22, r22, e22⟩ := pd_wh h11 h33 h13 h31 hM
  obtain ⟨o32, r32, e32⟩ := pd_wh h12 h31 h11 h32 hM
  obtain ⟨o13, r13, e13⟩ := pd_wh h12 h23 h13 h22 hM
  obtain ⟨o23, r23, e23⟩ := pd_wh h13 h21 h11 h23 hM
  obtain ⟨o33, r33, e33⟩ := pd_wh h11 h22 h12 h21 hM
  exact ⟨⟨o11, o21, o31, o12, o22, o32, o13, o23, o33⟩, ⟨r11, r21, r31, r12, r22, r32, r13, r23, r33⟩, ⟨e11, e21, e31, e12, e22, e32, e13, e23, e33⟩⟩

theorem times_wh {p o : M9} {i j : I9} {M N : Nat} (h : WM p i M) (k : WM o j N) (hM : M * N + M * N + M * N < 9007199254740992) : ∃ r, TimesR p o r ∧ WM r (mulI i j) (M * N + M * N + M * N) := by
  obtain ⟨h11, h21, h31, h12, h22, h32, h13, h23, h33⟩ := h
  obtain ⟨k11, k21, k31, k12, k22, k32, k13, k23, k33⟩ := k
  obtain ⟨o11, r11, e11⟩ := dot_wh h11 k11 h21 k12 h31 k13 hM
  obtain ⟨o21, r21, e21⟩ := dot_wh h11 k21 h21 k22 h31 k23 hM
  obtain ⟨o31, r31, e31⟩ := dot_wh h11 k31 h21 k32 h31 k33 hM
  obtain ⟨o12, r12, e12⟩ := dot_wh h12 k11 h22 k12 h32 k13 hM
  obtain ⟨o22, r22, e22⟩ := dot_wh h12 k21 h22 k22 h32 k23 hM
  obtain ⟨o32, r32, e32⟩ := dot_wh h12 k31 h22 k32 h32 k33 hM
  obtain ⟨o13, r13, e13⟩ := dot_wh h13 k11 h23 k12 h33 k13 hM
  obtain ⟨o23, r23, e23⟩ := dot_wh h13 k21 h23 k22 h33 k23 hM
  obtain ⟨o33, r33, e33⟩ := dot_wh h13 k31 h23 k32 h33 k33 hM
  exact ⟨⟨o11, o21, o31, o12, o22, o32, o13, o23, o33⟩, ⟨r11, r21, r31, r12, r22, r32, r13, r23, r33⟩, ⟨e11, e21, e31, e12, e22, e32, e13, e23, e33⟩⟩

theorem alt_wh {x y z w : Nat} {a b c d : Int} (hx : Wh x a 400) (hy : Wh y b 400) (hz : Wh z c 400) (hw : Wh w d 400) : ∃ r, AltR x y z w r ∧ Wh r (a - b + c - d) 1600 := by
  obtain ⟨s, h1, e1⟩ := hx.sub hy (by omega)
  obtain ⟨t, h2, e2⟩ := e1.add hz (by omega)
  obtain ⟨r, h3, e3⟩ := e2.sub hw (by omega)
  exact ⟨r, ⟨s, t, h1, h2, h3⟩, e3⟩

theorem s2q_wh (q : Q8) (X0 X1 X2 X3 Y0 Y1 Y2 Y3 : Int) (x0 : Wh q.x0 X0 400) (x1 : Wh q.x1 X1 400) (x2 : Wh q.x2 X2 400) (x3 : Wh q.x3 X3 400)
    (y0 : Wh q.y0 Y0 400) (y1 : Wh q.y1 Y1 400) (y2 : Wh q.y2 Y2 400) (y3 : Wh q.y3 Y3 400) (hx : X0 - X1 + X2 - X3 = 0) (hy : Y0 - Y1 + Y2 - Y3 = 0) :
    ∃ a, S2QR q a ∧ WM a ⟨X1 - X0, X2 - X1, X0, Y1 - Y0, Y2 - Y1, Y0, 0, 0, 1⟩ 800 := by
  obtain ⟨dx, g1, k1⟩ := alt_wh x0 x1 x2 x3
  obtain ⟨dy, g2, k2⟩ := alt_wh y0 y1 y2 y3
  obtain ⟨a11, h11, e11⟩ := x1.sub x0 (by omega)
  obtain ⟨a21, h21, e21⟩ := x2.sub x1 (by omega)
  obtain ⟨a12, h12, e12⟩ := y1.sub y0 (by omega)
  obtain ⟨a22, h22, e22⟩ := y2.sub y1 (by omega)
  exact ⟨⟨a11, a21, q.x0, a12, a22, q.y0, f0, f0, f1⟩, ⟨dx, dy, g1, g2, Or.inl ⟨(k1.to hx).feq, (k2.to hy).feq, h11, h21, rfl, h12, h22, rfl, rfl, rfl, rfl⟩⟩,
    ⟨e11, e21, x0.mono (by omega), e12, e22, y0.mono (by omega), wh0 800 (by omega), wh0 800 (by omega), wh1 800 (by omega) (by omega)⟩⟩

abbrev fHalf : Nat := 4602678819172646912
theorem val_half : Hw fHalf 1 1 := by
  refine ⟨⟨by decide, false, 4503599627370496, -53, by decide +kernel⟩, ?_, 1, ?_, by decide⟩
  · have e : Ieee.double.read fHalf = .number false 4503599627370496 (-53) := by decide +kernel
    unfold val; rw [e, dval_num, sg_f]; decide +kernel
  · rfl
/-- the float of so many and a half -/
def hf (i : Nat) : Nat := (fadd (ofI i) fHalf).getD 0
theorem hf_spec (i : Nat) (hi : i ≤ 1000) : fadd (ofI i) fHalf = some (hf i) ∧ Hw (hf i) (2 * i + 1) 2001 := by
  obtain ⟨z, h, e⟩ := (wh_ofI (i : Int) 1000 (by omega) (by omega)).lift.add val_half (by omega)
  have e2 : hf i = z := by unfold hf; rw [h]; rfl
  exact ⟨by rw [e2]; exact h, by rw [e2]; exact e⟩

theorem dot2_hw {p1 q1 p2 q2 c : Nat} {a b u v d : Int} {M N : Nat} (h1 : Wh p1 a M) (k1 : Hw q1 u N) (h2 : Wh p2 b M) (k2 : Hw q2 v N) (h3 : Wh c d M) (hM : M * N + M * N + 2 * M < 9007199254740992) :
    ∃ z, Dot2R p1 q1 p2 q2 c z ∧ Hw z (a * u + b * v + 2 * d) (M * N + M * N + 2 * M) := by
  obtain ⟨x, g1, e1⟩ := h1.mulh k1 (by omega)
  obtain ⟨y, g2, e2⟩ := h2.mulh k2 (by omega)
  obtain ⟨s, g3, e3⟩ := e1.add e2 (by omega)
  obtain ⟨z, g4, e4⟩ := e3.add h3.lift (by omega)
  exact ⟨z, ⟨x, y, s, g1, g2, g3, g4⟩, e4⟩

theorem div_hw {x y : Nat} {X D n : Int} {M M' : Nat} (hx : Hw x n M) (hy : Hw y (2 * D) M') (hD : 1 ≤ D) (hn : n = X * D) (hM : M < 9007199254740992) : ∃ z, fdiv x y = some z ∧ Hw z X M := by
  have hb := hx.bound
  have hXM : X.natAbs ≤ M := by
    rw [hn, Int.natAbs_mul] at hb
    have : X.natAbs * 1 ≤ X.natAbs * D.natAbs := Nat.mul_le_mul_left _ (by omega)
    omega
  have e2 : (2:Rat) ^ (-1:Int) * 2 = 1 := by decide +kernel
  have e4 : (((2 * D : Int)) : Rat) = 2 * (D : Rat) := by rw [Rat.intCast_mul]; rfl
  have hy2 : val y = (D : Rat) := by
    rw [hy.eq, e4]; generalize (2:Rat) ^ (-1:Int) = a at *; grind
  have hD0 : (D : Rat) ≠ 0 := by
    intro h
    have : D = 0 := by exact_mod_cast h
    omega
  obtain ⟨z, h1, h2, h3⟩ := div_exact hx.fin hy.fin (by rw [hy2]; exact hD0) X (-1) (by omega) (by omega) (by omega) (by
    rw [hy2, hx.eq, hn, Rat.intCast_mul]; generalize (2:Rat) ^ (-1:Int) = a at *; grind)
  exact ⟨z, h1, h2, h3, X, rfl, hXM⟩

theorem tpt_hw {r : M9} {i : I9} {M N x y : Nat} {u v X Y D : Int} (h : WM r i M) (hx : Hw x u N) (hy : Hw y v N) (hM : M * N + M * N + 2 * M < 9007199254740992) (h13 : i.a13 = 0) (h23 : i.a23 = 0) (h33 : i.a33 = D) (hD : 1 ≤ D)
    (hX : i.a11 * u + i.a21 * v + 2 * i.a31 = X * D) (hY : i.a12 * u + i.a22 * v + 2 * i.a32 = Y * D) : ∃ x' y', TPtR r x y x' y' ∧ Hw x' X (M * N + M * N + 2 * M) ∧ Hw y' Y (M * N + M * N + 2 * M) := by
  obtain ⟨den, g1, e1⟩ := dot2_hw h.h13 hx h.h23 hy h.h33 hM
  obtain ⟨nx, g2, e2⟩ := dot2_hw h.h11 hx h.h21 hy h.h31 hM
  obtain ⟨ny, g3, e3⟩ := dot2_hw h.h12 hx h.h22 hy h.h32 hM
  have e1' : Hw den (2 * D) _ := e1.to (by rw [h13, h23, h33]; omega)
  obtain ⟨x', g4, e4⟩ := div_hw e2 e1' hD hX hM
  obtain ⟨y', g5, e5⟩ := div_hw e3 e1' hD hY hM
  exact ⟨x', y', ⟨den, nx, ny, g1, g2, g4, g3, g5⟩, e4, e5⟩

/-- the map from a grid to a parallelogram of whole pixels -/
theorem para_map (W H : Nat) (X0 Y0 sx sy tx ty : Int) (q : Q8) (hW : 1 ≤ W ∧ W ≤ 15) (hH : 1 ≤ H ∧ H ≤ 15)
    (x0 : Wh q.x0 X0 400) (x1 : Wh q.x1 (X0 + sx * W) 400) (x2 : Wh q.x2 (X0 + sx * W + tx * H) 400) (x3 : Wh q.x3 (X0 + tx * H) 400)
    (y0 : Wh q.y0 Y0 400) (y1 : Wh q.y1 (Y0 + sy * W) 400) (y2 : Wh q.y2 (Y0 + sy * W + ty * H) 400) (y3 : Wh q.y3 (Y0 + ty * H) 400) :
    ∃ a o b r, S2QR (gridQ W H) a ∧ AdjR a o ∧ S2QR q b ∧ TimesR b o r ∧
      ∀ i j : Nat, i ≤ 15 → j ≤ 15 → ∃ x' y', TPtR r (hf i) (hf j) x' y' ∧ Hw x' (2 * X0 + sx * (2 * i + 1) + tx * (2 * j + 1)) 20000000000000 ∧ Hw y' (2 * Y0 + sy * (2 * i + 1) + ty * (2 * j + 1)) 20000000000000 := by
  have z := wh0 400 (by omega)
  have wW : Wh (ofI (W : Int)) W 400 := wh_ofI _ _ (by omega) (by omega)
  have wH : Wh (ofI (H : Int)) H 400 := wh_ofI _ _ (by omega) (by omega)
  obtain ⟨a, h1, k1⟩ := s2q_wh (gridQ W H) 0 W W 0 0 0 H H z wW wW z z z wH wH (by omega) (by omega)
  obtain ⟨o, h2, k2⟩ := adj_wh k1 (by omega)
  obtain ⟨b, h3, k3⟩ := s2q_wh q _ _ _ _ _ _ _ _ x0 x1 x2 x3 y0 y1 y2 y3 (by omega) (by omega)
  obtain ⟨r, h4, k4⟩ := times_wh k3 k2 (by omega)
  refine ⟨a, o, b, r, h1, h2, h3, h4, fun i j hi hj => ?_⟩
  have p1 := (hf_spec i (by omega)).2
  have p2 := (hf_spec j (by omega)).2
  have hD : (1 : Int) ≤ (W : Int) * (H : Int) := by
    have := Int.mul_pos (show (0 : Int) < (W : Int) by omega) (show (0 : Int) < (H : Int) by omega)
    exact this
  obtain ⟨x', y', t1, t2, t3⟩ := tpt_hw (X := 2 * X0 + sx * (2 * i + 1) + tx * (2 * j + 1)) (Y := 2 * Y0 + sy * (2 * i + 1) + ty * (2 * j + 1)) (D := (W : Int) * H) k4 p1 p2 (by omega)
    (by simp only [mulI, adjI]; grind) (by simp only [mulI, adjI]; grind) (by simp only [mulI, adjI]; grind) hD (by simp only [mulI, adjI]; grind) (by simp only [mulI, adjI]; grind)
  exact ⟨x', y', t1, t2.mono (by omega), t3.mono (by omega)⟩

theorem trunc_hw {x : Nat} {X : Int} {M : Nat} (h : Hw x X M) (h0 : 0 ≤ X) (h1 : X ≤ 1000000) : floatToIntVal .f64 x .i64 = some (X / 2) := by
  obtain ⟨n, k1, k2, _⟩ := toInt_val h.fin
  rw [h.eq] at k2
  have e2 : (2:Rat) ^ (-1:Int) = 1 / 2 := by decide +kernel
  rw [e2] at k2
  have hX0 : (0:Rat) ≤ (X : Rat) := by exact_mod_cast h0
  obtain ⟨g1, g2, g3⟩ := k2 (by grind)
  have g4 : (2 * n : Int) ≤ X := by
    have : ((2 * n : Int) : Rat) ≤ (X : Rat) := by rw [Rat.intCast_mul]; have : (((2:Int)) : Rat) = 2 := rfl; rw [this]; grind
    exact_mod_cast this
  have g5 : X < (2 * n + 2 : Int) := by
    have : (X : Rat) < ((2 * n + 2 : Int) : Rat) := by rw [Rat.intCast_add, Rat.intCast_mul]; have : (((2:Int)) : Rat) = 2 := rfl; rw [this]; grind
    exact_mod_cast this
  have e : n = X / 2 := by omega
  subst e
  unfold floatToIntVal
  have k1' : (FloatKind.f64.decode x).toInt .zero = some (X / 2) := k1
  rw [k1']
  have m1 : IntKind.i64.min = -9223372036854775808 := rfl
  have m2 : IntKind.i64.max = 9223372036854775807 := rfl
  show (if IntKind.i64.min ≤ X / 2 ∧ X / 2 ≤ IntKind.i64.max then some (X / 2) else none) = _
  rw [if_pos (by rw [m1, m2]; omega)]

end Go.Proofs.Ytaadklfendegfaa
