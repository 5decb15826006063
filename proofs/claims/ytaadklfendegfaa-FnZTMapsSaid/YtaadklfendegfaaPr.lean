/- The points within a quadrilateral, and whole lists of points under the map. -/
import Derived.Test.YtaadklfendegfaaPq
import Derived.Test.YtaadklfendegfaaWw
namespace Go.Proofs.Ytaadklfendegfaa
open Go Fl Geo

theorem within_ap {q0 q1 q2 q3 u v : Nat} {Q0 Q1 Q2 Q3 U V : Rat} (k0 : Ex q0 Q0 3 1400) (k1 : Ex q1 Q1 3 1400) (k2 : Ex q2 Q2 3 1400) (k3 : Ex q3 Q3 3 1400) (bq0 : Bd Q0 167) (bq1 : Bd Q1 167) (bq2 : Bd Q2 167) (bq3 : Bd Q3 167)
    (hU : In U 0 1) (hV : In V 0 1) (hu : Ap u U (17/50000000000000000 : Rat)) (hv : Ap v V (17/50000000000000000 : Rat)) : ∃ z, WithinR q0 q1 q2 q3 u v z ∧ Ap z ((1 - U) * (1 - V) * Q0 + U * (1 - V) * Q1 + U * V * Q2 + (1 - U) * V * Q3) (91/100000000000000 : Rat) := by
  have bo1 : Bd (1 : Rat) 1 := by unfold Bd; constructor <;> decide +kernel
  have bu : Bd U 1 := by unfold Bd In at *; constructor <;> grind
  have bv : Bd V 1 := by unfold Bd In at *; constructor <;> grind
  have bu1 : Bd (1 - U) 1 := by unfold Bd In at *; constructor <;> grind
  have bv1 : Bd (1 - V) 1 := by unfold Bd In at *; constructor <;> grind
  obtain ⟨z1, o1, A1⟩ := Ap.sub (⟨val_f1.1, by rw [val_f1.2]; unfold Nr; grind⟩ : Ap f1 1 0) hu (1 : Rat) (23/50000000000000000 : Rat) bu1 (by decide +kernel) (by decide +kernel)
  have bd1 : Bd ((1 : Rat) - U) (1 : Rat) := bu1
  obtain ⟨z2, o2, A2⟩ := Ap.sub (⟨val_f1.1, by rw [val_f1.2]; unfold Nr; grind⟩ : Ap f1 1 0) hv (1 : Rat) (23/50000000000000000 : Rat) bv1 (by decide +kernel) (by decide +kernel)
  have bd2 : Bd ((1 : Rat) - V) (1 : Rat) := bv1
  obtain ⟨z3, o3, A3⟩ := Ap.mul A1 A2 (1 : Rat) (1 : Rat) (11/10000000000000000 : Rat) bd1 bd2 (by decide +kernel) (by decide +kernel)
  have bd3 : Bd (((1 : Rat) - U) * ((1 : Rat) - V)) (1 : Rat) := (Bd.mul bd1 bd2).mono (by decide +kernel)
  obtain ⟨z4, o4, A4⟩ := Ap.mul A3 k0.ap (1 : Rat) (167 : Rat) (21/100000000000000 : Rat) bd3 bq0 (by decide +kernel) (by decide +kernel)
  have bd4 : Bd ((((1 : Rat) - U) * ((1 : Rat) - V)) * Q0) (167 : Rat) := (Bd.mul bd3 bq0).mono (by decide +kernel)
  obtain ⟨z5, o5, A5⟩ := Ap.mul hu A2 (1 : Rat) (1 : Rat) (23/25000000000000000 : Rat) bu bd2 (by decide +kernel) (by decide +kernel)
  have bd5 : Bd (U * ((1 : Rat) - V)) (1 : Rat) := (Bd.mul bu bd2).mono (by decide +kernel)
  obtain ⟨z6, o6, A6⟩ := Ap.mul A5 k1.ap (1 : Rat) (167 : Rat) (9/50000000000000 : Rat) bd5 bq1 (by decide +kernel) (by decide +kernel)
  have bd6 : Bd ((U * ((1 : Rat) - V)) * Q1) (167 : Rat) := (Bd.mul bd5 bq1).mono (by decide +kernel)
  obtain ⟨z7, o7, A7⟩ := Ap.add A4 A6 (334 : Rat) (43/100000000000000 : Rat) ((Bd.add bd4 bd6).mono (by decide +kernel)) (by decide +kernel) (by decide +kernel)
  have bd7 : Bd (((((1 : Rat) - U) * ((1 : Rat) - V)) * Q0) + ((U * ((1 : Rat) - V)) * Q1)) (334 : Rat) := ((Bd.add bd4 bd6).mono (by decide +kernel))
  obtain ⟨z8, o8, A8⟩ := Ap.mul hu hv (1 : Rat) (1 : Rat) (1/1250000000000000 : Rat) bu bv (by decide +kernel) (by decide +kernel)
  have bd8 : Bd (U * V) (1 : Rat) := (Bd.mul bu bv).mono (by decide +kernel)
  obtain ⟨z9, o9, A9⟩ := Ap.mul A8 k2.ap (1 : Rat) (167 : Rat) (1/6250000000000 : Rat) bd8 bq2 (by decide +kernel) (by decide +kernel)
  have bd9 : Bd ((U * V) * Q2) (167 : Rat) := (Bd.mul bd8 bq2).mono (by decide +kernel)
  obtain ⟨z10, o10, A10⟩ := Ap.add A7 A9 (501 : Rat) (13/20000000000000 : Rat) ((Bd.add bd7 bd9).mono (by decide +kernel)) (by decide +kernel) (by decide +kernel)
  have bd10 : Bd ((((((1 : Rat) - U) * ((1 : Rat) - V)) * Q0) + ((U * ((1 : Rat) - V)) * Q1)) + ((U * V) * Q2)) (501 : Rat) := ((Bd.add bd7 bd9).mono (by decide +kernel))
  obtain ⟨z11, o11, A11⟩ := Ap.mul A1 hv (1 : Rat) (1 : Rat) (23/25000000000000000 : Rat) bd1 bv (by decide +kernel) (by decide +kernel)
  have bd11 : Bd (((1 : Rat) - U) * V) (1 : Rat) := (Bd.mul bd1 bv).mono (by decide +kernel)
  obtain ⟨z12, o12, A12⟩ := Ap.mul A11 k3.ap (1 : Rat) (167 : Rat) (9/50000000000000 : Rat) bd11 bq3 (by decide +kernel) (by decide +kernel)
  have bd12 : Bd ((((1 : Rat) - U) * V) * Q3) (167 : Rat) := (Bd.mul bd11 bq3).mono (by decide +kernel)
  obtain ⟨z13, o13, A13⟩ := Ap.add A10 A12 (668 : Rat) (91/100000000000000 : Rat) ((Bd.add bd10 bd12).mono (by decide +kernel)) (by decide +kernel) (by decide +kernel)
  have bd13 : Bd (((((((1 : Rat) - U) * ((1 : Rat) - V)) * Q0) + ((U * ((1 : Rat) - V)) * Q1)) + ((U * V) * Q2)) + ((((1 : Rat) - U) * V) * Q3)) (668 : Rat) := ((Bd.add bd10 bd12).mono (by decide +kernel))
  refine ⟨z13, ⟨_, _, _, _, _, _, _, _, _, _, _, _, o1, o2, o3, o4, o5, o6, o7, o8, o9, o10, o11, o12, o13⟩, A13⟩

/-- a part of 65535 -/
theorem part_ap (n : Int) (h0 : 0 ≤ n) (h1 : n ≤ 65535) : ∃ u, fdiv (ofI n) f65535 = some u ∧ Ap u ((n : Rat) / 65535) (17/50000000000000000 : Rat) ∧ In ((n : Rat) / 65535) 0 1 := by
  have k1 : ((0 : Int) : Rat) ≤ (n : Rat) := Rat.intCast_le_intCast.2 h0
  have k2 : (n : Rat) ≤ ((65535 : Int) : Rat) := Rat.intCast_le_intCast.2 h1
  have e1 : ((0 : Int) : Rat) = 0 := rfl
  have e2 : ((65535 : Int) : Rat) = 65535 := rfl
  rw [e1] at k1
  rw [e2] at k2
  have hin : In ((n : Rat) / 65535) 0 1 := by unfold In; constructor <;> grind
  have hi := ofI_ex n 65535 (by omega) (by omega)
  have h5 : Ap f65535 65535 0 := ⟨val_f65535.1, by rw [val_f65535.2]; unfold Nr; grind⟩
  obtain ⟨u, u1, u2⟩ := Ap.div hi.ap h5 ((n : Rat) / 65535) 1 65535 0 (17/50000000000000000 : Rat) (by grind) (by unfold In at hin; unfold Bd; constructor <;> grind) (Or.inl (by decide +kernel)) (by decide +kernel) (by decide +kernel) (by decide +kernel) (by decide +kernel) (by decide +kernel)
  exact ⟨u, u1, u2, hin⟩

theorem getD_l {a b : List Nat} {i : Nat} (h : i < a.length) : (a ++ b).getD i 0 = a.getD i 0 := by
  simp [List.getD, List.getElem?_append_left h]
theorem getD_r {a b : List Nat} {i : Nat} (h : a.length ≤ i) : (a ++ b).getD i 0 = b.getD (i - a.length) 0 := by
  simp [List.getD, List.getElem?_append_right h]

theorem list_of_pairs (n : Nat) (P : Nat → Nat → Nat → Prop) (h : ∀ k, k < n → ∃ x y, P k x y) : ∃ l : List Nat, l.length = 2 * n ∧ ∀ k, k < n → P k (l.getD (2 * k) 0) (l.getD (2 * k + 1) 0) := by
  induction n with
  | zero => exact ⟨[], rfl, fun k hk => by omega⟩
  | succ n ih =>
    obtain ⟨l, hl, hp⟩ := ih (fun k hk => h k (by omega))
    obtain ⟨x, y, hxy⟩ := h n (by omega)
    refine ⟨l ++ [x, y], by simp; omega, fun k hk => ?_⟩
    rcases (show k < n ∨ k = n by omega) with g | rfl
    · rw [getD_l (by omega), getD_l (by omega)]; exact hp k g
    · rw [getD_r (by omega), getD_r (by omega)]
      have e1 : 2 * k - l.length = 0 := by omega
      have e2 : 2 * k + 1 - l.length = 1 := by omega
      rw [e1, e2]; exact hxy

/-- points near means of corners -/
structure PtsAp (n : Nat) (W : Nat → Wt) (Q : Quad) (ps : List Nat) (e : Rat) : Prop where
  len : ps.length = 2 * n
  ok : ∀ k, k < n → (W k).OK
  px : ∀ k, k < n → Ap (ps.getD (2 * k) 0) ((W k).px Q) e
  py : ∀ k, k < n → Ap (ps.getD (2 * k + 1) 0) ((W k).py Q) e

theorem trans_ap {q p : Q8} {Q P : Quad} {a1 a3 b1 b3 : Rat} (h : QZ q Q a1 a3) (g : QZ p P b1 b3) {n : Nat} {W : Nat → Wt} {ps : List Nat} {e : Rat} (hp : PtsAp n W Q ps e) (he : e ≤ 1/100000000) :
    ∃ rs, TransR q p n ps rs ∧ PtsAp n (fun k => (W k).img (tau Q a1 a3 b1 b3)) P rs (400 * e + 3/2000000000) := by
  obtain ⟨a, s1, n1⟩ := s2q_ap h
  obtain ⟨o, s2, n2⟩ := adj_ap h n1
  obtain ⟨b, s3, n3⟩ := s2q_ap g
  obtain ⟨r, s4, n4⟩ := times_ap h g n2 n3
  obtain ⟨m, hm, ht, _⟩ := tau_ge h g
  obtain ⟨rs, l1, l2⟩ := list_of_pairs n (fun k x y => TPtR r (ps.getD (2 * k) 0) (ps.getD (2 * k + 1) 0) x y ∧ Ap x (((W k).img (tau Q a1 a3 b1 b3)).px P) (400 * e + 3/2000000000) ∧ Ap y (((W k).img (tau Q a1 a3 b1 b3)).py P) (400 * e + 3/2000000000))
    (fun k hk => step_ap h g n4 (hp.ok k hk) he (hp.px k hk) (hp.py k hk))
  exact ⟨rs, ⟨hp.len, l1, a, o, b, r, s1, s2, s3, s4, fun k hk => (l2 k hk).1⟩, ⟨l1, fun k hk => img_ok (hp.ok k hk) ht, fun k hk => (l2 k hk).2.1, fun k hk => (l2 k hk).2.2⟩⟩

/-- there and on is where one comes at once -/
theorem tau_way {q p r : Q8} {Q P R : Quad} {a1 a3 b1 b3 c1 c3 : Rat} (h : QZ q Q a1 a3) (g : QZ p P b1 b3) (k : QZ r R c1 c3) {w : Wt} (hw : w.OK) :
    (w.img (tau Q a1 a3 b1 b3)).img (tau P b1 b3 c1 c3) = w.img (tau Q a1 a3 c1 c3) := by
  obtain ⟨m1, _, g1, _⟩ := tau_ge h g
  obtain ⟨m2, _, g2, _⟩ := tau_ge g k
  obtain ⟨m3, _, g3, _⟩ := tau_ge h k
  have p1 : 0 < b1 := by have := g.r1.1; grind
  have p3 : 0 < b3 := by have := g.r3.1; grind
  have p2 : 0 < b1 + b3 - 1 := by have := g.r2.1; grind
  have pc : 0 < P.d123 := by have := g.i123.1; grind
  rw [tau_form h] at g1 g3 ⊢
  rw [tau_form h]
  rw [tau_form g] at g2 ⊢
  exact img_img hw g1 g2 g3 (K := b1 * b3 * (b1 + b3 - 1) * P.d123) (Rat.mul_pos (Rat.mul_pos (Rat.mul_pos p1 p3) p2) pc) (by dsimp only; grind) (by dsimp only; grind) (by dsimp only; grind) (by dsimp only; grind)

theorem tau_same {q : Q8} {Q : Quad} {a1 a3 : Rat} (h : QZ q Q a1 a3) {w : Wt} (hw : w.OK) : w.img (tau Q a1 a3 a1 a3) = w := by
  obtain ⟨m1, _, g1, _⟩ := tau_ge h h
  rw [tau_form h] at g1 ⊢
  exact img_same hw g1 (by dsimp only; grind) (by rfl) (by rfl)

def unit : Nat → Wt
  | 0 => ⟨1, 0, 0, 0⟩
  | 1 => ⟨0, 1, 0, 0⟩
  | 2 => ⟨0, 0, 1, 0⟩
  | _ => ⟨0, 0, 0, 1⟩
theorem unit_ok (k : Nat) : (unit k).OK := by
  have : unit k = unit 0 ∨ unit k = unit 1 ∨ unit k = unit 2 ∨ unit k = unit 3 := by
    unfold unit; split <;> simp
  rcases this with h | h | h | h <;> rw [h] <;> exact ⟨by decide +kernel, by decide +kernel, by decide +kernel, by decide +kernel, by decide +kernel⟩

theorem unit_img {t : Tau} {m : Rat} (ht : t.Ge m) {k : Nat} (hk : k < 4) : (unit k).img t = unit k := by
  have hm := ht.pos
  have h0 := ht.g0
  have h1 := ht.g1
  have h2 := ht.g2
  have h3 := ht.g3
  have z : ∀ x y : Rat, 0 * x / y = 0 := fun x y => by rw [Rat.zero_mul, Rat.div_def, Rat.zero_mul]
  have o : ∀ x : Rat, 0 < x → 1 * x / x = 1 := fun x hx => cancel hx (div_mul' hx)
  rcases (show k = 0 ∨ k = 1 ∨ k = 2 ∨ k = 3 by omega) with rfl | rfl | rfl | rfl
  · have e : (unit 0).tot t = t.t0 := by show 1 * t.t0 + 0 * t.t1 + 0 * t.t2 + 0 * t.t3 = t.t0; grind
    refine Wt.same ?_ ?_ ?_ ?_
    · show 1 * t.t0 / (unit 0).tot t = 1; rw [e]; exact o _ (by grind)
    · exact z _ _
    · exact z _ _
    · exact z _ _
  · have e : (unit 1).tot t = t.t1 := by show 0 * t.t0 + 1 * t.t1 + 0 * t.t2 + 0 * t.t3 = t.t1; grind
    refine Wt.same ?_ ?_ ?_ ?_
    · exact z _ _
    · show 1 * t.t1 / (unit 1).tot t = 1; rw [e]; exact o _ (by grind)
    · exact z _ _
    · exact z _ _
  · have e : (unit 2).tot t = t.t2 := by show 0 * t.t0 + 0 * t.t1 + 1 * t.t2 + 0 * t.t3 = t.t2; grind
    refine Wt.same ?_ ?_ ?_ ?_
    · exact z _ _
    · exact z _ _
    · show 1 * t.t2 / (unit 2).tot t = 1; rw [e]; exact o _ (by grind)
    · exact z _ _
  · have e : (unit 3).tot t = t.t3 := by show 0 * t.t0 + 0 * t.t1 + 0 * t.t2 + 1 * t.t3 = t.t3; grind
    refine Wt.same ?_ ?_ ?_ ?_
    · exact z _ _
    · exact z _ _
    · exact z _ _
    · show 1 * t.t3 / (unit 3).tot t = 1; rw [e]; exact o _ (by grind)

def bil (U V : Rat) : Wt := ⟨(1 - U) * (1 - V), U * (1 - V), U * V, (1 - U) * V⟩
theorem bil_ok {U V : Rat} (hU : In U 0 1) (hV : In V 0 1) : (bil U V).OK := by
  unfold In at *
  exact ⟨Rat.mul_nonneg (by grind) (by grind), Rat.mul_nonneg (by grind) (by grind), Rat.mul_nonneg (by grind) (by grind), Rat.mul_nonneg (by grind) (by grind), by unfold bil; dsimp only; grind⟩

def corners (q : Q8) : List Nat := [q.x0, q.y0, q.x1, q.y1, q.x2, q.y2, q.x3, q.y3]

theorem corner_px {q : Q8} {Q : Quad} {a1 a3 : Rat} (h : QZ q Q a1 a3) {k : Nat} (hk : k < 4) : Ap ((corners q).getD (2 * k) 0) ((unit k).px Q) 0 ∧ Ap ((corners q).getD (2 * k + 1) 0) ((unit k).py Q) 0 := by
  rcases (show k = 0 ∨ k = 1 ∨ k = 2 ∨ k = 3 by omega) with rfl | rfl | rfl | rfl
  · exact ⟨h.x0.ap.eq (by show _ = 1 * Q.x0 + 0 * Q.x1 + 0 * Q.x2 + 0 * Q.x3; grind), h.y0.ap.eq (by show _ = 1 * Q.y0 + 0 * Q.y1 + 0 * Q.y2 + 0 * Q.y3; grind)⟩
  · exact ⟨h.x1.ap.eq (by show _ = 0 * Q.x0 + 1 * Q.x1 + 0 * Q.x2 + 0 * Q.x3; grind), h.y1.ap.eq (by show _ = 0 * Q.y0 + 1 * Q.y1 + 0 * Q.y2 + 0 * Q.y3; grind)⟩
  · exact ⟨h.x2.ap.eq (by show _ = 0 * Q.x0 + 0 * Q.x1 + 1 * Q.x2 + 0 * Q.x3; grind), h.y2.ap.eq (by show _ = 0 * Q.y0 + 0 * Q.y1 + 1 * Q.y2 + 0 * Q.y3; grind)⟩
  · exact ⟨h.x3.ap.eq (by show _ = 0 * Q.x0 + 0 * Q.x1 + 0 * Q.x2 + 1 * Q.x3; grind), h.y3.ap.eq (by show _ = 0 * Q.y0 + 0 * Q.y1 + 0 * Q.y2 + 1 * Q.y3; grind)⟩

/-- the points that ztWithin makes -/
theorem pts_within {q : Q8} {Q : Quad} {a1 a3 : Rat} (h : QZ q Q a1 a3) (m : Nat) (zs : List Int) (hz : ∀ j, j < 2 * m → 0 ≤ zs.getD j 0 ∧ zs.getD j 0 ≤ 65535) :
    ∃ (W : Nat → Wt) (ps : List Nat), PtsAp (4 + m) W Q ps (91/100000000000000 : Rat) ∧ (∀ k, k < 4 → W k = unit k) ∧ (ps.map fv).take 8 = q.vals.toList ∧
      ∀ k, k < m → ∃ u v, fdiv (ofI (zs.getD (2 * k) 0)) f65535 = some u ∧ fdiv (ofI (zs.getD (2 * k + 1) 0)) f65535 = some v ∧ WithinR q.x0 q.x1 q.x2 q.x3 u v (ps.getD (2 * (4 + k)) 0) ∧ WithinR q.y0 q.y1 q.y2 q.y3 u v (ps.getD (2 * (4 + k) + 1) 0) := by
  obtain ⟨l, l1, l2⟩ := list_of_pairs m (fun k x y => (∃ u v, fdiv (ofI (zs.getD (2 * k) 0)) f65535 = some u ∧ fdiv (ofI (zs.getD (2 * k + 1) 0)) f65535 = some v ∧ WithinR q.x0 q.x1 q.x2 q.x3 u v x ∧ WithinR q.y0 q.y1 q.y2 q.y3 u v y) ∧
      (bil ((zs.getD (2 * k) 0 : Rat) / 65535) ((zs.getD (2 * k + 1) 0 : Rat) / 65535)).OK ∧ Ap x ((bil ((zs.getD (2 * k) 0 : Rat) / 65535) ((zs.getD (2 * k + 1) 0 : Rat) / 65535)).px Q) (91/100000000000000 : Rat) ∧ Ap y ((bil ((zs.getD (2 * k) 0 : Rat) / 65535) ((zs.getD (2 * k + 1) 0 : Rat) / 65535)).py Q) (91/100000000000000 : Rat)) (by
    intro k hk
    obtain ⟨u, u1, u2, u3⟩ := part_ap (zs.getD (2 * k) 0) (hz _ (by omega)).1 (hz _ (by omega)).2
    obtain ⟨v, v1, v2, v3⟩ := part_ap (zs.getD (2 * k + 1) 0) (hz _ (by omega)).1 (hz _ (by omega)).2
    obtain ⟨x, x1, x2⟩ := within_ap h.x0 h.x1 h.x2 h.x3 (h.ix0.bd (by decide +kernel) (by decide +kernel)) (h.ix1.bd (by decide +kernel) (by decide +kernel)) (h.ix2.bd (by decide +kernel) (by decide +kernel)) (h.ix3.bd (by decide +kernel) (by decide +kernel)) u3 v3 u2 v2
    obtain ⟨y, y1, y2⟩ := within_ap h.y0 h.y1 h.y2 h.y3 (h.iy0.bd (by decide +kernel) (by decide +kernel)) (h.iy1.bd (by decide +kernel) (by decide +kernel)) (h.iy2.bd (by decide +kernel) (by decide +kernel)) (h.iy3.bd (by decide +kernel) (by decide +kernel)) u3 v3 u2 v2
    exact ⟨x, y, ⟨u, v, u1, v1, x1, y1⟩, bil_ok u3 v3, x2, y2⟩)
  have hc : (corners q).length = 8 := rfl
  have hlo : ∀ j, j < 8 → (corners q ++ l).getD j 0 = (corners q).getD j 0 := fun j hj => getD_l (by omega)
  have hhi : ∀ j, (corners q ++ l).getD (8 + j) 0 = l.getD j 0 := fun j => by
    have := getD_r (a := corners q) (b := l) (i := 8 + j) (by omega)
    rw [this, hc]; congr 1; omega
  refine ⟨fun k => if k < 4 then unit k else bil ((zs.getD (2 * (k - 4)) 0 : Rat) / 65535) ((zs.getD (2 * (k - 4) + 1) 0 : Rat) / 65535), corners q ++ l, ⟨by simp [l1, hc]; omega, ?_, ?_, ?_⟩, fun k hk => by simp [hk], rfl, ?_⟩
  · intro k hk
    split
    · exact unit_ok k
    · exact (l2 (k - 4) (by omega)).2.1
  · intro k hk
    split
    · rw [hlo _ (by omega)]; exact (corner_px h (by omega)).1.mono (by decide +kernel)
    · have e : 2 * k = 8 + 2 * (k - 4) := by omega
      rw [e, hhi]; exact (l2 (k - 4) (by omega)).2.2.1
  · intro k hk
    split
    · rw [hlo _ (by omega)]; exact (corner_px h (by omega)).2.mono (by decide +kernel)
    · have e : 2 * k + 1 = 8 + (2 * (k - 4) + 1) := by omega
      rw [e, hhi]; exact (l2 (k - 4) (by omega)).2.2.2
  · intro k hk
    have e1 : 2 * (4 + k) = 8 + 2 * k := by omega
    have e2 : 2 * (4 + k) + 1 = 8 + (2 * k + 1) := by omega
    rw [e2, e1, hhi, hhi]; exact (l2 k hk).1

/-- all that the law asks of the points -/
theorem ways_ap {A B C : Q8} {QA QB QC : Quad} {a1 a3 b1 b3 c1 c3 : Rat} (hA : QZ A QA a1 a3) (hB : QZ B QB b1 b3) (hC : QZ C QC c1 c3) {n : Nat} {W : Nat → Wt} {ps : List Nat} (hn : 4 ≤ n) (hp : PtsAp n W QA ps (91/100000000000000 : Rat)) (hu : ∀ k, k < 4 → W k = unit k) :
    ∃ r1 r2 r3 r4, TransR A B n ps r1 ∧ TransR B A n r1 r2 ∧ TransR B C n r1 r3 ∧ TransR A C n ps r4 ∧ (∀ j, j < 2 * n → NearR (r2.getD j 0) (ps.getD j 0)) ∧ (∀ j, j < 2 * n → NearR (r3.getD j 0) (r4.getD j 0)) ∧
      (∀ j, j < 8 → NearR (r1.getD j 0) ((corners B).getD j 0)) := by
  obtain ⟨r1, t1, p1⟩ := trans_ap hA hB hp (by decide +kernel)
  obtain ⟨r2, t2, p2⟩ := trans_ap hB hA p1 (by decide +kernel)
  obtain ⟨r3, t3, p3⟩ := trans_ap hB hC p1 (by decide +kernel)
  obtain ⟨r4, t4, p4⟩ := trans_ap hA hC hp (by decide +kernel)
  obtain ⟨m1, _, g1, _⟩ := tau_ge hA hB
  have par : ∀ {P : Nat → Prop} {N : Nat}, (∀ k, k < N → P (2 * k) ∧ P (2 * k + 1)) → ∀ j, j < 2 * N → P j := by
    intro P N h j hj
    have := h (j / 2) (by omega)
    rcases (show j = 2 * (j / 2) ∨ j = 2 * (j / 2) + 1 by omega) with e | e
    · rw [e]; exact this.1
    · rw [e]; exact this.2
  refine ⟨r1, r2, r3, r4, t1, t2, t3, t4, par fun k hk => ?_, par fun k hk => ?_, par (N := 4) fun k hk => ?_⟩
  · have x := p2.px k hk
    have y := p2.py k hk
    rw [tau_way hA hB hA (hp.ok k hk), tau_same hA (hp.ok k hk)] at x y
    exact ⟨near_ap x (hp.px k hk) (by decide +kernel), near_ap y (hp.py k hk) (by decide +kernel)⟩
  · have x := p3.px k hk
    have y := p3.py k hk
    rw [tau_way hA hB hC (hp.ok k hk)] at x y
    exact ⟨near_ap x (p4.px k hk) (by decide +kernel), near_ap y (p4.py k hk) (by decide +kernel)⟩
  · have x := p1.px k (by omega)
    have y := p1.py k (by omega)
    rw [hu k hk, unit_img g1 hk] at x y
    exact ⟨near_ap x (corner_px hB hk).1 (by decide +kernel), near_ap y (corner_px hB hk).2 (by decide +kernel)⟩

end Go.Proofs.Ytaadklfendegfaa
