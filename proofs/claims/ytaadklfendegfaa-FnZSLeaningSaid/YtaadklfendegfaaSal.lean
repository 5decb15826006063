/- The walk of SCAt at whatever point: its quotients may be no numbers. -/
import Derived.Test.YtaadklfendegfaaSat
namespace Go.Proofs.Ytaadklfendegfaa
open Go.RowKit

theorem run_nan (P : Program) (t : TypeId) (n z : Nat) (w : World) (h : fdiv n z = none) : (binOp .quo t (.float .f64 n) (.float .f64 z)).run P w = .ok (.float .f64 ((Question.nanBits .f64 n z).cut (w.tape w.drawn (.nanBits .f64 n z)))) w.drew := by
  have h' : FloatKind.f64.format.div n z = none := h
  simp [binOp, Op.floatArith, h', Question.forced]

set_option maxRecDepth 100000 in
set_option maxHeartbeats 4000000 in
theorem scat_any (o : Nat → Nat) (x y dx dy z n m : Nat) (w : World) (h1 : fsub x (o 8) = some dx) (h2 : fsub y (o 9) = some dy) (hz : Dot2R (o 6) dx (o 7) dy f1 z) (hn : Dot2R (o 0) dx (o 1) dy (o 2) n) (hm : Dot2R (o 3) dx (o 4) dy (o 5) m) :
    Calls Try.prog 13 #[.agg (tens o), .agg #[fv x, fv y]] w fun e w' => ∃ x' y', e = .returned (.agg #[fv x', fv y']) ∧ (∀ q, fdiv n z = some q → x' = q) ∧ (∀ q, fdiv m z = some q → y' = q) ∧ Below w.heap.size w w' := by
  obtain ⟨a1, a2, a3, b1, b2, b3, b4⟩ := hz
  obtain ⟨c1, c2, c3, d1, d2, d3, d4⟩ := hn
  obtain ⟨e1, e2, e3, g1, g2, g3, g4⟩ := hm
  have R1 := fun t w => run_float_arith (P := Try.prog) w .sub t .f64 _ _ _ h1
  have R2 := fun t w => run_float_arith (P := Try.prog) w .sub t .f64 _ _ _ h2
  have R3 := fun t w => run_float_arith (P := Try.prog) w .mul t .f64 _ _ _ b1
  have R4 := fun t w => run_float_arith (P := Try.prog) w .mul t .f64 _ _ _ b2
  have R5 := fun t w => run_float_arith (P := Try.prog) w .add t .f64 _ _ _ b3
  have R6 := fun t w => run_float_arith (P := Try.prog) w .add t .f64 _ _ _ b4
  have R7 := fun t w => run_float_arith (P := Try.prog) w .mul t .f64 _ _ _ d1
  have R8 := fun t w => run_float_arith (P := Try.prog) w .mul t .f64 _ _ _ d2
  have R9 := fun t w => run_float_arith (P := Try.prog) w .add t .f64 _ _ _ d3
  have R10 := fun t w => run_float_arith (P := Try.prog) w .add t .f64 _ _ _ d4
  have R12 := fun t w => run_float_arith (P := Try.prog) w .mul t .f64 _ _ _ g1
  have R13 := fun t w => run_float_arith (P := Try.prog) w .mul t .f64 _ _ _ g2
  have R14 := fun t w => run_float_arith (P := Try.prog) w .add t .f64 _ _ _ g3
  have R15 := fun t w => run_float_arith (P := Try.prog) w .add t .f64 _ _ _ g4
  clear h1 h2 b1 b2 b3 b4 d1 d2 d3 d4 g1 g2 g3 g4
  unfold tens
  generalize o 0 = o0 at *
  generalize o 1 = o1 at *
  generalize o 2 = o2 at *
  generalize o 3 = o3 at *
  generalize o 4 = o4 at *
  generalize o 5 = o5 at *
  generalize o 6 = o6 at *
  generalize o 7 = o7 at *
  generalize o 8 = o8 at *
  generalize o 9 = o9 at *
  cases hx : fdiv n z with
  | none =>
    cases hy : fdiv m z with
    | none =>
      obtain ⟨rx, R11⟩ : ∃ rx : World → Nat, ∀ t w, (binOp .quo t (.float .f64 n) (.float .f64 z)).run Try.prog w = .ok (.float .f64 (rx w)) w.drew := ⟨_, fun t w => run_nan Try.prog t n z w hx⟩
      obtain ⟨ry, R16⟩ : ∃ ry : World → Nat, ∀ t w, (binOp .quo t (.float .f64 m) (.float .f64 z)).run Try.prog w = .ok (.float .f64 (ry w)) w.drew := ⟨_, fun t w => run_nan Try.prog t m z w hy⟩
      clear hx hy
      go_enter Try.func13, Try.ntmps13
      go_wp2
      go_quiet (fail)
      go_wp2
      refine bodyPost_ret (v := .agg #[fv (rx ((((w.alloc (.cells #[fv o0, fv o1, fv o2, fv o3, fv o4, fv o5, fv o6, fv o7, fv o8, fv o9] 31)).alloc (.cells #[fv x, fv y] 26)).alloc (.cells #[.float .f64 0, .float .f64 0] 26)).drewN nq)), fv (ry ((((w.alloc (.cells #[fv o0, fv o1, fv o2, fv o3, fv o4, fv o5, fv o6, fv o7, fv o8, fv o9] 31)).alloc (.cells #[fv x, fv y] 26)).alloc (.cells #[.float .f64 0, .float .f64 0] 26)).drewN nq).drew)]) (by simp [results, Try.results13, go_sem]) rfl ⟨_, _, rfl, ?_, ?_, ?_⟩
      · intro q hq; cases hq
      · intro q hq; cases hq
      · exact (((below_drewN ((((Below.refl _ _).alloc (Nat.le_refl _) _).alloc (by simp) _).alloc (by simp; omega) _) nq).setCell (p := ⟨w.heap.size + 1 + 1, 0, none⟩) (by show w.heap.size ≤ w.heap.size + 1 + 1; omega) _).setCell (p := ⟨w.heap.size + 1 + 1, 1, none⟩) (by show w.heap.size ≤ w.heap.size + 1 + 1; omega) _).drew.drew
    | some qy =>
      obtain ⟨rx, R11⟩ : ∃ rx : World → Nat, ∀ t w, (binOp .quo t (.float .f64 n) (.float .f64 z)).run Try.prog w = .ok (.float .f64 (rx w)) w.drew := ⟨_, fun t w => run_nan Try.prog t n z w hx⟩
      have R16 := fun t w => run_float_arith (P := Try.prog) w .quo t .f64 _ _ _ hy
      clear hx hy
      go_enter Try.func13, Try.ntmps13
      go_wp2
      go_quiet (fail)
      go_wp2
      refine bodyPost_ret (v := .agg #[fv (rx ((((w.alloc (.cells #[fv o0, fv o1, fv o2, fv o3, fv o4, fv o5, fv o6, fv o7, fv o8, fv o9] 31)).alloc (.cells #[fv x, fv y] 26)).alloc (.cells #[.float .f64 0, .float .f64 0] 26)).drewN nq)), fv qy]) (by simp [results, Try.results13, go_sem]) rfl ⟨_, _, rfl, ?_, ?_, ?_⟩
      · intro q hq; cases hq
      · intro q hq; injection hq
      · exact (((below_drewN ((((Below.refl _ _).alloc (Nat.le_refl _) _).alloc (by simp) _).alloc (by simp; omega) _) nq).setCell (p := ⟨w.heap.size + 1 + 1, 0, none⟩) (by show w.heap.size ≤ w.heap.size + 1 + 1; omega) _).setCell (p := ⟨w.heap.size + 1 + 1, 1, none⟩) (by show w.heap.size ≤ w.heap.size + 1 + 1; omega) _).drew
  | some qx =>
    cases hy : fdiv m z with
    | none =>
      have R11 := fun t w => run_float_arith (P := Try.prog) w .quo t .f64 _ _ _ hx
      obtain ⟨ry, R16⟩ : ∃ ry : World → Nat, ∀ t w, (binOp .quo t (.float .f64 m) (.float .f64 z)).run Try.prog w = .ok (.float .f64 (ry w)) w.drew := ⟨_, fun t w => run_nan Try.prog t m z w hy⟩
      clear hx hy
      go_enter Try.func13, Try.ntmps13
      go_wp2
      go_quiet (fail)
      go_wp2
      refine bodyPost_ret (v := .agg #[fv qx, fv (ry ((((w.alloc (.cells #[fv o0, fv o1, fv o2, fv o3, fv o4, fv o5, fv o6, fv o7, fv o8, fv o9] 31)).alloc (.cells #[fv x, fv y] 26)).alloc (.cells #[.float .f64 0, .float .f64 0] 26)).drewN nq))]) (by simp [results, Try.results13, go_sem]) rfl ⟨_, _, rfl, ?_, ?_, ?_⟩
      · intro q hq; injection hq
      · intro q hq; cases hq
      · exact (((below_drewN ((((Below.refl _ _).alloc (Nat.le_refl _) _).alloc (by simp) _).alloc (by simp; omega) _) nq).setCell (p := ⟨w.heap.size + 1 + 1, 0, none⟩) (by show w.heap.size ≤ w.heap.size + 1 + 1; omega) _).setCell (p := ⟨w.heap.size + 1 + 1, 1, none⟩) (by show w.heap.size ≤ w.heap.size + 1 + 1; omega) _).drew
    | some qy =>
      have R11 := fun t w => run_float_arith (P := Try.prog) w .quo t .f64 _ _ _ hx
      have R16 := fun t w => run_float_arith (P := Try.prog) w .quo t .f64 _ _ _ hy
      clear hx hy
      go_enter Try.func13, Try.ntmps13
      go_wp2
      go_quiet (fail)
      go_wp2
      refine bodyPost_ret (v := .agg #[fv qx, fv qy]) (by simp [results, Try.results13, go_sem]) rfl ⟨_, _, rfl, ?_, ?_, ?_⟩
      · intro q hq; injection hq
      · intro q hq; injection hq
      · exact (((below_drewN ((((Below.refl _ _).alloc (Nat.le_refl _) _).alloc (by simp) _).alloc (by simp; omega) _) nq).setCell (p := ⟨w.heap.size + 1 + 1, 0, none⟩) (by show w.heap.size ≤ w.heap.size + 1 + 1; omega) _).setCell (p := ⟨w.heap.size + 1 + 1, 1, none⟩) (by show w.heap.size ≤ w.heap.size + 1 + 1; omega) _)

end Go.Proofs.Ytaadklfendegfaa
