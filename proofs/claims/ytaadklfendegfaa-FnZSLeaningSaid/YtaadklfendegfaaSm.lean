/- A table of eight rows of nine floats that lies in one block. -/
import Derived.Test.YtaadklfendegfaaSc
import Derived.Test.YtaadklfendegfaaCell
import Derived.Test.YtaadklfendegfaaChecked
import Derived.WalkKit
import Derived.Laws.Tables
import Derived.BigQuiet
import Derived.Lib.Hide
namespace Go.Proofs.Ytaadklfendegfaa
open Go.RowKit

@[go_sem] theorem run_neg_float (P : Program) (w : World) (k : FloatKind) (x : Nat) : (Op.unary .neg (.float k x)).run P w = .ok (.float k (Op.negFloat k x)) w := rfl

def MatAt (g : Nat) (M : Nat → Nat → Nat) (w : World) : Prop :=
  ∃ cur, w.heap[g]? = some (.cells cur 68) ∧ cur.size = 72 ∧ ∀ i, i < 8 → ∀ j, j < 9 → cur[i * 9 + j]? = some (fv (M i j))

theorem MatAt.cell {g : Nat} {M : Nat → Nat → Nat} {w : World} (h : MatAt g M w) {i j : Nat} (hi : i < 8) (hj : j < 9) : w.cell? ⟨g, i * 9 + j, none⟩ = some (fv (M i j)) := by
  obtain ⟨cur, h1, h2, h3⟩ := h
  exact cell_at_cells h1 (h3 i hi j hj)
theorem MatAt.cell0 {g : Nat} {M : Nat → Nat → Nat} {w : World} (h : MatAt g M w) {i : Nat} (hi : i < 8) : w.cell? ⟨g, i * 9, none⟩ = some (fv (M i 0)) := h.cell (j := 0) hi (by omega)
theorem MatAt.frozen {g : Nat} {M : Nat → Nat → Nat} {w : World} (h : MatAt g M w) (o : Nat) : w.frozen? ⟨g, o, none⟩ = false := by
  obtain ⟨cur, h1, h2, h3⟩ := h
  simp [World.frozen?, h1]
theorem MatAt.drew {g : Nat} {M : Nat → Nat → Nat} {w : World} (h : MatAt g M w) : MatAt g M w.drew := h
theorem MatAt.congr {g : Nat} {M N : Nat → Nat → Nat} {w : World} (h : MatAt g M w) (e : ∀ i, i < 8 → ∀ j, j < 9 → M i j = N i j) : MatAt g N w := by
  obtain ⟨cur, h1, h2, h3⟩ := h
  exact ⟨cur, h1, h2, fun i hi j hj => by rw [h3 i hi j hj, e i hi j hj]⟩

def upd1 (M : Nat → Nat → Nat) (a b z : Nat) : Nat → Nat → Nat := fun i j => if i = a ∧ j = b then z else M i j

theorem MatAt.set {g : Nat} {M : Nat → Nat → Nat} {w : World} (h : MatAt g M w) {a b : Nat} (_ha : a < 8) (hb : b < 9) (z : Nat) : MatAt g (upd1 M a b z) (w.setCell ⟨g, a * 9 + b, none⟩ (fv z)) := by
  obtain ⟨cur, h1, h2, h3⟩ := h
  refine ⟨_, heap_setCell_at _ h1, by simpa using h2, fun i hi j hj => ?_⟩
  rw [Array.getElem?_setIfInBounds]
  unfold upd1
  by_cases e : i = a ∧ j = b
  · obtain ⟨rfl, rfl⟩ := e
    rw [if_pos rfl, if_pos (by omega), if_pos ⟨rfl, rfl⟩]
  · rw [if_neg (by omega), if_neg e]; exact h3 i hi j hj

def setRow (M : Nat → Nat → Nat) (a : Nat) (R : Nat → Nat) : Nat → Nat → Nat := fun i => if i = a then R else M i

/-- nine cells one behind the other -/
def putRow (w : World) (g a : Nat) (R : Nat → Nat) : World :=
  ((((((((w.setCell ⟨g, a * 9, none⟩ (fv (R 0))).setCell ⟨g, a * 9 + 1, none⟩ (fv (R 1))).setCell ⟨g, a * 9 + 2, none⟩ (fv (R 2))).setCell ⟨g, a * 9 + 3, none⟩ (fv (R 3))).setCell ⟨g, a * 9 + 4, none⟩ (fv (R 4))).setCell ⟨g, a * 9 + 5, none⟩ (fv (R 5))).setCell ⟨g, a * 9 + 6, none⟩ (fv (R 6))).setCell ⟨g, a * 9 + 7, none⟩ (fv (R 7))).setCell ⟨g, a * 9 + 8, none⟩ (fv (R 8))

theorem MatAt.put {g : Nat} {M : Nat → Nat → Nat} {w : World} (h : MatAt g M w) {a : Nat} (ha : a < 8) (R : Nat → Nat) : MatAt g (setRow M a R) (putRow w g a R) := by
  have := ((((((((h.set ha (b := 0) (by omega) (R 0)).set ha (b := 1) (by omega) (R 1)).set ha (b := 2) (by omega) (R 2)).set ha (b := 3) (by omega) (R 3)).set ha (b := 4) (by omega) (R 4)).set ha (b := 5) (by omega) (R 5)).set ha (b := 6) (by omega) (R 6)).set ha (b := 7) (by omega) (R 7)).set ha (b := 8) (by omega) (R 8)
  refine MatAt.congr this fun i hi j hj => ?_
  unfold upd1 setRow
  by_cases e : i = a
  · subst e
    rcases (show j = 0 ∨ j = 1 ∨ j = 2 ∨ j = 3 ∨ j = 4 ∨ j = 5 ∨ j = 6 ∨ j = 7 ∨ j = 8 by omega) with rfl | rfl | rfl | rfl | rfl | rfl | rfl | rfl | rfl <;> simp
  · simp [e]

theorem Only.put {g : Nat} {w w' : World} (h : Only g w w') (a : Nat) (R : Nat → Nat) : Only g w (putRow w' g a R) :=
  ((((((((h.setCell rfl _).setCell rfl _).setCell rfl _).setCell rfl _).setCell rfl _).setCell rfl _).setCell rfl _).setCell rfl _).setCell rfl _

theorem zeros68 : Try.zeroCells68 = Array.replicate 72 (fv 0) := by kernel_rfl

theorem MatAt.zero {w : World} {g : Nat} (h : w.heap[g]? = some (.cells Try.zeroCells68 68)) : MatAt g (fun _ _ => 0) w := by
  refine ⟨_, h, by rw [zeros68]; simp, fun i hi j hj => ?_⟩
  rw [zeros68, Array.getElem?_replicate, if_pos (by omega)]

theorem putRow_eq (w : World) (g a : Nat) {R : Nat → Nat} {x0 x1 x2 x3 x4 x5 x6 x7 x8 : Nat} (e0 : R 0 = x0) (e1 : R 1 = x1) (e2 : R 2 = x2) (e3 : R 3 = x3) (e4 : R 4 = x4) (e5 : R 5 = x5) (e6 : R 6 = x6) (e7 : R 7 = x7) (e8 : R 8 = x8) :
    putRow w g a R = ((((((((w.setCell ⟨g, a * 9, none⟩ (fv x0)).setCell ⟨g, a * 9 + 1, none⟩ (fv x1)).setCell ⟨g, a * 9 + 2, none⟩ (fv x2)).setCell ⟨g, a * 9 + 3, none⟩ (fv x3)).setCell ⟨g, a * 9 + 4, none⟩ (fv x4)).setCell ⟨g, a * 9 + 5, none⟩ (fv x5)).setCell ⟨g, a * 9 + 6, none⟩ (fv x6)).setCell ⟨g, a * 9 + 7, none⟩ (fv x7)).setCell ⟨g, a * 9 + 8, none⟩ (fv x8) := by
  subst e0; subst e1; subst e2; subst e3; subst e4; subst e5; subst e6; subst e7; subst e8; rfl

/-- cells one behind the other -/
def putList (w : World) (g o : Nat) : List Value → Nat → World
  | [], _ => w
  | v :: rest, i => putList (w.setCell ⟨g, o + i, none⟩ v) g o rest (i + 1)

theorem add_plain (g o i : Nat) : (⟨g, o, none⟩ : Addr).add i = ⟨g, o + i, none⟩ := by unfold Addr.add; split <;> simp_all

theorem run_storeCells_put {P : Program} (g o : Nat) (t : TypeId) : ∀ (vs : List Value) (i : Nat) (cur : Array Value) (w : World), w.heap[g]? = some (.cells cur t (0, 0)) → o + i + vs.length ≤ cur.size → (∀ v ∈ vs, v.oneCell' = true) →
    (storeCells ⟨g, o, none⟩ vs i).run P w = .ok () (putList w g o vs i)
  | [], i, cur, w, _, _, _ => rfl
  | v :: rest, i, cur, w, hg, hl, h1 => by
    have hi : o + i < cur.size := by simp at hl; omega
    have hcell : w.cell? ⟨g, o + i, none⟩ = some cur[o + i] := by simp [World.cell?, hg, hi]
    have hfro : w.frozen? ⟨g, o + i, none⟩ = false := by simp [World.frozen?, hg]
    have hst : (store ((⟨g, o, none⟩ : Addr).add i) v).run P w = .ok () (w.setCell ⟨g, o + i, none⟩ v) := by
      rw [add_plain, run_store P w _ v _ (h1 v (by simp)), hcell]
      simp [hfro]
    have ih := run_storeCells_put (P := P) g o t rest (i + 1) (cur.setIfInBounds (o + i) v) (w.setCell ⟨g, o + i, none⟩ v) (heap_setCell_at _ hg) (by simp at hl ⊢; omega) (fun x hx => h1 x (by simp [hx]))
    simp only [storeCells, Sem.run_bind, hst, Result.andThen_ok, ih]
    rfl

/-- nine cells are there -/
def RowAt (w : World) (g o : Nat) : Prop := ∃ cur t, w.heap[g]? = some (.cells cur t (0, 0)) ∧ o + 9 ≤ cur.size

theorem MatAt.row {g : Nat} {M : Nat → Nat → Nat} {w : World} (h : MatAt g M w) {i : Nat} (hi : i < 8) : RowAt w g (i * 9) := by
  obtain ⟨cur, h1, h2, _⟩ := h
  exact ⟨cur, 68, h1, by omega⟩

theorem Try.size67 : (Try.prog.info? 67).map (·.size) = some 9 := by kernel_rfl
theorem Try.agg67 : (Try.prog.underlying 67) = some (.array 9 25) := by kernel_rfl

theorem run_storeVar_nine (w : World) (g o x0 x1 x2 x3 x4 x5 x6 x7 x8 : Nat) (h : RowAt w g o) :
    (storeVar 67 ⟨g, o, none⟩ (.agg #[.float .f64 x0, .float .f64 x1, .float .f64 x2, .float .f64 x3, .float .f64 x4, .float .f64 x5, .float .f64 x6, .float .f64 x7, .float .f64 x8])).run Try.prog w =
      .ok () (putList w g o [.float .f64 x0, .float .f64 x1, .float .f64 x2, .float .f64 x3, .float .f64 x4, .float .f64 x5, .float .f64 x6, .float .f64 x7, .float .f64 x8] 0) := by
  obtain ⟨cur, t, hg, hs⟩ := h
  have := run_storeCells_put (P := Try.prog) g o t [.float .f64 x0, .float .f64 x1, .float .f64 x2, .float .f64 x3, .float .f64 x4, .float .f64 x5, .float .f64 x6, .float .f64 x7, .float .f64 x8] 0 cur w hg (by simpa using hs) (by intro v hv; simp at hv; rcases hv with rfl | rfl | rfl | rfl | rfl | rfl | rfl | rfl | rfl <;> rfl)
  have h67 := Try.size67
  cases hq : Try.prog.info? 67 with
  | none => simp [hq] at h67
  | some i =>
    have hs : i.size = 9 := by simpa [hq] using h67
    simp [storeVar, sizeOf, typeInfo, hq, Value.cells, hs, this]

/-- the float at a place -/
def numAt (w : World) (g o : Nat) : Nat := match w.cell? ⟨g, o, none⟩ with | some (.float _ n) => n | _ => 0
theorem numAt_of {w : World} {g o n : Nat} (h : w.cell? ⟨g, o, none⟩ = some (fv n)) : numAt w g o = n := by unfold numAt; rw [h]
/-- nine floats are there -/
def RowFl (w : World) (g o : Nat) : Prop := ∀ j, j < 9 → ∃ n, w.cell? ⟨g, o + j, none⟩ = some (fv n)

theorem MatAt.rowFl {g : Nat} {M : Nat → Nat → Nat} {w : World} (h : MatAt g M w) {i : Nat} (hi : i < 8) : RowFl w g (i * 9) := fun j hj => ⟨_, h.cell hi hj⟩

theorem run_loadVar_nine (w : World) (g o : Nat) (h : RowFl w g o) :
    (loadVar 67 ⟨g, o, none⟩).run Try.prog w = .ok (.agg #[.float .f64 (numAt w g o), .float .f64 (numAt w g (o + 1)), .float .f64 (numAt w g (o + 2)), .float .f64 (numAt w g (o + 3)), .float .f64 (numAt w g (o + 4)), .float .f64 (numAt w g (o + 5)), .float .f64 (numAt w g (o + 6)), .float .f64 (numAt w g (o + 7)), .float .f64 (numAt w g (o + 8))]) w := by
  have one : ∀ j, j < 9 → w.cell? ((⟨g, o, none⟩ : Addr).add j) = some (.float .f64 (numAt w g (o + j))) := by
    intro j hj
    obtain ⟨n, hn⟩ := h j hj
    rw [add_plain, hn, numAt_of hn]
  have o0 : w.cell? ((⟨g, o, none⟩ : Addr).add 0) = some (.float .f64 (numAt w g o)) := one 0 (by decide)
  have o1 := one 1 (by decide)
  have o2 := one 2 (by decide)
  have o3 := one 3 (by decide)
  have o4 := one 4 (by decide)
  have o5 := one 5 (by decide)
  have o6 := one 6 (by decide)
  have o7 := one 7 (by decide)
  have o8 := one 8 (by decide)
  have h67 := Try.size67
  have hu := Try.agg67
  cases hq : Try.prog.info? 67 with
  | none => simp [hq] at h67
  | some i =>
    have hs : i.size = 9 := by simpa [hq] using h67
    simp [loadVar, isAgg, underlying, hu, sizeOf, typeInfo, hq, hs, loadCells, loadCellsFrom, o0, o1, o2, o3, o4, o5, o6, o7, o8]

/-- the rows that are filled -/
def fillTo (M : Nat → Nat → Nat) (k : Nat) : Nat → Nat → Nat := fun i j => if i < k then M i j else 0

theorem MatAt.fill {g : Nat} {M : Nat → Nat → Nat} {w : World} {k : Nat} (h : MatAt g (fillTo M k) w) (hk : k < 8) : MatAt g (fillTo M (k + 1)) (putRow w g k (M k)) := by
  refine MatAt.congr (h.put hk (M k)) fun i hi j hj => ?_
  unfold setRow fillTo
  by_cases e : i = k
  · subst e; simp
  · by_cases e2 : i < k
    · simp [e, e2, show i < k + 1 by omega]
    · simp [e, e2, show ¬ i < k + 1 by omega]

theorem MatAt.fill_list {g : Nat} {M : Nat → Nat → Nat} {w : World} {k x0 x1 x2 x3 x4 x5 x6 x7 x8 : Nat} (h : MatAt g (fillTo M k) w) (hk : k < 8) (e0 : M k 0 = x0) (e1 : M k 1 = x1) (e2 : M k 2 = x2) (e3 : M k 3 = x3) (e4 : M k 4 = x4) (e5 : M k 5 = x5) (e6 : M k 6 = x6) (e7 : M k 7 = x7) (e8 : M k 8 = x8) :
    MatAt g (fillTo M (k + 1)) (putList w g (k * 9) [.float .f64 x0, .float .f64 x1, .float .f64 x2, .float .f64 x3, .float .f64 x4, .float .f64 x5, .float .f64 x6, .float .f64 x7, .float .f64 x8] 0) := by
  subst e0; subst e1; subst e2; subst e3; subst e4; subst e5; subst e6; subst e7; subst e8
  exact h.fill hk

theorem Only.putList {g : Nat} {w w' : World} (h : Only g w w') (o : Nat) (vs : List Value) (i : Nat) : Only g w (putList w' g o vs i) := by
  induction vs generalizing i w' with
  | nil => exact h
  | cons v rest ih => exact ih (h.setCell rfl v) (i + 1)

theorem Only.drewN {g : Nat} {a w : World} (h : Only g a w) (n : Nat) : Only g a (w.drewN n) := ⟨h.os, h.tape, h.output, h.size, h.block⟩

theorem drewN_heap (w : World) (n : Nat) : (w.drewN n).heap = w.heap := rfl

theorem MatAt.drewN {g : Nat} {M : Nat → Nat → Nat} {w : World} (h : MatAt g M w) (n : Nat) : MatAt g M (w.drewN n) := by
  unfold MatAt; rw [drewN_heap]; exact h

theorem rowAt_drewN {w : World} {g o : Nat} (h : RowAt w g o) (n : Nat) : RowAt (w.drewN n) g o := by
  unfold RowAt; rw [drewN_heap]; exact h

theorem rowAt_setCell {w : World} {g o : Nat} (h : RowAt w g o) (p : Nat) (v : Value) : RowAt (w.setCell ⟨g, p, none⟩ v) g o := by
  obtain ⟨cur, t, h1, h2⟩ := h
  exact ⟨_, t, heap_setCell_at _ h1, by simpa using h2⟩

theorem rowAt_putList {w : World} {g o : Nat} (h : RowAt w g o) (p : Nat) (vs : List Value) (i : Nat) : RowAt (putList w g p vs i) g o := by
  induction vs generalizing i w with
  | nil => exact h
  | cons v rest ih => exact ih (rowAt_setCell h _ v) (i + 1)

/-- the store of a row, inside a walk -/
theorem wpList_store_nine {ops : Array Oper} {rest : List Oper} {o : Oper} {a : Act} {w : World} {Q : Exit → Act → World → Prop} (hgd : o.guard = none) (x y : Operand) (ho : o.op = .store 67 x y) (g p x0 x1 x2 x3 x4 x5 x6 x7 x8 : Nat)
    (hx : a.eval x = .pointer (some ⟨g, p, none⟩)) (hy : a.eval y = .agg #[.float .f64 x0, .float .f64 x1, .float .f64 x2, .float .f64 x3, .float .f64 x4, .float .f64 x5, .float .f64 x6, .float .f64 x7, .float .f64 x8]) (hr : RowAt w g p)
    (h : wpList Try.prog ops Q rest (a.put o.dst undef) (putList w g p [.float .f64 x0, .float .f64 x1, .float .f64 x2, .float .f64 x3, .float .f64 x4, .float .f64 x5, .float .f64 x6, .float .f64 x7, .float .f64 x8] 0)) : wpList Try.prog ops Q (o :: rest) a w := by
  refine wpList_plain hgd fun K hK => ?_
  unfold Oper.wp execOp
  simp only [ho, hx, hy, Instr.storeAt, Instr.sureAddr, Sem.run_bind, Sem.run_pure, Result.andThen_ok, run_storeVar_nine _ _ _ _ _ _ _ _ _ _ _ _ hr]
  exact hK _ _ h

theorem run_storeVar_nine' (w : World) (g o : Nat) (cells : Array Value) (hs9 : cells.size = 9) (h1 : cells.toList.all (·.oneCell') = true) (h : RowAt w g o) :
    (storeVar 67 ⟨g, o, none⟩ (.agg cells)).run Try.prog w = .ok () (putList w g o cells.toList 0) := by
  obtain ⟨cur, t, hg, hs⟩ := h
  have := run_storeCells_put (P := Try.prog) g o t cells.toList 0 cur w hg (by simpa [hs9] using hs) (fun v hv => List.all_eq_true.1 h1 v hv)
  have h67 := Try.size67
  cases hq : Try.prog.info? 67 with
  | none => simp [hq] at h67
  | some i =>
    have hs : i.size = 9 := by simpa [hq] using h67
    simp [storeVar, sizeOf, typeInfo, hq, Value.cells, hs, hs9, this]

/-- the store of a row, inside a walk, its cells as they come -/
theorem wpList_store_row9 {ops : Array Oper} {rest : List Oper} {o : Oper} {a : Act} {w : World} {Q : Exit → Act → World → Prop} (hgd : o.guard = none) (x y : Operand) (ho : o.op = .store 67 x y) (g p : Nat) (cells : Array Value)
    (hx : a.eval x = .pointer (some ⟨g, p, none⟩)) (hy : a.eval y = .agg cells) (hr : RowAt w g p) (hs : cells.size = 9) (h1 : cells.toList.all (·.oneCell') = true)
    (h : wpList Try.prog ops Q rest (a.put o.dst undef) (putList w g p cells.toList 0)) : wpList Try.prog ops Q (o :: rest) a w := by
  refine wpList_plain hgd fun K hK => ?_
  unfold Oper.wp execOp
  simp only [ho, hx, hy, Instr.storeAt, Instr.sureAddr, Sem.run_bind, Sem.run_pure, Result.andThen_ok, run_storeVar_nine' _ _ _ _ hs h1 hr]
  exact hK _ _ h

end Go.Proofs.Ytaadklfendegfaa
