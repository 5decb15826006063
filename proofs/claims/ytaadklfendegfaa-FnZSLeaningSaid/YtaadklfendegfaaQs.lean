/- Several quadrilaterals made in one statement, in whatever order. -/
import Derived.Test.YtaadklfendegfaaInv
import Derived.Test.YtaadklfendegfaaCell
import Derived.Test.YtaadklfendegfaaPt
namespace Go.Proofs.Ytaadklfendegfaa
open Go.RowKit

def upd {α : Type} (L : Nat → α) (i : Nat) (v : α) : Nat → α := fun j => if j = i then v else L j

theorem upd_at {α : Type} (L : Nat → α) (i : Nat) (v : α) : upd L i v i = v := by simp [upd]
theorem upd_ne {α : Type} (L : Nat → α) {i j : Nat} (v : α) (h : j ≠ i) : upd L i v j = L j := by simp [upd, h]

def zero8 : Array Value := #[fv 0, fv 0, fv 0, fv 0, fv 0, fv 0, fv 0, fv 0]

abbrev Frame3 := (Nat → Value) → (Nat → Value) → (Nat → Value) → Act

/-- operations 2 i: a load; 2 i + 1: a call; 2 n + i: a new variable; 3 n + i: it is filled -/
structure InvQ (n : Nat) (frame : Frame3) (B : Nat) (w0 : World) (g : Nat → Value) (A : Nat → Array Value) (S : Nat → Bool) (L C V : Nat → Value) (p : Nat → Nat) (w : World) : Prop where
  below : Below B w0 w
  size : B ≤ w.heap.size
  loads : ∀ i, i < n → S (2 * i) = true → L i = g i
  calls : ∀ i, i < n → S (2 * i + 1) = true → C i = .agg (A i)
  vars : ∀ i, i < n → S (2 * n + i) = true → V i = .pointer (some ⟨p i, 0, none⟩) ∧ B ≤ p i ∧ p i < w.heap.size ∧ w.heap[p i]? = some (.cells (if S (3 * n + i) then A i else zero8) 27)
  apart : ∀ i j, i < n → j < n → i ≠ j → S (2 * n + i) = true → S (2 * n + j) = true → p i ≠ p j
  first : ∀ i, i < n → S (3 * n + i) = true → S (2 * n + i) = true

def InvW (n : Nat) (frame : Frame3) (B : Nat) (w0 : World) (g : Nat → Value) (A : Nat → Array Value) (S : Nat → Bool) (a : Act) (w : World) : Prop :=
  ∃ L C V p, a = frame L C V ∧ InvQ n frame B w0 g A S L C V p w

section
variable {n : Nat} {frame : Frame3} {B : Nat} {w0 w : World} {g : Nat → Value} {A : Nat → Array Value} {S : Nat → Bool} {L C V : Nat → Value} {p : Nat → Nat}

theorem more_ne {S : Nat → Bool} {i j : Nat} (h : j ≠ i) : more S i j = S j := by simp [more, h]

theorem inv_load (h : InvQ n frame B w0 g A S L C V p w) {i : Nat} (hi : i < n) : InvW n frame B w0 g A (more S (2 * i)) (frame (upd L i (g i)) C V) w := by
  refine ⟨upd L i (g i), C, V, p, rfl, h.below, h.size, fun j hj hS => ?_, fun j hj hS => ?_, fun j hj hS => ?_, fun j k hj hk hjk h1 h2 => ?_, fun j hj hS => ?_⟩
  · by_cases e : j = i
    · subst e; rw [upd_at]
    · rw [upd_ne _ _ e]; exact h.loads j hj (by rwa [more_ne (by omega)] at hS)
  · exact h.calls j hj (by rwa [more_ne (by omega)] at hS)
  · rw [more_ne (by omega)] at hS ⊢; exact h.vars j hj hS
  · rw [more_ne (by omega)] at h1 h2; exact h.apart j k hj hk hjk h1 h2
  · rw [more_ne (by omega)] at hS ⊢; exact h.first j hj hS

theorem inv_call (h : InvQ n frame B w0 g A S L C V p w) {i : Nat} (hi : i < n) {w' : World} (hb : Below w.heap.size w w') : InvW n frame B w0 g A (more S (2 * i + 1)) (frame L (upd C i (.agg (A i))) V) w' := by
  have hsz := hb.size
  refine ⟨L, upd C i (.agg (A i)), V, p, rfl, h.below.trans (hb.mono h.size), by have := h.size; omega, fun j hj hS => ?_, fun j hj hS => ?_, fun j hj hS => ?_, fun j k hj hk hjk h1 h2 => ?_, fun j hj hS => ?_⟩
  · exact h.loads j hj (by rwa [more_ne (by omega)] at hS)
  · by_cases e : j = i
    · subst e; rw [upd_at]
    · rw [upd_ne _ _ e]; exact h.calls j hj (by rwa [more_ne (by omega)] at hS)
  · rw [more_ne (by omega)] at hS ⊢
    obtain ⟨a1, a2, a3, a4⟩ := h.vars j hj hS
    exact ⟨a1, a2, by omega, by rw [hb.block _ a3]; exact a4⟩
  · rw [more_ne (by omega)] at h1 h2; exact h.apart j k hj hk hjk h1 h2
  · rw [more_ne (by omega)] at hS ⊢; exact h.first j hj hS

theorem inv_alloc (h : InvQ n frame B w0 g A S L C V p w) {i : Nat} (hi : i < n) (hS : S (2 * n + i) = false) :
    InvW n frame B w0 g A (more S (2 * n + i)) (frame L C (upd V i (.pointer (some ⟨w.heap.size, 0, none⟩)))) (w.alloc (.cells zero8 27)) := by
  have hsz := h.size
  have hs' : S (3 * n + i) = false := by
    cases hx : S (3 * n + i) with
    | false => rfl
    | true => rw [h.first i hi hx] at hS; cases hS
  refine ⟨L, C, upd V i (.pointer (some ⟨w.heap.size, 0, none⟩)), upd p i w.heap.size, rfl, h.below.alloc h.size _, by rw [blk_size]; omega, fun j hj hS => ?_, fun j hj hS => ?_, fun j hj hS => ?_, fun j k hj hk hjk h1 h2 => ?_, fun j hj hS => ?_⟩
  · exact h.loads j hj (by rwa [more_ne (by omega)] at hS)
  · exact h.calls j hj (by rwa [more_ne (by omega)] at hS)
  · rw [more_ne (show 3 * n + j ≠ 2 * n + i by omega)]
    by_cases e : j = i
    · subst e
      rw [upd_at, upd_at, hs']
      exact ⟨rfl, hsz, by rw [blk_size]; omega, blk_new _ _⟩
    · rw [upd_ne _ _ e, upd_ne _ _ e]
      rw [more_ne (by omega)] at hS
      obtain ⟨a1, a2, a3, a4⟩ := h.vars j hj hS
      exact ⟨a1, a2, by rw [blk_size]; omega, blk_old _ _ _ _ a4⟩
  · by_cases e : j = i
    · subst e
      rw [upd_at, upd_ne _ _ (Ne.symm hjk)]
      rw [more_ne (by omega)] at h2
      have := (h.vars k hk h2).2.2.1
      omega
    · by_cases e2 : k = i
      · subst e2
        rw [upd_at, upd_ne _ _ e]
        rw [more_ne (by omega)] at h1
        have := (h.vars j hj h1).2.2.1
        omega
      · rw [upd_ne _ _ e, upd_ne _ _ e2]
        rw [more_ne (by omega)] at h1 h2
        exact h.apart j k hj hk hjk h1 h2
  · rw [more_ne (by omega)] at hS
    have := h.first j hj hS
    simp [more, this]

theorem inv_store (h : InvQ n frame B w0 g A S L C V p w) {i : Nat} (hi : i < n) (hS : S (2 * n + i) = true) {w' : World} (ho : Only (p i) w w') (hw : w'.heap[p i]? = some (.cells (A i) 27)) :
    InvW n frame B w0 g A (more S (3 * n + i)) (frame L C V) w' := by
  have hv := h.vars i hi hS
  refine ⟨L, C, V, p, rfl, h.below.trans (ho.below hv.2.1), by rw [ho.size]; exact h.size, fun j hj hS => ?_, fun j hj hS => ?_, fun j hj hS => ?_, fun j k hj hk hjk h1 h2 => ?_, fun j hj hS => ?_⟩
  · exact h.loads j hj (by rwa [more_ne (by omega)] at hS)
  · exact h.calls j hj (by rwa [more_ne (by omega)] at hS)
  · rw [more_ne (by omega)] at hS
    obtain ⟨a1, a2, a3, a4⟩ := h.vars j hj hS
    refine ⟨a1, a2, by rw [ho.size]; exact a3, ?_⟩
    by_cases e : j = i
    · subst e; rw [hw]; simp [more]
    · rw [more_ne (by omega), ho.block _ (h.apart j i hj hi e hS (by assumption))]; exact a4
  · rw [more_ne (by omega)] at h1 h2; exact h.apart j k hj hk hjk h1 h2
  · rw [more_ne (show 2 * n + j ≠ 3 * n + i by omega)]
    by_cases e : j = i
    · subst e; assumption
    · rw [more_ne (by omega)] at hS; exact h.first j hj hS
theorem inv_call' (h : InvQ n frame B w0 g A S L C V p w) {i : Nat} (hi : i < n) (hS : S (2 * i) = true) {w' : World} (hb : Below w.heap.size w w') :
    InvW n frame B w0 g A (more S (2 * i + 1)) (frame (upd L i (g i)) (upd C i (.agg (A i))) V) w' := by
  have e : upd L i (g i) = L := by
    funext j
    by_cases hj : j = i
    · subst hj; rw [upd_at, h.loads j hi hS]
    · rw [upd_ne _ _ hj]
  rw [e]; exact inv_call h hi hb

theorem inv_store' (h : InvQ n frame B w0 g A S L C V p w) {i : Nat} (hi : i < n) (hS : S (2 * n + i) = true) (hS2 : S (2 * i + 1) = true) {w' : World} (ho : Only (p i) w w') (hw : w'.heap[p i]? = some (.cells (A i) 27)) :
    InvW n frame B w0 g A (more S (3 * n + i)) (frame L (upd C i (.agg (A i))) (upd V i (.pointer (some ⟨p i, 0, none⟩)))) w' := by
  have e : upd C i (.agg (A i)) = C := by
    funext j
    by_cases hj : j = i
    · subst hj; rw [upd_at, h.calls j hi hS2]
    · rw [upd_ne _ _ hj]
  have e2 : upd V i (.pointer (some ⟨p i, 0, none⟩)) = V := by
    funext j
    by_cases hj : j = i
    · subst hj; rw [upd_at, (h.vars j hi hS).1]
    · rw [upd_ne _ _ hj]
  rw [e, e2]; exact inv_store h hi hS ho hw

theorem arr8 {cur : Array Value} (h : cur.size = 8) : ∃ c0 c1 c2 c3 c4 c5 c6 c7, cur = #[c0, c1, c2, c3, c4, c5, c6, c7] := by
  refine ⟨cur[0], cur[1], cur[2], cur[3], cur[4], cur[5], cur[6], cur[7], ?_⟩
  apply Array.ext (by simp [h])
  intro i h1 h2
  have : i = 0 ∨ i = 1 ∨ i = 2 ∨ i = 3 ∨ i = 4 ∨ i = 5 ∨ i = 6 ∨ i = 7 := by omega
  rcases this with rfl | rfl | rfl | rfl | rfl | rfl | rfl | rfl <;> rfl

/-- eight stores into a block of the call's own -/
theorem fill8 {w : World} {q : Nat} {x0 x1 x2 x3 x4 x5 x6 x7 : Value} {cur : Array Value} (hc : cur.size = 8) (h : w.heap[q]? = some (.cells cur 27)) :
    Only q w ((((((((w.setCell ⟨q, 0, none⟩ x0).setCell ⟨q, 1, none⟩ x1).setCell ⟨q, 2, none⟩ x2).setCell ⟨q, 3, none⟩ x3).setCell ⟨q, 4, none⟩ x4).setCell ⟨q, 5, none⟩ x5).setCell ⟨q, 6, none⟩ x6).setCell ⟨q, 7, none⟩ x7) ∧
    ((((((((w.setCell ⟨q, 0, none⟩ x0).setCell ⟨q, 1, none⟩ x1).setCell ⟨q, 2, none⟩ x2).setCell ⟨q, 3, none⟩ x3).setCell ⟨q, 4, none⟩ x4).setCell ⟨q, 5, none⟩ x5).setCell ⟨q, 6, none⟩ x6).setCell ⟨q, 7, none⟩ x7).heap[q]? = some (.cells #[x0, x1, x2, x3, x4, x5, x6, x7] 27) := by
  refine ⟨?_, ?_⟩
  · refine Only.setCell (g := q) ?_ rfl _
    refine Only.setCell (g := q) ?_ rfl _
    refine Only.setCell (g := q) ?_ rfl _
    refine Only.setCell (g := q) ?_ rfl _
    refine Only.setCell (g := q) ?_ rfl _
    refine Only.setCell (g := q) ?_ rfl _
    refine Only.setCell (g := q) ?_ rfl _
    refine Only.setCell (g := q) ?_ rfl _
    exact Only.refl q w
  obtain ⟨c0, c1, c2, c3, c4, c5, c6, c7, rfl⟩ := arr8 hc
  have h1 := heap_setCell_at (o := 0) x0 h
  have h2 := heap_setCell_at (o := 1) x1 h1
  have h3 := heap_setCell_at (o := 2) x2 h2
  have h4 := heap_setCell_at (o := 3) x3 h3
  have h5 := heap_setCell_at (o := 4) x4 h4
  have h6 := heap_setCell_at (o := 5) x5 h5
  have h7 := heap_setCell_at (o := 6) x6 h6
  have h8 := heap_setCell_at (o := 7) x7 h7
  rw [h8]
  simp

theorem cell8 {w : World} {q : Nat} {cur : Array Value} (hc : cur.size = 8) (h : w.heap[q]? = some (.cells cur 27)) : ∃ c0 c1 c2 c3 c4 c5 c6 c7, w.cell? ⟨q, 0, none⟩ = some c0 ∧ w.cell? ⟨q, 1, none⟩ = some c1 ∧ w.cell? ⟨q, 2, none⟩ = some c2 ∧ w.cell? ⟨q, 3, none⟩ = some c3 ∧
    w.cell? ⟨q, 4, none⟩ = some c4 ∧ w.cell? ⟨q, 5, none⟩ = some c5 ∧ w.cell? ⟨q, 6, none⟩ = some c6 ∧ w.cell? ⟨q, 7, none⟩ = some c7 := by
  obtain ⟨c0, c1, c2, c3, c4, c5, c6, c7, rfl⟩ := arr8 hc
  exact ⟨c0, c1, c2, c3, c4, c5, c6, c7, cell_at_cells h rfl, cell_at_cells h rfl, cell_at_cells h rfl, cell_at_cells h rfl, cell_at_cells h rfl, cell_at_cells h rfl, cell_at_cells h rfl, cell_at_cells h rfl⟩

theorem quad_cells {w : World} {q : Nat} {Q : Q8} (h : w.heap[q]? = some (.cells Q.vals 27)) : w.cell? ⟨q, 0, none⟩ = some (fv Q.x0) ∧ w.cell? ⟨q, 1, none⟩ = some (fv Q.y0) ∧ w.cell? ⟨q, 2, none⟩ = some (fv Q.x1) ∧ w.cell? ⟨q, 3, none⟩ = some (fv Q.y1) ∧
    w.cell? ⟨q, 4, none⟩ = some (fv Q.x2) ∧ w.cell? ⟨q, 5, none⟩ = some (fv Q.y2) ∧ w.cell? ⟨q, 6, none⟩ = some (fv Q.x3) ∧ w.cell? ⟨q, 7, none⟩ = some (fv Q.y3) :=
  ⟨cell_at_cells h rfl, cell_at_cells h rfl, cell_at_cells h rfl, cell_at_cells h rfl, cell_at_cells h rfl, cell_at_cells h rfl, cell_at_cells h rfl, cell_at_cells h rfl⟩

def three {α : Type} (x y z : α) : Nat → α
  | 0 => x
  | 1 => y
  | _ => z
end

end Go.Proofs.Ytaadklfendegfaa
