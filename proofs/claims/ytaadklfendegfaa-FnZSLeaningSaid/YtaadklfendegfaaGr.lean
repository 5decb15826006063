/- Rows and tables of truth values in memory: the words. -/
import Derived.WalkKit
import Derived.Deep.OwnRows
import Derived.Below
namespace Go.Proofs.Ytaadklfendegfaa
open Go Go.RowKit

theorem cell_lt {w : World} {a : Addr} {v : Value} (h : w.cell? a = some v) : a.block < w.heap.size := by
  apply Classical.byContradiction; intro hn
  have e : w.heap[a.block]? = none := Array.getElem?_eq_none (by omega)
  simp [World.cell?, e] at h

/-- a row of truth values, read -/
def BRow (w : World) (v : Value) (n : Nat) (f : Nat → Bool) : Prop :=
  ∃ b c, v = .slice (some ⟨b, 0, none⟩) n c ∧ ∀ j, j < n → w.cell? ⟨b, j, none⟩ = some (.bool (f j))

/-- rows of truth values, read: h rows of n -/
def Grid (w : World) (v : Value) (h n : Nat) (F : Nat → Nat → Bool) : Prop :=
  ∃ g c, v = .slice (some ⟨g, 0, none⟩) h c ∧ ∀ y, y < h → ∃ u, w.cell? ⟨g, y, none⟩ = some u ∧ BRow w u n (F y)

theorem BRow.below {w w' : World} {v : Value} {n : Nat} {f : Nat → Bool} (h : BRow w v n f) (hb : Below w.heap.size w w') : BRow w' v n f := by
  obtain ⟨b, c, rfl, hc⟩ := h
  exact ⟨b, c, rfl, fun j hj => (hb.cell (cell_lt (hc j hj))).trans (hc j hj)⟩
theorem Grid.below {w w' : World} {v : Value} {h n : Nat} {F : Nat → Nat → Bool} (hg : Grid w v h n F) (hb : Below w.heap.size w w') : Grid w' v h n F := by
  obtain ⟨g, c, rfl, hc⟩ := hg
  refine ⟨g, c, rfl, fun y hy => ?_⟩
  obtain ⟨u, h1, h2⟩ := hc y hy
  exact ⟨u, (hb.cell (cell_lt h1)).trans h1, h2.below hb⟩
theorem BRow.congr {w : World} {v : Value} {n : Nat} {f g : Nat → Bool} (h : BRow w v n f) (e : ∀ j, j < n → f j = g j) : BRow w v n g := by
  obtain ⟨b, c, rfl, hc⟩ := h
  exact ⟨b, c, rfl, fun j hj => by rw [hc j hj, e j hj]⟩
theorem Grid.congr {w : World} {v : Value} {h n : Nat} {F G : Nat → Nat → Bool} (hg : Grid w v h n F) (e : ∀ y, y < h → ∀ x, x < n → F y x = G y x) : Grid w v h n G := by
  obtain ⟨g, c, rfl, hc⟩ := hg
  refine ⟨g, c, rfl, fun y hy => ?_⟩
  obtain ⟨u, h1, h2⟩ := hc y hy
  exact ⟨u, h1, h2.congr (e y hy)⟩

/-- rows of the call's own, each in a block of its own -/
def Rows2 (w : World) (g : Nat) (R : Nat → Nat) (h n : Nat) (F : Nat → Nat → Bool) : Prop :=
  (∀ y, y < h → w.cell? ⟨g, y, none⟩ = some (.slice (some ⟨R y, 0, none⟩) n n)) ∧ (∀ y, y < h → w.rowIs (R y) 4 n (fun x => .bool (F y x))) ∧ (∀ y, y < h → R y ≠ g) ∧
    ∀ y y', y < h → y' < h → R y = R y' → y = y'

/-- a table of the call's own -/
def GridO (base : Nat) (w : World) (v : Value) (h n : Nat) (F : Nat → Nat → Bool) : Prop :=
  ∃ g c R, v = .slice (some ⟨g, 0, none⟩) h c ∧ base ≤ g ∧ Rows2 w g R h n F ∧ ∀ y, y < h → base ≤ R y

theorem GridO.grid {base : Nat} {w : World} {v : Value} {h n : Nat} {F : Nat → Nat → Bool} (hg : GridO base w v h n F) : Grid w v h n F := by
  obtain ⟨g, c, R, rfl, _, ⟨h1, h2, _, _⟩, _⟩ := hg
  exact ⟨g, c, rfl, fun y hy => ⟨_, h1 y hy, R y, n, rfl, fun j hj => (h2 y hy).cell hj⟩⟩

theorem GridO.mono {base base' : Nat} {w : World} {v : Value} {h n : Nat} {F : Nat → Nat → Bool} (hg : GridO base w v h n F) (hb : base' ≤ base) : GridO base' w v h n F := by
  obtain ⟨g, c, R, rfl, h1, h2, h3⟩ := hg
  exact ⟨g, c, R, rfl, by omega, h2, fun y hy => Nat.le_trans hb (h3 y hy)⟩
theorem GridO.setCell {base : Nat} {w : World} {v : Value} {h n : Nat} {F : Nat → Nat → Bool} (hg : GridO base w v h n F) {a : Addr} (ha : a.block < base) (u : Value) : GridO base (w.setCell a u) v h n F := by
  obtain ⟨g, c, R, rfl, h1, ⟨h2, h3, h4, h5⟩, h6⟩ := hg
  refine ⟨g, c, R, rfl, h1, ⟨fun y hy => ?_, fun y hy => (h3 y hy).setOther (by have := h6 y hy; omega) u, h4, h5⟩, h6⟩
  rw [World.cell?_of_block (w := w) (Below.heap_setCell w a u g (by omega))]
  exact h2 y hy
theorem GridO.below {base : Nat} {w w' : World} {v : Value} {h n : Nat} {F : Nat → Nat → Bool} (hg : GridO base w v h n F) (hb : Below w.heap.size w w') : GridO base w' v h n F := by
  obtain ⟨g, c, R, rfl, h1, ⟨h2, h3, h4, h5⟩, h6⟩ := hg
  exact ⟨g, c, R, rfl, h1, ⟨fun y hy => (hb.cell (cell_lt (h2 y hy))).trans (h2 y hy), fun y hy => (h3 y hy).of_block (hb.block _ (h3 y hy).lt), h4, h5⟩, h6⟩
theorem GridO.congr {base : Nat} {w : World} {v : Value} {h n : Nat} {F G : Nat → Nat → Bool} (hg : GridO base w v h n F) (e : ∀ y, y < h → ∀ x, x < n → F y x = G y x) : GridO base w v h n G := by
  obtain ⟨g, c, R, rfl, h1, ⟨h2, h3, h4, h5⟩, h6⟩ := hg
  exact ⟨g, c, R, rfl, h1, ⟨h2, fun y hy => (h3 y hy).congr fun x hx => by rw [e y hy x hx], h4, h5⟩, h6⟩

end Go.Proofs.Ytaadklfendegfaa
