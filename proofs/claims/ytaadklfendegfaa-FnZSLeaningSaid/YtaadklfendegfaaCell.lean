/- Cells of blocks that are known whole. -/
import Derived.WalkKit
namespace Go.Proofs.Ytaadklfendegfaa
open Go.RowKit

/-- a cell of a block that is known whole -/
theorem cell_at_cells {w : World} {b j : Nat} {cs : Array Value} {t : TypeId} {v : Value} (h : w.heap[b]? = some (.cells cs t)) (hv : cs[j]? = some v) : w.cell? ⟨b, j, none⟩ = some v := by
  simp [World.cell?, h, hv]

theorem blk_new (w : World) (o : Obj) : (w.alloc o).heap[w.heap.size]? = some o := by
  show (w.heap.push o)[w.heap.size]? = some o
  simp
theorem blk_new' (w : World) (o : Obj) (k : Nat) (h : k = w.heap.size) : (w.alloc o).heap[k]? = some o := by
  subst h; exact blk_new w o
theorem blk_old (w : World) (o x : Obj) (k : Nat) (h : w.heap[k]? = some x) : (w.alloc o).heap[k]? = some x := by
  show (w.heap.push o)[k]? = some x
  have hk : k < w.heap.size := (Array.getElem?_eq_some_iff.1 h).1
  rw [Array.getElem?_push, if_neg (by omega)]; exact h
theorem blk_drew (w : World) (k : Nat) : w.drew.heap[k]? = w.heap[k]? := rfl
theorem blk_drew' {w : World} {k : Nat} {x : Obj} (h : w.heap[k]? = some x) : w.drew.heap[k]? = some x := h

theorem blk_if (w : World) (o : Obj) (k : Nat) : (w.alloc o).heap[k]? = if k = w.heap.size then some o else w.heap[k]? := by
  show (w.heap.push o)[k]? = _
  rw [Array.getElem?_push]

theorem blk_size (w : World) (o : Obj) : (w.alloc o).heap.size = w.heap.size + 1 := by
  show (w.heap.push o).size = _
  simp
theorem blk_dsize (w : World) : w.drew.heap.size = w.heap.size := rfl

/-- w' is w, but for block g -/
structure Only (g : Nat) (w w' : World) : Prop where
  os : w'.os = w.os
  tape : w'.tape = w.tape
  output : w'.output = w.output
  size : w'.heap.size = w.heap.size
  block : ∀ k, k ≠ g → w'.heap[k]? = w.heap[k]?

theorem Only.refl (g : Nat) (w : World) : Only g w w := ⟨rfl, rfl, rfl, rfl, fun _ _ => rfl⟩
theorem Only.trans {g : Nat} {a b c : World} (h : Only g a b) (k : Only g b c) : Only g a c :=
  ⟨k.os.trans h.os, k.tape.trans h.tape, k.output.trans h.output, k.size.trans h.size, fun i hi => (k.block i hi).trans (h.block i hi)⟩
theorem Only.drew {g : Nat} {a w : World} (h : Only g a w) : Only g a w.drew := ⟨h.os, h.tape, h.output, h.size, h.block⟩
theorem Only.setCell {g : Nat} {a w : World} (h : Only g a w) {p : Addr} (hp : p.block = g) (u : Value) : Only g a (w.setCell p u) :=
  h.trans ⟨rfl, rfl, rfl, by simp [World.setCell], fun k hk => Below.heap_setCell _ _ _ _ (by omega)⟩
theorem Only.below {g B : Nat} {w w' : World} (h : Only g w w') (hB : B ≤ g) : Below B w w' :=
  ⟨h.os, h.tape, h.output, by rw [h.size]; exact Nat.le_refl _, fun k hk => h.block k (by omega)⟩

theorem heap_setCell_at {w : World} {g o : Nat} {cur : Array Value} {E : TypeId} (v : Value) (h : w.heap[g]? = some (.cells cur E)) : (w.setCell ⟨g, o, none⟩ v).heap[g]? = some (.cells (cur.setIfInBounds o v) E) := by
  simp only [World.setCell, Array.getElem?_modify, if_true, h, Option.map_some]
  rfl

section
variable {P : Program} (w : World) (a : Addr) (m : Mode)
@[go_sem] theorem run_store_float (k : FloatKind) (n : Nat) : (store a (.float k n) m).run P w = stored P w a (.float k n) m := run_store P w a _ m rfl
end

end Go.Proofs.Ytaadklfendegfaa
