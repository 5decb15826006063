/- What a call has touched: blocks of a list, and new ones. -/
import Derived.Test.YtaadklfendegfaaPd
namespace Go.Proofs.Ytaadklfendegfaa
open Go.RowKit

/-- all blocks that were there are as they were, but those of the list -/
structure Touch (l : List Nat) (w w' : World) : Prop where
  os : w'.os = w.os
  tape : w'.tape = w.tape
  output : w'.output = w.output
  size : w.heap.size ≤ w'.heap.size
  block : ∀ k, k < w.heap.size → k ∉ l → w'.heap[k]? = w.heap[k]?

namespace Touch
variable {l : List Nat} {a b c : World}
theorem refl (l : List Nat) (w : World) : Touch l w w := ⟨rfl, rfl, rfl, Nat.le_refl _, fun _ _ _ => rfl⟩
theorem trans (h : Touch l a b) (k : Touch l b c) : Touch l a c :=
  ⟨k.os.trans h.os, k.tape.trans h.tape, k.output.trans h.output, Nat.le_trans h.size k.size, fun i hi hl => (k.block i (Nat.lt_of_lt_of_le hi h.size) hl).trans (h.block i hi hl)⟩
theorem of_below (h : Below a.heap.size a b) : Touch l a b := ⟨h.os, h.tape, h.output, h.size, fun i hi _ => h.block i hi⟩
theorem of_only {g : Nat} (h : Only g a b) (hg : g ∈ l) : Touch l a b := ⟨h.os, h.tape, h.output, Nat.le_of_eq h.size.symm, fun i _ hl => h.block i (fun e => hl (e ▸ hg))⟩
/-- a block that was not there may be touched -/
theorem of_only_new {g : Nat} (h : Touch l a b) (ho : Only g b c) (hg : a.heap.size ≤ g) : Touch l a c :=
  ⟨ho.os.trans h.os, ho.tape.trans h.tape, ho.output.trans h.output, by rw [ho.size]; exact h.size, fun i hi hl => (ho.block i (by omega)).trans (h.block i hi hl)⟩
theorem drew (h : Touch l a b) : Touch l a b.drew := ⟨h.os, h.tape, h.output, h.size, h.block⟩
theorem drewN (h : Touch l a b) (n : Nat) : Touch l a (b.drewN n) := h.trans (of_below (below_drewN (Below.refl _ _) n))
theorem alloc (h : Touch l a b) (o : Obj) : Touch l a (b.alloc o) := h.trans (of_below ((Below.refl _ _).alloc (Nat.le_refl _) o))
theorem setCell (h : Touch l a b) {p : Addr} (hp : p.block ∈ l) (u : Value) : Touch l a (b.setCell p u) :=
  h.trans (of_only ((Only.refl p.block b).setCell rfl u) hp)
theorem setNew (h : Touch l a b) {p : Addr} (hp : a.heap.size ≤ p.block) (u : Value) : Touch l a (b.setCell p u) :=
  h.of_only_new ((Only.refl p.block b).setCell rfl u) hp
theorem mono {l' : List Nat} (h : Touch l a b) (hl : ∀ k, k ∈ l → k ∈ l') : Touch l' a b := ⟨h.os, h.tape, h.output, h.size, fun i hi hn => h.block i hi (fun e => hn (hl i e))⟩
theorem below {B : Nat} (h : Touch l a b) (hB : B ≤ a.heap.size) (hl : ∀ k, k ∈ l → B ≤ k) : Below B a b :=
  ⟨h.os, h.tape, h.output, h.size, fun i hi => h.block i (Nat.lt_of_lt_of_le hi hB) (fun e => by have := hl i e; omega)⟩
theorem row {g t n : Nat} {f : Nat → Value} (h : Touch l a b) (hr : a.rowIs g t n f) (hg : g ∉ l) : b.rowIs g t n f := hr.of_block (h.block _ hr.lt hg)
theorem cell (h : Touch l a b) {p : Addr} {v : Value} (hp : a.cell? p = some v) (hg : p.block ∉ l) : b.cell? p = some v := (World.cell?_of_block (h.block _ (cell_lt hp) hg)).trans hp
/-- what was not there before does not count -/
theorem trans_new {l' : List Nat} (h : Touch l a b) (k : Touch l' b c) (hl : ∀ x, x ∈ l' → x ∈ l ∨ a.heap.size ≤ x) : Touch l a c :=
  ⟨k.os.trans h.os, k.tape.trans h.tape, k.output.trans h.output, Nat.le_trans h.size k.size, fun i hi hn => (k.block i (Nat.lt_of_lt_of_le hi h.size) (fun e => by rcases hl i e with h1 | h1; exact hn h1; omega)).trans (h.block i hi hn)⟩
end Touch

end Go.Proofs.Ytaadklfendegfaa
