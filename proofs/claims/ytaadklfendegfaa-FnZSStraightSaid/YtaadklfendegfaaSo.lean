/- The walks of the source of grays: its width, height, rows and the whole. -/
import Derived.Test.YtaadklfendegfaaPd
import Derived.Laws.CopyOwn
import Derived.Lib.SliceRun
import Derived.WalkSpells
namespace Go.Proofs.Ytaadklfendegfaa
open Go.RowKit

/-- a source of W by H grays: its block, the grays' block -/
def Src (w : World) (p gb W H cap : Nat) (gr : Nat → Int) : Prop :=
  w.heap[p]? = some (.cells #[.int .i64 (W : Int), .int .i64 (H : Int), .slice (some ⟨gb, 0, none⟩) (W * H) cap, .int .i64 (W : Int), .int .i64 (H : Int), .int .i64 0, .int .i64 0] 135) ∧
    ∀ i, i < W * H → w.cell? ⟨gb, i, none⟩ = some (.int .u8 (gr i))

theorem Src.of_blocks {w w' : World} {p gb W H cap : Nat} {gr : Nat → Int} (h : Src w p gb W H cap gr) (hp : w'.heap[p]? = w.heap[p]?) (hg : w'.heap[gb]? = w.heap[gb]?) : Src w' p gb W H cap gr :=
  ⟨hp.trans h.1, fun i hi => (World.cell?_of_block (w := w) hg).trans (h.2 i hi)⟩
theorem Src.lt {w : World} {p gb W H cap : Nat} {gr : Nat → Int} (h : Src w p gb W H cap gr) (hW : 1 ≤ W) (hH : 1 ≤ H) : p < w.heap.size ∧ gb < w.heap.size :=
  ⟨(Array.getElem?_eq_some_iff.1 h.1).1, cell_lt (h.2 0 (Nat.mul_pos hW hH))⟩
theorem Src.below {w w' : World} {p gb W H cap : Nat} {gr : Nat → Int} (h : Src w p gb W H cap gr) (hW : 1 ≤ W) (hH : 1 ≤ H) (hb : Below w.heap.size w w') : Src w' p gb W H cap gr :=
  h.of_blocks (hb.block _ (h.lt hW hH).1) (hb.block _ (h.lt hW hH).2)
theorem Src.only {w w' : World} {p gb W H cap g : Nat} {gr : Nat → Int} (h : Src w p gb W H cap gr) (ho : Only g w w') (h1 : p ≠ g) (h2 : gb ≠ g) : Src w' p gb W H cap gr :=
  h.of_blocks (ho.block _ h1) (ho.block _ h2)

set_option maxRecDepth 100000 in
theorem basew_calls (a : Addr) (W : Int) (w : World) (h : w.cell? a = some (.int .i64 W)) (ha : a = ⟨a.block, a.off, none⟩) : Calls Try.prog 97 #[.pointer (some a)] w fun e w' => e = .returned (.int .i64 W) ∧ w = w' := by
  obtain ⟨b, o, s⟩ := a
  obtain rfl : s = none := by injection ha
  clear ha
  go_enter Try.func97, Try.ntmps97
  go_wp2
  go_ret
  exact ⟨rfl, rfl⟩

set_option maxRecDepth 100000 in
theorem baseh_calls (b o : Nat) (H : Int) (w : World) (h : w.cell? ⟨b, o + 1, none⟩ = some (.int .i64 H)) : Calls Try.prog 94 #[.pointer (some ⟨b, o, none⟩)] w fun e w' => e = .returned (.int .i64 H) ∧ w = w' := by
  go_enter Try.func94, Try.ntmps94
  go_wp2
  go_ret
  exact ⟨rfl, rfl⟩

set_option maxRecDepth 100000 in
set_option maxHeartbeats 1000000 in
theorem getmatrix_calls (p gb W H cap : Nat) (gr : Nat → Int) (w : World) (hs : Src w p gb W H cap gr) : Calls Try.prog 95 #[.pointer (some ⟨p, 0, none⟩)] w fun e w' => e = .returned (.slice (some ⟨gb, 0, none⟩) (W * H) cap) ∧ w = w' := by
  have hp := hs.1
  have C0 : w.cell? ⟨p, 0, none⟩ = some (.int .i64 (W : Int)) := cell_at_cells hp rfl
  have C1 : w.cell? ⟨p, 1, none⟩ = some (.int .i64 (H : Int)) := cell_at_cells hp rfl
  have C1' : w.cell? ⟨p, 0 + 1, none⟩ = some (.int .i64 (H : Int)) := C1
  have C2 : w.cell? ⟨p, 2, none⟩ = some (.slice (some ⟨gb, 0, none⟩) (W * H) cap) := cell_at_cells hp rfl
  have C3 : w.cell? ⟨p, 3, none⟩ = some (.int .i64 (W : Int)) := cell_at_cells hp rfl
  have C4 : w.cell? ⟨p, 4, none⟩ = some (.int .i64 (H : Int)) := cell_at_cells hp rfl
  have HC := Lib.hid C1'
  clear hp hs C1'
  go_enter Try.func95, Try.ntmps95
  go_wp2_with (first | (go_at_call 97; refine (basew_calls ⟨p, 0, none⟩ W _ C0 rfl).mono ?_; rintro e w' ⟨rfl, rfl⟩) | (go_at_call 94; refine (baseh_calls p 0 H _ HC.out).mono ?_; rintro e w' ⟨rfl, rfl⟩))
  go_ret
  exact ⟨rfl, rfl⟩

theorem copied {w : World} {g n : Nat} (f' : Nat → Int) {cur : Array Value} (hc : w.heap[g]? = some (.cells cur 5 (0, 0))) (hn : cur.size = n) :
    Only g w (w.setRow g (cur.toList.take 0 ++ (((List.range n).map fun i => Value.int .u8 (f' i)) ++ cur.toList.drop (0 + ((List.range n).map fun i => Value.int .u8 (f' i)).length))).toArray) ∧
    (w.setRow g (cur.toList.take 0 ++ (((List.range n).map fun i => Value.int .u8 (f' i)) ++ cur.toList.drop (0 + ((List.range n).map fun i => Value.int .u8 (f' i)).length))).toArray).rowIs g 5 n (fun i => .int .u8 (f' i)) := by
  refine ⟨⟨rfl, rfl, rfl, by simp [World.setRow], fun k hk => setRow_other _ _ _ _ hk⟩, _, setRow_heap w g cur _ 5 (0, 0) hc, ?_, ?_⟩
  · simp [hn]
  · intro i hi
    simp [hi, hn]

set_option maxRecDepth 100000 in
set_option maxHeartbeats 2000000 in
theorem getrow_calls (p gb W H cap lb y : Nat) (gr f0 : Nat → Int) (w : World) (hs : Src w p gb W H cap gr) (hrow : w.rowIs lb 5 W (fun i => .int .u8 (f0 i))) (hW0 : 1 ≤ W) (hW : W ≤ 100000) (hH : H ≤ 100000) (hy : y < H) (hcap : W * H ≤ cap) :
    Calls Try.prog 96 #[.pointer (some ⟨p, 0, none⟩), .int .i64 (y : Int), .slice (some ⟨lb, 0, none⟩) W W] w fun e w' => e = .returned (.tuple #[.slice (some ⟨lb, 0, none⟩) W W, .nilIface]) ∧ w'.rowIs lb 5 W (fun x => .int .u8 (gr (y * W + x))) ∧ ∃ wd, Only lb wd w' ∧ ∃ m, wd = w.drewN m := by
  have hp := hs.1
  have C0 : w.cell? ⟨p, 0, none⟩ = some (.int .i64 (W : Int)) := cell_at_cells hp rfl
  have C1 : w.cell? ⟨p, 1, none⟩ = some (.int .i64 (H : Int)) := cell_at_cells hp rfl
  have C1' : w.cell? ⟨p, 0 + 1, none⟩ = some (.int .i64 (H : Int)) := C1
  have C2 : w.cell? ⟨p, 2, none⟩ = some (.slice (some ⟨gb, 0, none⟩) (W * H) cap) := cell_at_cells hp rfl
  have C3 : w.cell? ⟨p, 3, none⟩ = some (.int .i64 (W : Int)) := cell_at_cells hp rfl
  have C5 : w.cell? ⟨p, 5, none⟩ = some (.int .i64 0) := cell_at_cells hp rfl
  have C6 : w.cell? ⟨p, 6, none⟩ = some (.int .i64 0) := cell_at_cells hp rfl
  have HC := Lib.hid C1'
  have HS := Lib.hid hs
  have p3 : y * W ≤ 100000 * 100000 := Nat.mul_le_mul (by omega) hW
  have A3 : IntKind.i64.wrap ((y : Int) * (W : Int)) = ((y * W : Nat) : Int) := by rw [Int.natCast_mul]; exact IntWalk.i64_in _ ⟨by have := Int.mul_nonneg (a := (y:Int)) (b := (W:Int)) (by omega) (by omega); omega, by have := Int.ofNat_le.2 p3; rw [Int.natCast_mul] at this; omega⟩
  have hfit : y * W + W ≤ W * H := by
    have := Nat.mul_le_mul_right W (show y + 1 ≤ H by omega)
    rw [Nat.add_mul, Nat.one_mul, Nat.mul_comm H] at this; exact this
  obtain ⟨cur, hcur, hcn, _⟩ := hrow
  have HSrc : Hid (∀ i, i < W * H → w.cell? ⟨gb, i, none⟩ = some (.int .u8 (gr i))) := hs.2
  have HCur := Lib.hid hcur
  clear hp hs C1' hcur
  generalize y * W = yw at *
  generalize W * H = sz at *
  have B1 : decide ((H : Int) ≤ (y : Int)) = false := by simp; omega
  have B2 : decide (H ≤ y) = false := by simp; omega
  have B3 : decide ((W : Int) < (W : Int)) = false := by simp
  have qT := fun (w : World) (a : Option Addr) (n c n' c' : Nat) => Lib.run_eql_slice_nil (P := Try.prog) w 39 5 a n c n' c' Try.underlying39
  have S1 : (yw : Int) ≤ (yw : Int) + (W : Int) := by omega
  have S2 : (yw : Int) + (W : Int) ≤ (cap : Int) := by omega
  have S3 : ((yw : Int) + (W : Int)).toNat = yw + W := by omega
  have S4 : 0 ≤ (yw : Int) + (W : Int) := by omega
  go_enter Try.func96, Try.ntmps96
  go_wp2_with (first | (go_at_call 97; refine (basew_calls ⟨p, 0, none⟩ W _ C0 rfl).mono ?_; rintro e w' ⟨rfl, rfl⟩) | (go_at_call 94; refine (baseh_calls p 0 H _ HC.out).mono ?_; rintro e w' ⟨rfl, rfl⟩))
  go_quiet (fail)
  have hcur2 : (w.drewN nq).heap[lb]? = some (.cells cur 5 (0, 0)) := HCur.out
  go_wp2_with (refine wpList_copy_own rfl (.tmp 51) (.tmp 60) 39 39 rfl 5 Try.underlying39 (by kernel_rfl) lb 0 W W ⟨gb, yw, none⟩ W (cap - yw) rfl rfl cur 5 hcur2 ((List.range W).map fun i => Value.int .u8 (gr (yw + i))) ?c1 ?c2 ?c3 ?c4 ?_)
  case c1 => simp
  case c2 =>
    intro j v hv
    rw [List.getElem?_map] at hv
    by_cases hj : j < W
    · rw [List.getElem?_range hj] at hv
      simp at hv
      subst hv
      have := HSrc.out (yw + j) (by omega)
      unfold Addr.add
      split
      · rename_i h0; subst h0; simpa using this
      · simpa using this
    · rw [List.getElem?_eq_none (by simp; omega)] at hv; cases hv
  case c3 => simp [hcn]
  case c4 =>
    intro v hv
    rw [List.mem_map] at hv
    obtain ⟨i, _, rfl⟩ := hv
    rfl
  have hres := copied (fun x => gr (yw + x)) hcur2 hcn
  simp only [List.take_zero, List.nil_append, Nat.zero_add, List.length_map, List.length_range] at hres
  have HRes := Lib.hid hres
  clear hres
  clear hcur2
  go_wp2
  go_ret2
  exact ⟨rfl, HRes.out.2, _, HRes.out.1, nq, rfl⟩

end Go.Proofs.Ytaadklfendegfaa
