/- The walks of BitArray. -/
import Derived.Test.YtaadklfendegfaaBm
import Derived.Test.YtaadklfendegfaaTc
namespace Go.Proofs.Ytaadklfendegfaa
open Go.RowKit

/-- a row of bits: its block, its words' block -/
def BA (w : World) (p g W : Nat) (B : Nat → Bool) : Prop :=
  ∃ ws : Nat → Nat, w.heap[p]? = some (.cells #[.slice (some ⟨g, 0, none⟩) (rsOf W) (rsOf W), .int .i64 (W : Int)] 123) ∧
    w.rowIs g 124 (rsOf W) (fun i => .int .u32 (ws i : Int)) ∧ (∀ i, ws i < 4294967296) ∧ ∀ x, x < W → (ws (x / 32)).testBit (x % 32) = B x

theorem BA.ne {w : World} {p g W : Nat} {B : Nat → Bool} (h : BA w p g W B) : p ≠ g := by
  obtain ⟨ws, hp, ⟨c, hg, _⟩, _⟩ := h
  rintro rfl
  rw [hp] at hg
  injection hg with hg
  injection hg with _ hg
  cases hg
theorem BA.of_blocks {w w' : World} {p g W : Nat} {B : Nat → Bool} (h : BA w p g W B) (hp : w'.heap[p]? = w.heap[p]?) (hg : w'.heap[g]? = w.heap[g]?) : BA w' p g W B := by
  obtain ⟨ws, h1, h2, h3⟩ := h
  exact ⟨ws, hp.trans h1, h2.of_block hg, h3⟩
theorem BA.lt {w : World} {p g W : Nat} {B : Nat → Bool} (h : BA w p g W B) : p < w.heap.size ∧ g < w.heap.size := by
  obtain ⟨ws, h1, h2, h3⟩ := h
  exact ⟨(Array.getElem?_eq_some_iff.1 h1).1, h2.lt⟩
theorem BA.below {w w' : World} {p g W : Nat} {B : Nat → Bool} (h : BA w p g W B) (hb : Below w.heap.size w w') : BA w' p g W B :=
  h.of_blocks (hb.block _ h.lt.1) (hb.block _ h.lt.2)
theorem BA.congr {w : World} {p g W : Nat} {B B' : Nat → Bool} (h : BA w p g W B) (e : ∀ x, x < W → B x = B' x) : BA w p g W B' := by
  obtain ⟨ws, h1, h2, h3, h4⟩ := h
  exact ⟨ws, h1, h2, h3, fun x hx => (h4 x hx).trans (e x hx)⟩

set_option maxRecDepth 100000 in
set_option maxHeartbeats 1000000 in
theorem makearr_calls (W : Nat) (w : World) (hW : W ≤ 100000) : Calls Try.prog 58 #[.int .i64 (W : Int)] w fun e w' => e = .returned (.slice (some ⟨w.heap.size, 0, none⟩) (rsOf W) (rsOf W)) ∧ w'.rowIs w.heap.size 124 (rsOf W) (fun _ => .int .u32 0) ∧ Below w.heap.size w w' := by
  have hr := rs_bound hW
  have A0 : ((W : Int) + 31) / 32 = (rsOf W : Int) := by unfold rsOf; omega
  generalize rsOf W = rs at *
  have hmk := fun (w : World) => run_make_row' (P := Try.prog) 120 124 (.int .u32 0) 4 Try.underlying120 Try.info124 rfl .i64 .i64 rs (by omega) (by omega) w
  have HX : Hid ((w.alloc (.cells (madeCells #[.int .u32 0] rs) 124)).rowIs w.heap.size 124 rs (fun _ => .int .u32 0) ∧ Below w.heap.size w (w.alloc (.cells (madeCells #[.int .u32 0] rs) 124))) := ⟨World.rowIs_made w (.int .u32 0) rs 124, (Below.refl _ _).alloc (Nat.le_refl _) _⟩
  go_enter Try.func58, Try.ntmps58
  go_wp2
  go_ret
  exact ⟨rfl, HX.out.1, HX.out.2⟩

set_option maxRecDepth 100000 in
set_option maxHeartbeats 1000000 in
theorem newba_calls (W : Nat) (w : World) (hW : W ≤ 100000) : Calls Try.prog 39 #[.int .i64 (W : Int)] w fun e w' => ∃ p g, e = .returned (.pointer (some ⟨p, 0, none⟩)) ∧ BA w' p g W (fun _ => false) ∧ w.heap.size ≤ p ∧ w.heap.size ≤ g ∧ Below w.heap.size w w' := by
  go_enter Try.func39, Try.ntmps39
  go_wp2_with (go_at_call 58; refine (makearr_calls W _ hW).mono ?_)
  rintro e w1 ⟨rfl, hr, hb⟩
  have HR := Lib.hid hr
  have HB := Lib.hid hb
  clear hr hb
  go_wp2
  go_ret
  exact ⟨w1.heap.size, w.heap.size, rfl, ⟨fun _ => 0, blk_new _ _, HR.out.alloc _, by simp, by simp⟩, HB.out.size, Nat.le_refl _, HB.out.alloc HB.out.size _⟩

set_option maxRecDepth 100000 in
theorem basize_calls (p g W : Nat) (B : Nat → Bool) (w : World) (h : BA w p g W B) : Calls Try.prog 40 #[.pointer (some ⟨p, 0, none⟩)] w fun e w' => e = .returned (.int .i64 (W : Int)) ∧ w = w' := by
  obtain ⟨ws, hp, _⟩ := h
  have C : w.cell? ⟨p, 1, none⟩ = some (.int .i64 (W : Int)) := cell_at_cells hp rfl
  clear hp
  go_enter Try.func40, Try.ntmps40
  go_wp2
  go_ret
  exact ⟨rfl, rfl⟩

theorem and_pow32 (a m : Nat) (ha : a < 4294967296) (hm : m < 32) : (bits .and .u32 (a : Int) ((2 : Int) ^ m % 4294967296) != 0) = a.testBit m := by
  have h2 : 2 ^ m < 2 ^ 32 := Nat.pow_lt_pow_right (by decide) hm
  have e : (2 : Int) ^ m % 4294967296 = ((2 ^ m : Nat) : Int) := by
    have h3 : (2 : Int) ^ m = ((2 ^ m : Nat) : Int) := by simp
    rw [h3]; exact Int.emod_eq_of_lt (Int.natCast_nonneg _) (by have := Int.ofNat_lt.2 h2; simpa using this)
  rw [e, (bits_nat .u32 32 (by decide) (fun n h0 h1 => by rw [IntKind.wrap_u32]; omega) a (2 ^ m) ha h2).1]
  have hand : a &&& 2 ^ m = if a.testBit m = true then 2 ^ m else 0 := by
    apply Nat.eq_of_testBit_eq
    intro i
    rw [Nat.testBit_and, Nat.testBit_two_pow]
    by_cases ei : m = i
    · subst ei
      cases hb : a.testBit m
      · simp
      · simp
    · cases hb : a.testBit m
      · simp [ei]
      · simp [ei]
  rw [hand]
  have hp : 0 < 2 ^ m := Nat.two_pow_pos m
  cases a.testBit m
  · simp
  · simp; omega

set_option maxRecDepth 100000 in
set_option maxHeartbeats 1000000 in
theorem baget_calls (p g W x : Nat) (B : Nat → Bool) (w : World) (h : BA w p g W B) (hx : x < W) (hW : W ≤ 100000) : Calls Try.prog 41 #[.pointer (some ⟨p, 0, none⟩), .int .i64 (x : Int)] w fun e w' => e = .returned (.bool (B x)) ∧ w = w' := by
  obtain ⟨ws, hp, hrow, hlim, hbit⟩ := h
  have C : w.cell? ⟨p, 0, none⟩ = some (.slice (some ⟨g, 0, none⟩) (rsOf W) (rsOf W)) := cell_at_cells hp rfl
  have hi : x / 32 < rsOf W := by unfold rsOf; omega
  have A4 : (x : Int) / 32 = ((x / 32 : Nat) : Int) := by omega
  have A5 : (x : Int) % 32 = ((x % 32 : Nat) : Int) := by omega
  have hm : x % 32 < 32 := Nat.mod_lt _ (by omega)
  have HB := Lib.hid (hbit x hx)
  have hq1 : x / 32 ≤ 100000 := by omega
  generalize x / 32 = q at *
  generalize x % 32 = m at *
  have X0 := hrow.cell hi
  have hl := hlim q
  generalize rsOf W = rs at *
  have A7 : (q : Int) < (rs : Int) := by omega
  have A8 : 0 ≤ (q : Int) := by omega
  clear hp hrow hlim hbit
  go_enter Try.func41, Try.ntmps41
  go_wp2
  rw [and_pow32 _ _ hl hm, HB.out]
  go_ret
  exact ⟨rfl, rfl⟩

set_option maxRecDepth 100000 in
set_option maxHeartbeats 1000000 in
theorem baset_calls (p g W x : Nat) (B : Nat → Bool) (w : World) (h : BA w p g W B) (hx : x < W) (hW : W ≤ 100000) : Calls Try.prog 119 #[.pointer (some ⟨p, 0, none⟩), .int .i64 (x : Int)] w fun e w' => e = .returned (.tuple #[]) ∧ BA w' p g W (fun x' => if x' = x then true else B x') ∧ Only g w w' := by
  have hne := h.ne
  obtain ⟨ws, hp, hrow, hlim, hbit⟩ := h
  have C : w.cell? ⟨p, 0, none⟩ = some (.slice (some ⟨g, 0, none⟩) (rsOf W) (rsOf W)) := cell_at_cells hp rfl
  have hi : x / 32 < rsOf W := by unfold rsOf; omega
  have A4 : (x : Int) / 32 = ((x / 32 : Nat) : Int) := by omega
  have A5 : (x : Int) % 32 = ((x % 32 : Nat) : Int) := by omega
  have hm : x % 32 < 32 := Nat.mod_lt _ (by omega)
  have hq1 : x / 32 ≤ 100000 := by omega
  generalize hq : x / 32 = q at *
  generalize hmm : x % 32 = m at *
  have X0 := hrow.cell hi
  have F0 := hrow.frozen q
  have hl := hlim q
  have HROW := Lib.hid hrow
  have HP := Lib.hid hp
  have HL := Lib.hid hlim
  have HB := Lib.hid hbit
  have HE := Lib.hid (And.intro hq hmm)
  clear hrow hp hlim hbit hq hmm
  generalize hrs : rsOf W = rs at *
  have HRs := Lib.hid hrs
  clear hrs
  have A7 : (q : Int) < (rs : Int) := by omega
  have A8 : 0 ≤ (q : Int) := by omega
  go_enter Try.func119, Try.ntmps119
  go_wp2
  go_end0
  obtain ⟨e1, e2⟩ := HE.out
  have hv := or_bit32 (ws q) m hl hm
  rw [hv]
  have hrs := HRs.out
  refine ⟨rfl, ⟨fun j => if j = q then ws q ||| 2 ^ m else ws j, ?_, ?_, ?_, ?_⟩, (Only.refl g w).setCell (p := ⟨g, q, none⟩) rfl _⟩
  · rw [hrs, Below.heap_setCell _ _ _ _ (by exact hne)]; exact HP.out
  · rw [hrs]; exact (HROW.out.set q _).congr fun j _ => by by_cases e : j = q <;> simp [e]
  · intro j
    by_cases e : j = q
    · simp only [e, if_true]; exact Nat.or_lt_two_pow (n := 32) hl (Nat.lt_of_lt_of_le (Nat.pow_lt_pow_right (by decide) hm) (Nat.le_refl _))
    · simp only [e, if_false]; exact HL.out j
  · intro x' hx'
    have hb := HB.out x' hx'
    by_cases e : x' / 32 = q
    · simp only [e, if_true]
      rw [Nat.testBit_or, Nat.testBit_two_pow]
      rw [e] at hb
      rw [hb]
      by_cases em : x' % 32 = m
      · have ex : x' = x := by omega
        rw [if_pos ex, decide_eq_true em.symm, Bool.or_true]
      · have ex : ¬ x' = x := fun h => em (by rw [h]; exact e2)
        rw [if_neg ex, decide_eq_false (fun h => em h.symm), Bool.or_false]
    · simp only [e, if_false]
      have : ¬ x' = x := by
        rintro rfl
        exact e e1
      rw [if_neg this]
      exact hb

set_option maxRecDepth 100000 in
set_option maxHeartbeats 1000000 in
theorem baclear_calls (p g W : Nat) (B : Nat → Bool) (w : World) (h : BA w p g W B) (hW : W ≤ 100000) : Calls Try.prog 82 #[.pointer (some ⟨p, 0, none⟩)] w fun e w' => e = .returned (.tuple #[]) ∧ BA w' p g W (fun _ => false) ∧ Only g w w' := by
  have hne := h.ne
  obtain ⟨ws, hp, hrow, hlim, hbit⟩ := h
  have C : w.cell? ⟨p, 0, none⟩ = some (.slice (some ⟨g, 0, none⟩) (rsOf W) (rsOf W)) := cell_at_cells hp rfl
  have hr := rs_bound hW
  have HP := Lib.hid hp
  clear hp hlim hbit
  generalize hrs : rsOf W = rs at *
  have HRs := Lib.hid hrs
  clear hrs
  go_enter Try.func82, Try.ntmps82
  go_wp2
  go_loopw [8] (fun i wr => ∃ (k : Nat) (f : Nat → Nat), k ≤ rs ∧ i = .int .i64 (k : Int) ∧ Only g w wr ∧ wr.rowIs g 124 rs (fun i => .int .u32 (f i : Int)) ∧ Hid (∀ j, j < k → f j = 0)) (fun i _ => rs - (intOf i).toNat)
  case atStart => exact ⟨0, ws, by omega, rfl, Only.refl _ _, hrow, fun j hj => by omega⟩
  case round =>
    obtain ⟨k, f, hk, rfl, ho, hro, HF⟩ := hrel
    clear hrow
    have HO := Lib.hid ho
    have HRo := Lib.hid hro
    by_cases hlt : k < rs
    · have C2 : wr.cell? ⟨p, 0, none⟩ = some (.slice (some ⟨g, 0, none⟩) rs rs) := by rw [World.cell?_of_block (w := w) (ho.block _ hne)]; exact C
      have X := hro.cell hlt
      have F := hro.frozen k
      have I0 : 0 ≤ (k : Int) := by omega
      have I1 : (k : Int) < (rs : Int) := by omega
      clear ho hro
      go_wp2
      go_roundw
      case rel =>
        refine ⟨k + 1, fun j => if j = k then 0 else f j, by omega, by go_num, HO.out.setCell rfl _, (HRo.out.set k _).congr fun j _ => by by_cases e : j = k <;> simp [e], fun j hj => ?_⟩
        by_cases e : j = k
        · simp [e]
        · simp only [e, if_false]; exact HF.out j (by omega)
      case measure => simp [intOf]; omega
    · obtain rfl : k = rs := by omega
      clear ho hro
      go_wp2
      go_end0
      refine ⟨rfl, ⟨fun _ => 0, ?_, ?_, by simp, by simp⟩, HO.out⟩
      · rw [HRs.out]; exact (HO.out.block _ hne).trans HP.out
      · rw [HRs.out]; exact HRo.out.congr fun j hj => by rw [HF.out j hj]

end Go.Proofs.Ytaadklfendegfaa
