/- The walks of BitMatrix: NewBitMatrix, Set, Get, GetWidth, GetHeight. -/
import Derived.Test.YtaadklfendegfaaPd
namespace Go.Proofs.Ytaadklfendegfaa
open Go.RowKit

theorem Try.info124 : (Try.prog.info? 124).map (fun i => (i.zero, i.size, i.bytes)) = some (some (.int .u32 0), 1, 4) := by kernel_rfl

/-- how many words a row of bits has -/
def rsOf (W : Nat) : Nat := (W + 31) / 32

/-- a matrix of bits: its block, its words' block -/
def BM (w : World) (p g W H : Nat) (B : Nat → Nat → Bool) : Prop :=
  ∃ ws : Nat → Nat, w.heap[p]? = some (.cells #[.int .i64 (W : Int), .int .i64 (H : Int), .int .i64 (rsOf W : Int), .slice (some ⟨g, 0, none⟩) (rsOf W * H) (rsOf W * H)] 128) ∧
    w.rowIs g 124 (rsOf W * H) (fun i => .int .u32 (ws i : Int)) ∧ (∀ i, ws i < 4294967296) ∧ ∀ x y, x < W → y < H → (ws (y * rsOf W + x / 32)).testBit (x % 32) = B x y

theorem BM.ne {w : World} {p g W H : Nat} {B : Nat → Nat → Bool} (h : BM w p g W H B) : p ≠ g := by
  obtain ⟨ws, hp, ⟨c, hg, _⟩, _⟩ := h
  rintro rfl
  rw [hp] at hg
  injection hg with hg
  injection hg with _ hg
  cases hg

theorem BM.of_blocks {w w' : World} {p g W H : Nat} {B : Nat → Nat → Bool} (h : BM w p g W H B) (hp : w'.heap[p]? = w.heap[p]?) (hg : w'.heap[g]? = w.heap[g]?) : BM w' p g W H B := by
  obtain ⟨ws, h1, h2, h3⟩ := h
  exact ⟨ws, hp.trans h1, h2.of_block hg, h3⟩
theorem BM.lt {w : World} {p g W H : Nat} {B : Nat → Nat → Bool} (h : BM w p g W H B) : p < w.heap.size ∧ g < w.heap.size := by
  obtain ⟨ws, h1, h2, h3⟩ := h
  exact ⟨(Array.getElem?_eq_some_iff.1 h1).1, h2.lt⟩
theorem BM.below {w w' : World} {p g W H : Nat} {B : Nat → Nat → Bool} (h : BM w p g W H B) (hb : Below w.heap.size w w') : BM w' p g W H B :=
  h.of_blocks (hb.block _ h.lt.1) (hb.block _ h.lt.2)

theorem BM.congr {w : World} {p g W H : Nat} {B B' : Nat → Nat → Bool} (h : BM w p g W H B) (e : ∀ x y, x < W → y < H → B x y = B' x y) : BM w p g W H B' := by
  obtain ⟨ws, h1, h2, h3, h4⟩ := h
  exact ⟨ws, h1, h2, h3, fun x y hx hy => (h4 x y hx hy).trans (e x y hx hy)⟩

theorem rs_bound {W : Nat} (hW : W ≤ 100000) : rsOf W ≤ 100000 := by unfold rsOf; omega

set_option maxRecDepth 100000 in
set_option maxHeartbeats 1000000 in
theorem newbm_calls (W H : Nat) (w : World) (hW0 : 1 ≤ W) (hW : W ≤ 100000) (hH0 : 1 ≤ H) (hH : H ≤ 100000) :
    Calls Try.prog 47 #[.int .i64 (W : Int), .int .i64 (H : Int)] w fun e w' => ∃ p g, e = .returned (.tuple #[.pointer (some ⟨p, 0, none⟩), .nilIface]) ∧ BM w' p g W H (fun _ _ => false) ∧ w.heap.size ≤ p ∧ w.heap.size ≤ g ∧ Below w.heap.size w w' := by
  have hr := rs_bound hW
  have A0 : ((W : Int) + 31) / 32 = (rsOf W : Int) := by unfold rsOf; omega
  have p3 : rsOf W * H ≤ 100000 * 100000 := Nat.mul_le_mul hr hH
  have HD := Lib.hid (rfl : rsOf W = rsOf W)
  generalize hre : rsOf W = rs at *
  have A3 : IntKind.i64.wrap ((rs : Int) * (H : Int)) = ((rs * H : Nat) : Int) := by rw [Int.natCast_mul]; exact IntWalk.i64_in _ ⟨by have := Int.mul_nonneg (a := (rs:Int)) (b := (H:Int)) (by omega) (by omega); omega, by have := Int.ofNat_le.2 p3; rw [Int.natCast_mul] at this; omega⟩
  generalize hsz : rs * H = sz at *
  have HSZ := Lib.hid hsz
  have HRE := Lib.hid hre
  clear hsz hre HD
  have hmk := fun (w : World) => run_make_row' (P := Try.prog) 120 124 (.int .u32 0) 4 Try.underlying120 Try.info124 rfl .i64 .i64 sz (by omega) (by omega) w
  go_enter Try.func47, Try.ntmps47
  go_wp2
  go_ret2
  refine ⟨w.heap.size + 1, w.heap.size, rfl, ⟨fun _ => 0, ?_, ?_, by simp, by simp⟩, by omega, by omega, ((Below.refl _ _).alloc (Nat.le_refl _) _).alloc (by simp) _⟩
  · rw [HRE.out, HSZ.out]; exact blk_new' _ _ _ (by rw [blk_size])
  · rw [HRE.out, HSZ.out]; exact (World.rowIs_made w (.int .u32 0) sz 124).alloc _

set_option maxRecDepth 100000 in
theorem bmh_calls (p g W H : Nat) (B : Nat → Nat → Bool) (w : World) (hb : BM w p g W H B) : Calls Try.prog 50 #[.pointer (some ⟨p, 0, none⟩)] w fun e w' => e = .returned (.int .i64 (H : Int)) ∧ w = w' := by
  obtain ⟨ws, hp, _⟩ := hb
  have C := cell_at_cells (j := 1) hp rfl
  clear hp
  go_enter Try.func50, Try.ntmps50
  go_wp2
  go_ret
  exact ⟨rfl, rfl⟩

set_option maxRecDepth 100000 in
theorem bmw_calls (p g W H : Nat) (B : Nat → Nat → Bool) (w : World) (hb : BM w p g W H B) : Calls Try.prog 51 #[.pointer (some ⟨p, 0, none⟩)] w fun e w' => e = .returned (.int .i64 (W : Int)) ∧ w = w' := by
  obtain ⟨ws, hp, _⟩ := hb
  have C := cell_at_cells (j := 0) hp rfl
  clear hp
  go_enter Try.func51, Try.ntmps51
  go_wp2
  go_ret
  exact ⟨rfl, rfl⟩

theorem or_bit32 (a m : Nat) (ha : a < 4294967296) (hm : m < 32) : bits .or .u32 (a : Int) ((2 : Int) ^ m % 4294967296) = ((a ||| 2 ^ m : Nat) : Int) := by
  have h2 : 2 ^ m < 2 ^ 32 := Nat.pow_lt_pow_right (by decide) hm
  have e : (2 : Int) ^ m % 4294967296 = ((2 ^ m : Nat) : Int) := by
    have h3 : (2 : Int) ^ m = ((2 ^ m : Nat) : Int) := by simp
    rw [h3]; exact Int.emod_eq_of_lt (Int.natCast_nonneg _) (by have := Int.ofNat_lt.2 h2; simpa using this)
  rw [e]
  exact (bits_nat .u32 32 (by decide) (fun n h0 h1 => by rw [IntKind.wrap_u32]; omega) a (2 ^ m) ha h2).2

theorem idx_inj {y y' q q' rs : Nat} (hq : q < rs) (hq' : q' < rs) (h : y * rs + q = y' * rs + q') : y = y' ∧ q = q' := by
  have h1 : (y * rs + q) / rs = y := by rw [Nat.mul_comm, Nat.mul_add_div (by omega), Nat.div_eq_of_lt hq, Nat.add_zero]
  have h2 : (y' * rs + q') / rs = y' := by rw [Nat.mul_comm, Nat.mul_add_div (by omega), Nat.div_eq_of_lt hq', Nat.add_zero]
  have e : y = y' := by rw [← h1, ← h2, h]
  subst e
  exact ⟨rfl, by omega⟩

set_option maxRecDepth 100000 in
set_option maxHeartbeats 1000000 in
theorem set_calls (p g W H x y : Nat) (B : Nat → Nat → Bool) (w : World) (hb : BM w p g W H B) (hx : x < W) (hy : y < H) (hW : W ≤ 100000) (hH : H ≤ 100000) :
    Calls Try.prog 48 #[.pointer (some ⟨p, 0, none⟩), .int .i64 (x : Int), .int .i64 (y : Int)] w fun e w' => e = .returned (.tuple #[]) ∧ BM w' p g W H (fun x' y' => if x' = x ∧ y' = y then true else B x' y') ∧ Only g w w' := by
  have hne := hb.ne
  obtain ⟨ws, hp, hrow, hlim, hbit⟩ := hb
  have hr := rs_bound hW
  have hi : y * rsOf W + x / 32 < rsOf W * H := by
    have h1 : x / 32 < rsOf W := by unfold rsOf; omega
    have h2 : y * rsOf W + rsOf W ≤ rsOf W * H := by
      have := Nat.mul_le_mul_right (rsOf W) (show y + 1 ≤ H by omega)
      rw [Nat.add_mul, Nat.one_mul, Nat.mul_comm H] at this; exact this
    omega
  have C2 := cell_at_cells (j := 2) hp rfl
  have C3 := cell_at_cells (j := 3) hp rfl
  have p3 : y * rsOf W ≤ 100000 * 100000 := Nat.mul_le_mul (by omega) hr
  have A3 : IntKind.i64.wrap ((y : Int) * (rsOf W : Int)) = ((y * rsOf W : Nat) : Int) := by rw [Int.natCast_mul]; exact IntWalk.i64_in _ ⟨by have := Int.mul_nonneg (a := (y:Int)) (b := (rsOf W:Int)) (by omega) (by omega); omega, by have := Int.ofNat_le.2 p3; rw [Int.natCast_mul] at this; omega⟩
  have A4 : (x : Int) / 32 = ((x / 32 : Nat) : Int) := by omega
  have A5 : (x : Int) % 32 = ((x % 32 : Nat) : Int) := by omega
  have hm : x % 32 < 32 := Nat.mod_lt _ (by omega)
  generalize hq : x / 32 = q at *
  generalize hmm : x % 32 = m at *
  generalize hyr : y * rsOf W = yr at *
  have A6 : (yr : Int) + (q : Int) = ((yr + q : Nat) : Int) := by omega
  generalize hidx : yr + q = i at *
  generalize hsz : rsOf W * H = sz at *
  have A7 : (i : Int) < (sz : Int) := by omega
  have A8 : 0 ≤ (i : Int) := by omega
  have X0 := hrow.cell hi
  have F0 := hrow.frozen i
  have HROW := Lib.hid hrow
  have HP := Lib.hid hp
  have HL := Lib.hid hlim
  have HB := Lib.hid hbit
  have HE := Lib.hid (And.intro hq (And.intro hmm (And.intro hyr (And.intro hidx hsz))))
  clear hrow hp hlim hbit hq hmm hyr hidx hsz
  go_enter Try.func48, Try.ntmps48
  go_wp2
  go_end0
  obtain ⟨e1, e2, e3, e4, e5⟩ := HE.out
  have hv := or_bit32 (ws i) m (HL.out i) hm
  rw [hv]
  refine ⟨rfl, ⟨fun j => if j = i then ws i ||| 2 ^ m else ws j, ?_, ?_, ?_, ?_⟩, (Only.refl g w).setCell (p := ⟨g, i, none⟩) rfl _⟩
  · rw [e5, Below.heap_setCell _ _ _ _ (by exact hne)]; exact HP.out
  · rw [e5]; exact (HROW.out.set i _).congr fun j _ => by by_cases e : j = i <;> simp [e]
  · intro j
    by_cases e : j = i
    · simp only [e, if_true]; exact Nat.or_lt_two_pow (n := 32) (HL.out i) (Nat.lt_of_lt_of_le (Nat.pow_lt_pow_right (by decide) hm) (Nat.le_refl _))
    · simp only [e, if_false]; exact HL.out j
  · intro x' y' hx' hy'
    have hq' : x' / 32 < rsOf W := by unfold rsOf; omega
    have hq : x / 32 < rsOf W := by unfold rsOf; omega
    have hb := HB.out x' y' hx' hy'
    by_cases e : y' * rsOf W + x' / 32 = i
    · simp only [e, if_true]
      obtain ⟨ey, eq⟩ := idx_inj hq' hq (e.trans (by rw [e3, e1, e4]))
      rw [Nat.testBit_or, Nat.testBit_two_pow]
      rw [e] at hb
      rw [hb]
      by_cases em : x' % 32 = m
      · have ex : x' = x := by omega
        rw [if_pos ⟨ex, ey⟩, decide_eq_true em.symm, Bool.or_true]
      · have ex : ¬ x' = x := fun h => em (by rw [h]; exact e2)
        rw [if_neg (fun h => ex h.1), decide_eq_false (fun h => em h.symm), Bool.or_false]
    · simp only [e, if_false]
      have : ¬ (x' = x ∧ y' = y) := by
        rintro ⟨rfl, rfl⟩
        exact e (by rw [e3, e1, e4])
      simp only [this, if_false]
      exact hb

theorem and_bit32 (a m : Nat) (ha : a < 4294967296) : (bits .and .u32 ((a : Int) / 2 ^ m) 1 != 0) = a.testBit m := by
  have e : (a : Int) / 2 ^ m = ((a / 2 ^ m : Nat) : Int) := by simp
  have h := (bits_nat .u32 32 (by decide) (fun n h0 h1 => by rw [IntKind.wrap_u32]; omega) (a / 2 ^ m) 1 (Nat.lt_of_le_of_lt (Nat.div_le_self _ _) ha) (by decide)).1
  rw [e]
  rw [show ((1 : Nat) : Int) = 1 from rfl] at h
  rw [h, Nat.and_one_is_mod, Nat.testBit_eq_decide_div_mod_eq]
  rcases Nat.mod_two_eq_zero_or_one (a / 2 ^ m) with h | h <;> simp [h]

set_option maxRecDepth 100000 in
set_option maxHeartbeats 1000000 in
theorem get_calls (p g W H x y : Nat) (B : Nat → Nat → Bool) (w : World) (hb : BM w p g W H B) (hx : x < W) (hy : y < H) (hW : W ≤ 100000) (hH : H ≤ 100000) :
    Calls Try.prog 52 #[.pointer (some ⟨p, 0, none⟩), .int .i64 (x : Int), .int .i64 (y : Int)] w fun e w' => e = .returned (.bool (B x y)) ∧ w = w' := by
  obtain ⟨ws, hp, hrow, hlim, hbit⟩ := hb
  have hr := rs_bound hW
  have hi : y * rsOf W + x / 32 < rsOf W * H := by
    have h1 : x / 32 < rsOf W := by unfold rsOf; omega
    have h2 : y * rsOf W + rsOf W ≤ rsOf W * H := by
      have := Nat.mul_le_mul_right (rsOf W) (show y + 1 ≤ H by omega)
      rw [Nat.add_mul, Nat.one_mul, Nat.mul_comm H] at this; exact this
    omega
  have C0 := cell_at_cells (j := 0) hp rfl
  have C1 := cell_at_cells (j := 1) hp rfl
  have C2 := cell_at_cells (j := 2) hp rfl
  have C3 := cell_at_cells (j := 3) hp rfl
  have p3 : y * rsOf W ≤ 100000 * 100000 := Nat.mul_le_mul (by omega) hr
  have A3 : IntKind.i64.wrap ((y : Int) * (rsOf W : Int)) = ((y * rsOf W : Nat) : Int) := by rw [Int.natCast_mul]; exact IntWalk.i64_in _ ⟨by have := Int.mul_nonneg (a := (y:Int)) (b := (rsOf W:Int)) (by omega) (by omega); omega, by have := Int.ofNat_le.2 p3; rw [Int.natCast_mul] at this; omega⟩
  have A4 : (x : Int) / 32 = ((x / 32 : Nat) : Int) := by omega
  have A5 : (x : Int) % 32 = ((x % 32 : Nat) : Int) := by omega
  have hm : x % 32 < 32 := Nat.mod_lt _ (by omega)
  have hbb := hbit x y hx hy
  generalize hq : x / 32 = q at *
  generalize hmm : x % 32 = m at *
  generalize hyr : y * rsOf W = yr at *
  have A6 : (yr : Int) + (q : Int) = ((yr + q : Nat) : Int) := by omega
  generalize hidx : yr + q = i at *
  generalize hsz : rsOf W * H = sz at *
  have A7 : (i : Int) < (sz : Int) := by omega
  have A8 : 0 ≤ (i : Int) := by omega
  have B1 : decide (W ≤ x) = false := by simp; omega
  have B2 : decide (H ≤ y) = false := by simp; omega
  have X0 := hrow.cell hi
  have HBB := Lib.hid hbb
  have hlt := hlim i
  clear hrow hp hlim hbit hq hmm hyr hidx hsz hbb
  go_enter Try.func52, Try.ntmps52
  go_wp2
  rw [and_bit32 _ _ hlt, HBB.out]
  go_ret
  exact ⟨rfl, rfl⟩

end Go.Proofs.Ytaadklfendegfaa
