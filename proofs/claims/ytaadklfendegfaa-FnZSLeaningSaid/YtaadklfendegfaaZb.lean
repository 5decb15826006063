/- The walk of zbBits: a table of the call's own, whatever the bits. -/
import Derived.Test.YtaadklfendegfaaChecked
import Derived.Test.YtaadklfendegfaaGr
import Derived.Test.YtaadklfendegfaaCell
import Derived.Test.YtaadklfendegfaaFast
import Derived.Lib.Hide
import Derived.IntWalk
import Derived.OwnWalk
import Derived.Deep.DeepMust
import Derived.WalkLawsBesides
import Derived.Laws.ShiftsVarLaws
import Derived.Laws.BitsAllLaws
namespace Go.Proofs.Ytaadklfendegfaa
open Go.RowKit

theorem _root_.Go.World.rowIs.setb {w : World} {g t n : Nat} {f : Nat → Bool} (h : w.rowIs g t n (fun x => .bool (f x))) (j : Nat) (b : Bool) :
    (w.setCell ⟨g, j, none⟩ (.bool b)).rowIs g t n (fun x => .bool (if x = j then b else f x)) :=
  (h.set j (.bool b)).congr fun i _ => by by_cases e : i = j <;> simp [e]

def rowVals (R : Nat → Nat) (n k : Nat) : List Value := (List.range k).map fun y => .slice (some ⟨R y, 0, none⟩) n n

theorem rowVals_succ (R : Nat → Nat) (n k g : Nat) : rowVals (fun y => if y = k then g else R y) n (k + 1) = rowVals R n k ++ [.slice (some ⟨g, 0, none⟩) n n] := by
  unfold rowVals
  rw [List.range_succ, List.map_append]
  congr 1
  · refine List.map_congr_left fun y hy => ?_
    have := List.mem_range.1 hy
    show Value.slice (some ⟨if y = k then g else R y, 0, none⟩) n n = _
    rw [if_neg (by omega)]
  · simp

/-- rows that were appended so far -/
def RowsOn (base : Nat) (w : World) (v : Value) (n k : Nat) (R : Nat → Nat) (F : Nat → Nat → Bool) : Prop :=
  w.ownsRow base 44 1 v k (rowVals R n k) ∧ (∀ y, y < k → w.rowIs (R y) 4 n (fun x => .bool (F y x))) ∧ (∀ y, y < k → base ≤ R y) ∧ ∀ y y', y < k → y' < k → R y = R y' → y = y'

theorem RowsOn.nil (base : Nat) (w : World) (n : Nat) (R : Nat → Nat) (F : Nat → Nat → Bool) : RowsOn base w (.slice none 0 0) n 0 R F :=
  ⟨World.ownsRow_nil _ _ _ _, by omega, by omega, by omega⟩

theorem own_after {w w' : World} {base : Nat} {e : TypeId} {size : Nat} {v : Value} {n : Nat} {xs : List Value} (h : w.ownsRow base e size v n xs) (hb : Below w.heap.size w w') : w'.ownsRow base e size v n xs := by
  refine ⟨h.1, ?_⟩
  rcases h.2 with h | ⟨g, cap, cur, hv, hg, hh, r⟩
  · exact Or.inl h
  · exact Or.inr ⟨g, cap, cur, hv, hg, by rw [hb.block _ (Array.getElem?_eq_some_iff.1 hh).1]; exact hh, r⟩

theorem row_after {w w' : World} {b t n : Nat} {f : Nat → Value} (h : w.rowIs b t n f) (hb : Below w.heap.size w w') : w'.rowIs b t n f :=
  h.of_block (hb.block _ h.lt)

theorem RowsOn.after {base : Nat} {w w' : World} {v : Value} {n k : Nat} {R : Nat → Nat} {F : Nat → Nat → Bool} (h : RowsOn base w v n k R F) (hb : Below w.heap.size w w') : RowsOn base w' v n k R F :=
  ⟨own_after h.1 hb, fun y hy => row_after (h.2.1 y hy) hb, h.2.2⟩

/-- one row more -/
theorem RowsOn.next {base : Nat} {wo wr w2 : World} {v v' : Value} {n k g : Nat} {R : Nat → Nat} {F : Nat → Nat → Bool} {f : Nat → Bool} {o : Obj} (h : RowsOn base wo v n k R F) (hg : wo.heap.size = g) (hbase : base ≤ g) (hb : Below g wo wr)
    (hrow : wr.rowIs g 4 n (fun x => .bool (f x))) (hown : w2.ownsRow base 44 1 v' (k + 1) (rowVals R n k ++ [.slice (some ⟨g, 0, none⟩) n n])) (hgrow : (wr.alloc o).grownBy w2 v.ownBlock) :
    RowsOn base w2 v' n (k + 1) (fun y => if y = k then g else R y) (fun y => if y = k then f else F y) := by
  have key : ∀ b t' f', wr.rowIs b t' n f' → t' ≠ 44 → w2.rowIs b t' n f' := by
    intro b t' f' hr ht
    have hlt := hr.lt
    refine (hr.alloc o).of_block (hgrow.block b (by rw [blk_size]; omega) ?_)
    intro hbad
    rcases (h.after (by rw [hg]; exact hb)).1.2 with ⟨rfl, _⟩ | ⟨g', cap, cur, rfl, _, hh, _⟩
    · simp [Value.ownBlock] at hbad
    · simp [Value.ownBlock] at hbad
      subst hbad
      obtain ⟨c, hc, _⟩ := hr
      rw [hh] at hc
      injection hc with hc
      injection hc with _ hc
      exact ht hc.symm
  have hr := h.after (by rw [hg]; exact hb)
  have hlt : ∀ y, y < k → R y < g := fun y hy => by rw [← hg]; exact (h.2.1 y hy).lt
  refine ⟨by rw [rowVals_succ]; exact hown, ?_, ?_, ?_⟩
  · intro y hy
    by_cases e : y = k
    · simp only [e, if_true]
      exact key _ _ _ hrow (by decide)
    · simp only [e, if_false]
      exact key _ _ _ (hr.2.1 y (by omega)) (by decide)
  · intro y hy
    by_cases e : y = k
    · simp only [e, if_true]; exact hbase
    · simp only [e, if_false]; exact h.2.2.1 y (by omega)
  · intro y y' hy hy' he
    by_cases e : y = k <;> by_cases e' : y' = k <;> simp only [e, e', if_true, if_false] at he
    · omega
    · have := hlt y' (by omega); omega
    · have := hlt y (by omega); omega
    · exact h.2.2.2 y y' (by omega) (by omega) he

/-- the rows as a table -/
theorem RowsOn.grid {base : Nat} {w : World} {v : Value} {n k : Nat} {R : Nat → Nat} {F : Nat → Nat → Bool} (h : RowsOn base w v n k R F) (hk : 1 ≤ k) : GridO base w v k n F := by
  obtain ⟨h1, h2, h3, h4⟩ := h
  rcases h1.2 with ⟨_, h0⟩ | ⟨g, cap, cur, rfl, hg, hh, hc, _, hs, ht⟩
  · omega
  · refine ⟨g, cap, R, rfl, hg, ⟨fun y hy => ?_, h2, fun y hy hbad => ?_, h4⟩, h3⟩
    · have e : (cur.toList.take (k * 1))[y]? = some (.slice (some ⟨R y, 0, none⟩) n n) := by
        rw [ht]; unfold rowVals; rw [List.getElem?_map, List.getElem?_range hy]; rfl
      rw [List.getElem?_take_of_lt (by omega)] at e
      simp [World.cell?, hh]
      simpa using e
    · obtain ⟨c, hc, _⟩ := h2 y hy
      rw [hbad, hh] at hc
      injection hc with hc
      injection hc with _ hc
      cases hc

theorem Try.info4 : (Try.prog.info? 4).map (fun i => (i.zero, i.size, i.bytes)) = some (some (.bool false), 1, 1) := by kernel_rfl
theorem Try.info44 : (Try.prog.info? 44).map (fun i => (i.zero, i.size, i.bytes)) = some (some (.slice none 0 0), 1, 24) := by kernel_rfl

set_option maxRecDepth 100000 in
set_option maxHeartbeats 1000000 in
theorem bits_full (ab aoff len cap : Nat) (n h : Nat) (zs : List Int) (w : World) (hl : 1 ≤ len) (hl2 : len ≤ 2147483647) (hn : n ≤ 1000) (hh0 : 1 ≤ h) (hh : h ≤ 1000) (hab : ab < w.heap.size)
    (hz : ∀ j, j < len → w.cell? ⟨ab, aoff + j, none⟩ = some (.int .u8 (zs.getD j 0))) :
    Calls Try.prog 24 #[.slice (some ⟨ab, aoff, none⟩) len cap, .int .i64 (n : Int), .int .i64 (h : Int)] w fun e w' => ∃ v F, e = .returned v ∧ GridO w.heap.size w' v h n F ∧ Below w.heap.size w w' := by
  have H1 := Lib.hid hz
  clear hz
  obtain ⟨iF, hi, hz0, hz1, hz2⟩ := info_parts Try.info44
  have hmk := fun (w : World) => run_make_row' (P := Try.prog) 44 4 (.bool false) 1 Try.underlying44 Try.info4 rfl .i64 .i64 n (by omega) (by omega) w
  go_enter Try.func24, Try.ntmps24
  go_wp2
  go_loopw [7, 8, 9, 10, 11] (fun v i _ _ _ wr => ∃ (k : Nat) (R : Nat → Nat) (F : Nat → Nat → Bool), k ≤ h ∧ i = .int .i64 (k : Int) ∧ RowsOn w.heap.size wr v n k R F ∧ Below w.heap.size w wr) (fun _ i _ _ _ _ => h - (intOf i).toNat)
  case atStart => exact ⟨0, fun _ => 0, fun _ _ => false, by omega, rfl, RowsOn.nil _ _ _ _ _, Below.refl _ _⟩
  case round =>
    obtain ⟨wo, rfl⟩ : ∃ wo : World, wo = wr := ⟨_, rfl⟩
    obtain ⟨k, R, F, hk, rfl, hr, hb⟩ := hrel
    have HB := Lib.hid hb
    have HR := Lib.hid hr
    clear hb hr
    by_cases hlt : k < h
    · go_wp2
      have hs0 : wo.heap.size < (wo.alloc (.cells (madeCells #[.bool false] n) 4)).heap.size := by simp
      have hrow0 := World.rowIs_made wo (.bool false) n 4
      have HA := Lib.hid (show (wo.alloc (.cells (madeCells #[.bool false] n) 4)) = _ from rfl)
      generalize hw1 : wo.alloc (.cells (madeCells #[.bool false] n) 4) = w1 at hs0 hrow0 ⊢
      have HW1 := Lib.hid hw1
      generalize hg : wo.heap.size = g at hs0 hrow0 HW1 ⊢
      have HG := Lib.hid hg
      clear hw1 hg HA
      go_loopw [10, 11] (fun x _ wr => ∃ (j : Nat) (f : Nat → Bool), j ≤ n ∧ x = .int .i64 (j : Int) ∧ Only g w1 wr ∧ wr.rowIs g 4 n (fun x => .bool (f x))) (fun x _ _ => n - (intOf x).toNat)
      case atStart => exact ⟨0, fun _ => false, by omega, rfl, Only.refl _ _, hrow0⟩
      case round =>
        obtain ⟨j, f, hj, rfl, ho, hrow⟩ := hrel
        by_cases hlt2 : j < n
        · have hp : (k : Int) * (n : Int) ≤ 1000 * 1000 := by
            have : k * n ≤ 1000 * 1000 := Nat.mul_le_mul (by omega) (by omega)
            have := Int.ofNat_le.2 this; simpa using this
          have hp0 : 0 ≤ (k : Int) * (n : Int) := Int.mul_nonneg (by omega) (by omega)
          go_wp2
          generalize hN : (k : Int) * (n : Int) + (j : Int) = N
          have hN0 : 0 ≤ N := by omega
          have hN1 : N ≤ 1002000 := by omega
          have hi0 : 0 ≤ N / 8 % (len : Int) := Int.emod_nonneg _ (by omega)
          have hi1 : N / 8 % (len : Int) < (len : Int) := Int.emod_lt_of_pos _ (by omega)
          have hb := HB.out
          have X0 : wr.cell? ⟨ab, aoff + (N / 8 % (len : Int)).toNat, none⟩ = some (.int .u8 (zs.getD (N / 8 % (len : Int)).toNat 0)) := by
            rw [World.cell?_of_block (w := w1) (ho.block _ (by have := HG.out; have := hb.size; show ab ≠ _; omega)), ← HW1.out, World.cell?_of_block (w := wo) (Below.heap_alloc _ _ _ (by have := hb.size; show ab < _; omega)), hb.cell (by exact hab)]
            exact H1.out _ (by omega)
          generalize zs.getD (N / 8 % (len : Int)).toNat 0 = c0 at X0
          have D0 : IntKind.i64.wrap (N.tdiv 8) = N / 8 := by
            rw [Int.tdiv_eq_ediv_of_nonneg hN0]; exact IntWalk.i64_in _ ⟨by omega, by omega⟩
          have D1 : (N / 8).tmod (len : Int) = N / 8 % (len : Int) := Int.tmod_eq_emod_of_nonneg (by omega)
          have D2 : N.tmod 8 = N % 8 := Int.tmod_eq_emod_of_nonneg hN0
          have hq0 : 0 ≤ N / 8 / (len : Int) := Int.ediv_nonneg (by omega) (by omega)
          have hq1 : N / 8 / (len : Int) ≤ N / 8 := Int.ediv_le_self _ (by omega)
          have D3 : IntKind.i64.wrap ((N / 8).tdiv (len : Int)) = N / 8 / (len : Int) := by
            rw [Int.tdiv_eq_ediv_of_nonneg (by omega)]; exact IntWalk.i64_in _ ⟨by omega, by omega⟩
          have D4 : ¬ (len : Int) = 0 := by omega
          have D5 : ¬ len = 0 := by omega
          have I1 : (j : Int) < (n : Int) := by omega
          have I0 : 0 ≤ (j : Int) := by omega
          have X1 := hrow.cell hlt2
          have F1 := hrow.frozen j
          have HN := Lib.hid hN
          have HO := Lib.hid ho
          have HRow := Lib.hid hrow
          clear hN hb ho hrow
          refine wp_region_fast 34 25 (by kernel_rfl) (by kernel_rfl) (fun ops K hK => ?_)
          simp only [List.take_succ_cons, List.take_zero]
          repeat still_step
          refine wpStill_nil (hK _ ?_)
          clear hK
          simp only [List.drop_succ_cons, List.drop_zero]
          go_wp2
          go_roundw
          case rel => exact ⟨j + 1, _, by omega, by go_num, HO.out.drew.setCell rfl _, HRow.out.drew.setb j _⟩
          case measure => simp [intOf]; omega
        · obtain rfl : n = j := by omega
          have hbg : Below g wo wr := (show Below g wo w1 by rw [← HW1.out]; exact (Below.refl _ _).alloc (by rw [HG.out]; exact Nat.le_refl _) _).trans (ho.below (Nat.le_refl _))
          have hbase : w.heap.size ≤ g := by have := HB.out.size; have := HG.out; omega
          have hown := ((HR.out.after (by rw [HG.out]; exact hbg)).1).alloc (.cells #[.slice (some ⟨g, 0, none⟩) n n] 44)
          have hwr : w.heap.size ≤ wr.heap.size := by have := hbg.size; have := HG.out; omega
          go_wp2_with (at_builtin; go_must (refine wpList_append_own _ rfl _ _ 40 rfl w.heap.size 44 iF (.slice none 0 0) 1 24 Try.underlying40 hi hz0 hz1 hz2 rfl (by decide) _ _ _ rfl hown ⟨wr.heap.size, 0, none⟩ 1 1 [.slice (some ⟨g, 0, none⟩) n n] rfl rfl ?d1 ?d2 ?d3 ?d4 ?d5 ?_))
          case d1 =>
            intro i u hu
            match i, hu with
            | 0, hu => simp at hu; subst hu; exact cell_at_cells (blk_new _ _) (by rfl)
          case d2 => intro u hu; simp at hu; subst hu; rfl
          case d3 => unfold maxLen; omega
          case d4 => omega
          case d5 => simp; omega
          intro v' w2 hown' hgrow _
          have hnext := HR.out.next HG.out hbase hbg hrow hown' hgrow
          have hb2 : Below w.heap.size w w2 := ((HB.out.trans (hbg.mono hbase)).alloc hwr _).grown hgrow (by simp; omega) (fun k hk => (HR.out.1.lt k hk).1)
          have HN := Lib.hid hnext
          have HB2 := Lib.hid hb2
          clear hnext hb2 hown' hgrow hown hbg
          go_wp2
          go_roundw
          case rel => exact ⟨k + 1, _, _, by omega, by go_num, HN.out, HB2.out⟩
          case measure => simp [intOf]; omega
    · obtain rfl : h = k := by omega
      go_wp2
      go_ret
      exact ⟨_, F, rfl, HR.out.grid (by omega), HB.out⟩

set_option maxRecDepth 100000 in
set_option maxHeartbeats 1000000 in
theorem bits_empty (sa : Option Addr) (cap : Nat) (n h : Nat) (w : World) (hn0 : 1 ≤ n) (hn : n ≤ 1000) (hh0 : 1 ≤ h) (hh : h ≤ 1000) :
    Calls Try.prog 24 #[.slice sa 0 cap, .int .i64 (n : Int), .int .i64 (h : Int)] w fun e w' => ∃ v F, e = .returned v ∧ GridO w.heap.size w' v h n F ∧ Below w.heap.size w w' := by
  obtain ⟨iF, hi, hz0, hz1, hz2⟩ := info_parts Try.info44
  have hmk := fun (w : World) => run_make_row' (P := Try.prog) 44 4 (.bool false) 1 Try.underlying44 Try.info4 rfl .i64 .i64 n (by omega) (by omega) w
  go_enter Try.func24, Try.ntmps24
  go_wp2
  go_loopw [7, 8, 9, 10, 11] (fun v i _ _ _ wr => ∃ (k : Nat) (R : Nat → Nat) (F : Nat → Nat → Bool), k ≤ h ∧ i = .int .i64 (k : Int) ∧ RowsOn w.heap.size wr v n k R F ∧ Below w.heap.size w wr) (fun _ i _ _ _ _ => h - (intOf i).toNat)
  case atStart => exact ⟨0, fun _ => 0, fun _ _ => false, by omega, rfl, RowsOn.nil _ _ _ _ _, Below.refl _ _⟩
  case round =>
    obtain ⟨wo, rfl⟩ : ∃ wo : World, wo = wr := ⟨_, rfl⟩
    obtain ⟨k, R, F, hk, rfl, hr, hb⟩ := hrel
    have HB := Lib.hid hb
    have HR := Lib.hid hr
    clear hb hr
    by_cases hlt : k < h
    · go_wp2
      have hs0 : wo.heap.size < (wo.alloc (.cells (madeCells #[.bool false] n) 4)).heap.size := by simp
      have hrow0 := World.rowIs_made wo (.bool false) n 4
      have HA := Lib.hid (show (wo.alloc (.cells (madeCells #[.bool false] n) 4)) = _ from rfl)
      generalize hw1 : wo.alloc (.cells (madeCells #[.bool false] n) 4) = w1 at hs0 hrow0 ⊢
      have HW1 := Lib.hid hw1
      generalize hg : wo.heap.size = g at hs0 hrow0 HW1 ⊢
      have HG := Lib.hid hg
      clear hw1 hg HA
      refine wp_loop_rounds 1 ?_
      rw [rounds_succ]
      have hp0 : 0 < n := by omega
      have hp1 : decide (0 < n) = true := by simp; omega
      have hbg : Below g wo w1 := (show Below g wo w1 by rw [← HW1.out]; exact (Below.refl _ _).alloc (by rw [HG.out]; exact Nat.le_refl _) _)
      have hbase : w.heap.size ≤ g := by have := HB.out.size; have := HG.out; omega
      have hown := ((HR.out.after (by rw [HG.out]; exact hbg)).1).alloc (.cells #[.slice (some ⟨g, 0, none⟩) n n] 44)
      have hw1 : w.heap.size ≤ w1.heap.size := by have := hbg.size; have := HG.out; omega
      go_wp2_with (at_builtin; go_must (refine wpList_append_own _ rfl _ _ 40 rfl w.heap.size 44 iF (.slice none 0 0) 1 24 Try.underlying40 hi hz0 hz1 hz2 rfl (by decide) _ _ _ rfl hown ⟨w1.heap.size, 0, none⟩ 1 1 [.slice (some ⟨g, 0, none⟩) n n] rfl rfl ?d1 ?d2 ?d3 ?d4 ?d5 ?_))
      case d1 =>
        intro i u hu
        match i, hu with
        | 0, hu => simp at hu; subst hu; exact cell_at_cells (blk_new _ _) (by rfl)
      case d2 => intro u hu; simp at hu; subst hu; rfl
      case d3 => unfold maxLen; omega
      case d4 => omega
      case d5 => simp; omega
      intro v' w2 hown' hgrow _
      have hnext := HR.out.next HG.out hbase hbg hrow0 hown' hgrow
      have hb2 : Below w.heap.size w w2 := ((HB.out.trans (hbg.mono hbase)).alloc hw1 _).grown hgrow (by simp; omega) (fun k hk => (HR.out.1.lt k hk).1)
      have HN := Lib.hid hnext
      have HB2 := Lib.hid hb2
      clear hnext hb2 hown' hgrow hown hbg
      go_wp2
      go_roundw
      case rel => exact ⟨k + 1, _, _, by omega, by go_num, HN.out, HB2.out⟩
      case measure => simp [intOf]; omega
    · obtain rfl : h = k := by omega
      go_wp2
      go_ret
      exact ⟨_, F, rfl, HR.out.grid (by omega), HB.out⟩


/-- whatever the bytes -/
theorem bits_calls (sa : Option Addr) (len cap n h : Nat) (zs : List Int) (w : World) (hl : len ≤ 2147483647) (hn0 : 1 ≤ n) (hn : n ≤ 1000) (hh0 : 1 ≤ h) (hh : h ≤ 1000)
    (hz : len = 0 ∨ ∃ ab aoff, sa = some ⟨ab, aoff, none⟩ ∧ ∀ j, j < len → w.cell? ⟨ab, aoff + j, none⟩ = some (.int .u8 (zs.getD j 0))) :
    Calls Try.prog 24 #[.slice sa len cap, .int .i64 (n : Int), .int .i64 (h : Int)] w fun e w' => ∃ v F, e = .returned v ∧ GridO w.heap.size w' v h n F ∧ Below w.heap.size w w' := by
  by_cases h0 : len = 0
  · subst h0; exact bits_empty sa cap n h w hn0 hn hh0 hh
  · rcases hz with hz | ⟨ab, aoff, rfl, hz⟩
    · exact absurd hz h0
    · exact bits_full ab aoff len cap n h zs w (by omega) hl hn hh0 hh (by have := cell_lt (hz 0 (by omega)); exact this) hz

end Go.Proofs.Ytaadklfendegfaa
