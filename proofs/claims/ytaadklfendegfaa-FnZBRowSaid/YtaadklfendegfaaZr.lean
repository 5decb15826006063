/- The walk of ZXRow, with either binarizer. -/
import Derived.Test.YtaadklfendegfaaBh
import Derived.Test.YtaadklfendegfaaGw
import Derived.Test.YtaadklfendegfaaZy
namespace Go.Proofs.Ytaadklfendegfaa
open Go.RowKit

theorem row142 : ((Try.prog.info? 142).bind fun i => (i.methods.find? (·.name == "GetBlackRow")).map fun m => (m.path, m.func)) = some (#[⟨144, 0, true⟩], some (113, true)) := by kernel_rfl
theorem size138 : (Try.prog.info? 138).map (·.size) = some 1 := by kernel_rfl
theorem meth_hrow (y h : Nat) (w : World) (hc : w.cell? ⟨y, 0, none⟩ = some (.pointer (some ⟨h, 0, none⟩))) : (method 296 142 (.pointer (some ⟨y, 0, none⟩)) "GetBlackRow").run Try.prog w = .ok (113, .pointer (some ⟨h, 0, none⟩)) w := by
  obtain ⟨i, hi, hm0⟩ := Option.bind_eq_some_iff.1 row142
  obtain ⟨m, hm, hmm⟩ := Option.map_eq_some_iff.1 hm0
  obtain ⟨i2, hi2, hs2⟩ := Option.map_eq_some_iff.1 size138
  simp only [Prod.mk.injEq] at hmm
  obtain ⟨h1, h2⟩ := hmm
  rw [show (296 : Nat) = 295 + 1 from rfl]
  unfold method
  simp [go_sem, typeInfo, hi, hm, h1, h2, follow, receiverAt, Place.get, run_underlying Try.underlying144, run_underlying Try.underlying138, fieldPlace, sizeOf, hi2, hs2, asAddr, hc, Addr.add]
theorem meth_grow (h : Nat) (w : World) : (method 296 138 (.pointer (some ⟨h, 0, none⟩)) "GetBlackRow").run Try.prog w = .ok (113, .pointer (some ⟨h, 0, none⟩)) w := by kernel_rfl

/-- a row of two grays, both seen -/
def Seen1 (W y : Nat) (gr : Nat → Int) (dk lt : Int) : Prop :=
  0 ≤ dk ∧ dk + 64 ≤ lt ∧ lt ≤ 255 ∧ (∀ x, x < W → gr (y * W + x) = dk ∨ gr (y * W + x) = lt) ∧ ∃ xd xl : Nat, xd < W ∧ xl < W ∧ gr (y * W + xd) = dk ∧ gr (y * W + xl) = lt

/-- what is told of a row: its ends are light -/
def toldRow (W y : Nat) (gr : Nat → Int) (dk : Int) : Nat → Bool := fun x => decide (1 ≤ x ∧ x + 1 < W ∧ gr (y * W + x) = dk)

/-- a bitmap with either binarizer -/
def BmpE (w : World) (hy : Bool) (b y h bb lb p gb W H cap : Nat) (gr : Nat → Int) : Prop :=
  if hy = true then BmpH w b y h bb lb p gb W H cap gr else Bmp w b h bb lb p gb W H cap gr

set_option maxRecDepth 100000 in
set_option maxHeartbeats 2000000 in
theorem bbr_calls (hy : Bool) (b yb h bb lb p gb W H cap y pa ga : Nat) (gr : Nat → Int) (dk lt : Int) (w : World) (hb : BmpE w hy b yb h bb lb p gb W H cap gr) (hba : BA w pa ga W (fun _ => false)) (hW0 : 3 ≤ W) (hH0 : 1 ≤ H) (hW : W ≤ 10000) (hH : H ≤ 10000) (hyH : y < H) (hsee : Seen1 W y gr dk lt)
    (n1 : pa ≠ h) (n2 : pa ≠ bb) (n3 : ga ≠ h) (n4 : ga ≠ bb) (n5 : p ≠ ga) (n6 : gb ≠ ga) :
    Calls Try.prog 38 #[.pointer (some ⟨b, 0, none⟩), .int .i64 (y : Int), .pointer (some ⟨pa, 0, none⟩)] w fun e w' => e = .returned (.tuple #[.pointer (some ⟨pa, 0, none⟩), .nilIface]) ∧ BA w' pa ga W (toldRow W y gr dk) ∧ Touch [h, bb, ga] w w' := by
  obtain ⟨s1, s2, s3, s4, xd, xl, s5, s6, s7, s8⟩ := hsee
  cases hy
  · obtain ⟨hbk, hgh, hsrc, hcap, k1, k2, k3, k4, k5, k6⟩ : Bmp w b h bb lb p gb W H cap gr := hb
    have HCall := Lib.hid (brow_calls h bb lb 0 p gb W H cap y pa ga gr _ w hgh hsrc hba hW0 hH0 hW hH hcap hyH dk lt s1 s2 s3 s4 xd xl s5 s6 s7 s8 k1 k2 k3 k4 n1 n2 n3 n4 n5 n6)
    have C0 : w.cell? ⟨b, 0, none⟩ = some (.iface 138 (.pointer (some ⟨h, 0, none⟩))) := cell_at_cells hbk rfl
    have m1 := meth_grow h
    clear hbk hgh hsrc s4 s5 s6 s7 s8 hba
    go_enter Try.func38, Try.ntmps38
    go_wp2_with (go_at_call 113; refine HCall.out.mono ?_)
    rintro e w1 ⟨rfl, hba1, ht⟩
    have HBA := Lib.hid hba1
    have HT := Lib.hid ht
    clear hba1 ht HCall
    go_wp2
    go_ret2
    exact ⟨rfl, HBA.out, HT.out⟩
  · obtain ⟨hbk, hyk, hgh, hsrc, hcap, k1, k2, k3, k4, k5, k6, _⟩ : BmpH w b yb h bb lb p gb W H cap gr := hb
    have HCall := Lib.hid (brow_calls h bb lb 0 p gb W H cap y pa ga gr _ w hgh hsrc hba hW0 hH0 hW hH hcap hyH dk lt s1 s2 s3 s4 xd xl s5 s6 s7 s8 k1 k2 k3 k4 n1 n2 n3 n4 n5 n6)
    have C0 : w.cell? ⟨b, 0, none⟩ = some (.iface 142 (.pointer (some ⟨yb, 0, none⟩))) := cell_at_cells hbk rfl
    have m1 := meth_hrow yb h w (cell_at_cells hyk rfl)
    clear hbk hgh hsrc s4 s5 s6 s7 s8 hba hyk
    go_enter Try.func38, Try.ntmps38
    go_wp2_with (go_at_call 113; refine HCall.out.mono ?_)
    rintro e w1 ⟨rfl, hba1, ht⟩
    have HBA := Lib.hid hba1
    have HT := Lib.hid ht
    clear hba1 ht HCall
    go_wp2
    go_ret2
    exact ⟨rfl, HBA.out, HT.out⟩

theorem bitmape_calls (hy : Bool) (ga n c W H : Nat) (gr : Nat → Int) (kind : Int) (w : World) (hn : n = W * H) (hW0 : 1 ≤ W) (hH0 : 1 ≤ H) (hW : W ≤ 10000) (hH : H ≤ 10000) (hc : ∀ i, i < n → w.cell? ⟨ga, i, none⟩ = some (.int .u8 (gr i))) :
    Calls Try.prog 36 #[.agg #[.int .i64 (W : Int), .slice (some ⟨ga, 0, none⟩) n c], lookV kind hy] w fun e w' =>
      ∃ b y h bb lb p gb cap, e = .returned (.pointer (some ⟨b, 0, none⟩)) ∧ BmpE w' hy b y h bb lb p gb W H cap gr ∧ w.heap.size ≤ h ∧ w.heap.size ≤ bb ∧ w.heap.size ≤ p ∧ w.heap.size ≤ gb ∧ Below w.heap.size w w' ∧ h < w'.heap.size ∧ bb < w'.heap.size ∧ p < w'.heap.size ∧ gb < w'.heap.size := by
  cases hy
  · refine (bitmap_calls ga n c W H gr kind w hn hW0 hH0 hW hH hc).mono ?_
    rintro e w' ⟨b, h, bb, lb, p, gb, cap, rfl, hb, _, k2, k3, k4, k5, hbel⟩
    exact ⟨b, 0, h, bb, lb, p, gb, cap, rfl, hb, k2, k3, k4, k5, hbel, hb.2.1.lt.1, hb.2.1.lt.2, (hb.2.2.1.lt hW0 hH0).1, (hb.2.2.1.lt hW0 hH0).2⟩
  · refine (bitmaph_calls ga n c W H gr kind w hn hW0 hH0 hW hH hc).mono ?_
    rintro e w' ⟨b, y, h, bb, lb, p, gb, cap, rfl, hb, _, _, k2, k3, k4, k5, hbel⟩
    exact ⟨b, y, h, bb, lb, p, gb, cap, rfl, hb, k2, k3, k4, k5, hbel, hb.2.2.1.lt.1, hb.2.2.1.lt.2, (hb.2.2.2.1.lt hW0 hH0).1, (hb.2.2.2.1.lt hW0 hH0).2⟩

theorem BmpE.below {w w' : World} {hy : Bool} {b y h bb lb p gb W H cap : Nat} {gr : Nat → Int} (hb : BmpE w hy b y h bb lb p gb W H cap gr) (hW0 : 1 ≤ W) (hH0 : 1 ≤ H) (hbel : Below w.heap.size w w') : BmpE w' hy b y h bb lb p gb W H cap gr := by
  cases hy
  · obtain ⟨h1, h2, h3, h4⟩ : Bmp w b h bb lb p gb W H cap gr := hb
    exact (⟨(hbel.block _ (Array.getElem?_eq_some_iff.1 h1).1).trans h1, h2.below hbel, h3.below hW0 hH0 hbel, h4⟩ : Bmp w' b h bb lb p gb W H cap gr)
  · obtain ⟨h1, h1', h2, h3, h4⟩ : BmpH w b y h bb lb p gb W H cap gr := hb
    exact (⟨(hbel.block _ (Array.getElem?_eq_some_iff.1 h1).1).trans h1, (hbel.block _ (Array.getElem?_eq_some_iff.1 h1').1).trans h1', h2.below hbel, h3.below hW0 hH0 hbel, h4⟩ : BmpH w' b y h bb lb p gb W H cap gr)

/-- a row of truth values in a block of the call's own -/
def BRowO (base : Nat) (w : World) (v : Value) (n : Nat) (f : Nat → Bool) : Prop :=
  ∃ b c, v = .slice (some ⟨b, 0, none⟩) n c ∧ base ≤ b ∧ ∀ j, j < n → w.cell? ⟨b, j, none⟩ = some (.bool (f j))

/-- a row of truth values that was appended -/
theorem own_brow {w : World} {base n : Nat} {v : Value} {f : Nat → Bool} (h : w.ownsRow base 4 1 v n ((List.range n).map fun x => .bool (f x))) (hn : 1 ≤ n) : BRowO base w v n f := by
  rcases h.2 with ⟨_, h0⟩ | ⟨g, cap, cur, rfl, hg, hh, hc, _, hs, ht⟩
  · omega
  · refine ⟨g, cap, rfl, hg, fun j hj => ?_⟩
    have e : (cur.toList.take (n * 1))[j]? = some (.bool (f j)) := by
      rw [ht, List.getElem?_map, List.getElem?_range hj]; rfl
    rw [List.getElem?_take_of_lt (by omega)] at e
    simp [World.cell?, hh]
    simpa using e

set_option maxRecDepth 100000 in
set_option maxHeartbeats 4000000 in
theorem zxrow_calls (hy : Bool) (ga n c W H y : Nat) (gr : Nat → Int) (kind : Int) (dk lt : Int) (w : World) (hn : n = W * H) (hW0 : 3 ≤ W) (hH0 : 1 ≤ H) (hW : W ≤ 10000) (hH : H ≤ 10000) (hyH : y < H) (hc : ∀ i, i < n → w.cell? ⟨ga, i, none⟩ = some (.int .u8 (gr i))) (hsee : Seen1 W y gr dk lt) :
    Calls Try.prog 26 #[.agg #[.int .i64 (W : Int), .slice (some ⟨ga, 0, none⟩) n c], lookV kind hy, .int .i64 (y : Int)] w fun e w' => ∃ v, e = .returned (.tuple #[v, .bool true]) ∧ BRowO w.heap.size w' v W (toldRow W y gr dk) ∧ Below w.heap.size w w' := by
  obtain ⟨iF, hi, hz0, hz1, hz2⟩ := info_parts Try.info4
  have HC := Lib.hid hc
  have HSee := Lib.hid hsee
  have HN := Lib.hid hn
  have hga : ga < w.heap.size := cell_lt (hc 0 (by rw [hn]; exact Nat.mul_pos (by omega) hH0))
  clear hc hsee hn
  go_enter_defers Try.func26, Try.ntmps26
  go_wp2_with (fail)
  refine (bitmape_calls hy ga n c W H gr kind _ HN.out (by omega) hH0 hW hH (fun i hi => ?cells)).mono ?_
  case cells =>
    rw [World.cell?_alloc_past _ _ _ (by simp only [blk_size]; show ga < _; omega), World.cell?_alloc_past _ _ _ (by simp only [blk_size]; show ga < _; omega), World.cell?_alloc_past _ _ _ (by show ga < _; omega)]
    exact HC.out i hi
  rintro e w1 ⟨b, yb, h, bb, lb, p, gb, cap, rfl, hbmp, k2, k3, k4, k5, hb1, l2, l3, l4, l5⟩
  have hb0 : Below w.heap.size w (((w.alloc (.cells #[.int .i64 (W : Int), .slice (some ⟨ga, 0, none⟩) n c] 57)).alloc (.cells #[.int .i64 kind, .bool hy, .bool false, .bool false, .bool false, .bool false, .bool false] 59)).alloc (.cells #[.bool false] 4)) := (((Below.refl _ _).alloc (Nat.le_refl _) _).alloc (by simp) _).alloc (by simp; omega) _
  simp only [blk_size] at k2 k3 k4 k5
  have hok : w1.heap[w.heap.size + 1 + 1]? = some (.cells #[.bool false] 4) := by
    rw [hb1.block _ (by simp only [blk_size]; omega)]; exact blk_new' _ _ _ (by simp only [blk_size])
  have hpic : w1.heap[w.heap.size]? = some (.cells #[.int .i64 (W : Int), .slice (some ⟨ga, 0, none⟩) n c] 57) := by
    rw [hb1.block _ (by simp only [blk_size]; omega)]; exact blk_old _ _ _ _ (blk_old _ _ _ _ (blk_new _ _))
  have P0 : w1.cell? ⟨w.heap.size, 0, none⟩ = some (.int .i64 (W : Int)) := cell_at_cells hpic rfl
  have hs1 := hb1.size
  simp only [blk_size] at hs1
  have hbw : Below w.heap.size w w1 := hb0.trans (hb1.mono (by simp only [blk_size]; omega))
  have HBmp := Lib.hid hbmp
  have HOk := Lib.hid hok
  have HBw := Lib.hid hbw
  clear hbmp hok hb1 hb0 hbw hpic
  go_wp2_with (go_at_call 39; refine (newba_calls W _ (by omega)).mono ?_)
  rintro e w2 ⟨pa, ga2, rfl, hba, hpa, hga2, hb2⟩
  have hs2 := hb2.size
  have HBA := Lib.hid hba
  have HBmp2 := Lib.hid (HBmp.out.below (by omega) hH0 hb2)
  have HB2 := Lib.hid hb2
  clear hba hb2
  go_wp2_with (go_at_call 38; refine (bbr_calls hy b yb h bb lb p gb W H cap y pa ga2 gr dk lt _ HBmp2.out HBA.out hW0 hH0 hW hH hyH HSee.out (by omega) (by omega) (by omega) (by omega) (by omega) (by omega)).mono ?_)
  rintro e w3 ⟨rfl, hba3, ht3⟩
  have hs3 := ht3.size
  have hok3 : w3.heap[w.heap.size + 1 + 1]? = some (.cells #[.bool false] 4) := (ht3.block _ (by omega) (by simp; omega)).trans ((HB2.out.block _ (by omega)).trans HOk.out)
  have hbw3 : Below w.heap.size w w3 := (HBw.out.trans (HB2.out.mono (by omega))).trans (ht3.below (by omega) (by intro k hk; simp at hk; omega))
  have HBA3 := Lib.hid hba3
  have HOk3 := Lib.hid hok3
  have HBw3 := Lib.hid hbw3
  clear hba3 hok3 hbw3 ht3 P0
  go_wp2
  go_loopw [6, 11] (fun v i wr => ∃ k : Nat, k ≤ W ∧ i = .int .i64 (k : Int) ∧ wr.ownsRow w3.heap.size 4 1 v k ((List.range k).map fun x => .bool (toldRow W y gr dk x)) ∧ Below w3.heap.size w3 wr) (fun _ i _ => W - (intOf i).toNat)
  case atStart => exact ⟨0, by omega, rfl, World.ownsRow_nil _ _ _ _, Below.refl _ _⟩
  case round =>
    obtain ⟨k, hk, rfl, hown, hbr⟩ := hrel
    have hsr := hbr.size
    have HBAr := Lib.hid (HBA3.out.below hbr)
    have HOwn := Lib.hid hown
    have HBr := Lib.hid hbr
    clear hown hbr
    by_cases hlt : k < W
    · have hown2 := HOwn.out.alloc (.cells #[.bool (toldRow W y gr dk k)] 4)
      generalize hb : toldRow W y gr dk k = bk at *
      have HGet : Hid (Calls Try.prog 41 #[.pointer (some ⟨pa, 0, none⟩), .int .i64 (k : Int)] wr fun e w' => e = .returned (.bool bk) ∧ wr = w') := by rw [← hb]; exact baget_calls pa ga2 W k _ wr HBAr.out hlt (by omega)
      have HBk := Lib.hid hb
      clear hb
      go_wp2_with (first | (at_builtin; go_must (refine wpList_append_own _ rfl _ _ 44 rfl w3.heap.size 4 iF (.bool false) 1 1 Try.underlying44 hi hz0 hz1 hz2 rfl (by decide) _ _ _ rfl hown2 ⟨wr.heap.size, 0, none⟩ 1 1 [.bool bk] rfl rfl ?d1 ?d2 ?d3 ?d4 ?d5 ?_)) | (go_at_call 40; refine (basize_calls pa ga2 W _ _ HBAr.out).mono ?_; rintro e w' ⟨rfl, rfl⟩) | (go_at_call 41; refine HGet.out.mono ?_; rintro e w' ⟨rfl, rfl⟩))
      case d1 =>
        intro i u hu
        match i, hu with
        | 0, hu => simp at hu; subst hu; exact cell_at_cells (blk_new _ _) (by rfl)
      case d2 => intro u hu; simp at hu; subst hu; rfl
      case d3 => unfold maxLen; omega
      case d4 => omega
      case d5 => simp; omega
      intro v' w4 hown4 hgrow _
      have hrel4 : w4.ownsRow w3.heap.size 4 1 v' (k + 1) ((List.range (k + 1)).map fun x => .bool (toldRow W y gr dk x)) := by
        rw [List.range_succ, List.map_append]
        simp only [List.map_cons, List.map_nil, HBk.out]
        exact hown4
      have hb4 : Below w3.heap.size w3 w4 := (HBr.out.alloc (by omega) _).grown hgrow (by simp; omega) (fun q hq => (HOwn.out.lt q hq).1)
      have HR4 := Lib.hid hrel4
      have HB4 := Lib.hid hb4
      clear hrel4 hb4 hown4 hgrow hown2
      go_wp2
      go_roundw
      case rel => exact ⟨k + 1, by omega, by go_num, HR4.out, HB4.out⟩
      case measure => simp [intOf]; omega
    · obtain rfl : k = W := by omega
      have hokr : wr.heap[w.heap.size + 1 + 1]? = some (.cells #[.bool false] 4) := (HBr.out.block _ (by omega)).trans HOk3.out
      have Q0 : wr.cell? ⟨w.heap.size + 1 + 1, 0, none⟩ = some (.bool false) := cell_at_cells hokr rfl
      have F0 : wr.frozen? ⟨w.heap.size + 1 + 1, 0, none⟩ = false := by simp [World.frozen?, hokr]
      have HOkr := Lib.hid hokr
      clear hokr
      go_wp2_with (first | (go_at_call 40; refine (basize_calls pa ga2 k _ _ HBAr.out).mono ?_; rintro e w' ⟨rfl, rfl⟩))
      refine leaves_cons (f := 32) (args := #[.pointer (some ⟨w.heap.size + 1 + 1, 0, none⟩)]) (by simp) (by simp [go_sem]) ?_
      refine (caught_idle ⟨w.heap.size + 1 + 1, 0, none⟩ _).mono ?_
      rintro e u' w'' ⟨rfl, rfl, rfl⟩
      have hcell : (wr.setCell ⟨w.heap.size + 1 + 1, 0, none⟩ (.bool true)).cell? ⟨w.heap.size + 1 + 1, 0, none⟩ = some (.bool true) := cell_at_cells (heap_setCell_at (.bool true) HOkr.out) rfl
      have hO := own_brow (ownsRow_setCell_below HOwn.out (a := ⟨w.heap.size + 1 + 1, 0, none⟩) (by show w.heap.size + 1 + 1 < w3.heap.size; omega) (.bool true)) (by omega)
      obtain ⟨b', c', e1, e2, e3⟩ := hO
      refine ⟨.tuple #[_, .bool true], ?_, _, rfl, ⟨b', c', e1, by omega, e3⟩, ?_⟩
      · simp [results, Try.results26, go_sem, hcell]
      · exact (HBw3.out.trans (HBr.out.mono (by omega))).setCell (p := ⟨w.heap.size + 1 + 1, 0, none⟩) (by show w.heap.size ≤ w.heap.size + 1 + 1; omega) _

end Go.Proofs.Ytaadklfendegfaa
