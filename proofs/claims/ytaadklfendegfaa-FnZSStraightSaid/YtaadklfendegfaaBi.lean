/- The walks of what makes a bitmap out of a picture. -/
import Derived.Test.YtaadklfendegfaaIa
import Derived.Test.YtaadklfendegfaaSo
import Derived.Deep.RegionHeld3
import Derived.Deep.AppendLies
import Derived.Deep.RegionLaw
namespace Go.Proofs.Ytaadklfendegfaa
open Go.RowKit

set_option maxRecDepth 100000 in
set_option maxHeartbeats 1000000 in
theorem newsrc_calls (gb n cap W H : Nat) (gr : Nat → Int) (w : World) (hn : n = W * H) (hW : W ≤ 100000) (hH : H ≤ 100000) (hc : ∀ i, i < n → w.cell? ⟨gb, i, none⟩ = some (.int .u8 (gr i))) (hgb : gb < w.heap.size) :
    Calls Try.prog 53 #[.slice (some ⟨gb, 0, none⟩) n cap, .int .i64 (W : Int), .int .i64 (H : Int), .int .i64 0, .int .i64 0, .int .i64 (W : Int), .int .i64 (H : Int), .bool false] w fun e w' =>
      ∃ p, e = .returned (.tuple #[.iface 131 (.pointer (some ⟨p, 0, none⟩)), .nilIface]) ∧ Src w' p gb W H cap gr ∧ p = w.heap.size ∧ Below w.heap.size w w' := by
  have HN := Lib.hid hn
  have HC := Lib.hid hc
  have B1 : decide (W < W) = false := by simp
  have B2 : decide (H < H) = false := by simp
  clear hn hc
  go_enter Try.func53, Try.ntmps53
  go_wp2
  go_ret2
  refine ⟨w.heap.size, rfl, ⟨?_, ?_⟩, rfl, (Below.refl _ _).alloc (Nat.le_refl _) _⟩
  · rw [blk_new]; rw [HN.out]
  · intro i hi
    rw [World.cell?_alloc_past _ _ _ hgb]
    exact HC.out i (by rw [HN.out]; exact hi)

set_option maxRecDepth 100000 in
set_option maxHeartbeats 1000000 in
theorem newbb_calls (ty h : Nat) (w : World) : Calls Try.prog 57 #[.iface ty (.pointer (some ⟨h, 0, none⟩))] w fun e w' =>
      ∃ b, e = .returned (.tuple #[.pointer (some ⟨b, 0, none⟩), .nilIface]) ∧ w'.heap[b]? = some (.cells #[.iface ty (.pointer (some ⟨h, 0, none⟩)), .pointer none] 119) ∧ b = w.heap.size ∧ Below w.heap.size w w' := by
  go_enter Try.func57, Try.ntmps57
  go_wp2
  go_ret2
  exact ⟨w.heap.size, rfl, blk_new _ _, rfl, (Below.refl _ _).alloc (Nat.le_refl _) _⟩

/-- a look: which kind, and the hybrid binarizer or not -/
abbrev lookV (kind : Int) (hy : Bool) : Value := .agg #[.int .i64 kind, .bool hy, .bool false, .bool false, .bool false, .bool false, .bool false]

/-- a bitmap over a source, with the binarizer by a histogram -/
def Bmp (w : World) (b h bb lb p gb W H cap : Nat) (gr : Nat → Int) : Prop :=
  w.heap[b]? = some (.cells #[.iface 138 (.pointer (some ⟨h, 0, none⟩)), .pointer none] 119) ∧ Gh w h bb (srcV p) (.slice (some ⟨lb, 0, none⟩) 0 0) ∧ Src w p gb W H cap gr ∧ W * H ≤ cap ∧ p ≠ h ∧ p ≠ bb ∧ gb ≠ h ∧ gb ≠ bb ∧ b ≠ h ∧ b ≠ bb

theorem own_bytes {w : World} {base g m cap n : Nat} {gr : Nat → Int} (h : w.ownsRow base 5 1 (.slice (some ⟨g, 0, none⟩) m cap) m ([] ++ (List.range n).map fun i => Value.int .u8 (gr i))) {i : Nat} (hi : i < n) : w.cell? ⟨g, i, none⟩ = some (.int .u8 (gr i)) := by
  have := h.cells (g := g) rfl i (.int .u8 (gr i)) (by rw [List.nil_append, List.getElem?_map, List.getElem?_range hi]; rfl)
  unfold Addr.add at this
  split at this
  · rename_i h0; subst h0; exact this
  · simpa using this

set_option maxRecDepth 100000 in
set_option maxHeartbeats 4000000 in
theorem bitmap_calls (ga n c W H : Nat) (gr : Nat → Int) (kind : Int) (w : World) (hn : n = W * H) (hW0 : 1 ≤ W) (hH0 : 1 ≤ H) (hW : W ≤ 10000) (hH : H ≤ 10000) (hc : ∀ i, i < n → w.cell? ⟨ga, i, none⟩ = some (.int .u8 (gr i))) :
    Calls Try.prog 36 #[.agg #[.int .i64 (W : Int), .slice (some ⟨ga, 0, none⟩) n c], lookV kind false] w fun e w' =>
      ∃ b h bb lb p gb cap, e = .returned (.pointer (some ⟨b, 0, none⟩)) ∧ Bmp w' b h bb lb p gb W H cap gr ∧ w.heap.size ≤ b ∧ w.heap.size ≤ h ∧ w.heap.size ≤ bb ∧ w.heap.size ≤ p ∧ w.heap.size ≤ gb ∧ Below w.heap.size w w' := by
  obtain ⟨iF, hi, hz0, hz1, hz2⟩ := info_parts Try.info5
  have hnW : n / W = H := by rw [hn]; exact Nat.mul_div_cancel_left _ (by omega)
  have hnm : n % W = 0 := by rw [hn]; exact Nat.mul_mod_right _ _
  have hn0 : 1 ≤ n := by rw [hn]; exact Nat.mul_pos hW0 hH0
  have hn1 : n ≤ 10000 * 10000 := by rw [hn]; exact Nat.mul_le_mul hW hH
  have hga : ga < w.heap.size := cell_lt (hc 0 (by omega))
  have E1 : (n : Int) / (W : Int) = (H : Int) := by rw [← Int.natCast_ediv, hnW]
  have E2 : (n : Int) % (W : Int) = 0 := by rw [← Int.natCast_emod, hnm]; rfl
  have E3 : ¬ (W : Int) = 0 := by omega
  have E4 : ¬ W = 0 := by omega
  have E5 : decide ((W : Int) ≤ 0) = false := by simp; omega
  have E6 : ((n : Int) == 0) = false := by simp; omega
  have E7 : (n == 0) = false := by simp; omega
  have HNn := Lib.hid (And.intro hn (And.intro hnW hnm))
  have HC := Lib.hid hc
  clear hn hnW hnm hc
  go_enter Try.func36, Try.ntmps36
  go_wp2
  have C0 : ((w.alloc (.cells #[.int .i64 (W : Int), .slice (some ⟨ga, 0, none⟩) n c] 57)).alloc (.cells #[.int .i64 kind, .bool false, .bool false, .bool false, .bool false, .bool false, .bool false] 59)).heap[w.heap.size]? = some (.cells #[.int .i64 (W : Int), .slice (some ⟨ga, 0, none⟩) n c] 57) := blk_old _ _ _ _ (blk_new _ _)
  have C9 : ((w.alloc (.cells #[.int .i64 (W : Int), .slice (some ⟨ga, 0, none⟩) n c] 57)).alloc (.cells #[.int .i64 kind, .bool false, .bool false, .bool false, .bool false, .bool false, .bool false] 59)).heap[w.heap.size + 1]? = some (.cells #[.int .i64 kind, .bool false, .bool false, .bool false, .bool false, .bool false, .bool false] 59) := blk_new' _ _ _ (by rw [blk_size])
  have hb1 : Below w.heap.size w ((w.alloc (.cells #[.int .i64 (W : Int), .slice (some ⟨ga, 0, none⟩) n c] 57)).alloc (.cells #[.int .i64 kind, .bool false, .bool false, .bool false, .bool false, .bool false, .bool false] 59)) := ((Below.refl _ _).alloc (Nat.le_refl _) _).alloc (by simp) _
  have hs1 : w.heap.size + 1 < ((w.alloc (.cells #[.int .i64 (W : Int), .slice (some ⟨ga, 0, none⟩) n c] 57)).alloc (.cells #[.int .i64 kind, .bool false, .bool false, .bool false, .bool false, .bool false, .bool false] 59)).heap.size := by simp only [blk_size]; omega
  generalize (w.alloc (.cells #[.int .i64 (W : Int), .slice (some ⟨ga, 0, none⟩) n c] 57)).alloc (.cells #[.int .i64 kind, .bool false, .bool false, .bool false, .bool false, .bool false, .bool false] 59) = w1 at *
  have HNews : Hid (∀ (j : Nat) (u : Value), ((List.range n).map fun i => Value.int .u8 (gr i))[j]? = some u → w1.cell? ((⟨ga, 0, none⟩ : Addr).add j) = some u) := by
    intro j u hu
    rw [List.getElem?_map] at hu
    by_cases hj : j < n
    · rw [List.getElem?_range hj] at hu
      simp at hu
      subst hu
      rw [hb1.cell (by unfold Addr.add; split <;> exact hga)]
      have := HC.out j hj
      unfold Addr.add
      split
      · rename_i h0; subst h0; exact this
      · simpa using this
    · rw [List.getElem?_eq_none (by simp; omega)] at hu; cases hu
  have HOne : Hid (∀ u ∈ ((List.range n).map fun i => Value.int .u8 (gr i)), u.oneCell' = true) := by
    intro v hv
    rw [List.mem_map] at hv
    obtain ⟨i, _, rfl⟩ := hv
    rfl
  have HB1 := Lib.hid hb1
  have HC0 := Lib.hid C0
  have HC9 := Lib.hid C9
  have S0 : w1.cell? ⟨w.heap.size, 0, none⟩ = some (.int .i64 (W : Int)) := cell_at_cells C0 rfl
  have S1 : w1.cell? ⟨w.heap.size, 1, none⟩ = some (.slice (some ⟨ga, 0, none⟩) n c) := cell_at_cells C0 rfl
  clear hb1 C0 C9 E1 E2 E3 E4 E5 E6 E7
  have hmx : 0 + n ≤ maxLen := by unfold maxLen; omega
  go_region_held3 (fun w' => w'.cell? ⟨w.heap.size, 0, none⟩ = some (.int .i64 (W : Int)) ∧ w'.cell? ⟨w.heap.size, 1, none⟩ = some (.slice (some ⟨ga, 0, none⟩) n c)) (first | go_keep | exact ⟨hgrow.cell S0 (by simp [Value.ownBlock]), hgrow.cell S1 (by simp [Value.ownBlock])⟩ | exact ⟨(hb5.cell (by show w.heap.size < _; omega)).trans (hgrow.cell S0 (by simp [Value.ownBlock])), (hb5.cell (by show w.heap.size < _; omega)).trans (hgrow.cell S1 (by simp [Value.ownBlock]))⟩) ((first | (refine step_append_lies _ (by rfl) (.const (.slice none 0 0)) (.tmp 36) 39 (by rfl) w1.heap.size 5 iF (.int .u8 0) 1 1 Try.underlying39 hi hz0 hz1 hz2 (by rfl) (by omega) (.slice none 0 0) 0 [] (by rfl) (World.ownsRow_nil _ _ _ _) ⟨ga, 0, none⟩ n c ((List.range n).map fun i => Value.int .u8 (gr i)) (by rfl) (by simp) HNews.out HOne.out (by omega) hmx (by omega) (Nat.le_refl _) w1.heap.size rfl ?_; intro g cap w3 hown hgrow hat hlt; have hgs : w1.heap.size ≤ w3.heap.size := hgrow.size) | (go_at_call 53; refine (newsrc_calls g n cap W H gr _ HNn.out.1 (by omega) (by omega) (fun i hi => own_bytes hown hi) hlt).mono ?_; rintro e w5 ⟨p, rfl, hsrc, rfl, hb5⟩)))
  have hge : g = w1.heap.size := by rcases hat with h | h; simp [Value.ownBlock] at h; exact h
  have hcap : n ≤ cap := by
    rcases hown.2 with ⟨h, _⟩ | ⟨g', cap', cur, h, _, _, h2, _⟩
    · cases h
    · injection h with _ _ h; subst h; simpa using h2
  have hb3 : Below w.heap.size w w3 := HB1.out.drew.grown hgrow (by show w.heap.size ≤ w1.heap.size; omega) (by intro k hk; simp [Value.ownBlock] at hk)
  have hb35 : Below w.heap.size w w5 := hb3.trans (hb5.mono (by omega))
  have hs5 : w3.heap.size ≤ w5.heap.size := hb5.size
  have hl5 : w5.heap[w.heap.size + 1]? = some (.cells #[.int .i64 kind, .bool false, .bool false, .bool false, .bool false, .bool false, .bool false] 59) := by
    rw [hb5.block _ (by omega), hgrow.block _ (by show _ < w1.heap.size; omega) (by simp [Value.ownBlock])]; exact HC9.out
  have T4 : w5.cell? ⟨w.heap.size + 1, 4, none⟩ = some (.bool false) := cell_at_cells hl5 rfl
  have T1 : w5.cell? ⟨w.heap.size + 1, 1, none⟩ = some (.bool false) := cell_at_cells hl5 rfl
  have HSrc := Lib.hid hsrc
  have HL5 := Lib.hid hl5
  have HB35 := Lib.hid hb35
  have hlt5 := hsrc.lt hW0 hH0
  clear hown hgrow hat hlt hb5 hb3 hb35 hsrc S0 S1 hl5 HOne HNews
  go_wp2_with (go_at_call 55; refine (newgh_calls w3.heap.size _).mono ?_)
  rintro e w6 ⟨h, bb, lb, rfl, hgh, hh, hbb, hb6⟩
  have T1' : w6.cell? ⟨w.heap.size + 1, 1, none⟩ = some (.bool false) := (hb6.cell (by show _ + 1 < _; omega)).trans T1
  have HGh := Lib.hid hgh
  have HB6 := Lib.hid hb6
  have hs6 : w5.heap.size ≤ w6.heap.size := hb6.size
  have hghlt := hgh.lt
  clear hgh hb6 T1 T4
  go_wp2_with (go_at_call 57; refine (newbb_calls 138 h _).mono ?_)
  rintro e w7 ⟨b, rfl, hbk, rfl, hb7⟩
  have HBk := Lib.hid hbk
  have HB7 := Lib.hid hb7
  clear hbk hb7
  go_wp2
  go_ret
  refine ⟨w6.heap.size, h, bb, lb, w3.heap.size, g, cap, rfl, ⟨HBk.out, HGh.out.below HB7.out, (HSrc.out.below hW0 hH0 HB6.out).below hW0 hH0 HB7.out, by rw [← HNn.out.1]; exact hcap, by omega, by omega, by omega, by omega, by omega, by omega⟩, by omega, by omega, by omega, by omega, by omega, HB35.out.trans ((HB6.out.mono (by omega)).trans (HB7.out.mono (by omega)))⟩

end Go.Proofs.Ytaadklfendegfaa
