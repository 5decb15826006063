/- What a block's sum, least and greatest are. -/
import Derived.Test.YtaadklfendegfaaHu
namespace Go.Proofs.Ytaadklfendegfaa
open Go.RowKit

/-- n pixels of two grays: their sum, the least, the greatest -/
def BlkR (dk lt : Int) (n : Nat) (S mn mx : Int) : Prop :=
  (n : Int) * dk ≤ S ∧ S ≤ (n : Int) * lt ∧ ((mn = dk ∧ S + (lt - dk) ≤ (n : Int) * lt) ∨ (lt ≤ mn ∧ mn ≤ 255)) ∧ ((mx = lt ∧ (n : Int) * dk + (lt - dk) ≤ S) ∨ (mx ≤ dk ∧ 0 ≤ mx))

theorem succ_mul_int (n : Nat) (d : Int) : ((n + 1 : Nat) : Int) * d = (n : Int) * d + d := by rw [Int.natCast_add, Int.add_mul]; simp

theorem BlkR.zero {dk lt : Int} (h0 : 0 ≤ dk) (h1 : lt ≤ 255) : BlkR dk lt 0 0 255 0 := by
  refine ⟨by simp, by simp, .inr ⟨h1, by omega⟩, .inr ⟨h0, by omega⟩⟩
theorem BlkR.dark {dk lt : Int} {n : Nat} {S mn mx : Int} (h : BlkR dk lt n S mn mx) (hdl : dk < lt) : BlkR dk lt (n + 1) (S + dk) (if dk < mn then dk else mn) (if mx < dk then dk else mx) ∧ (if dk < mn then dk else mn) = dk ∧ (mx = lt → (if mx < dk then dk else mx) = lt) := by
  obtain ⟨h1, h2, h3, h4⟩ := h
  unfold BlkR
  rw [succ_mul_int, succ_mul_int]
  generalize (n : Int) * dk = p at *
  generalize (n : Int) * lt = q at *
  refine ⟨⟨by omega, by omega, .inl ⟨?_, by omega⟩, ?_⟩, ?_, ?_⟩
  · split <;> omega
  · rcases h4 with h4 | h4
    · left; exact ⟨by rw [if_neg (by omega)]; exact h4.1, by omega⟩
    · right; split <;> omega
  · split <;> omega
  · intro e; rw [if_neg (by omega)]; exact e
theorem BlkR.light {dk lt : Int} {n : Nat} {S mn mx : Int} (h : BlkR dk lt n S mn mx) (hdl : dk < lt) (hl : lt ≤ 255) : BlkR dk lt (n + 1) (S + lt) (if lt < mn then lt else mn) (if mx < lt then lt else mx) ∧ (if mx < lt then lt else mx) = lt ∧ (mn = dk → (if lt < mn then lt else mn) = dk) := by
  obtain ⟨h1, h2, h3, h4⟩ := h
  unfold BlkR
  rw [succ_mul_int, succ_mul_int]
  generalize (n : Int) * dk = p at *
  generalize (n : Int) * lt = q at *
  refine ⟨⟨by omega, by omega, ?_, .inl ⟨?_, by omega⟩⟩, ?_, ?_⟩
  · rcases h3 with h3 | h3
    · left; exact ⟨by rw [if_neg (by omega)]; exact h3.1, by omega⟩
    · right; split <;> omega
  · split <;> omega
  · split <;> omega
  · intro e; rw [if_neg (by omega)]; exact e

/-- both grays were seen among n pixels -/
def FinR (dk lt : Int) (n : Nat) (S : Int) : Prop := (n : Int) * dk + (lt - dk) ≤ S ∧ S + (lt - dk) ≤ (n : Int) * lt
theorem FinR.step {dk lt : Int} {n : Nat} {S px : Int} (h : FinR dk lt n S) (hdl : dk < lt) (hp : px = dk ∨ px = lt) : FinR dk lt (n + 1) (S + px) := by
  obtain ⟨h1, h2⟩ := h
  unfold FinR
  rw [succ_mul_int, succ_mul_int]
  generalize (n : Int) * dk = p at *
  generalize (n : Int) * lt = q at *
  rcases hp with rfl | rfl <;> constructor <;> omega
theorem BlkR.fin {dk lt : Int} {n : Nat} {S mn mx : Int} (h : BlkR dk lt n S mn mx) (hdl : dk < lt) (he : mn < mx) : FinR dk lt n S ∧ mn = dk ∧ mx = lt := by
  obtain ⟨h1, h2, h3, h4⟩ := h
  unfold FinR
  generalize (n : Int) * dk = p at *
  generalize (n : Int) * lt = q at *
  rcases h3 with h3 | h3 <;> rcases h4 with h4 | h4
  · exact ⟨⟨by omega, by omega⟩, h3.1, h4.1⟩
  · exfalso; omega
  · exfalso; omega
  · exfalso; omega
theorem FinR.avg {dk lt : Int} {S : Int} (h : FinR dk lt 64 S) (hdl : dk < lt) : dk ≤ S / 64 ∧ S / 64 < lt := by
  obtain ⟨h1, h2⟩ := h
  simp at h1 h2
  omega
theorem BlkR.bounds {dk lt : Int} {n : Nat} {S mn mx : Int} (h : BlkR dk lt n S mn mx) (hd : 0 ≤ dk) (hdl : dk < lt) (hl : lt ≤ 255) (hn : n ≤ 64) : 0 ≤ S ∧ S ≤ 64 * 255 ∧ 0 ≤ mn ∧ mn ≤ 255 ∧ 0 ≤ mx ∧ mx ≤ 255 := by
  obtain ⟨h1, h2, h3, h4⟩ := h
  have p1 : 0 ≤ (n : Int) * dk := Int.mul_nonneg (by omega) hd
  have p2 : (n : Int) * lt ≤ 64 * 255 := Int.mul_le_mul (by omega) hl (by omega) (by omega)
  refine ⟨by omega, by omega, ?_, ?_, ?_, ?_⟩ <;> rcases h3 with h3 | h3 <;> rcases h4 with h4 | h4 <;> omega
theorem FinR.bounds {dk lt : Int} {n : Nat} {S : Int} (h : FinR dk lt n S) (hd : 0 ≤ dk) (hdl : dk < lt) (hl : lt ≤ 255) (hn : n ≤ 64) : 0 ≤ S ∧ S ≤ 64 * 255 := by
  obtain ⟨h1, h2⟩ := h
  have p1 : 0 ≤ (n : Int) * dk := Int.mul_nonneg (by omega) hd
  have p2 : (n : Int) * lt ≤ 64 * 255 := Int.mul_le_mul (by omega) hl (by omega) (by omega)
  omega

/-- the first k rows of numbers are laid -/
def RowsI (base : Nat) (w : World) (G sw sh k : Nat) (R : Nat → Nat) (bp : Nat → Nat → Int) : Prop :=
  w.rowIs G 139 sh (fun y => if y < k then .slice (some ⟨R y, 0, none⟩) sw sw else .slice none 0 0) ∧ (∀ y, y < k → w.rowIs (R y) 3 sw (fun x => .int .i64 (bp y x))) ∧ ∀ y, y < k → base ≤ R y ∧ R y ≠ G

theorem RowsI.next {base : Nat} {wo wr : World} {G sw sh k g : Nat} {R : Nat → Nat} {bp : Nat → Nat → Int} {f : Nat → Int} {o : Obj} (h : RowsI base wo G sw sh k R bp) (hg : wo.heap.size = g) (hb : base ≤ g)
    (ho : Only g ((wo.setCell ⟨G, k, none⟩ (.slice (some ⟨g, 0, none⟩) sw sw)).alloc o) wr) (hr : wr.rowIs g 3 sw (fun x => .int .i64 (f x))) : RowsI base wr G sw sh (k + 1) (fun y => if y = k then g else R y) (fun y => if y = k then f else bp y) := by
  obtain ⟨h1, h2, h3⟩ := h
  have hG : G < g := by rw [← hg]; exact h1.lt
  refine ⟨?_, ?_, ?_⟩
  · refine (((h1.set k _).alloc o).of_block (ho.block G (by omega))).congr fun y hy => ?_
    by_cases e : y = k
    · subst e; simp
    · simp only [e, if_false]
      by_cases e2 : y < k
      · rw [if_pos e2, if_pos (by omega)]
      · rw [if_neg e2, if_neg (by omega)]
  · intro y hy
    by_cases e : y = k
    · subst e; simp only [if_true]; exact hr
    · simp only [e, if_false]
      have hy' : y < k := by omega
      have hlt : R y < g := by rw [← hg]; exact (h2 y hy').lt
      exact (((h2 y hy').setOther (a := ⟨G, k, none⟩) (h3 y hy').2 _).alloc o).of_block (ho.block _ (by omega))
  · intro y hy
    by_cases e : y = k
    · simp only [e, if_true]; exact ⟨hb, by omega⟩
    · simp only [e, if_false]; exact h3 y (by omega)

end Go.Proofs.Ytaadklfendegfaa
