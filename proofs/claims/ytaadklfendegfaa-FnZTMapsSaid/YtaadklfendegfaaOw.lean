/- ZXTransform and ztNear, said of slices that are owned. -/
import Derived.Test.YtaadklfendegfaaZw
import Derived.Test.YtaadklfendegfaaZn
import Derived.Test.YtaadklfendegfaaZq
import Derived.Test.YtaadklfendegfaaQs
namespace Go.Proofs.Ytaadklfendegfaa
open Go.RowKit

/-- what ZXTransform makes of points -/
def TransR (A B : Q8) (n : Nat) (ps rs : List Nat) : Prop :=
  ps.length = 2 * n ∧ rs.length = 2 * n ∧ ∃ a o b r : M9, S2QR A a ∧ AdjR a o ∧ S2QR B b ∧ TimesR b o r ∧ ∀ k, k < n → TPtR r (ps.getD (2 * k) 0) (ps.getD (2 * k + 1) 0) (rs.getD (2 * k) 0) (rs.getD (2 * k + 1) 0)

theorem map_get {ps : List Nat} {j : Nat} (h : j < ps.length) : (ps.map fv)[j]? = some (fv (ps.getD j 0)) := by
  rw [List.getElem?_map, List.getElem?_eq_getElem h]; simp [List.getD, List.getElem?_eq_getElem h]

theorem zxt_own {A B : Q8} {n : Nat} {ps rs : List Nat} {v : Value} {w : World} {base : Nat} (h : TransR A B n ps rs) (hn : 1 ≤ n) (hn2 : n ≤ 100000) (hown : w.ownsRow base 26 2 v n (ps.map fv)) :
    Calls Try.prog 15 #[.agg A.vals, .agg B.vals, v] w fun e w' => ∃ v', e = .returned v' ∧ w'.ownsRow w.heap.size 26 2 v' n (rs.map fv) ∧ Below w.heap.size w w' := by
  obtain ⟨hl, hl2, a, o, b, r, h1, h2, h3, h4, hr⟩ := h
  obtain ⟨g, cap, cur, rfl, hg, hh, hc, hs, hcur⟩ := own_get hown hn
  exact zxt_calls A B a o b r ps rs n cap g w cur h1 h2 h3 h4 hn hn2 hh (fun j hj => by rw [hcur j (by omega)]; exact map_get (by omega)) hl hr hl2

theorem near_own {n : Nat} {xs ys : List Nat} {v u : Value} {w : World} {b1 b2 : Nat} (hn : 1 ≤ n) (hn2 : n ≤ 1000000) (h1 : w.ownsRow b1 26 2 v n (xs.map fv)) (h2 : w.ownsRow b2 26 2 u n (ys.map fv))
    (h : ∀ j, j < 2 * n → NearR (xs.getD j 0) (ys.getD j 0)) :
    Calls Try.prog 14 #[v, u] w fun e w' => e = .returned (.bool true) ∧ ∃ m, w' = w.drewN m := by
  have l1 := h1.1
  have l2 := h2.1
  simp at l1 l2
  obtain ⟨g, cap, cur, rfl, hg, hh, hc, hs, hcur⟩ := own_get h1 hn
  obtain ⟨g2, cap2, cur2, rfl, hg2, hh2, hc2, hs2, hcur2⟩ := own_get h2 hn
  exact near_calls g g2 n cap cap2 xs ys w hn2 cur cur2 26 26 hh hh2 (fun j hj => by rw [hcur j (by omega)]; exact map_get (by omega)) (fun j hj => by rw [hcur2 j (by omega)]; exact map_get (by omega)) h

/-- three blocks that hold quadrilaterals, and what was there before -/
structure Held3 (N : Nat) (w0 : World) (pa pb pc : Nat) (A B C : Q8) (w : World) : Prop where
  below : Below N w0 w
  size : N ≤ w.heap.size
  la : pa < w.heap.size
  lb : pb < w.heap.size
  lc : pc < w.heap.size
  ha : w.heap[pa]? = some (.cells A.vals 27)
  hb : w.heap[pb]? = some (.cells B.vals 27)
  hc : w.heap[pc]? = some (.cells C.vals 27)

theorem Held3.next {N : Nat} {w0 : World} {pa pb pc : Nat} {A B C : Q8} {w w' : World} (h : Held3 N w0 pa pb pc A B C w) (hb : Below w.heap.size w w') : Held3 N w0 pa pb pc A B C w' := by
  have hs := hb.size
  have h1 := h.size
  have h2 := h.la
  have h3 := h.lb
  have h4 := h.lc
  exact ⟨h.below.trans (hb.mono h.size), by omega, by omega, by omega, by omega, by rw [hb.block _ h.la]; exact h.ha, by rw [hb.block _ h.lb]; exact h.hb, by rw [hb.block _ h.lc]; exact h.hc⟩

theorem Held3.drewN {N : Nat} {w0 : World} {pa pb pc : Nat} {A B C : Q8} {w : World} (h : Held3 N w0 pa pb pc A B C w) (n : Nat) : Held3 N w0 pa pb pc A B C (w.drewN n) :=
  h.next (below_drewN (Below.refl _ _) n)

theorem Held3.drew {N : Nat} {w0 : World} {pa pb pc : Nat} {A B C : Q8} {w : World} (h : Held3 N w0 pa pb pc A B C w) : Held3 N w0 pa pb pc A B C w.drew :=
  h.next (Below.refl _ _).drew

theorem Held3.cells {N : Nat} {w0 : World} {pa pb pc : Nat} {A B C : Q8} {w : World} (h : Held3 N w0 pa pb pc A B C w) : w.cell? ⟨pa, 0, none⟩ = some (fv A.x0) ∧ w.cell? ⟨pa, 1, none⟩ = some (fv A.y0) ∧ w.cell? ⟨pa, 2, none⟩ = some (fv A.x1) ∧ w.cell? ⟨pa, 3, none⟩ = some (fv A.y1) ∧ w.cell? ⟨pa, 4, none⟩ = some (fv A.x2) ∧ w.cell? ⟨pa, 5, none⟩ = some (fv A.y2) ∧ w.cell? ⟨pa, 6, none⟩ = some (fv A.x3) ∧ w.cell? ⟨pa, 7, none⟩ = some (fv A.y3) ∧ w.cell? ⟨pb, 0, none⟩ = some (fv B.x0) ∧ w.cell? ⟨pb, 1, none⟩ = some (fv B.y0) ∧ w.cell? ⟨pb, 2, none⟩ = some (fv B.x1) ∧ w.cell? ⟨pb, 3, none⟩ = some (fv B.y1) ∧ w.cell? ⟨pb, 4, none⟩ = some (fv B.x2) ∧ w.cell? ⟨pb, 5, none⟩ = some (fv B.y2) ∧ w.cell? ⟨pb, 6, none⟩ = some (fv B.x3) ∧ w.cell? ⟨pb, 7, none⟩ = some (fv B.y3) ∧ w.cell? ⟨pc, 0, none⟩ = some (fv C.x0) ∧ w.cell? ⟨pc, 1, none⟩ = some (fv C.y0) ∧ w.cell? ⟨pc, 2, none⟩ = some (fv C.x1) ∧ w.cell? ⟨pc, 3, none⟩ = some (fv C.y1) ∧ w.cell? ⟨pc, 4, none⟩ = some (fv C.x2) ∧ w.cell? ⟨pc, 5, none⟩ = some (fv C.y2) ∧ w.cell? ⟨pc, 6, none⟩ = some (fv C.x3) ∧ w.cell? ⟨pc, 7, none⟩ = some (fv C.y3) := by
  have ha := h.ha
  have hb := h.hb
  have hc := h.hc
  exact ⟨cell_at_cells ha rfl, cell_at_cells ha rfl, cell_at_cells ha rfl, cell_at_cells ha rfl, cell_at_cells ha rfl, cell_at_cells ha rfl, cell_at_cells ha rfl, cell_at_cells ha rfl, cell_at_cells hb rfl, cell_at_cells hb rfl, cell_at_cells hb rfl, cell_at_cells hb rfl, cell_at_cells hb rfl, cell_at_cells hb rfl, cell_at_cells hb rfl, cell_at_cells hb rfl, cell_at_cells hc rfl, cell_at_cells hc rfl, cell_at_cells hc rfl, cell_at_cells hc rfl, cell_at_cells hc rfl, cell_at_cells hc rfl, cell_at_cells hc rfl, cell_at_cells hc rfl⟩

/-- what is owned stays so where nothing that was there is turned -/
theorem own_below {w w' : World} {base : Nat} {e : TypeId} {size : Nat} {v : Value} {n : Nat} {xs : List Value} (h : w.ownsRow base e size v n xs) (hb : Below w.heap.size w w') : w'.ownsRow base e size v n xs := by
  refine ⟨h.1, ?_⟩
  rcases h.2 with h | ⟨g, cap, cur, hv, hg, hh, r⟩
  · exact Or.inl h
  · exact Or.inr ⟨g, cap, cur, hv, hg, by rw [hb.block _ (Array.getElem?_eq_some_iff.1 hh).1]; exact hh, r⟩

/-- the first of a slice -/
theorem own_take {w : World} {base n m cap : Nat} {g : Nat} {rs : List Nat} (h : w.ownsRow base 26 2 (.slice (some ⟨g, 0, none⟩) n cap) n (rs.map fv)) (hm : m ≤ n) : w.ownsRow base 26 2 (.slice (some ⟨g, 0, none⟩) m cap) m ((rs.take (2 * m)).map fv) := by
  have hl := h.1
  simp at hl
  rcases h.2 with ⟨h, _⟩ | ⟨g', cap', cur, hv, hg, hh, hc, hm', hs, ht⟩
  · cases h
  · injection hv with h1 h2 h3
    cases h1; subst h3
    refine ⟨by simp; omega, Or.inr ⟨_, _, cur, rfl, hg, hh, by omega, hm', hs, ?_⟩⟩
    rw [List.map_take, ← ht, List.take_take]
    congr 1; omega

/-- the first four of a slice beside a quadrilateral -/
theorem near_quad {w : World} {base n cap g q : Nat} {Q : Q8} {rs : List Nat} (hn : 4 ≤ n) (h : w.ownsRow base 26 2 (.slice (some ⟨g, 0, none⟩) n cap) n (rs.map fv)) (hq : w.heap[q]? = some (.cells Q.vals 27))
    (hr : ∀ j, j < 8 → NearR (rs.getD j 0) ([Q.x0, Q.y0, Q.x1, Q.y1, Q.x2, Q.y2, Q.x3, Q.y3].getD j 0)) :
    Calls Try.prog 14 #[.slice (some ⟨g, 0, none⟩) 4 cap, .slice (some ⟨q, 0, none⟩) 4 4] w fun e w' => e = .returned (.bool true) ∧ ∃ m, w' = w.drewN m := by
  have hl := h.1
  simp at hl
  obtain ⟨g', cap', cur, hv, hg, hh, hc, hs, hcur⟩ := own_get h (by omega)
  injection hv with e1 e2 e3
  cases e1; subst e3
  refine near_calls _ q 4 cap 4 rs [Q.x0, Q.y0, Q.x1, Q.y1, Q.x2, Q.y2, Q.x3, Q.y3] w (by omega) cur Q.vals 26 27 hh hq (fun j hj => by rw [hcur j (by omega)]; exact map_get (by omega)) (fun j hj => ?_) hr
  have : j = 0 ∨ j = 1 ∨ j = 2 ∨ j = 3 ∨ j = 4 ∨ j = 5 ∨ j = 6 ∨ j = 7 := by omega
  rcases this with rfl | rfl | rfl | rfl | rfl | rfl | rfl | rfl <;> rfl

end Go.Proofs.Ytaadklfendegfaa
