/- The walk of FnZTWays. -/
import Derived.Test.YtaadklfendegfaaOw
import Derived.Deep.RegionHeld3
namespace Go.Proofs.Ytaadklfendegfaa
open Go.RowKit

/-- eight small numbers -/
def ints8 (b : Nat → Int) : Array Value := #[.int .i8 (b 0), .int .i8 (b 1), .int .i8 (b 2), .int .i8 (b 3), .int .i8 (b 4), .int .i8 (b 5), .int .i8 (b 6), .int .i8 (b 7)]
def QuadsR (b : Nat → Int) (q : Q8) : Prop := QuadR (b 0) (b 1) (b 2) (b 3) (b 4) (b 5) (b 6) (b 7) q

/-- what each operation of the last statement gives -/
def ways_X (gt gp pb n ct cp : Nat) (A B C : Q8) (vb vv vd : Value) : Nat → Value
  | 0 => .slice (some ⟨gt, 0, none⟩) n ct
  | 1 => .int .i64 (n : Int)
  | 2 => .slice (some ⟨gp, 0, none⟩) n cp
  | 3 => .int .i64 (n : Int)
  | 4 => .bool true
  | 5 => .bool true
  | 6 => .agg #[fv B.x0, fv B.y0, fv B.x1, fv B.y1, fv B.x2, fv B.y2, fv B.x3, fv B.y3]
  | 7 => .agg #[fv A.x0, fv A.y0, fv A.x1, fv A.y1, fv A.x2, fv A.y2, fv A.x3, fv A.y3]
  | 8 => .slice (some ⟨gt, 0, none⟩) n ct
  | 9 => vb
  | 10 => .slice (some ⟨gp, 0, none⟩) n cp
  | 11 => .bool true
  | 12 => .bool true
  | 13 => .bool true
  | 14 => .agg #[fv B.x0, fv B.y0, fv B.x1, fv B.y1, fv B.x2, fv B.y2, fv B.x3, fv B.y3]
  | 15 => .agg #[fv C.x0, fv C.y0, fv C.x1, fv C.y1, fv C.x2, fv C.y2, fv C.x3, fv C.y3]
  | 16 => .slice (some ⟨gt, 0, none⟩) n ct
  | 17 => vv
  | 18 => .agg #[fv A.x0, fv A.y0, fv A.x1, fv A.y1, fv A.x2, fv A.y2, fv A.x3, fv A.y3]
  | 19 => .agg #[fv C.x0, fv C.y0, fv C.x1, fv C.y1, fv C.x2, fv C.y2, fv C.x3, fv C.y3]
  | 20 => .slice (some ⟨gp, 0, none⟩) n cp
  | 21 => vd
  | 22 => .bool true
  | 23 => .bool true
  | 24 => .bool true
  | 25 => .slice (some ⟨gt, 0, none⟩) n ct
  | 26 => .slice (some ⟨gt, 0, none⟩) 4 ct
  | 27 => .slice (some ⟨pb, 0, none⟩) 4 4
  | 28 => .bool true
  | 29 => .bool true
  | _ => .bool true

def Good (X : Nat → Value) (f : Nat → Value) (S : Nat → Bool) : Prop := ∀ k, k < 31 → S k = true → f k = X k

theorem good_upd {X f : Nat → Value} {S : Nat → Bool} (h : Good X f S) (j : Nat) : Good X (upd f j (X j)) S := by
  intro k hk hS
  by_cases e : k = j
  · subst e; rw [upd_at]
  · rw [upd_ne _ _ e]; exact h k hk hS

theorem good_more {X f : Nat → Value} {S : Nat → Bool} (h : Good X f S) (i : Nat) : Good X (upd f i (X i)) (more S i) := by
  intro k hk hS
  by_cases e : k = i
  · subst e; rw [upd_at]
  · rw [upd_ne _ _ e]; exact h k hk (by rwa [more_ne e] at hS)

def WaysInv (frame : (Nat → Value) → Act) (N : Nat) (w0 : World) (bp bt pa pb pc gt gp n ct cp : Nat) (A B C : Q8) (ps r1 r2 r3 r4 : List Nat) (S : Nat → Bool) (a : Act) (w : World) : Prop :=
  ∃ f vb vv vd, a = frame f ∧ Good (ways_X gt gp pb n ct cp A B C vb vv vd) f S ∧ Held3 N w0 pa pb pc A B C w ∧ w.ownsRow bp 26 2 (.slice (some ⟨gp, 0, none⟩) n cp) n (ps.map fv) ∧ w.ownsRow bt 26 2 (.slice (some ⟨gt, 0, none⟩) n ct) n (r1.map fv) ∧
    (S 9 = true → w.ownsRow N 26 2 vb n (r2.map fv)) ∧ (S 17 = true → w.ownsRow N 26 2 vv n (r3.map fv)) ∧ (S 21 = true → w.ownsRow N 26 2 vd n (r4.map fv))

section
variable (frame : (Nat → Value) → Act) {N : Nat} {w0 w : World} {bp bt pa pb pc gt gp n ct cp : Nat} {A B C : Q8} {ps r1 r2 r3 r4 : List Nat} {S : Nat → Bool} {f : Nat → Value} {vb vv vd : Value}

theorem ways_pure (k : Nat) (hg : Good (ways_X gt gp pb n ct cp A B C vb vv vd) f S) (hK : Held3 N w0 pa pb pc A B C w) (hvp : w.ownsRow bp 26 2 (.slice (some ⟨gp, 0, none⟩) n cp) n (ps.map fv)) (hvt : w.ownsRow bt 26 2 (.slice (some ⟨gt, 0, none⟩) n ct) n (r1.map fv))
    (hb : S 9 = true → w.ownsRow N 26 2 vb n (r2.map fv)) (hv : S 17 = true → w.ownsRow N 26 2 vv n (r3.map fv)) (hd : S 21 = true → w.ownsRow N 26 2 vd n (r4.map fv)) (h9 : k ≠ 9 := by decide) (h17 : k ≠ 17 := by decide) (h21 : k ≠ 21 := by decide) :
    WaysInv frame N w0 bp bt pa pb pc gt gp n ct cp A B C ps r1 r2 r3 r4 (more S k) (frame (upd f k (ways_X gt gp pb n ct cp A B C vb vv vd k))) w :=
  ⟨_, vb, vv, vd, rfl, good_more hg k, hK, hvp, hvt, fun h => hb (by rwa [more_ne (Ne.symm h9)] at h), fun h => hv (by rwa [more_ne (Ne.symm h17)] at h), fun h => hd (by rwa [more_ne (Ne.symm h21)] at h)⟩

theorem ways_near (k : Nat) (hg : Good (ways_X gt gp pb n ct cp A B C vb vv vd) f S) (hK : Held3 N w0 pa pb pc A B C w) (hvp : w.ownsRow bp 26 2 (.slice (some ⟨gp, 0, none⟩) n cp) n (ps.map fv)) (hvt : w.ownsRow bt 26 2 (.slice (some ⟨gt, 0, none⟩) n ct) n (r1.map fv))
    (hb : S 9 = true → w.ownsRow N 26 2 vb n (r2.map fv)) (hv : S 17 = true → w.ownsRow N 26 2 vv n (r3.map fv)) (hd : S 21 = true → w.ownsRow N 26 2 vd n (r4.map fv)) (m : Nat) (h9 : k ≠ 9 := by decide) (h17 : k ≠ 17 := by decide) (h21 : k ≠ 21 := by decide) :
    WaysInv frame N w0 bp bt pa pb pc gt gp n ct cp A B C ps r1 r2 r3 r4 (more S k) (frame (upd f k (ways_X gt gp pb n ct cp A B C vb vv vd k))) (w.drewN m) :=
  have hB : Below w.heap.size w (w.drewN m) := below_drewN (Below.refl _ _) m
  ways_pure frame k hg (hK.next hB) (own_below hvp hB) (own_below hvt hB) (fun h => own_below (hb h) hB) (fun h => own_below (hv h) hB) (fun h => own_below (hd h) hB) h9 h17 h21

theorem ways_call9 (hg : Good (ways_X gt gp pb n ct cp A B C vb vv vd) f S) (hK : Held3 N w0 pa pb pc A B C w) (hvp : w.ownsRow bp 26 2 (.slice (some ⟨gp, 0, none⟩) n cp) n (ps.map fv)) (hvt : w.ownsRow bt 26 2 (.slice (some ⟨gt, 0, none⟩) n ct) n (r1.map fv))
    (hb : S 9 = true → w.ownsRow N 26 2 vb n (r2.map fv)) (hv : S 17 = true → w.ownsRow N 26 2 vv n (r3.map fv)) (hd : S 21 = true → w.ownsRow N 26 2 vd n (r4.map fv)) {w' : World} {vn : Value} (hB : Below w.heap.size w w')
    (hown : w'.ownsRow w.heap.size 26 2 vn n (r2.map fv)) :
    WaysInv frame N w0 bp bt pa pb pc gt gp n ct cp A B C ps r1 r2 r3 r4 (more S 9) (frame (upd f 9 vn)) w' := by
  refine ⟨_, vn, vv, vd, rfl, ?_, hK.next hB, own_below hvp hB, own_below hvt hB, fun _ => own_mono hown hK.size, fun h => own_below (hv (by rwa [more_ne (by decide)] at h)) hB, fun h => own_below (hd (by rwa [more_ne (by decide)] at h)) hB⟩
  intro j hj hS
  by_cases e : j = 9
  · subst e; rw [upd_at]; rfl
  · rw [upd_ne _ _ e, hg j hj (by rwa [more_ne e] at hS)]
    unfold ways_X
    split <;> first | rfl | (exfalso; apply e; rfl)

theorem ways_call17 (hg : Good (ways_X gt gp pb n ct cp A B C vb vv vd) f S) (hK : Held3 N w0 pa pb pc A B C w) (hvp : w.ownsRow bp 26 2 (.slice (some ⟨gp, 0, none⟩) n cp) n (ps.map fv)) (hvt : w.ownsRow bt 26 2 (.slice (some ⟨gt, 0, none⟩) n ct) n (r1.map fv))
    (hb : S 9 = true → w.ownsRow N 26 2 vb n (r2.map fv)) (hv : S 17 = true → w.ownsRow N 26 2 vv n (r3.map fv)) (hd : S 21 = true → w.ownsRow N 26 2 vd n (r4.map fv)) {w' : World} {vn : Value} (hB : Below w.heap.size w w')
    (hown : w'.ownsRow w.heap.size 26 2 vn n (r3.map fv)) :
    WaysInv frame N w0 bp bt pa pb pc gt gp n ct cp A B C ps r1 r2 r3 r4 (more S 17) (frame (upd f 17 vn)) w' := by
  refine ⟨_, vb, vn, vd, rfl, ?_, hK.next hB, own_below hvp hB, own_below hvt hB, fun h => own_below (hb (by rwa [more_ne (by decide)] at h)) hB, fun _ => own_mono hown hK.size, fun h => own_below (hd (by rwa [more_ne (by decide)] at h)) hB⟩
  intro j hj hS
  by_cases e : j = 17
  · subst e; rw [upd_at]; rfl
  · rw [upd_ne _ _ e, hg j hj (by rwa [more_ne e] at hS)]
    unfold ways_X
    split <;> first | rfl | (exfalso; apply e; rfl)

theorem ways_call21 (hg : Good (ways_X gt gp pb n ct cp A B C vb vv vd) f S) (hK : Held3 N w0 pa pb pc A B C w) (hvp : w.ownsRow bp 26 2 (.slice (some ⟨gp, 0, none⟩) n cp) n (ps.map fv)) (hvt : w.ownsRow bt 26 2 (.slice (some ⟨gt, 0, none⟩) n ct) n (r1.map fv))
    (hb : S 9 = true → w.ownsRow N 26 2 vb n (r2.map fv)) (hv : S 17 = true → w.ownsRow N 26 2 vv n (r3.map fv)) (hd : S 21 = true → w.ownsRow N 26 2 vd n (r4.map fv)) {w' : World} {vn : Value} (hB : Below w.heap.size w w')
    (hown : w'.ownsRow w.heap.size 26 2 vn n (r4.map fv)) :
    WaysInv frame N w0 bp bt pa pb pc gt gp n ct cp A B C ps r1 r2 r3 r4 (more S 21) (frame (upd f 21 vn)) w' := by
  refine ⟨_, vb, vv, vn, rfl, ?_, hK.next hB, own_below hvp hB, own_below hvt hB, fun h => own_below (hb (by rwa [more_ne (by decide)] at h)) hB, fun h => own_below (hv (by rwa [more_ne (by decide)] at h)) hB, fun _ => own_mono hown hK.size⟩
  intro j hj hS
  by_cases e : j = 21
  · subst e; rw [upd_at]; rfl
  · rw [upd_ne _ _ e, hg j hj (by rwa [more_ne e] at hS)]
    unfold ways_X
    split <;> first | rfl | (exfalso; apply e; rfl)
end

set_option maxRecDepth 100000 in
set_option maxHeartbeats 4000000 in
theorem ways_calls (b1 b2 b3 : Nat → Int) (A B C : Q8) (sa : Option Addr) (len cap n : Nat) (ps r1 r2 r3 r4 : List Nat) (w : World) (hlen : len ≤ 2147483647)
    (hA : QuadsR b1 A) (hB : QuadsR b2 B) (hC : QuadsR b3 C) (hn : 4 ≤ n) (hn2 : n ≤ 100000)
    (hw : ∀ W, Below w.heap.size w W → Calls Try.prog 11 #[.agg A.vals, .slice sa len cap] W fun e w' => ∃ v, e = .returned v ∧ w'.ownsRow W.heap.size 26 2 v n (ps.map fv) ∧ Below W.heap.size W w')
    (t1 : TransR A B n ps r1) (t2 : TransR B A n r1 r2) (t3 : TransR B C n r1 r3) (t4 : TransR A C n ps r4)
    (n1 : ∀ j, j < 2 * n → NearR (r2.getD j 0) (ps.getD j 0)) (n2 : ∀ j, j < 2 * n → NearR (r3.getD j 0) (r4.getD j 0))
    (n3 : ∀ j, j < 8 → NearR (r1.getD j 0) ([B.x0, B.y0, B.x1, B.y1, B.x2, B.y2, B.x3, B.y3].getD j 0)) :
    Calls Try.prog 4 #[.agg (ints8 b1), .agg (ints8 b2), .agg (ints8 b3), .slice sa len cap] w fun e w' => e = .returned (.bool true) ∧ Below w.heap.size w w' := by
  have Q1 := fun w => quad_calls (b1 0) (b1 1) (b1 2) (b1 3) (b1 4) (b1 5) (b1 6) (b1 7) A w hA
  have Q2 := fun w => quad_calls (b2 0) (b2 1) (b2 2) (b2 3) (b2 4) (b2 5) (b2 6) (b2 7) B w hB
  have Q3 := fun w => quad_calls (b3 0) (b3 1) (b3 2) (b3 3) (b3 4) (b3 5) (b3 6) (b3 7) C w hC
  have HW := Lib.hid hw
  clear hA hB hC hw
  unfold ints8
  go_enter Try.func4, Try.ntmps4
  go_wp2
  have hX0 : (((w.alloc (.cells #[.int .i8 (b1 0), .int .i8 (b1 1), .int .i8 (b1 2), .int .i8 (b1 3), .int .i8 (b1 4), .int .i8 (b1 5), .int .i8 (b1 6), .int .i8 (b1 7)] 23)).alloc (.cells #[.int .i8 (b2 0), .int .i8 (b2 1), .int .i8 (b2 2), .int .i8 (b2 3), .int .i8 (b2 4), .int .i8 (b2 5), .int .i8 (b2 6), .int .i8 (b2 7)] 23)).alloc (.cells #[.int .i8 (b3 0), .int .i8 (b3 1), .int .i8 (b3 2), .int .i8 (b3 3), .int .i8 (b3 4), .int .i8 (b3 5), .int .i8 (b3 6), .int .i8 (b3 7)] 23)).heap[w.heap.size]? = some (.cells #[.int .i8 (b1 0), .int .i8 (b1 1), .int .i8 (b1 2), .int .i8 (b1 3), .int .i8 (b1 4), .int .i8 (b1 5), .int .i8 (b1 6), .int .i8 (b1 7)] 23) := blk_old _ _ _ _ (blk_old _ _ _ _ (blk_new _ _))
  have hX1 : (((w.alloc (.cells #[.int .i8 (b1 0), .int .i8 (b1 1), .int .i8 (b1 2), .int .i8 (b1 3), .int .i8 (b1 4), .int .i8 (b1 5), .int .i8 (b1 6), .int .i8 (b1 7)] 23)).alloc (.cells #[.int .i8 (b2 0), .int .i8 (b2 1), .int .i8 (b2 2), .int .i8 (b2 3), .int .i8 (b2 4), .int .i8 (b2 5), .int .i8 (b2 6), .int .i8 (b2 7)] 23)).alloc (.cells #[.int .i8 (b3 0), .int .i8 (b3 1), .int .i8 (b3 2), .int .i8 (b3 3), .int .i8 (b3 4), .int .i8 (b3 5), .int .i8 (b3 6), .int .i8 (b3 7)] 23)).heap[w.heap.size + 1]? = some (.cells #[.int .i8 (b2 0), .int .i8 (b2 1), .int .i8 (b2 2), .int .i8 (b2 3), .int .i8 (b2 4), .int .i8 (b2 5), .int .i8 (b2 6), .int .i8 (b2 7)] 23) := blk_old _ _ _ _ (blk_new' _ _ _ (by rw [blk_size]))
  have hX2 : (((w.alloc (.cells #[.int .i8 (b1 0), .int .i8 (b1 1), .int .i8 (b1 2), .int .i8 (b1 3), .int .i8 (b1 4), .int .i8 (b1 5), .int .i8 (b1 6), .int .i8 (b1 7)] 23)).alloc (.cells #[.int .i8 (b2 0), .int .i8 (b2 1), .int .i8 (b2 2), .int .i8 (b2 3), .int .i8 (b2 4), .int .i8 (b2 5), .int .i8 (b2 6), .int .i8 (b2 7)] 23)).alloc (.cells #[.int .i8 (b3 0), .int .i8 (b3 1), .int .i8 (b3 2), .int .i8 (b3 3), .int .i8 (b3 4), .int .i8 (b3 5), .int .i8 (b3 6), .int .i8 (b3 7)] 23)).heap[w.heap.size + 1 + 1]? = some (.cells #[.int .i8 (b3 0), .int .i8 (b3 1), .int .i8 (b3 2), .int .i8 (b3 3), .int .i8 (b3 4), .int .i8 (b3 5), .int .i8 (b3 6), .int .i8 (b3 7)] 23) := blk_new' _ _ _ (by rw [blk_size, blk_size])
  have hXb : Below w.heap.size w (((w.alloc (.cells #[.int .i8 (b1 0), .int .i8 (b1 1), .int .i8 (b1 2), .int .i8 (b1 3), .int .i8 (b1 4), .int .i8 (b1 5), .int .i8 (b1 6), .int .i8 (b1 7)] 23)).alloc (.cells #[.int .i8 (b2 0), .int .i8 (b2 1), .int .i8 (b2 2), .int .i8 (b2 3), .int .i8 (b2 4), .int .i8 (b2 5), .int .i8 (b2 6), .int .i8 (b2 7)] 23)).alloc (.cells #[.int .i8 (b3 0), .int .i8 (b3 1), .int .i8 (b3 2), .int .i8 (b3 3), .int .i8 (b3 4), .int .i8 (b3 5), .int .i8 (b3 6), .int .i8 (b3 7)] 23)) := below3 _ _ _ _
  have hXs : (((w.alloc (.cells #[.int .i8 (b1 0), .int .i8 (b1 1), .int .i8 (b1 2), .int .i8 (b1 3), .int .i8 (b1 4), .int .i8 (b1 5), .int .i8 (b1 6), .int .i8 (b1 7)] 23)).alloc (.cells #[.int .i8 (b2 0), .int .i8 (b2 1), .int .i8 (b2 2), .int .i8 (b2 3), .int .i8 (b2 4), .int .i8 (b2 5), .int .i8 (b2 6), .int .i8 (b2 7)] 23)).alloc (.cells #[.int .i8 (b3 0), .int .i8 (b3 1), .int .i8 (b3 2), .int .i8 (b3 3), .int .i8 (b3 4), .int .i8 (b3 5), .int .i8 (b3 6), .int .i8 (b3 7)] 23)).heap.size = w.heap.size + 3 := by simp only [blk_size]
  generalize ((w.alloc (.cells #[.int .i8 (b1 0), .int .i8 (b1 1), .int .i8 (b1 2), .int .i8 (b1 3), .int .i8 (b1 4), .int .i8 (b1 5), .int .i8 (b1 6), .int .i8 (b1 7)] 23)).alloc (.cells #[.int .i8 (b2 0), .int .i8 (b2 1), .int .i8 (b2 2), .int .i8 (b2 3), .int .i8 (b2 4), .int .i8 (b2 5), .int .i8 (b2 6), .int .i8 (b2 7)] 23)).alloc (.cells #[.int .i8 (b3 0), .int .i8 (b3 1), .int .i8 (b3 2), .int .i8 (b3 3), .int .i8 (b3 4), .int .i8 (b3 5), .int .i8 (b3 6), .int .i8 (b3 7)] 23) = w0 at *
  refine wp_region_inv (by kernel_rfl) (by kernel_rfl) (InvW 3 (fun L K V => { tmps := #[.agg #[.int .i8 (b1 0), .int .i8 (b1 1), .int .i8 (b1 2), .int .i8 (b1 3), .int .i8 (b1 4), .int .i8 (b1 5), .int .i8 (b1 6), .int .i8 (b1 7)], .agg #[.int .i8 (b2 0), .int .i8 (b2 1), .int .i8 (b2 2), .int .i8 (b2 3), .int .i8 (b2 4), .int .i8 (b2 5), .int .i8 (b2 6), .int .i8 (b2 7)], .agg #[.int .i8 (b3 0), .int .i8 (b3 1), .int .i8 (b3 2), .int .i8 (b3 3), .int .i8 (b3 4), .int .i8 (b3 5), .int .i8 (b3 6), .int .i8 (b3 7)], .slice sa len cap, .pointer (some ⟨w.heap.size, 0, none⟩), .pointer (some ⟨w.heap.size + 1, 0, none⟩), .pointer (some ⟨w.heap.size + 1 + 1, 0, none⟩), undef, .bool false, V 0, V 1, V 2, undef, undef, .slice sa len cap, .int .i64 (len : Int), .bool (decide ((2147483647 : Int) < (len : Int))), L 0, K 0, L 1, K 1, L 2, K 2, undef, undef, undef, undef, undef, undef, undef, undef, undef, undef, undef, undef, undef, undef, undef, undef, undef, undef, undef, undef, undef, undef, undef, undef, undef, undef, undef, undef, undef, undef, undef, undef, undef, undef, undef, undef, undef], defers := [] }) (w.heap.size + 3) w0 (three (.agg #[.int .i8 (b1 0), .int .i8 (b1 1), .int .i8 (b1 2), .int .i8 (b1 3), .int .i8 (b1 4), .int .i8 (b1 5), .int .i8 (b1 6), .int .i8 (b1 7)]) (.agg #[.int .i8 (b2 0), .int .i8 (b2 1), .int .i8 (b2 2), .int .i8 (b2 3), .int .i8 (b2 4), .int .i8 (b2 5), .int .i8 (b2 6), .int .i8 (b2 7)]) (.agg #[.int .i8 (b3 0), .int .i8 (b3 1), .int .i8 (b3 2), .int .i8 (b3 3), .int .i8 (b3 4), .int .i8 (b3 5), .int .i8 (b3 6), .int .i8 (b3 7)])) (three #[fv A.x0, fv A.y0, fv A.x1, fv A.y1, fv A.x2, fv A.y2, fv A.x3, fv A.y3] #[fv B.x0, fv B.y0, fv B.x1, fv B.y1, fv B.x2, fv B.y2, fv B.x3, fv B.y3] #[fv C.x0, fv C.y0, fv C.x1, fv C.y1, fv C.x2, fv C.y2, fv C.x3, fv C.y3])) ?_ ?_ ?_
  · exact ⟨fun _ => undef, fun _ => undef, fun _ => undef, fun _ => 0, rfl, (Below.refl _ _).drew, by show _ ≤ w0.heap.size; omega, (fun _ _ h => by cases h), (fun _ _ h => by cases h), (fun _ _ h => by cases h), (fun _ _ _ _ _ h => by cases h), (fun _ _ h => by cases h)⟩
  · intro S hS a wx hI
    obtain ⟨L, K, V, p, rfl, h⟩ := hI
    obtain ⟨va, a1, a2, a3⟩ := h.vars 0 (by omega) (hS _ (by decide))
    obtain ⟨vb, b1', b2', b3'⟩ := h.vars 1 (by omega) (hS _ (by decide))
    obtain ⟨vc, c1', c2', c3'⟩ := h.vars 2 (by omega) (hS _ (by decide))
    rw [hS _ (by decide)] at a3 b3' c3'
    have hA : wx.heap[p 0]? = some (.cells A.vals 27) := a3
    have hB : wx.heap[p 1]? = some (.cells B.vals 27) := b3'
    have hC : wx.heap[p 2]? = some (.cells C.vals 27) := c3'
    have hbx : Below w.heap.size w wx := hXb.trans (h.below.mono (by omega))
    have hwx : w.heap.size ≤ wx.heap.size := hbx.size
    clear h a3 b3' c3' hX0 hX1 hX2 hXb hXs hS Q1 Q2 Q3
    generalize p 0 = pa at *
    generalize p 1 = pb at *
    generalize p 2 = pc at *
    have HA := Lib.hid hA
    have HB := Lib.hid hB
    have HC := Lib.hid hC
    obtain ⟨x0, x1, x2, x3, x4, x5, x6, x7⟩ := quad_cells hA
    clear hA hB hC
    go_wp2_with (go_at_call 11; refine (HW.out _ hbx).mono ?_)
    clear x0 x1 x2 x3 x4 x5 x6 x7
    rintro e w4 ⟨vp, rfl, hvp, hb4⟩
    have hA4 : w4.heap[pa]? = some (.cells A.vals 27) := by rw [hb4.block _ a2]; exact HA.out
    have hB4 : w4.heap[pb]? = some (.cells B.vals 27) := by rw [hb4.block _ b2']; exact HB.out
    have hC4 : w4.heap[pc]? = some (.cells C.vals 27) := by rw [hb4.block _ c2']; exact HC.out
    have hs4 := hb4.size
    have HA4 := Lib.hid hA4
    have HB4 := Lib.hid hB4
    have HC4 := Lib.hid hC4
    obtain ⟨x0, x1, x2, x3, x4, x5, x6, x7⟩ := quad_cells hA4
    obtain ⟨y0, y1, y2, y3, y4, y5, y6, y7⟩ := quad_cells hB4
    clear hA4 hB4 hC4 HA HB HC
    go_wp2_with (go_at_call 15; refine (zxt_own t1 (by omega) hn2 hvp).mono ?_)
    clear x0 x1 x2 x3 x4 x5 x6 x7 y0 y1 y2 y3 y4 y5 y6 y7
    rintro e w5 ⟨vt, rfl, hvt, hb5⟩
    have K5 : Held3 w.heap.size w pa pb pc A B C w5.drew := (Held3.next (w := w4) ⟨hbx.trans (hb4.mono hwx), by omega, by omega, by omega, by omega, HA4.out, HB4.out, HC4.out⟩ hb5).drew
    have hvp5 : w5.drew.ownsRow wx.heap.size 26 2 vp n (ps.map fv) := (own_below hvp hb5).drew
    have hvt5 : w5.drew.ownsRow w4.heap.size 26 2 vt n (r1.map fv) := hvt.drew
    obtain ⟨gp, cp, curp, rfl, _, _, hcp, _, _⟩ := own_get hvp5 (by omega)
    obtain ⟨gt, ct, curt, rfl, hgt0, hgt, hct, hst, hcurt⟩ := own_get hvt5 (by omega)
    have hc4 : 4 ≤ ct := by omega
    have hc4' : (4 : Int) ≤ (ct : Int) := by omega
    clear hvp hvt hb4 hb5 HA4 HB4 HC4 hbx hwx a2 a1 b1' b2' c1' c2' hs4 hgt hcurt hst hgt0 HW hlen
    go_wp2
    refine wp_region_inv (by kernel_rfl) (by kernel_rfl) (WaysInv (fun f => { tmps := #[.agg #[.int .i8 (b1 0), .int .i8 (b1 1), .int .i8 (b1 2), .int .i8 (b1 3), .int .i8 (b1 4), .int .i8 (b1 5), .int .i8 (b1 6), .int .i8 (b1 7)], .agg #[.int .i8 (b2 0), .int .i8 (b2 1), .int .i8 (b2 2), .int .i8 (b2 3), .int .i8 (b2 4), .int .i8 (b2 5), .int .i8 (b2 6), .int .i8 (b2 7)], .agg #[.int .i8 (b3 0), .int .i8 (b3 1), .int .i8 (b3 2), .int .i8 (b3 3), .int .i8 (b3 4), .int .i8 (b3 5), .int .i8 (b3 6), .int .i8 (b3 7)], .slice sa len cap, .pointer (some ⟨w.heap.size, 0, none⟩), .pointer (some ⟨w.heap.size + 1, 0, none⟩), .pointer (some ⟨w.heap.size + 1 + 1, 0, none⟩), undef, f 30, .pointer (some ⟨pa, 0, none⟩), .pointer (some ⟨pb, 0, none⟩), .pointer (some ⟨pc, 0, none⟩), .slice (some ⟨gp, 0, none⟩) n cp, .slice (some ⟨gt, 0, none⟩) n ct, .slice sa len cap, .int .i64 (len : Int), .bool (decide ((2147483647 : Int) < (len : Int))), L 0, K 0, L 1, K 1, L 2, K 2, .agg #[fv A.x0, fv A.y0, fv A.x1, fv A.y1, fv A.x2, fv A.y2, fv A.x3, fv A.y3], .slice sa len cap, .slice (some ⟨gp, 0, none⟩) n cp, .agg #[fv A.x0, fv A.y0, fv A.x1, fv A.y1, fv A.x2, fv A.y2, fv A.x3, fv A.y3], .agg #[fv B.x0, fv B.y0, fv B.x1, fv B.y1, fv B.x2, fv B.y2, fv B.x3, fv B.y3], .slice (some ⟨gp, 0, none⟩) n cp, .slice (some ⟨gt, 0, none⟩) n ct, f 0, f 1, f 2, f 3, f 4, f 5, f 6, f 7, f 8, f 9, f 10, f 11, f 12, f 13, f 14, f 15, f 16, f 17, f 18, f 19, f 20, f 21, f 22, f 23, f 24, f 25, f 26, f 27, f 28, f 29], defers := [] }) (w.heap.size) w wx.heap.size w4.heap.size pa pb pc gt gp n ct cp A B C ps r1 r2 r3 r4) ?_ ?_ ?_
    · refine ⟨fun k => if k = 30 then .bool false else undef, undef, undef, undef, rfl, fun _ _ h => (by cases h), K5, hvp5, hvt5, fun h => (by cases h), fun h => (by cases h), fun h => (by cases h)⟩
    · intro S hS a wy hI
      obtain ⟨f, vb, vv, vd, rfl, hg, hK, _⟩ := hI
      have e30 : f 30 = .bool true := hg 30 (by omega) (hS 30 (by decide))
      have HB := Lib.hid hK.below
      clear hg hK hS t1 t2 t3 t4 n1 n2 n3 K5 hvp5 hvt5
      go_wp2
      go_ret
      exact ⟨congrArg Ending.returned e30, HB.out⟩
    · intro S i o ho hS hdep a wy hI
      obtain ⟨f, vb, vv, vd, rfl, hg, hK, hvp, hvt, hb, hv, hd⟩ := hI
      clear K5 hvp5 hvt5
      match i, ho with
      | 0, ho =>
        cases ho
        have HH := Lib.hid (ways_pure (fun f => { tmps := #[.agg #[.int .i8 (b1 0), .int .i8 (b1 1), .int .i8 (b1 2), .int .i8 (b1 3), .int .i8 (b1 4), .int .i8 (b1 5), .int .i8 (b1 6), .int .i8 (b1 7)], .agg #[.int .i8 (b2 0), .int .i8 (b2 1), .int .i8 (b2 2), .int .i8 (b2 3), .int .i8 (b2 4), .int .i8 (b2 5), .int .i8 (b2 6), .int .i8 (b2 7)], .agg #[.int .i8 (b3 0), .int .i8 (b3 1), .int .i8 (b3 2), .int .i8 (b3 3), .int .i8 (b3 4), .int .i8 (b3 5), .int .i8 (b3 6), .int .i8 (b3 7)], .slice sa len cap, .pointer (some ⟨w.heap.size, 0, none⟩), .pointer (some ⟨w.heap.size + 1, 0, none⟩), .pointer (some ⟨w.heap.size + 1 + 1, 0, none⟩), undef, f 30, .pointer (some ⟨pa, 0, none⟩), .pointer (some ⟨pb, 0, none⟩), .pointer (some ⟨pc, 0, none⟩), .slice (some ⟨gp, 0, none⟩) n cp, .slice (some ⟨gt, 0, none⟩) n ct, .slice sa len cap, .int .i64 (len : Int), .bool (decide ((2147483647 : Int) < (len : Int))), L 0, K 0, L 1, K 1, L 2, K 2, .agg #[fv A.x0, fv A.y0, fv A.x1, fv A.y1, fv A.x2, fv A.y2, fv A.x3, fv A.y3], .slice sa len cap, .slice (some ⟨gp, 0, none⟩) n cp, .agg #[fv A.x0, fv A.y0, fv A.x1, fv A.y1, fv A.x2, fv A.y2, fv A.x3, fv A.y3], .agg #[fv B.x0, fv B.y0, fv B.x1, fv B.y1, fv B.x2, fv B.y2, fv B.x3, fv B.y3], .slice (some ⟨gp, 0, none⟩) n cp, .slice (some ⟨gt, 0, none⟩) n ct, f 0, f 1, f 2, f 3, f 4, f 5, f 6, f 7, f 8, f 9, f 10, f 11, f 12, f 13, f 14, f 15, f 16, f 17, f 18, f 19, f 20, f 21, f 22, f 23, f 24, f 25, f 26, f 27, f 28, f 29], defers := [] }) 0 hg hK hvp hvt hb hv hd)
        clear hg hK hvp hvt hb hv hd hdep hS
        refine wpOp_step (by rfl) (fun KK hKK => ?_)
        go_simp
        exact hKK _ _ HH.out
      | 1, ho =>
        cases ho
        have e0 : f 0 = .slice (some ⟨gt, 0, none⟩) n ct := hg 0 (by omega) (hdep ⟨0, .data⟩ (by simp) rfl)
        have HH := Lib.hid (ways_pure (fun f => { tmps := #[.agg #[.int .i8 (b1 0), .int .i8 (b1 1), .int .i8 (b1 2), .int .i8 (b1 3), .int .i8 (b1 4), .int .i8 (b1 5), .int .i8 (b1 6), .int .i8 (b1 7)], .agg #[.int .i8 (b2 0), .int .i8 (b2 1), .int .i8 (b2 2), .int .i8 (b2 3), .int .i8 (b2 4), .int .i8 (b2 5), .int .i8 (b2 6), .int .i8 (b2 7)], .agg #[.int .i8 (b3 0), .int .i8 (b3 1), .int .i8 (b3 2), .int .i8 (b3 3), .int .i8 (b3 4), .int .i8 (b3 5), .int .i8 (b3 6), .int .i8 (b3 7)], .slice sa len cap, .pointer (some ⟨w.heap.size, 0, none⟩), .pointer (some ⟨w.heap.size + 1, 0, none⟩), .pointer (some ⟨w.heap.size + 1 + 1, 0, none⟩), undef, f 30, .pointer (some ⟨pa, 0, none⟩), .pointer (some ⟨pb, 0, none⟩), .pointer (some ⟨pc, 0, none⟩), .slice (some ⟨gp, 0, none⟩) n cp, .slice (some ⟨gt, 0, none⟩) n ct, .slice sa len cap, .int .i64 (len : Int), .bool (decide ((2147483647 : Int) < (len : Int))), L 0, K 0, L 1, K 1, L 2, K 2, .agg #[fv A.x0, fv A.y0, fv A.x1, fv A.y1, fv A.x2, fv A.y2, fv A.x3, fv A.y3], .slice sa len cap, .slice (some ⟨gp, 0, none⟩) n cp, .agg #[fv A.x0, fv A.y0, fv A.x1, fv A.y1, fv A.x2, fv A.y2, fv A.x3, fv A.y3], .agg #[fv B.x0, fv B.y0, fv B.x1, fv B.y1, fv B.x2, fv B.y2, fv B.x3, fv B.y3], .slice (some ⟨gp, 0, none⟩) n cp, .slice (some ⟨gt, 0, none⟩) n ct, f 0, f 1, f 2, f 3, f 4, f 5, f 6, f 7, f 8, f 9, f 10, f 11, f 12, f 13, f 14, f 15, f 16, f 17, f 18, f 19, f 20, f 21, f 22, f 23, f 24, f 25, f 26, f 27, f 28, f 29], defers := [] }) 1 (good_upd hg 0) hK hvp hvt hb hv hd)
        clear hg hK hvp hvt hb hv hd hdep hS
        refine wpOp_step (by rfl) (fun KK hKK => ?_)
        go_simp
        exact hKK _ _ HH.out
      | 2, ho =>
        cases ho
        have HH := Lib.hid (ways_pure (fun f => { tmps := #[.agg #[.int .i8 (b1 0), .int .i8 (b1 1), .int .i8 (b1 2), .int .i8 (b1 3), .int .i8 (b1 4), .int .i8 (b1 5), .int .i8 (b1 6), .int .i8 (b1 7)], .agg #[.int .i8 (b2 0), .int .i8 (b2 1), .int .i8 (b2 2), .int .i8 (b2 3), .int .i8 (b2 4), .int .i8 (b2 5), .int .i8 (b2 6), .int .i8 (b2 7)], .agg #[.int .i8 (b3 0), .int .i8 (b3 1), .int .i8 (b3 2), .int .i8 (b3 3), .int .i8 (b3 4), .int .i8 (b3 5), .int .i8 (b3 6), .int .i8 (b3 7)], .slice sa len cap, .pointer (some ⟨w.heap.size, 0, none⟩), .pointer (some ⟨w.heap.size + 1, 0, none⟩), .pointer (some ⟨w.heap.size + 1 + 1, 0, none⟩), undef, f 30, .pointer (some ⟨pa, 0, none⟩), .pointer (some ⟨pb, 0, none⟩), .pointer (some ⟨pc, 0, none⟩), .slice (some ⟨gp, 0, none⟩) n cp, .slice (some ⟨gt, 0, none⟩) n ct, .slice sa len cap, .int .i64 (len : Int), .bool (decide ((2147483647 : Int) < (len : Int))), L 0, K 0, L 1, K 1, L 2, K 2, .agg #[fv A.x0, fv A.y0, fv A.x1, fv A.y1, fv A.x2, fv A.y2, fv A.x3, fv A.y3], .slice sa len cap, .slice (some ⟨gp, 0, none⟩) n cp, .agg #[fv A.x0, fv A.y0, fv A.x1, fv A.y1, fv A.x2, fv A.y2, fv A.x3, fv A.y3], .agg #[fv B.x0, fv B.y0, fv B.x1, fv B.y1, fv B.x2, fv B.y2, fv B.x3, fv B.y3], .slice (some ⟨gp, 0, none⟩) n cp, .slice (some ⟨gt, 0, none⟩) n ct, f 0, f 1, f 2, f 3, f 4, f 5, f 6, f 7, f 8, f 9, f 10, f 11, f 12, f 13, f 14, f 15, f 16, f 17, f 18, f 19, f 20, f 21, f 22, f 23, f 24, f 25, f 26, f 27, f 28, f 29], defers := [] }) 2 hg hK hvp hvt hb hv hd)
        clear hg hK hvp hvt hb hv hd hdep hS
        refine wpOp_step (by rfl) (fun KK hKK => ?_)
        go_simp
        exact hKK _ _ HH.out
      | 3, ho =>
        cases ho
        have e2 : f 2 = .slice (some ⟨gp, 0, none⟩) n cp := hg 2 (by omega) (hdep ⟨2, .data⟩ (by simp) rfl)
        have HH := Lib.hid (ways_pure (fun f => { tmps := #[.agg #[.int .i8 (b1 0), .int .i8 (b1 1), .int .i8 (b1 2), .int .i8 (b1 3), .int .i8 (b1 4), .int .i8 (b1 5), .int .i8 (b1 6), .int .i8 (b1 7)], .agg #[.int .i8 (b2 0), .int .i8 (b2 1), .int .i8 (b2 2), .int .i8 (b2 3), .int .i8 (b2 4), .int .i8 (b2 5), .int .i8 (b2 6), .int .i8 (b2 7)], .agg #[.int .i8 (b3 0), .int .i8 (b3 1), .int .i8 (b3 2), .int .i8 (b3 3), .int .i8 (b3 4), .int .i8 (b3 5), .int .i8 (b3 6), .int .i8 (b3 7)], .slice sa len cap, .pointer (some ⟨w.heap.size, 0, none⟩), .pointer (some ⟨w.heap.size + 1, 0, none⟩), .pointer (some ⟨w.heap.size + 1 + 1, 0, none⟩), undef, f 30, .pointer (some ⟨pa, 0, none⟩), .pointer (some ⟨pb, 0, none⟩), .pointer (some ⟨pc, 0, none⟩), .slice (some ⟨gp, 0, none⟩) n cp, .slice (some ⟨gt, 0, none⟩) n ct, .slice sa len cap, .int .i64 (len : Int), .bool (decide ((2147483647 : Int) < (len : Int))), L 0, K 0, L 1, K 1, L 2, K 2, .agg #[fv A.x0, fv A.y0, fv A.x1, fv A.y1, fv A.x2, fv A.y2, fv A.x3, fv A.y3], .slice sa len cap, .slice (some ⟨gp, 0, none⟩) n cp, .agg #[fv A.x0, fv A.y0, fv A.x1, fv A.y1, fv A.x2, fv A.y2, fv A.x3, fv A.y3], .agg #[fv B.x0, fv B.y0, fv B.x1, fv B.y1, fv B.x2, fv B.y2, fv B.x3, fv B.y3], .slice (some ⟨gp, 0, none⟩) n cp, .slice (some ⟨gt, 0, none⟩) n ct, f 0, f 1, f 2, f 3, f 4, f 5, f 6, f 7, f 8, f 9, f 10, f 11, f 12, f 13, f 14, f 15, f 16, f 17, f 18, f 19, f 20, f 21, f 22, f 23, f 24, f 25, f 26, f 27, f 28, f 29], defers := [] }) 3 (good_upd hg 2) hK hvp hvt hb hv hd)
        clear hg hK hvp hvt hb hv hd hdep hS
        refine wpOp_step (by rfl) (fun KK hKK => ?_)
        go_simp
        exact hKK _ _ HH.out
      | 4, ho =>
        cases ho
        have e1 : f 1 = .int .i64 (n : Int) := hg 1 (by omega) (hdep ⟨1, .data⟩ (by simp) rfl)
        have e3 : f 3 = .int .i64 (n : Int) := hg 3 (by omega) (hdep ⟨3, .data⟩ (by simp) rfl)
        have HH := Lib.hid (ways_pure (fun f => { tmps := #[.agg #[.int .i8 (b1 0), .int .i8 (b1 1), .int .i8 (b1 2), .int .i8 (b1 3), .int .i8 (b1 4), .int .i8 (b1 5), .int .i8 (b1 6), .int .i8 (b1 7)], .agg #[.int .i8 (b2 0), .int .i8 (b2 1), .int .i8 (b2 2), .int .i8 (b2 3), .int .i8 (b2 4), .int .i8 (b2 5), .int .i8 (b2 6), .int .i8 (b2 7)], .agg #[.int .i8 (b3 0), .int .i8 (b3 1), .int .i8 (b3 2), .int .i8 (b3 3), .int .i8 (b3 4), .int .i8 (b3 5), .int .i8 (b3 6), .int .i8 (b3 7)], .slice sa len cap, .pointer (some ⟨w.heap.size, 0, none⟩), .pointer (some ⟨w.heap.size + 1, 0, none⟩), .pointer (some ⟨w.heap.size + 1 + 1, 0, none⟩), undef, f 30, .pointer (some ⟨pa, 0, none⟩), .pointer (some ⟨pb, 0, none⟩), .pointer (some ⟨pc, 0, none⟩), .slice (some ⟨gp, 0, none⟩) n cp, .slice (some ⟨gt, 0, none⟩) n ct, .slice sa len cap, .int .i64 (len : Int), .bool (decide ((2147483647 : Int) < (len : Int))), L 0, K 0, L 1, K 1, L 2, K 2, .agg #[fv A.x0, fv A.y0, fv A.x1, fv A.y1, fv A.x2, fv A.y2, fv A.x3, fv A.y3], .slice sa len cap, .slice (some ⟨gp, 0, none⟩) n cp, .agg #[fv A.x0, fv A.y0, fv A.x1, fv A.y1, fv A.x2, fv A.y2, fv A.x3, fv A.y3], .agg #[fv B.x0, fv B.y0, fv B.x1, fv B.y1, fv B.x2, fv B.y2, fv B.x3, fv B.y3], .slice (some ⟨gp, 0, none⟩) n cp, .slice (some ⟨gt, 0, none⟩) n ct, f 0, f 1, f 2, f 3, f 4, f 5, f 6, f 7, f 8, f 9, f 10, f 11, f 12, f 13, f 14, f 15, f 16, f 17, f 18, f 19, f 20, f 21, f 22, f 23, f 24, f 25, f 26, f 27, f 28, f 29], defers := [] }) 4 (good_upd (good_upd hg 1) 3) hK hvp hvt hb hv hd)
        clear hg hK hvp hvt hb hv hd hdep hS
        refine wpOp_step (by rfl) (fun KK hKK => ?_)
        go_simp
        exact hKK _ _ HH.out
      | 5, ho =>
        cases ho
        have e4 : f 4 = .bool true := hg 4 (by omega) (hdep ⟨4, .data⟩ (by simp) rfl)
        have HH := Lib.hid (ways_pure (fun f => { tmps := #[.agg #[.int .i8 (b1 0), .int .i8 (b1 1), .int .i8 (b1 2), .int .i8 (b1 3), .int .i8 (b1 4), .int .i8 (b1 5), .int .i8 (b1 6), .int .i8 (b1 7)], .agg #[.int .i8 (b2 0), .int .i8 (b2 1), .int .i8 (b2 2), .int .i8 (b2 3), .int .i8 (b2 4), .int .i8 (b2 5), .int .i8 (b2 6), .int .i8 (b2 7)], .agg #[.int .i8 (b3 0), .int .i8 (b3 1), .int .i8 (b3 2), .int .i8 (b3 3), .int .i8 (b3 4), .int .i8 (b3 5), .int .i8 (b3 6), .int .i8 (b3 7)], .slice sa len cap, .pointer (some ⟨w.heap.size, 0, none⟩), .pointer (some ⟨w.heap.size + 1, 0, none⟩), .pointer (some ⟨w.heap.size + 1 + 1, 0, none⟩), undef, f 30, .pointer (some ⟨pa, 0, none⟩), .pointer (some ⟨pb, 0, none⟩), .pointer (some ⟨pc, 0, none⟩), .slice (some ⟨gp, 0, none⟩) n cp, .slice (some ⟨gt, 0, none⟩) n ct, .slice sa len cap, .int .i64 (len : Int), .bool (decide ((2147483647 : Int) < (len : Int))), L 0, K 0, L 1, K 1, L 2, K 2, .agg #[fv A.x0, fv A.y0, fv A.x1, fv A.y1, fv A.x2, fv A.y2, fv A.x3, fv A.y3], .slice sa len cap, .slice (some ⟨gp, 0, none⟩) n cp, .agg #[fv A.x0, fv A.y0, fv A.x1, fv A.y1, fv A.x2, fv A.y2, fv A.x3, fv A.y3], .agg #[fv B.x0, fv B.y0, fv B.x1, fv B.y1, fv B.x2, fv B.y2, fv B.x3, fv B.y3], .slice (some ⟨gp, 0, none⟩) n cp, .slice (some ⟨gt, 0, none⟩) n ct, f 0, f 1, f 2, f 3, f 4, f 5, f 6, f 7, f 8, f 9, f 10, f 11, f 12, f 13, f 14, f 15, f 16, f 17, f 18, f 19, f 20, f 21, f 22, f 23, f 24, f 25, f 26, f 27, f 28, f 29], defers := [] }) 5 (good_upd hg 4) hK hvp hvt hb hv hd)
        clear hg hK hvp hvt hb hv hd hdep hS
        refine wpOp_step (by rfl) (fun KK hKK => ?_)
        go_simp
        exact hKK _ _ HH.out
      | 6, ho =>
        cases ho
        have e5 : f 5 = .bool true := hg 5 (by omega) (hdep ⟨5, .guard⟩ (by simp) rfl)
        have HH := Lib.hid (ways_pure (fun f => { tmps := #[.agg #[.int .i8 (b1 0), .int .i8 (b1 1), .int .i8 (b1 2), .int .i8 (b1 3), .int .i8 (b1 4), .int .i8 (b1 5), .int .i8 (b1 6), .int .i8 (b1 7)], .agg #[.int .i8 (b2 0), .int .i8 (b2 1), .int .i8 (b2 2), .int .i8 (b2 3), .int .i8 (b2 4), .int .i8 (b2 5), .int .i8 (b2 6), .int .i8 (b2 7)], .agg #[.int .i8 (b3 0), .int .i8 (b3 1), .int .i8 (b3 2), .int .i8 (b3 3), .int .i8 (b3 4), .int .i8 (b3 5), .int .i8 (b3 6), .int .i8 (b3 7)], .slice sa len cap, .pointer (some ⟨w.heap.size, 0, none⟩), .pointer (some ⟨w.heap.size + 1, 0, none⟩), .pointer (some ⟨w.heap.size + 1 + 1, 0, none⟩), undef, f 30, .pointer (some ⟨pa, 0, none⟩), .pointer (some ⟨pb, 0, none⟩), .pointer (some ⟨pc, 0, none⟩), .slice (some ⟨gp, 0, none⟩) n cp, .slice (some ⟨gt, 0, none⟩) n ct, .slice sa len cap, .int .i64 (len : Int), .bool (decide ((2147483647 : Int) < (len : Int))), L 0, K 0, L 1, K 1, L 2, K 2, .agg #[fv A.x0, fv A.y0, fv A.x1, fv A.y1, fv A.x2, fv A.y2, fv A.x3, fv A.y3], .slice sa len cap, .slice (some ⟨gp, 0, none⟩) n cp, .agg #[fv A.x0, fv A.y0, fv A.x1, fv A.y1, fv A.x2, fv A.y2, fv A.x3, fv A.y3], .agg #[fv B.x0, fv B.y0, fv B.x1, fv B.y1, fv B.x2, fv B.y2, fv B.x3, fv B.y3], .slice (some ⟨gp, 0, none⟩) n cp, .slice (some ⟨gt, 0, none⟩) n ct, f 0, f 1, f 2, f 3, f 4, f 5, f 6, f 7, f 8, f 9, f 10, f 11, f 12, f 13, f 14, f 15, f 16, f 17, f 18, f 19, f 20, f 21, f 22, f 23, f 24, f 25, f 26, f 27, f 28, f 29], defers := [] }) 6 (good_upd hg 5) hK hvp hvt hb hv hd)
        obtain ⟨y0, y1, y2, y3, y4, y5, y6, y7⟩ := quad_cells hK.hb
        clear hg hK hvp hvt hb hv hd hdep hS
        refine wpOp_step (by rfl) (fun KK hKK => ?_)
        go_simp
        exact hKK _ _ HH.out
      | 7, ho =>
        cases ho
        have e5 : f 5 = .bool true := hg 5 (by omega) (hdep ⟨5, .guard⟩ (by simp) rfl)
        have HH := Lib.hid (ways_pure (fun f => { tmps := #[.agg #[.int .i8 (b1 0), .int .i8 (b1 1), .int .i8 (b1 2), .int .i8 (b1 3), .int .i8 (b1 4), .int .i8 (b1 5), .int .i8 (b1 6), .int .i8 (b1 7)], .agg #[.int .i8 (b2 0), .int .i8 (b2 1), .int .i8 (b2 2), .int .i8 (b2 3), .int .i8 (b2 4), .int .i8 (b2 5), .int .i8 (b2 6), .int .i8 (b2 7)], .agg #[.int .i8 (b3 0), .int .i8 (b3 1), .int .i8 (b3 2), .int .i8 (b3 3), .int .i8 (b3 4), .int .i8 (b3 5), .int .i8 (b3 6), .int .i8 (b3 7)], .slice sa len cap, .pointer (some ⟨w.heap.size, 0, none⟩), .pointer (some ⟨w.heap.size + 1, 0, none⟩), .pointer (some ⟨w.heap.size + 1 + 1, 0, none⟩), undef, f 30, .pointer (some ⟨pa, 0, none⟩), .pointer (some ⟨pb, 0, none⟩), .pointer (some ⟨pc, 0, none⟩), .slice (some ⟨gp, 0, none⟩) n cp, .slice (some ⟨gt, 0, none⟩) n ct, .slice sa len cap, .int .i64 (len : Int), .bool (decide ((2147483647 : Int) < (len : Int))), L 0, K 0, L 1, K 1, L 2, K 2, .agg #[fv A.x0, fv A.y0, fv A.x1, fv A.y1, fv A.x2, fv A.y2, fv A.x3, fv A.y3], .slice sa len cap, .slice (some ⟨gp, 0, none⟩) n cp, .agg #[fv A.x0, fv A.y0, fv A.x1, fv A.y1, fv A.x2, fv A.y2, fv A.x3, fv A.y3], .agg #[fv B.x0, fv B.y0, fv B.x1, fv B.y1, fv B.x2, fv B.y2, fv B.x3, fv B.y3], .slice (some ⟨gp, 0, none⟩) n cp, .slice (some ⟨gt, 0, none⟩) n ct, f 0, f 1, f 2, f 3, f 4, f 5, f 6, f 7, f 8, f 9, f 10, f 11, f 12, f 13, f 14, f 15, f 16, f 17, f 18, f 19, f 20, f 21, f 22, f 23, f 24, f 25, f 26, f 27, f 28, f 29], defers := [] }) 7 (good_upd hg 5) hK hvp hvt hb hv hd)
        obtain ⟨y0, y1, y2, y3, y4, y5, y6, y7⟩ := quad_cells hK.ha
        clear hg hK hvp hvt hb hv hd hdep hS
        refine wpOp_step (by rfl) (fun KK hKK => ?_)
        go_simp
        exact hKK _ _ HH.out
      | 8, ho =>
        cases ho
        have e5 : f 5 = .bool true := hg 5 (by omega) (hdep ⟨5, .guard⟩ (by simp) rfl)
        have HH := Lib.hid (ways_pure (fun f => { tmps := #[.agg #[.int .i8 (b1 0), .int .i8 (b1 1), .int .i8 (b1 2), .int .i8 (b1 3), .int .i8 (b1 4), .int .i8 (b1 5), .int .i8 (b1 6), .int .i8 (b1 7)], .agg #[.int .i8 (b2 0), .int .i8 (b2 1), .int .i8 (b2 2), .int .i8 (b2 3), .int .i8 (b2 4), .int .i8 (b2 5), .int .i8 (b2 6), .int .i8 (b2 7)], .agg #[.int .i8 (b3 0), .int .i8 (b3 1), .int .i8 (b3 2), .int .i8 (b3 3), .int .i8 (b3 4), .int .i8 (b3 5), .int .i8 (b3 6), .int .i8 (b3 7)], .slice sa len cap, .pointer (some ⟨w.heap.size, 0, none⟩), .pointer (some ⟨w.heap.size + 1, 0, none⟩), .pointer (some ⟨w.heap.size + 1 + 1, 0, none⟩), undef, f 30, .pointer (some ⟨pa, 0, none⟩), .pointer (some ⟨pb, 0, none⟩), .pointer (some ⟨pc, 0, none⟩), .slice (some ⟨gp, 0, none⟩) n cp, .slice (some ⟨gt, 0, none⟩) n ct, .slice sa len cap, .int .i64 (len : Int), .bool (decide ((2147483647 : Int) < (len : Int))), L 0, K 0, L 1, K 1, L 2, K 2, .agg #[fv A.x0, fv A.y0, fv A.x1, fv A.y1, fv A.x2, fv A.y2, fv A.x3, fv A.y3], .slice sa len cap, .slice (some ⟨gp, 0, none⟩) n cp, .agg #[fv A.x0, fv A.y0, fv A.x1, fv A.y1, fv A.x2, fv A.y2, fv A.x3, fv A.y3], .agg #[fv B.x0, fv B.y0, fv B.x1, fv B.y1, fv B.x2, fv B.y2, fv B.x3, fv B.y3], .slice (some ⟨gp, 0, none⟩) n cp, .slice (some ⟨gt, 0, none⟩) n ct, f 0, f 1, f 2, f 3, f 4, f 5, f 6, f 7, f 8, f 9, f 10, f 11, f 12, f 13, f 14, f 15, f 16, f 17, f 18, f 19, f 20, f 21, f 22, f 23, f 24, f 25, f 26, f 27, f 28, f 29], defers := [] }) 8 (good_upd hg 5) hK hvp hvt hb hv hd)
        clear hg hK hvp hvt hb hv hd hdep hS
        refine wpOp_step (by rfl) (fun KK hKK => ?_)
        go_simp
        exact hKK _ _ HH.out
      | 9, ho =>
        cases ho
        have e5 : f 5 = .bool true := hg 5 (by omega) (hdep ⟨5, .guard⟩ (by simp) rfl)
        have e6 : f 6 = .agg #[fv B.x0, fv B.y0, fv B.x1, fv B.y1, fv B.x2, fv B.y2, fv B.x3, fv B.y3] := hg 6 (by omega) (hdep ⟨6, .data⟩ (by simp) rfl)
        have e7 : f 7 = .agg #[fv A.x0, fv A.y0, fv A.x1, fv A.y1, fv A.x2, fv A.y2, fv A.x3, fv A.y3] := hg 7 (by omega) (hdep ⟨7, .data⟩ (by simp) rfl)
        have e8 : f 8 = .slice (some ⟨gt, 0, none⟩) n ct := hg 8 (by omega) (hdep ⟨8, .data⟩ (by simp) rfl)
        have HH := Lib.hid (fun w' (vn : Value) (hb' : Below wy.heap.size wy w') => ways_call9 (fun f => { tmps := #[.agg #[.int .i8 (b1 0), .int .i8 (b1 1), .int .i8 (b1 2), .int .i8 (b1 3), .int .i8 (b1 4), .int .i8 (b1 5), .int .i8 (b1 6), .int .i8 (b1 7)], .agg #[.int .i8 (b2 0), .int .i8 (b2 1), .int .i8 (b2 2), .int .i8 (b2 3), .int .i8 (b2 4), .int .i8 (b2 5), .int .i8 (b2 6), .int .i8 (b2 7)], .agg #[.int .i8 (b3 0), .int .i8 (b3 1), .int .i8 (b3 2), .int .i8 (b3 3), .int .i8 (b3 4), .int .i8 (b3 5), .int .i8 (b3 6), .int .i8 (b3 7)], .slice sa len cap, .pointer (some ⟨w.heap.size, 0, none⟩), .pointer (some ⟨w.heap.size + 1, 0, none⟩), .pointer (some ⟨w.heap.size + 1 + 1, 0, none⟩), undef, f 30, .pointer (some ⟨pa, 0, none⟩), .pointer (some ⟨pb, 0, none⟩), .pointer (some ⟨pc, 0, none⟩), .slice (some ⟨gp, 0, none⟩) n cp, .slice (some ⟨gt, 0, none⟩) n ct, .slice sa len cap, .int .i64 (len : Int), .bool (decide ((2147483647 : Int) < (len : Int))), L 0, K 0, L 1, K 1, L 2, K 2, .agg #[fv A.x0, fv A.y0, fv A.x1, fv A.y1, fv A.x2, fv A.y2, fv A.x3, fv A.y3], .slice sa len cap, .slice (some ⟨gp, 0, none⟩) n cp, .agg #[fv A.x0, fv A.y0, fv A.x1, fv A.y1, fv A.x2, fv A.y2, fv A.x3, fv A.y3], .agg #[fv B.x0, fv B.y0, fv B.x1, fv B.y1, fv B.x2, fv B.y2, fv B.x3, fv B.y3], .slice (some ⟨gp, 0, none⟩) n cp, .slice (some ⟨gt, 0, none⟩) n ct, f 0, f 1, f 2, f 3, f 4, f 5, f 6, f 7, f 8, f 9, f 10, f 11, f 12, f 13, f 14, f 15, f 16, f 17, f 18, f 19, f 20, f 21, f 22, f 23, f 24, f 25, f 26, f 27, f 28, f 29], defers := [] }) (good_upd (good_upd (good_upd (good_upd hg 5) 6) 7) 8) hK hvp hvt hb hv hd (vn := vn) hb')
        have HC := Lib.hid (zxt_own t2 (by omega) hn2 hvt)
        clear hg hK hvp hvt hb hv hd hdep hS
        refine wpOp_step (by rfl) (fun KK hKK => ?_)
        go_simp
        refine HC.out.mono ?_
        rintro e w' ⟨vn, rfl, hown, hb'⟩
        exact hKK _ _ (HH.out w' vn hb' hown)
      | 10, ho =>
        cases ho
        have e5 : f 5 = .bool true := hg 5 (by omega) (hdep ⟨5, .guard⟩ (by simp) rfl)
        have HH := Lib.hid (ways_pure (fun f => { tmps := #[.agg #[.int .i8 (b1 0), .int .i8 (b1 1), .int .i8 (b1 2), .int .i8 (b1 3), .int .i8 (b1 4), .int .i8 (b1 5), .int .i8 (b1 6), .int .i8 (b1 7)], .agg #[.int .i8 (b2 0), .int .i8 (b2 1), .int .i8 (b2 2), .int .i8 (b2 3), .int .i8 (b2 4), .int .i8 (b2 5), .int .i8 (b2 6), .int .i8 (b2 7)], .agg #[.int .i8 (b3 0), .int .i8 (b3 1), .int .i8 (b3 2), .int .i8 (b3 3), .int .i8 (b3 4), .int .i8 (b3 5), .int .i8 (b3 6), .int .i8 (b3 7)], .slice sa len cap, .pointer (some ⟨w.heap.size, 0, none⟩), .pointer (some ⟨w.heap.size + 1, 0, none⟩), .pointer (some ⟨w.heap.size + 1 + 1, 0, none⟩), undef, f 30, .pointer (some ⟨pa, 0, none⟩), .pointer (some ⟨pb, 0, none⟩), .pointer (some ⟨pc, 0, none⟩), .slice (some ⟨gp, 0, none⟩) n cp, .slice (some ⟨gt, 0, none⟩) n ct, .slice sa len cap, .int .i64 (len : Int), .bool (decide ((2147483647 : Int) < (len : Int))), L 0, K 0, L 1, K 1, L 2, K 2, .agg #[fv A.x0, fv A.y0, fv A.x1, fv A.y1, fv A.x2, fv A.y2, fv A.x3, fv A.y3], .slice sa len cap, .slice (some ⟨gp, 0, none⟩) n cp, .agg #[fv A.x0, fv A.y0, fv A.x1, fv A.y1, fv A.x2, fv A.y2, fv A.x3, fv A.y3], .agg #[fv B.x0, fv B.y0, fv B.x1, fv B.y1, fv B.x2, fv B.y2, fv B.x3, fv B.y3], .slice (some ⟨gp, 0, none⟩) n cp, .slice (some ⟨gt, 0, none⟩) n ct, f 0, f 1, f 2, f 3, f 4, f 5, f 6, f 7, f 8, f 9, f 10, f 11, f 12, f 13, f 14, f 15, f 16, f 17, f 18, f 19, f 20, f 21, f 22, f 23, f 24, f 25, f 26, f 27, f 28, f 29], defers := [] }) 10 (good_upd hg 5) hK hvp hvt hb hv hd)
        clear hg hK hvp hvt hb hv hd hdep hS
        refine wpOp_step (by rfl) (fun KK hKK => ?_)
        go_simp
        exact hKK _ _ HH.out
      | 11, ho =>
        cases ho
        have e5 : f 5 = .bool true := hg 5 (by omega) (hdep ⟨5, .guard⟩ (by simp) rfl)
        have e9 : f 9 = vb := hg 9 (by omega) (hdep ⟨9, .data⟩ (by simp) rfl)
        have e10 : f 10 = .slice (some ⟨gp, 0, none⟩) n cp := hg 10 (by omega) (hdep ⟨10, .data⟩ (by simp) rfl)
        have HH := Lib.hid (fun m => ways_near (fun f => { tmps := #[.agg #[.int .i8 (b1 0), .int .i8 (b1 1), .int .i8 (b1 2), .int .i8 (b1 3), .int .i8 (b1 4), .int .i8 (b1 5), .int .i8 (b1 6), .int .i8 (b1 7)], .agg #[.int .i8 (b2 0), .int .i8 (b2 1), .int .i8 (b2 2), .int .i8 (b2 3), .int .i8 (b2 4), .int .i8 (b2 5), .int .i8 (b2 6), .int .i8 (b2 7)], .agg #[.int .i8 (b3 0), .int .i8 (b3 1), .int .i8 (b3 2), .int .i8 (b3 3), .int .i8 (b3 4), .int .i8 (b3 5), .int .i8 (b3 6), .int .i8 (b3 7)], .slice sa len cap, .pointer (some ⟨w.heap.size, 0, none⟩), .pointer (some ⟨w.heap.size + 1, 0, none⟩), .pointer (some ⟨w.heap.size + 1 + 1, 0, none⟩), undef, f 30, .pointer (some ⟨pa, 0, none⟩), .pointer (some ⟨pb, 0, none⟩), .pointer (some ⟨pc, 0, none⟩), .slice (some ⟨gp, 0, none⟩) n cp, .slice (some ⟨gt, 0, none⟩) n ct, .slice sa len cap, .int .i64 (len : Int), .bool (decide ((2147483647 : Int) < (len : Int))), L 0, K 0, L 1, K 1, L 2, K 2, .agg #[fv A.x0, fv A.y0, fv A.x1, fv A.y1, fv A.x2, fv A.y2, fv A.x3, fv A.y3], .slice sa len cap, .slice (some ⟨gp, 0, none⟩) n cp, .agg #[fv A.x0, fv A.y0, fv A.x1, fv A.y1, fv A.x2, fv A.y2, fv A.x3, fv A.y3], .agg #[fv B.x0, fv B.y0, fv B.x1, fv B.y1, fv B.x2, fv B.y2, fv B.x3, fv B.y3], .slice (some ⟨gp, 0, none⟩) n cp, .slice (some ⟨gt, 0, none⟩) n ct, f 0, f 1, f 2, f 3, f 4, f 5, f 6, f 7, f 8, f 9, f 10, f 11, f 12, f 13, f 14, f 15, f 16, f 17, f 18, f 19, f 20, f 21, f 22, f 23, f 24, f 25, f 26, f 27, f 28, f 29], defers := [] }) 11 (good_upd (good_upd (good_upd hg 5) 9) 10) hK hvp hvt hb hv hd m)
        have HC := Lib.hid (near_own (by omega) (by omega) (hb (hdep ⟨9, .data⟩ (by simp) rfl)) hvp n1)
        clear hg hK hvp hvt hb hv hd hdep hS
        refine wpOp_step (by rfl) (fun KK hKK => ?_)
        go_simp
        refine HC.out.mono ?_
        rintro e w' ⟨rfl, m, rfl⟩
        exact hKK _ _ (HH.out m)
      | 12, ho =>
        cases ho
        have e5 : f 5 = .bool true := hg 5 (by omega) (hdep ⟨5, .data⟩ (by simp) rfl)
        have e11 : f 11 = .bool true := hg 11 (by omega) (hdep ⟨11, .data⟩ (by simp) rfl)
        have HH := Lib.hid (ways_pure (fun f => { tmps := #[.agg #[.int .i8 (b1 0), .int .i8 (b1 1), .int .i8 (b1 2), .int .i8 (b1 3), .int .i8 (b1 4), .int .i8 (b1 5), .int .i8 (b1 6), .int .i8 (b1 7)], .agg #[.int .i8 (b2 0), .int .i8 (b2 1), .int .i8 (b2 2), .int .i8 (b2 3), .int .i8 (b2 4), .int .i8 (b2 5), .int .i8 (b2 6), .int .i8 (b2 7)], .agg #[.int .i8 (b3 0), .int .i8 (b3 1), .int .i8 (b3 2), .int .i8 (b3 3), .int .i8 (b3 4), .int .i8 (b3 5), .int .i8 (b3 6), .int .i8 (b3 7)], .slice sa len cap, .pointer (some ⟨w.heap.size, 0, none⟩), .pointer (some ⟨w.heap.size + 1, 0, none⟩), .pointer (some ⟨w.heap.size + 1 + 1, 0, none⟩), undef, f 30, .pointer (some ⟨pa, 0, none⟩), .pointer (some ⟨pb, 0, none⟩), .pointer (some ⟨pc, 0, none⟩), .slice (some ⟨gp, 0, none⟩) n cp, .slice (some ⟨gt, 0, none⟩) n ct, .slice sa len cap, .int .i64 (len : Int), .bool (decide ((2147483647 : Int) < (len : Int))), L 0, K 0, L 1, K 1, L 2, K 2, .agg #[fv A.x0, fv A.y0, fv A.x1, fv A.y1, fv A.x2, fv A.y2, fv A.x3, fv A.y3], .slice sa len cap, .slice (some ⟨gp, 0, none⟩) n cp, .agg #[fv A.x0, fv A.y0, fv A.x1, fv A.y1, fv A.x2, fv A.y2, fv A.x3, fv A.y3], .agg #[fv B.x0, fv B.y0, fv B.x1, fv B.y1, fv B.x2, fv B.y2, fv B.x3, fv B.y3], .slice (some ⟨gp, 0, none⟩) n cp, .slice (some ⟨gt, 0, none⟩) n ct, f 0, f 1, f 2, f 3, f 4, f 5, f 6, f 7, f 8, f 9, f 10, f 11, f 12, f 13, f 14, f 15, f 16, f 17, f 18, f 19, f 20, f 21, f 22, f 23, f 24, f 25, f 26, f 27, f 28, f 29], defers := [] }) 12 (good_upd (good_upd hg 5) 11) hK hvp hvt hb hv hd)
        clear hg hK hvp hvt hb hv hd hdep hS
        refine wpOp_step (by rfl) (fun KK hKK => ?_)
        go_simp
        exact hKK _ _ HH.out
      | 13, ho =>
        cases ho
        have e12 : f 12 = .bool true := hg 12 (by omega) (hdep ⟨12, .data⟩ (by simp) rfl)
        have HH := Lib.hid (ways_pure (fun f => { tmps := #[.agg #[.int .i8 (b1 0), .int .i8 (b1 1), .int .i8 (b1 2), .int .i8 (b1 3), .int .i8 (b1 4), .int .i8 (b1 5), .int .i8 (b1 6), .int .i8 (b1 7)], .agg #[.int .i8 (b2 0), .int .i8 (b2 1), .int .i8 (b2 2), .int .i8 (b2 3), .int .i8 (b2 4), .int .i8 (b2 5), .int .i8 (b2 6), .int .i8 (b2 7)], .agg #[.int .i8 (b3 0), .int .i8 (b3 1), .int .i8 (b3 2), .int .i8 (b3 3), .int .i8 (b3 4), .int .i8 (b3 5), .int .i8 (b3 6), .int .i8 (b3 7)], .slice sa len cap, .pointer (some ⟨w.heap.size, 0, none⟩), .pointer (some ⟨w.heap.size + 1, 0, none⟩), .pointer (some ⟨w.heap.size + 1 + 1, 0, none⟩), undef, f 30, .pointer (some ⟨pa, 0, none⟩), .pointer (some ⟨pb, 0, none⟩), .pointer (some ⟨pc, 0, none⟩), .slice (some ⟨gp, 0, none⟩) n cp, .slice (some ⟨gt, 0, none⟩) n ct, .slice sa len cap, .int .i64 (len : Int), .bool (decide ((2147483647 : Int) < (len : Int))), L 0, K 0, L 1, K 1, L 2, K 2, .agg #[fv A.x0, fv A.y0, fv A.x1, fv A.y1, fv A.x2, fv A.y2, fv A.x3, fv A.y3], .slice sa len cap, .slice (some ⟨gp, 0, none⟩) n cp, .agg #[fv A.x0, fv A.y0, fv A.x1, fv A.y1, fv A.x2, fv A.y2, fv A.x3, fv A.y3], .agg #[fv B.x0, fv B.y0, fv B.x1, fv B.y1, fv B.x2, fv B.y2, fv B.x3, fv B.y3], .slice (some ⟨gp, 0, none⟩) n cp, .slice (some ⟨gt, 0, none⟩) n ct, f 0, f 1, f 2, f 3, f 4, f 5, f 6, f 7, f 8, f 9, f 10, f 11, f 12, f 13, f 14, f 15, f 16, f 17, f 18, f 19, f 20, f 21, f 22, f 23, f 24, f 25, f 26, f 27, f 28, f 29], defers := [] }) 13 (good_upd hg 12) hK hvp hvt hb hv hd)
        clear hg hK hvp hvt hb hv hd hdep hS
        refine wpOp_step (by rfl) (fun KK hKK => ?_)
        go_simp
        exact hKK _ _ HH.out
      | 14, ho =>
        cases ho
        have e13 : f 13 = .bool true := hg 13 (by omega) (hdep ⟨13, .guard⟩ (by simp) rfl)
        have HH := Lib.hid (ways_pure (fun f => { tmps := #[.agg #[.int .i8 (b1 0), .int .i8 (b1 1), .int .i8 (b1 2), .int .i8 (b1 3), .int .i8 (b1 4), .int .i8 (b1 5), .int .i8 (b1 6), .int .i8 (b1 7)], .agg #[.int .i8 (b2 0), .int .i8 (b2 1), .int .i8 (b2 2), .int .i8 (b2 3), .int .i8 (b2 4), .int .i8 (b2 5), .int .i8 (b2 6), .int .i8 (b2 7)], .agg #[.int .i8 (b3 0), .int .i8 (b3 1), .int .i8 (b3 2), .int .i8 (b3 3), .int .i8 (b3 4), .int .i8 (b3 5), .int .i8 (b3 6), .int .i8 (b3 7)], .slice sa len cap, .pointer (some ⟨w.heap.size, 0, none⟩), .pointer (some ⟨w.heap.size + 1, 0, none⟩), .pointer (some ⟨w.heap.size + 1 + 1, 0, none⟩), undef, f 30, .pointer (some ⟨pa, 0, none⟩), .pointer (some ⟨pb, 0, none⟩), .pointer (some ⟨pc, 0, none⟩), .slice (some ⟨gp, 0, none⟩) n cp, .slice (some ⟨gt, 0, none⟩) n ct, .slice sa len cap, .int .i64 (len : Int), .bool (decide ((2147483647 : Int) < (len : Int))), L 0, K 0, L 1, K 1, L 2, K 2, .agg #[fv A.x0, fv A.y0, fv A.x1, fv A.y1, fv A.x2, fv A.y2, fv A.x3, fv A.y3], .slice sa len cap, .slice (some ⟨gp, 0, none⟩) n cp, .agg #[fv A.x0, fv A.y0, fv A.x1, fv A.y1, fv A.x2, fv A.y2, fv A.x3, fv A.y3], .agg #[fv B.x0, fv B.y0, fv B.x1, fv B.y1, fv B.x2, fv B.y2, fv B.x3, fv B.y3], .slice (some ⟨gp, 0, none⟩) n cp, .slice (some ⟨gt, 0, none⟩) n ct, f 0, f 1, f 2, f 3, f 4, f 5, f 6, f 7, f 8, f 9, f 10, f 11, f 12, f 13, f 14, f 15, f 16, f 17, f 18, f 19, f 20, f 21, f 22, f 23, f 24, f 25, f 26, f 27, f 28, f 29], defers := [] }) 14 (good_upd hg 13) hK hvp hvt hb hv hd)
        obtain ⟨y0, y1, y2, y3, y4, y5, y6, y7⟩ := quad_cells hK.hb
        clear hg hK hvp hvt hb hv hd hdep hS
        refine wpOp_step (by rfl) (fun KK hKK => ?_)
        go_simp
        exact hKK _ _ HH.out
      | 15, ho =>
        cases ho
        have e13 : f 13 = .bool true := hg 13 (by omega) (hdep ⟨13, .guard⟩ (by simp) rfl)
        have HH := Lib.hid (ways_pure (fun f => { tmps := #[.agg #[.int .i8 (b1 0), .int .i8 (b1 1), .int .i8 (b1 2), .int .i8 (b1 3), .int .i8 (b1 4), .int .i8 (b1 5), .int .i8 (b1 6), .int .i8 (b1 7)], .agg #[.int .i8 (b2 0), .int .i8 (b2 1), .int .i8 (b2 2), .int .i8 (b2 3), .int .i8 (b2 4), .int .i8 (b2 5), .int .i8 (b2 6), .int .i8 (b2 7)], .agg #[.int .i8 (b3 0), .int .i8 (b3 1), .int .i8 (b3 2), .int .i8 (b3 3), .int .i8 (b3 4), .int .i8 (b3 5), .int .i8 (b3 6), .int .i8 (b3 7)], .slice sa len cap, .pointer (some ⟨w.heap.size, 0, none⟩), .pointer (some ⟨w.heap.size + 1, 0, none⟩), .pointer (some ⟨w.heap.size + 1 + 1, 0, none⟩), undef, f 30, .pointer (some ⟨pa, 0, none⟩), .pointer (some ⟨pb, 0, none⟩), .pointer (some ⟨pc, 0, none⟩), .slice (some ⟨gp, 0, none⟩) n cp, .slice (some ⟨gt, 0, none⟩) n ct, .slice sa len cap, .int .i64 (len : Int), .bool (decide ((2147483647 : Int) < (len : Int))), L 0, K 0, L 1, K 1, L 2, K 2, .agg #[fv A.x0, fv A.y0, fv A.x1, fv A.y1, fv A.x2, fv A.y2, fv A.x3, fv A.y3], .slice sa len cap, .slice (some ⟨gp, 0, none⟩) n cp, .agg #[fv A.x0, fv A.y0, fv A.x1, fv A.y1, fv A.x2, fv A.y2, fv A.x3, fv A.y3], .agg #[fv B.x0, fv B.y0, fv B.x1, fv B.y1, fv B.x2, fv B.y2, fv B.x3, fv B.y3], .slice (some ⟨gp, 0, none⟩) n cp, .slice (some ⟨gt, 0, none⟩) n ct, f 0, f 1, f 2, f 3, f 4, f 5, f 6, f 7, f 8, f 9, f 10, f 11, f 12, f 13, f 14, f 15, f 16, f 17, f 18, f 19, f 20, f 21, f 22, f 23, f 24, f 25, f 26, f 27, f 28, f 29], defers := [] }) 15 (good_upd hg 13) hK hvp hvt hb hv hd)
        obtain ⟨y0, y1, y2, y3, y4, y5, y6, y7⟩ := quad_cells hK.hc
        clear hg hK hvp hvt hb hv hd hdep hS
        refine wpOp_step (by rfl) (fun KK hKK => ?_)
        go_simp
        exact hKK _ _ HH.out
      | 16, ho =>
        cases ho
        have e13 : f 13 = .bool true := hg 13 (by omega) (hdep ⟨13, .guard⟩ (by simp) rfl)
        have HH := Lib.hid (ways_pure (fun f => { tmps := #[.agg #[.int .i8 (b1 0), .int .i8 (b1 1), .int .i8 (b1 2), .int .i8 (b1 3), .int .i8 (b1 4), .int .i8 (b1 5), .int .i8 (b1 6), .int .i8 (b1 7)], .agg #[.int .i8 (b2 0), .int .i8 (b2 1), .int .i8 (b2 2), .int .i8 (b2 3), .int .i8 (b2 4), .int .i8 (b2 5), .int .i8 (b2 6), .int .i8 (b2 7)], .agg #[.int .i8 (b3 0), .int .i8 (b3 1), .int .i8 (b3 2), .int .i8 (b3 3), .int .i8 (b3 4), .int .i8 (b3 5), .int .i8 (b3 6), .int .i8 (b3 7)], .slice sa len cap, .pointer (some ⟨w.heap.size, 0, none⟩), .pointer (some ⟨w.heap.size + 1, 0, none⟩), .pointer (some ⟨w.heap.size + 1 + 1, 0, none⟩), undef, f 30, .pointer (some ⟨pa, 0, none⟩), .pointer (some ⟨pb, 0, none⟩), .pointer (some ⟨pc, 0, none⟩), .slice (some ⟨gp, 0, none⟩) n cp, .slice (some ⟨gt, 0, none⟩) n ct, .slice sa len cap, .int .i64 (len : Int), .bool (decide ((2147483647 : Int) < (len : Int))), L 0, K 0, L 1, K 1, L 2, K 2, .agg #[fv A.x0, fv A.y0, fv A.x1, fv A.y1, fv A.x2, fv A.y2, fv A.x3, fv A.y3], .slice sa len cap, .slice (some ⟨gp, 0, none⟩) n cp, .agg #[fv A.x0, fv A.y0, fv A.x1, fv A.y1, fv A.x2, fv A.y2, fv A.x3, fv A.y3], .agg #[fv B.x0, fv B.y0, fv B.x1, fv B.y1, fv B.x2, fv B.y2, fv B.x3, fv B.y3], .slice (some ⟨gp, 0, none⟩) n cp, .slice (some ⟨gt, 0, none⟩) n ct, f 0, f 1, f 2, f 3, f 4, f 5, f 6, f 7, f 8, f 9, f 10, f 11, f 12, f 13, f 14, f 15, f 16, f 17, f 18, f 19, f 20, f 21, f 22, f 23, f 24, f 25, f 26, f 27, f 28, f 29], defers := [] }) 16 (good_upd hg 13) hK hvp hvt hb hv hd)
        clear hg hK hvp hvt hb hv hd hdep hS
        refine wpOp_step (by rfl) (fun KK hKK => ?_)
        go_simp
        exact hKK _ _ HH.out
      | 17, ho =>
        cases ho
        have e13 : f 13 = .bool true := hg 13 (by omega) (hdep ⟨13, .guard⟩ (by simp) rfl)
        have e14 : f 14 = .agg #[fv B.x0, fv B.y0, fv B.x1, fv B.y1, fv B.x2, fv B.y2, fv B.x3, fv B.y3] := hg 14 (by omega) (hdep ⟨14, .data⟩ (by simp) rfl)
        have e15 : f 15 = .agg #[fv C.x0, fv C.y0, fv C.x1, fv C.y1, fv C.x2, fv C.y2, fv C.x3, fv C.y3] := hg 15 (by omega) (hdep ⟨15, .data⟩ (by simp) rfl)
        have e16 : f 16 = .slice (some ⟨gt, 0, none⟩) n ct := hg 16 (by omega) (hdep ⟨16, .data⟩ (by simp) rfl)
        have HH := Lib.hid (fun w' (vn : Value) (hb' : Below wy.heap.size wy w') => ways_call17 (fun f => { tmps := #[.agg #[.int .i8 (b1 0), .int .i8 (b1 1), .int .i8 (b1 2), .int .i8 (b1 3), .int .i8 (b1 4), .int .i8 (b1 5), .int .i8 (b1 6), .int .i8 (b1 7)], .agg #[.int .i8 (b2 0), .int .i8 (b2 1), .int .i8 (b2 2), .int .i8 (b2 3), .int .i8 (b2 4), .int .i8 (b2 5), .int .i8 (b2 6), .int .i8 (b2 7)], .agg #[.int .i8 (b3 0), .int .i8 (b3 1), .int .i8 (b3 2), .int .i8 (b3 3), .int .i8 (b3 4), .int .i8 (b3 5), .int .i8 (b3 6), .int .i8 (b3 7)], .slice sa len cap, .pointer (some ⟨w.heap.size, 0, none⟩), .pointer (some ⟨w.heap.size + 1, 0, none⟩), .pointer (some ⟨w.heap.size + 1 + 1, 0, none⟩), undef, f 30, .pointer (some ⟨pa, 0, none⟩), .pointer (some ⟨pb, 0, none⟩), .pointer (some ⟨pc, 0, none⟩), .slice (some ⟨gp, 0, none⟩) n cp, .slice (some ⟨gt, 0, none⟩) n ct, .slice sa len cap, .int .i64 (len : Int), .bool (decide ((2147483647 : Int) < (len : Int))), L 0, K 0, L 1, K 1, L 2, K 2, .agg #[fv A.x0, fv A.y0, fv A.x1, fv A.y1, fv A.x2, fv A.y2, fv A.x3, fv A.y3], .slice sa len cap, .slice (some ⟨gp, 0, none⟩) n cp, .agg #[fv A.x0, fv A.y0, fv A.x1, fv A.y1, fv A.x2, fv A.y2, fv A.x3, fv A.y3], .agg #[fv B.x0, fv B.y0, fv B.x1, fv B.y1, fv B.x2, fv B.y2, fv B.x3, fv B.y3], .slice (some ⟨gp, 0, none⟩) n cp, .slice (some ⟨gt, 0, none⟩) n ct, f 0, f 1, f 2, f 3, f 4, f 5, f 6, f 7, f 8, f 9, f 10, f 11, f 12, f 13, f 14, f 15, f 16, f 17, f 18, f 19, f 20, f 21, f 22, f 23, f 24, f 25, f 26, f 27, f 28, f 29], defers := [] }) (good_upd (good_upd (good_upd (good_upd hg 13) 14) 15) 16) hK hvp hvt hb hv hd (vn := vn) hb')
        have HC := Lib.hid (zxt_own t3 (by omega) hn2 hvt)
        clear hg hK hvp hvt hb hv hd hdep hS
        refine wpOp_step (by rfl) (fun KK hKK => ?_)
        go_simp
        refine HC.out.mono ?_
        rintro e w' ⟨vn, rfl, hown, hb'⟩
        exact hKK _ _ (HH.out w' vn hb' hown)
      | 18, ho =>
        cases ho
        have e13 : f 13 = .bool true := hg 13 (by omega) (hdep ⟨13, .guard⟩ (by simp) rfl)
        have HH := Lib.hid (ways_pure (fun f => { tmps := #[.agg #[.int .i8 (b1 0), .int .i8 (b1 1), .int .i8 (b1 2), .int .i8 (b1 3), .int .i8 (b1 4), .int .i8 (b1 5), .int .i8 (b1 6), .int .i8 (b1 7)], .agg #[.int .i8 (b2 0), .int .i8 (b2 1), .int .i8 (b2 2), .int .i8 (b2 3), .int .i8 (b2 4), .int .i8 (b2 5), .int .i8 (b2 6), .int .i8 (b2 7)], .agg #[.int .i8 (b3 0), .int .i8 (b3 1), .int .i8 (b3 2), .int .i8 (b3 3), .int .i8 (b3 4), .int .i8 (b3 5), .int .i8 (b3 6), .int .i8 (b3 7)], .slice sa len cap, .pointer (some ⟨w.heap.size, 0, none⟩), .pointer (some ⟨w.heap.size + 1, 0, none⟩), .pointer (some ⟨w.heap.size + 1 + 1, 0, none⟩), undef, f 30, .pointer (some ⟨pa, 0, none⟩), .pointer (some ⟨pb, 0, none⟩), .pointer (some ⟨pc, 0, none⟩), .slice (some ⟨gp, 0, none⟩) n cp, .slice (some ⟨gt, 0, none⟩) n ct, .slice sa len cap, .int .i64 (len : Int), .bool (decide ((2147483647 : Int) < (len : Int))), L 0, K 0, L 1, K 1, L 2, K 2, .agg #[fv A.x0, fv A.y0, fv A.x1, fv A.y1, fv A.x2, fv A.y2, fv A.x3, fv A.y3], .slice sa len cap, .slice (some ⟨gp, 0, none⟩) n cp, .agg #[fv A.x0, fv A.y0, fv A.x1, fv A.y1, fv A.x2, fv A.y2, fv A.x3, fv A.y3], .agg #[fv B.x0, fv B.y0, fv B.x1, fv B.y1, fv B.x2, fv B.y2, fv B.x3, fv B.y3], .slice (some ⟨gp, 0, none⟩) n cp, .slice (some ⟨gt, 0, none⟩) n ct, f 0, f 1, f 2, f 3, f 4, f 5, f 6, f 7, f 8, f 9, f 10, f 11, f 12, f 13, f 14, f 15, f 16, f 17, f 18, f 19, f 20, f 21, f 22, f 23, f 24, f 25, f 26, f 27, f 28, f 29], defers := [] }) 18 (good_upd hg 13) hK hvp hvt hb hv hd)
        obtain ⟨y0, y1, y2, y3, y4, y5, y6, y7⟩ := quad_cells hK.ha
        clear hg hK hvp hvt hb hv hd hdep hS
        refine wpOp_step (by rfl) (fun KK hKK => ?_)
        go_simp
        exact hKK _ _ HH.out
      | 19, ho =>
        cases ho
        have e13 : f 13 = .bool true := hg 13 (by omega) (hdep ⟨13, .guard⟩ (by simp) rfl)
        have HH := Lib.hid (ways_pure (fun f => { tmps := #[.agg #[.int .i8 (b1 0), .int .i8 (b1 1), .int .i8 (b1 2), .int .i8 (b1 3), .int .i8 (b1 4), .int .i8 (b1 5), .int .i8 (b1 6), .int .i8 (b1 7)], .agg #[.int .i8 (b2 0), .int .i8 (b2 1), .int .i8 (b2 2), .int .i8 (b2 3), .int .i8 (b2 4), .int .i8 (b2 5), .int .i8 (b2 6), .int .i8 (b2 7)], .agg #[.int .i8 (b3 0), .int .i8 (b3 1), .int .i8 (b3 2), .int .i8 (b3 3), .int .i8 (b3 4), .int .i8 (b3 5), .int .i8 (b3 6), .int .i8 (b3 7)], .slice sa len cap, .pointer (some ⟨w.heap.size, 0, none⟩), .pointer (some ⟨w.heap.size + 1, 0, none⟩), .pointer (some ⟨w.heap.size + 1 + 1, 0, none⟩), undef, f 30, .pointer (some ⟨pa, 0, none⟩), .pointer (some ⟨pb, 0, none⟩), .pointer (some ⟨pc, 0, none⟩), .slice (some ⟨gp, 0, none⟩) n cp, .slice (some ⟨gt, 0, none⟩) n ct, .slice sa len cap, .int .i64 (len : Int), .bool (decide ((2147483647 : Int) < (len : Int))), L 0, K 0, L 1, K 1, L 2, K 2, .agg #[fv A.x0, fv A.y0, fv A.x1, fv A.y1, fv A.x2, fv A.y2, fv A.x3, fv A.y3], .slice sa len cap, .slice (some ⟨gp, 0, none⟩) n cp, .agg #[fv A.x0, fv A.y0, fv A.x1, fv A.y1, fv A.x2, fv A.y2, fv A.x3, fv A.y3], .agg #[fv B.x0, fv B.y0, fv B.x1, fv B.y1, fv B.x2, fv B.y2, fv B.x3, fv B.y3], .slice (some ⟨gp, 0, none⟩) n cp, .slice (some ⟨gt, 0, none⟩) n ct, f 0, f 1, f 2, f 3, f 4, f 5, f 6, f 7, f 8, f 9, f 10, f 11, f 12, f 13, f 14, f 15, f 16, f 17, f 18, f 19, f 20, f 21, f 22, f 23, f 24, f 25, f 26, f 27, f 28, f 29], defers := [] }) 19 (good_upd hg 13) hK hvp hvt hb hv hd)
        obtain ⟨y0, y1, y2, y3, y4, y5, y6, y7⟩ := quad_cells hK.hc
        clear hg hK hvp hvt hb hv hd hdep hS
        refine wpOp_step (by rfl) (fun KK hKK => ?_)
        go_simp
        exact hKK _ _ HH.out
      | 20, ho =>
        cases ho
        have e13 : f 13 = .bool true := hg 13 (by omega) (hdep ⟨13, .guard⟩ (by simp) rfl)
        have HH := Lib.hid (ways_pure (fun f => { tmps := #[.agg #[.int .i8 (b1 0), .int .i8 (b1 1), .int .i8 (b1 2), .int .i8 (b1 3), .int .i8 (b1 4), .int .i8 (b1 5), .int .i8 (b1 6), .int .i8 (b1 7)], .agg #[.int .i8 (b2 0), .int .i8 (b2 1), .int .i8 (b2 2), .int .i8 (b2 3), .int .i8 (b2 4), .int .i8 (b2 5), .int .i8 (b2 6), .int .i8 (b2 7)], .agg #[.int .i8 (b3 0), .int .i8 (b3 1), .int .i8 (b3 2), .int .i8 (b3 3), .int .i8 (b3 4), .int .i8 (b3 5), .int .i8 (b3 6), .int .i8 (b3 7)], .slice sa len cap, .pointer (some ⟨w.heap.size, 0, none⟩), .pointer (some ⟨w.heap.size + 1, 0, none⟩), .pointer (some ⟨w.heap.size + 1 + 1, 0, none⟩), undef, f 30, .pointer (some ⟨pa, 0, none⟩), .pointer (some ⟨pb, 0, none⟩), .pointer (some ⟨pc, 0, none⟩), .slice (some ⟨gp, 0, none⟩) n cp, .slice (some ⟨gt, 0, none⟩) n ct, .slice sa len cap, .int .i64 (len : Int), .bool (decide ((2147483647 : Int) < (len : Int))), L 0, K 0, L 1, K 1, L 2, K 2, .agg #[fv A.x0, fv A.y0, fv A.x1, fv A.y1, fv A.x2, fv A.y2, fv A.x3, fv A.y3], .slice sa len cap, .slice (some ⟨gp, 0, none⟩) n cp, .agg #[fv A.x0, fv A.y0, fv A.x1, fv A.y1, fv A.x2, fv A.y2, fv A.x3, fv A.y3], .agg #[fv B.x0, fv B.y0, fv B.x1, fv B.y1, fv B.x2, fv B.y2, fv B.x3, fv B.y3], .slice (some ⟨gp, 0, none⟩) n cp, .slice (some ⟨gt, 0, none⟩) n ct, f 0, f 1, f 2, f 3, f 4, f 5, f 6, f 7, f 8, f 9, f 10, f 11, f 12, f 13, f 14, f 15, f 16, f 17, f 18, f 19, f 20, f 21, f 22, f 23, f 24, f 25, f 26, f 27, f 28, f 29], defers := [] }) 20 (good_upd hg 13) hK hvp hvt hb hv hd)
        clear hg hK hvp hvt hb hv hd hdep hS
        refine wpOp_step (by rfl) (fun KK hKK => ?_)
        go_simp
        exact hKK _ _ HH.out
      | 21, ho =>
        cases ho
        have e13 : f 13 = .bool true := hg 13 (by omega) (hdep ⟨13, .guard⟩ (by simp) rfl)
        have e18 : f 18 = .agg #[fv A.x0, fv A.y0, fv A.x1, fv A.y1, fv A.x2, fv A.y2, fv A.x3, fv A.y3] := hg 18 (by omega) (hdep ⟨18, .data⟩ (by simp) rfl)
        have e19 : f 19 = .agg #[fv C.x0, fv C.y0, fv C.x1, fv C.y1, fv C.x2, fv C.y2, fv C.x3, fv C.y3] := hg 19 (by omega) (hdep ⟨19, .data⟩ (by simp) rfl)
        have e20 : f 20 = .slice (some ⟨gp, 0, none⟩) n cp := hg 20 (by omega) (hdep ⟨20, .data⟩ (by simp) rfl)
        have HH := Lib.hid (fun w' (vn : Value) (hb' : Below wy.heap.size wy w') => ways_call21 (fun f => { tmps := #[.agg #[.int .i8 (b1 0), .int .i8 (b1 1), .int .i8 (b1 2), .int .i8 (b1 3), .int .i8 (b1 4), .int .i8 (b1 5), .int .i8 (b1 6), .int .i8 (b1 7)], .agg #[.int .i8 (b2 0), .int .i8 (b2 1), .int .i8 (b2 2), .int .i8 (b2 3), .int .i8 (b2 4), .int .i8 (b2 5), .int .i8 (b2 6), .int .i8 (b2 7)], .agg #[.int .i8 (b3 0), .int .i8 (b3 1), .int .i8 (b3 2), .int .i8 (b3 3), .int .i8 (b3 4), .int .i8 (b3 5), .int .i8 (b3 6), .int .i8 (b3 7)], .slice sa len cap, .pointer (some ⟨w.heap.size, 0, none⟩), .pointer (some ⟨w.heap.size + 1, 0, none⟩), .pointer (some ⟨w.heap.size + 1 + 1, 0, none⟩), undef, f 30, .pointer (some ⟨pa, 0, none⟩), .pointer (some ⟨pb, 0, none⟩), .pointer (some ⟨pc, 0, none⟩), .slice (some ⟨gp, 0, none⟩) n cp, .slice (some ⟨gt, 0, none⟩) n ct, .slice sa len cap, .int .i64 (len : Int), .bool (decide ((2147483647 : Int) < (len : Int))), L 0, K 0, L 1, K 1, L 2, K 2, .agg #[fv A.x0, fv A.y0, fv A.x1, fv A.y1, fv A.x2, fv A.y2, fv A.x3, fv A.y3], .slice sa len cap, .slice (some ⟨gp, 0, none⟩) n cp, .agg #[fv A.x0, fv A.y0, fv A.x1, fv A.y1, fv A.x2, fv A.y2, fv A.x3, fv A.y3], .agg #[fv B.x0, fv B.y0, fv B.x1, fv B.y1, fv B.x2, fv B.y2, fv B.x3, fv B.y3], .slice (some ⟨gp, 0, none⟩) n cp, .slice (some ⟨gt, 0, none⟩) n ct, f 0, f 1, f 2, f 3, f 4, f 5, f 6, f 7, f 8, f 9, f 10, f 11, f 12, f 13, f 14, f 15, f 16, f 17, f 18, f 19, f 20, f 21, f 22, f 23, f 24, f 25, f 26, f 27, f 28, f 29], defers := [] }) (good_upd (good_upd (good_upd (good_upd hg 13) 18) 19) 20) hK hvp hvt hb hv hd (vn := vn) hb')
        have HC := Lib.hid (zxt_own t4 (by omega) hn2 hvp)
        clear hg hK hvp hvt hb hv hd hdep hS
        refine wpOp_step (by rfl) (fun KK hKK => ?_)
        go_simp
        refine HC.out.mono ?_
        rintro e w' ⟨vn, rfl, hown, hb'⟩
        exact hKK _ _ (HH.out w' vn hb' hown)
      | 22, ho =>
        cases ho
        have e13 : f 13 = .bool true := hg 13 (by omega) (hdep ⟨13, .guard⟩ (by simp) rfl)
        have e17 : f 17 = vv := hg 17 (by omega) (hdep ⟨17, .data⟩ (by simp) rfl)
        have e21 : f 21 = vd := hg 21 (by omega) (hdep ⟨21, .data⟩ (by simp) rfl)
        have HH := Lib.hid (fun m => ways_near (fun f => { tmps := #[.agg #[.int .i8 (b1 0), .int .i8 (b1 1), .int .i8 (b1 2), .int .i8 (b1 3), .int .i8 (b1 4), .int .i8 (b1 5), .int .i8 (b1 6), .int .i8 (b1 7)], .agg #[.int .i8 (b2 0), .int .i8 (b2 1), .int .i8 (b2 2), .int .i8 (b2 3), .int .i8 (b2 4), .int .i8 (b2 5), .int .i8 (b2 6), .int .i8 (b2 7)], .agg #[.int .i8 (b3 0), .int .i8 (b3 1), .int .i8 (b3 2), .int .i8 (b3 3), .int .i8 (b3 4), .int .i8 (b3 5), .int .i8 (b3 6), .int .i8 (b3 7)], .slice sa len cap, .pointer (some ⟨w.heap.size, 0, none⟩), .pointer (some ⟨w.heap.size + 1, 0, none⟩), .pointer (some ⟨w.heap.size + 1 + 1, 0, none⟩), undef, f 30, .pointer (some ⟨pa, 0, none⟩), .pointer (some ⟨pb, 0, none⟩), .pointer (some ⟨pc, 0, none⟩), .slice (some ⟨gp, 0, none⟩) n cp, .slice (some ⟨gt, 0, none⟩) n ct, .slice sa len cap, .int .i64 (len : Int), .bool (decide ((2147483647 : Int) < (len : Int))), L 0, K 0, L 1, K 1, L 2, K 2, .agg #[fv A.x0, fv A.y0, fv A.x1, fv A.y1, fv A.x2, fv A.y2, fv A.x3, fv A.y3], .slice sa len cap, .slice (some ⟨gp, 0, none⟩) n cp, .agg #[fv A.x0, fv A.y0, fv A.x1, fv A.y1, fv A.x2, fv A.y2, fv A.x3, fv A.y3], .agg #[fv B.x0, fv B.y0, fv B.x1, fv B.y1, fv B.x2, fv B.y2, fv B.x3, fv B.y3], .slice (some ⟨gp, 0, none⟩) n cp, .slice (some ⟨gt, 0, none⟩) n ct, f 0, f 1, f 2, f 3, f 4, f 5, f 6, f 7, f 8, f 9, f 10, f 11, f 12, f 13, f 14, f 15, f 16, f 17, f 18, f 19, f 20, f 21, f 22, f 23, f 24, f 25, f 26, f 27, f 28, f 29], defers := [] }) 22 (good_upd (good_upd (good_upd hg 13) 17) 21) hK hvp hvt hb hv hd m)
        have HC := Lib.hid (near_own (by omega) (by omega) (hv (hdep ⟨17, .data⟩ (by simp) rfl)) (hd (hdep ⟨21, .data⟩ (by simp) rfl)) n2)
        clear hg hK hvp hvt hb hv hd hdep hS
        refine wpOp_step (by rfl) (fun KK hKK => ?_)
        go_simp
        refine HC.out.mono ?_
        rintro e w' ⟨rfl, m, rfl⟩
        exact hKK _ _ (HH.out m)
      | 23, ho =>
        cases ho
        have e13 : f 13 = .bool true := hg 13 (by omega) (hdep ⟨13, .data⟩ (by simp) rfl)
        have e22 : f 22 = .bool true := hg 22 (by omega) (hdep ⟨22, .data⟩ (by simp) rfl)
        have HH := Lib.hid (ways_pure (fun f => { tmps := #[.agg #[.int .i8 (b1 0), .int .i8 (b1 1), .int .i8 (b1 2), .int .i8 (b1 3), .int .i8 (b1 4), .int .i8 (b1 5), .int .i8 (b1 6), .int .i8 (b1 7)], .agg #[.int .i8 (b2 0), .int .i8 (b2 1), .int .i8 (b2 2), .int .i8 (b2 3), .int .i8 (b2 4), .int .i8 (b2 5), .int .i8 (b2 6), .int .i8 (b2 7)], .agg #[.int .i8 (b3 0), .int .i8 (b3 1), .int .i8 (b3 2), .int .i8 (b3 3), .int .i8 (b3 4), .int .i8 (b3 5), .int .i8 (b3 6), .int .i8 (b3 7)], .slice sa len cap, .pointer (some ⟨w.heap.size, 0, none⟩), .pointer (some ⟨w.heap.size + 1, 0, none⟩), .pointer (some ⟨w.heap.size + 1 + 1, 0, none⟩), undef, f 30, .pointer (some ⟨pa, 0, none⟩), .pointer (some ⟨pb, 0, none⟩), .pointer (some ⟨pc, 0, none⟩), .slice (some ⟨gp, 0, none⟩) n cp, .slice (some ⟨gt, 0, none⟩) n ct, .slice sa len cap, .int .i64 (len : Int), .bool (decide ((2147483647 : Int) < (len : Int))), L 0, K 0, L 1, K 1, L 2, K 2, .agg #[fv A.x0, fv A.y0, fv A.x1, fv A.y1, fv A.x2, fv A.y2, fv A.x3, fv A.y3], .slice sa len cap, .slice (some ⟨gp, 0, none⟩) n cp, .agg #[fv A.x0, fv A.y0, fv A.x1, fv A.y1, fv A.x2, fv A.y2, fv A.x3, fv A.y3], .agg #[fv B.x0, fv B.y0, fv B.x1, fv B.y1, fv B.x2, fv B.y2, fv B.x3, fv B.y3], .slice (some ⟨gp, 0, none⟩) n cp, .slice (some ⟨gt, 0, none⟩) n ct, f 0, f 1, f 2, f 3, f 4, f 5, f 6, f 7, f 8, f 9, f 10, f 11, f 12, f 13, f 14, f 15, f 16, f 17, f 18, f 19, f 20, f 21, f 22, f 23, f 24, f 25, f 26, f 27, f 28, f 29], defers := [] }) 23 (good_upd (good_upd hg 13) 22) hK hvp hvt hb hv hd)
        clear hg hK hvp hvt hb hv hd hdep hS
        refine wpOp_step (by rfl) (fun KK hKK => ?_)
        go_simp
        exact hKK _ _ HH.out
      | 24, ho =>
        cases ho
        have e23 : f 23 = .bool true := hg 23 (by omega) (hdep ⟨23, .data⟩ (by simp) rfl)
        have HH := Lib.hid (ways_pure (fun f => { tmps := #[.agg #[.int .i8 (b1 0), .int .i8 (b1 1), .int .i8 (b1 2), .int .i8 (b1 3), .int .i8 (b1 4), .int .i8 (b1 5), .int .i8 (b1 6), .int .i8 (b1 7)], .agg #[.int .i8 (b2 0), .int .i8 (b2 1), .int .i8 (b2 2), .int .i8 (b2 3), .int .i8 (b2 4), .int .i8 (b2 5), .int .i8 (b2 6), .int .i8 (b2 7)], .agg #[.int .i8 (b3 0), .int .i8 (b3 1), .int .i8 (b3 2), .int .i8 (b3 3), .int .i8 (b3 4), .int .i8 (b3 5), .int .i8 (b3 6), .int .i8 (b3 7)], .slice sa len cap, .pointer (some ⟨w.heap.size, 0, none⟩), .pointer (some ⟨w.heap.size + 1, 0, none⟩), .pointer (some ⟨w.heap.size + 1 + 1, 0, none⟩), undef, f 30, .pointer (some ⟨pa, 0, none⟩), .pointer (some ⟨pb, 0, none⟩), .pointer (some ⟨pc, 0, none⟩), .slice (some ⟨gp, 0, none⟩) n cp, .slice (some ⟨gt, 0, none⟩) n ct, .slice sa len cap, .int .i64 (len : Int), .bool (decide ((2147483647 : Int) < (len : Int))), L 0, K 0, L 1, K 1, L 2, K 2, .agg #[fv A.x0, fv A.y0, fv A.x1, fv A.y1, fv A.x2, fv A.y2, fv A.x3, fv A.y3], .slice sa len cap, .slice (some ⟨gp, 0, none⟩) n cp, .agg #[fv A.x0, fv A.y0, fv A.x1, fv A.y1, fv A.x2, fv A.y2, fv A.x3, fv A.y3], .agg #[fv B.x0, fv B.y0, fv B.x1, fv B.y1, fv B.x2, fv B.y2, fv B.x3, fv B.y3], .slice (some ⟨gp, 0, none⟩) n cp, .slice (some ⟨gt, 0, none⟩) n ct, f 0, f 1, f 2, f 3, f 4, f 5, f 6, f 7, f 8, f 9, f 10, f 11, f 12, f 13, f 14, f 15, f 16, f 17, f 18, f 19, f 20, f 21, f 22, f 23, f 24, f 25, f 26, f 27, f 28, f 29], defers := [] }) 24 (good_upd hg 23) hK hvp hvt hb hv hd)
        clear hg hK hvp hvt hb hv hd hdep hS
        refine wpOp_step (by rfl) (fun KK hKK => ?_)
        go_simp
        exact hKK _ _ HH.out
      | 25, ho =>
        cases ho
        have e24 : f 24 = .bool true := hg 24 (by omega) (hdep ⟨24, .guard⟩ (by simp) rfl)
        have HH := Lib.hid (ways_pure (fun f => { tmps := #[.agg #[.int .i8 (b1 0), .int .i8 (b1 1), .int .i8 (b1 2), .int .i8 (b1 3), .int .i8 (b1 4), .int .i8 (b1 5), .int .i8 (b1 6), .int .i8 (b1 7)], .agg #[.int .i8 (b2 0), .int .i8 (b2 1), .int .i8 (b2 2), .int .i8 (b2 3), .int .i8 (b2 4), .int .i8 (b2 5), .int .i8 (b2 6), .int .i8 (b2 7)], .agg #[.int .i8 (b3 0), .int .i8 (b3 1), .int .i8 (b3 2), .int .i8 (b3 3), .int .i8 (b3 4), .int .i8 (b3 5), .int .i8 (b3 6), .int .i8 (b3 7)], .slice sa len cap, .pointer (some ⟨w.heap.size, 0, none⟩), .pointer (some ⟨w.heap.size + 1, 0, none⟩), .pointer (some ⟨w.heap.size + 1 + 1, 0, none⟩), undef, f 30, .pointer (some ⟨pa, 0, none⟩), .pointer (some ⟨pb, 0, none⟩), .pointer (some ⟨pc, 0, none⟩), .slice (some ⟨gp, 0, none⟩) n cp, .slice (some ⟨gt, 0, none⟩) n ct, .slice sa len cap, .int .i64 (len : Int), .bool (decide ((2147483647 : Int) < (len : Int))), L 0, K 0, L 1, K 1, L 2, K 2, .agg #[fv A.x0, fv A.y0, fv A.x1, fv A.y1, fv A.x2, fv A.y2, fv A.x3, fv A.y3], .slice sa len cap, .slice (some ⟨gp, 0, none⟩) n cp, .agg #[fv A.x0, fv A.y0, fv A.x1, fv A.y1, fv A.x2, fv A.y2, fv A.x3, fv A.y3], .agg #[fv B.x0, fv B.y0, fv B.x1, fv B.y1, fv B.x2, fv B.y2, fv B.x3, fv B.y3], .slice (some ⟨gp, 0, none⟩) n cp, .slice (some ⟨gt, 0, none⟩) n ct, f 0, f 1, f 2, f 3, f 4, f 5, f 6, f 7, f 8, f 9, f 10, f 11, f 12, f 13, f 14, f 15, f 16, f 17, f 18, f 19, f 20, f 21, f 22, f 23, f 24, f 25, f 26, f 27, f 28, f 29], defers := [] }) 25 (good_upd hg 24) hK hvp hvt hb hv hd)
        clear hg hK hvp hvt hb hv hd hdep hS
        refine wpOp_step (by rfl) (fun KK hKK => ?_)
        go_simp
        exact hKK _ _ HH.out
      | 26, ho =>
        cases ho
        have e24 : f 24 = .bool true := hg 24 (by omega) (hdep ⟨24, .guard⟩ (by simp) rfl)
        have e25 : f 25 = .slice (some ⟨gt, 0, none⟩) n ct := hg 25 (by omega) (hdep ⟨25, .data⟩ (by simp) rfl)
        have HH := Lib.hid (ways_pure (fun f => { tmps := #[.agg #[.int .i8 (b1 0), .int .i8 (b1 1), .int .i8 (b1 2), .int .i8 (b1 3), .int .i8 (b1 4), .int .i8 (b1 5), .int .i8 (b1 6), .int .i8 (b1 7)], .agg #[.int .i8 (b2 0), .int .i8 (b2 1), .int .i8 (b2 2), .int .i8 (b2 3), .int .i8 (b2 4), .int .i8 (b2 5), .int .i8 (b2 6), .int .i8 (b2 7)], .agg #[.int .i8 (b3 0), .int .i8 (b3 1), .int .i8 (b3 2), .int .i8 (b3 3), .int .i8 (b3 4), .int .i8 (b3 5), .int .i8 (b3 6), .int .i8 (b3 7)], .slice sa len cap, .pointer (some ⟨w.heap.size, 0, none⟩), .pointer (some ⟨w.heap.size + 1, 0, none⟩), .pointer (some ⟨w.heap.size + 1 + 1, 0, none⟩), undef, f 30, .pointer (some ⟨pa, 0, none⟩), .pointer (some ⟨pb, 0, none⟩), .pointer (some ⟨pc, 0, none⟩), .slice (some ⟨gp, 0, none⟩) n cp, .slice (some ⟨gt, 0, none⟩) n ct, .slice sa len cap, .int .i64 (len : Int), .bool (decide ((2147483647 : Int) < (len : Int))), L 0, K 0, L 1, K 1, L 2, K 2, .agg #[fv A.x0, fv A.y0, fv A.x1, fv A.y1, fv A.x2, fv A.y2, fv A.x3, fv A.y3], .slice sa len cap, .slice (some ⟨gp, 0, none⟩) n cp, .agg #[fv A.x0, fv A.y0, fv A.x1, fv A.y1, fv A.x2, fv A.y2, fv A.x3, fv A.y3], .agg #[fv B.x0, fv B.y0, fv B.x1, fv B.y1, fv B.x2, fv B.y2, fv B.x3, fv B.y3], .slice (some ⟨gp, 0, none⟩) n cp, .slice (some ⟨gt, 0, none⟩) n ct, f 0, f 1, f 2, f 3, f 4, f 5, f 6, f 7, f 8, f 9, f 10, f 11, f 12, f 13, f 14, f 15, f 16, f 17, f 18, f 19, f 20, f 21, f 22, f 23, f 24, f 25, f 26, f 27, f 28, f 29], defers := [] }) 26 (good_upd (good_upd hg 24) 25) hK hvp hvt hb hv hd)
        clear hg hK hvp hvt hb hv hd hdep hS
        refine wpOp_step (by rfl) (fun KK hKK => ?_)
        go_simp
        exact hKK _ _ HH.out
      | 27, ho =>
        cases ho
        have e24 : f 24 = .bool true := hg 24 (by omega) (hdep ⟨24, .guard⟩ (by simp) rfl)
        have HH := Lib.hid (ways_pure (fun f => { tmps := #[.agg #[.int .i8 (b1 0), .int .i8 (b1 1), .int .i8 (b1 2), .int .i8 (b1 3), .int .i8 (b1 4), .int .i8 (b1 5), .int .i8 (b1 6), .int .i8 (b1 7)], .agg #[.int .i8 (b2 0), .int .i8 (b2 1), .int .i8 (b2 2), .int .i8 (b2 3), .int .i8 (b2 4), .int .i8 (b2 5), .int .i8 (b2 6), .int .i8 (b2 7)], .agg #[.int .i8 (b3 0), .int .i8 (b3 1), .int .i8 (b3 2), .int .i8 (b3 3), .int .i8 (b3 4), .int .i8 (b3 5), .int .i8 (b3 6), .int .i8 (b3 7)], .slice sa len cap, .pointer (some ⟨w.heap.size, 0, none⟩), .pointer (some ⟨w.heap.size + 1, 0, none⟩), .pointer (some ⟨w.heap.size + 1 + 1, 0, none⟩), undef, f 30, .pointer (some ⟨pa, 0, none⟩), .pointer (some ⟨pb, 0, none⟩), .pointer (some ⟨pc, 0, none⟩), .slice (some ⟨gp, 0, none⟩) n cp, .slice (some ⟨gt, 0, none⟩) n ct, .slice sa len cap, .int .i64 (len : Int), .bool (decide ((2147483647 : Int) < (len : Int))), L 0, K 0, L 1, K 1, L 2, K 2, .agg #[fv A.x0, fv A.y0, fv A.x1, fv A.y1, fv A.x2, fv A.y2, fv A.x3, fv A.y3], .slice sa len cap, .slice (some ⟨gp, 0, none⟩) n cp, .agg #[fv A.x0, fv A.y0, fv A.x1, fv A.y1, fv A.x2, fv A.y2, fv A.x3, fv A.y3], .agg #[fv B.x0, fv B.y0, fv B.x1, fv B.y1, fv B.x2, fv B.y2, fv B.x3, fv B.y3], .slice (some ⟨gp, 0, none⟩) n cp, .slice (some ⟨gt, 0, none⟩) n ct, f 0, f 1, f 2, f 3, f 4, f 5, f 6, f 7, f 8, f 9, f 10, f 11, f 12, f 13, f 14, f 15, f 16, f 17, f 18, f 19, f 20, f 21, f 22, f 23, f 24, f 25, f 26, f 27, f 28, f 29], defers := [] }) 27 (good_upd hg 24) hK hvp hvt hb hv hd)
        clear hg hK hvp hvt hb hv hd hdep hS
        refine wpOp_step (by rfl) (fun KK hKK => ?_)
        go_simp
        exact hKK _ _ HH.out
      | 28, ho =>
        cases ho
        have e24 : f 24 = .bool true := hg 24 (by omega) (hdep ⟨24, .guard⟩ (by simp) rfl)
        have e26 : f 26 = .slice (some ⟨gt, 0, none⟩) 4 ct := hg 26 (by omega) (hdep ⟨26, .data⟩ (by simp) rfl)
        have e27 : f 27 = .slice (some ⟨pb, 0, none⟩) 4 4 := hg 27 (by omega) (hdep ⟨27, .data⟩ (by simp) rfl)
        have HH := Lib.hid (fun m => ways_near (fun f => { tmps := #[.agg #[.int .i8 (b1 0), .int .i8 (b1 1), .int .i8 (b1 2), .int .i8 (b1 3), .int .i8 (b1 4), .int .i8 (b1 5), .int .i8 (b1 6), .int .i8 (b1 7)], .agg #[.int .i8 (b2 0), .int .i8 (b2 1), .int .i8 (b2 2), .int .i8 (b2 3), .int .i8 (b2 4), .int .i8 (b2 5), .int .i8 (b2 6), .int .i8 (b2 7)], .agg #[.int .i8 (b3 0), .int .i8 (b3 1), .int .i8 (b3 2), .int .i8 (b3 3), .int .i8 (b3 4), .int .i8 (b3 5), .int .i8 (b3 6), .int .i8 (b3 7)], .slice sa len cap, .pointer (some ⟨w.heap.size, 0, none⟩), .pointer (some ⟨w.heap.size + 1, 0, none⟩), .pointer (some ⟨w.heap.size + 1 + 1, 0, none⟩), undef, f 30, .pointer (some ⟨pa, 0, none⟩), .pointer (some ⟨pb, 0, none⟩), .pointer (some ⟨pc, 0, none⟩), .slice (some ⟨gp, 0, none⟩) n cp, .slice (some ⟨gt, 0, none⟩) n ct, .slice sa len cap, .int .i64 (len : Int), .bool (decide ((2147483647 : Int) < (len : Int))), L 0, K 0, L 1, K 1, L 2, K 2, .agg #[fv A.x0, fv A.y0, fv A.x1, fv A.y1, fv A.x2, fv A.y2, fv A.x3, fv A.y3], .slice sa len cap, .slice (some ⟨gp, 0, none⟩) n cp, .agg #[fv A.x0, fv A.y0, fv A.x1, fv A.y1, fv A.x2, fv A.y2, fv A.x3, fv A.y3], .agg #[fv B.x0, fv B.y0, fv B.x1, fv B.y1, fv B.x2, fv B.y2, fv B.x3, fv B.y3], .slice (some ⟨gp, 0, none⟩) n cp, .slice (some ⟨gt, 0, none⟩) n ct, f 0, f 1, f 2, f 3, f 4, f 5, f 6, f 7, f 8, f 9, f 10, f 11, f 12, f 13, f 14, f 15, f 16, f 17, f 18, f 19, f 20, f 21, f 22, f 23, f 24, f 25, f 26, f 27, f 28, f 29], defers := [] }) 28 (good_upd (good_upd (good_upd hg 24) 26) 27) hK hvp hvt hb hv hd m)
        have HC := Lib.hid (near_quad hn hvt hK.hb n3)
        clear hg hK hvp hvt hb hv hd hdep hS
        refine wpOp_step (by rfl) (fun KK hKK => ?_)
        go_simp
        refine HC.out.mono ?_
        rintro e w' ⟨rfl, m, rfl⟩
        exact hKK _ _ (HH.out m)
      | 29, ho =>
        cases ho
        have e24 : f 24 = .bool true := hg 24 (by omega) (hdep ⟨24, .data⟩ (by simp) rfl)
        have e28 : f 28 = .bool true := hg 28 (by omega) (hdep ⟨28, .data⟩ (by simp) rfl)
        have HH := Lib.hid (ways_pure (fun f => { tmps := #[.agg #[.int .i8 (b1 0), .int .i8 (b1 1), .int .i8 (b1 2), .int .i8 (b1 3), .int .i8 (b1 4), .int .i8 (b1 5), .int .i8 (b1 6), .int .i8 (b1 7)], .agg #[.int .i8 (b2 0), .int .i8 (b2 1), .int .i8 (b2 2), .int .i8 (b2 3), .int .i8 (b2 4), .int .i8 (b2 5), .int .i8 (b2 6), .int .i8 (b2 7)], .agg #[.int .i8 (b3 0), .int .i8 (b3 1), .int .i8 (b3 2), .int .i8 (b3 3), .int .i8 (b3 4), .int .i8 (b3 5), .int .i8 (b3 6), .int .i8 (b3 7)], .slice sa len cap, .pointer (some ⟨w.heap.size, 0, none⟩), .pointer (some ⟨w.heap.size + 1, 0, none⟩), .pointer (some ⟨w.heap.size + 1 + 1, 0, none⟩), undef, f 30, .pointer (some ⟨pa, 0, none⟩), .pointer (some ⟨pb, 0, none⟩), .pointer (some ⟨pc, 0, none⟩), .slice (some ⟨gp, 0, none⟩) n cp, .slice (some ⟨gt, 0, none⟩) n ct, .slice sa len cap, .int .i64 (len : Int), .bool (decide ((2147483647 : Int) < (len : Int))), L 0, K 0, L 1, K 1, L 2, K 2, .agg #[fv A.x0, fv A.y0, fv A.x1, fv A.y1, fv A.x2, fv A.y2, fv A.x3, fv A.y3], .slice sa len cap, .slice (some ⟨gp, 0, none⟩) n cp, .agg #[fv A.x0, fv A.y0, fv A.x1, fv A.y1, fv A.x2, fv A.y2, fv A.x3, fv A.y3], .agg #[fv B.x0, fv B.y0, fv B.x1, fv B.y1, fv B.x2, fv B.y2, fv B.x3, fv B.y3], .slice (some ⟨gp, 0, none⟩) n cp, .slice (some ⟨gt, 0, none⟩) n ct, f 0, f 1, f 2, f 3, f 4, f 5, f 6, f 7, f 8, f 9, f 10, f 11, f 12, f 13, f 14, f 15, f 16, f 17, f 18, f 19, f 20, f 21, f 22, f 23, f 24, f 25, f 26, f 27, f 28, f 29], defers := [] }) 29 (good_upd (good_upd hg 24) 28) hK hvp hvt hb hv hd)
        clear hg hK hvp hvt hb hv hd hdep hS
        refine wpOp_step (by rfl) (fun KK hKK => ?_)
        go_simp
        exact hKK _ _ HH.out
      | 30, ho =>
        cases ho
        have e29 : f 29 = .bool true := hg 29 (by omega) (hdep ⟨29, .data⟩ (by simp) rfl)
        have HH := Lib.hid (ways_pure (fun f => { tmps := #[.agg #[.int .i8 (b1 0), .int .i8 (b1 1), .int .i8 (b1 2), .int .i8 (b1 3), .int .i8 (b1 4), .int .i8 (b1 5), .int .i8 (b1 6), .int .i8 (b1 7)], .agg #[.int .i8 (b2 0), .int .i8 (b2 1), .int .i8 (b2 2), .int .i8 (b2 3), .int .i8 (b2 4), .int .i8 (b2 5), .int .i8 (b2 6), .int .i8 (b2 7)], .agg #[.int .i8 (b3 0), .int .i8 (b3 1), .int .i8 (b3 2), .int .i8 (b3 3), .int .i8 (b3 4), .int .i8 (b3 5), .int .i8 (b3 6), .int .i8 (b3 7)], .slice sa len cap, .pointer (some ⟨w.heap.size, 0, none⟩), .pointer (some ⟨w.heap.size + 1, 0, none⟩), .pointer (some ⟨w.heap.size + 1 + 1, 0, none⟩), undef, f 30, .pointer (some ⟨pa, 0, none⟩), .pointer (some ⟨pb, 0, none⟩), .pointer (some ⟨pc, 0, none⟩), .slice (some ⟨gp, 0, none⟩) n cp, .slice (some ⟨gt, 0, none⟩) n ct, .slice sa len cap, .int .i64 (len : Int), .bool (decide ((2147483647 : Int) < (len : Int))), L 0, K 0, L 1, K 1, L 2, K 2, .agg #[fv A.x0, fv A.y0, fv A.x1, fv A.y1, fv A.x2, fv A.y2, fv A.x3, fv A.y3], .slice sa len cap, .slice (some ⟨gp, 0, none⟩) n cp, .agg #[fv A.x0, fv A.y0, fv A.x1, fv A.y1, fv A.x2, fv A.y2, fv A.x3, fv A.y3], .agg #[fv B.x0, fv B.y0, fv B.x1, fv B.y1, fv B.x2, fv B.y2, fv B.x3, fv B.y3], .slice (some ⟨gp, 0, none⟩) n cp, .slice (some ⟨gt, 0, none⟩) n ct, f 0, f 1, f 2, f 3, f 4, f 5, f 6, f 7, f 8, f 9, f 10, f 11, f 12, f 13, f 14, f 15, f 16, f 17, f 18, f 19, f 20, f 21, f 22, f 23, f 24, f 25, f 26, f 27, f 28, f 29], defers := [] }) 30 (good_upd hg 29) hK hvp hvt hb hv hd)
        clear hg hK hvp hvt hb hv hd hdep hS
        refine wpOp_step (by rfl) (fun KK hKK => ?_)
        go_simp
        exact hKK _ _ HH.out
      | j + 31, ho => simp at ho
  · intro S i o ho hS hdep a wx hI
    obtain ⟨L, K, V, p, rfl, h⟩ := hI
    have Y0 : wx.heap[w.heap.size]? = some (.cells #[.int .i8 (b1 0), .int .i8 (b1 1), .int .i8 (b1 2), .int .i8 (b1 3), .int .i8 (b1 4), .int .i8 (b1 5), .int .i8 (b1 6), .int .i8 (b1 7)] 23) := by rw [h.below.block _ (by omega)]; exact hX0
    have Y1 : wx.heap[w.heap.size + 1]? = some (.cells #[.int .i8 (b2 0), .int .i8 (b2 1), .int .i8 (b2 2), .int .i8 (b2 3), .int .i8 (b2 4), .int .i8 (b2 5), .int .i8 (b2 6), .int .i8 (b2 7)] 23) := by rw [h.below.block _ (by omega)]; exact hX1
    have Y2 : wx.heap[w.heap.size + 1 + 1]? = some (.cells #[.int .i8 (b3 0), .int .i8 (b3 1), .int .i8 (b3 2), .int .i8 (b3 3), .int .i8 (b3 4), .int .i8 (b3 5), .int .i8 (b3 6), .int .i8 (b3 7)] 23) := by rw [h.below.block _ (by omega)]; exact hX2
    clear hX0 hX1 hX2
    match i, ho with
    | 0, ho =>
      cases ho
      have y0 : wx.cell? ⟨w.heap.size, 0, none⟩ = some (.int .i8 (b1 0)) := cell_at_cells Y0 (by rfl)
      have y1 : wx.cell? ⟨w.heap.size, 1, none⟩ = some (.int .i8 (b1 1)) := cell_at_cells Y0 (by rfl)
      have y2 : wx.cell? ⟨w.heap.size, 2, none⟩ = some (.int .i8 (b1 2)) := cell_at_cells Y0 (by rfl)
      have y3 : wx.cell? ⟨w.heap.size, 3, none⟩ = some (.int .i8 (b1 3)) := cell_at_cells Y0 (by rfl)
      have y4 : wx.cell? ⟨w.heap.size, 4, none⟩ = some (.int .i8 (b1 4)) := cell_at_cells Y0 (by rfl)
      have y5 : wx.cell? ⟨w.heap.size, 5, none⟩ = some (.int .i8 (b1 5)) := cell_at_cells Y0 (by rfl)
      have y6 : wx.cell? ⟨w.heap.size, 6, none⟩ = some (.int .i8 (b1 6)) := cell_at_cells Y0 (by rfl)
      have y7 : wx.cell? ⟨w.heap.size, 7, none⟩ = some (.int .i8 (b1 7)) := cell_at_cells Y0 (by rfl)
      have HH := Lib.hid (inv_load h (i := 0) (by omega))
      clear h Y0 Y1 Y2 hdep hS
      refine wpOp_step (by rfl) (fun KK hK => ?_)
      go_simp
      exact hK _ _ HH.out
    | 1, ho =>
      cases ho
      have d0 : S 0 = true := hdep ⟨0, .data⟩ (by simp) rfl
      have e0 : L 0 = .agg #[.int .i8 (b1 0), .int .i8 (b1 1), .int .i8 (b1 2), .int .i8 (b1 3), .int .i8 (b1 4), .int .i8 (b1 5), .int .i8 (b1 6), .int .i8 (b1 7)] := h.loads 0 (by omega) d0
      have HH := Lib.hid (fun w' hb => inv_call' h (i := 0) (by omega) d0 (w' := w') hb)
      clear h Y0 Y1 Y2 hdep hS d0
      refine wpOp_step (by rfl) (fun KK hK => ?_)
      go_simp
      refine (Q1 _).mono ?_
      rintro e w' ⟨rfl, hb⟩
      exact hK _ _ (HH.out w' hb)
    | 2, ho =>
      cases ho
      have y0 : wx.cell? ⟨w.heap.size + 1, 0, none⟩ = some (.int .i8 (b2 0)) := cell_at_cells Y1 (by rfl)
      have y1 : wx.cell? ⟨w.heap.size + 1, 1, none⟩ = some (.int .i8 (b2 1)) := cell_at_cells Y1 (by rfl)
      have y2 : wx.cell? ⟨w.heap.size + 1, 2, none⟩ = some (.int .i8 (b2 2)) := cell_at_cells Y1 (by rfl)
      have y3 : wx.cell? ⟨w.heap.size + 1, 3, none⟩ = some (.int .i8 (b2 3)) := cell_at_cells Y1 (by rfl)
      have y4 : wx.cell? ⟨w.heap.size + 1, 4, none⟩ = some (.int .i8 (b2 4)) := cell_at_cells Y1 (by rfl)
      have y5 : wx.cell? ⟨w.heap.size + 1, 5, none⟩ = some (.int .i8 (b2 5)) := cell_at_cells Y1 (by rfl)
      have y6 : wx.cell? ⟨w.heap.size + 1, 6, none⟩ = some (.int .i8 (b2 6)) := cell_at_cells Y1 (by rfl)
      have y7 : wx.cell? ⟨w.heap.size + 1, 7, none⟩ = some (.int .i8 (b2 7)) := cell_at_cells Y1 (by rfl)
      have HH := Lib.hid (inv_load h (i := 1) (by omega))
      clear h Y0 Y1 Y2 hdep hS
      refine wpOp_step (by rfl) (fun KK hK => ?_)
      go_simp
      exact hK _ _ HH.out
    | 3, ho =>
      cases ho
      have d0 : S 2 = true := hdep ⟨2, .data⟩ (by simp) rfl
      have e0 : L 1 = .agg #[.int .i8 (b2 0), .int .i8 (b2 1), .int .i8 (b2 2), .int .i8 (b2 3), .int .i8 (b2 4), .int .i8 (b2 5), .int .i8 (b2 6), .int .i8 (b2 7)] := h.loads 1 (by omega) d0
      have HH := Lib.hid (fun w' hb => inv_call' h (i := 1) (by omega) d0 (w' := w') hb)
      clear h Y0 Y1 Y2 hdep hS d0
      refine wpOp_step (by rfl) (fun KK hK => ?_)
      go_simp
      refine (Q2 _).mono ?_
      rintro e w' ⟨rfl, hb⟩
      exact hK _ _ (HH.out w' hb)
    | 4, ho =>
      cases ho
      have y0 : wx.cell? ⟨w.heap.size + 1 + 1, 0, none⟩ = some (.int .i8 (b3 0)) := cell_at_cells Y2 (by rfl)
      have y1 : wx.cell? ⟨w.heap.size + 1 + 1, 1, none⟩ = some (.int .i8 (b3 1)) := cell_at_cells Y2 (by rfl)
      have y2 : wx.cell? ⟨w.heap.size + 1 + 1, 2, none⟩ = some (.int .i8 (b3 2)) := cell_at_cells Y2 (by rfl)
      have y3 : wx.cell? ⟨w.heap.size + 1 + 1, 3, none⟩ = some (.int .i8 (b3 3)) := cell_at_cells Y2 (by rfl)
      have y4 : wx.cell? ⟨w.heap.size + 1 + 1, 4, none⟩ = some (.int .i8 (b3 4)) := cell_at_cells Y2 (by rfl)
      have y5 : wx.cell? ⟨w.heap.size + 1 + 1, 5, none⟩ = some (.int .i8 (b3 5)) := cell_at_cells Y2 (by rfl)
      have y6 : wx.cell? ⟨w.heap.size + 1 + 1, 6, none⟩ = some (.int .i8 (b3 6)) := cell_at_cells Y2 (by rfl)
      have y7 : wx.cell? ⟨w.heap.size + 1 + 1, 7, none⟩ = some (.int .i8 (b3 7)) := cell_at_cells Y2 (by rfl)
      have HH := Lib.hid (inv_load h (i := 2) (by omega))
      clear h Y0 Y1 Y2 hdep hS
      refine wpOp_step (by rfl) (fun KK hK => ?_)
      go_simp
      exact hK _ _ HH.out
    | 5, ho =>
      cases ho
      have d0 : S 4 = true := hdep ⟨4, .data⟩ (by simp) rfl
      have e0 : L 2 = .agg #[.int .i8 (b3 0), .int .i8 (b3 1), .int .i8 (b3 2), .int .i8 (b3 3), .int .i8 (b3 4), .int .i8 (b3 5), .int .i8 (b3 6), .int .i8 (b3 7)] := h.loads 2 (by omega) d0
      have HH := Lib.hid (fun w' hb => inv_call' h (i := 2) (by omega) d0 (w' := w') hb)
      clear h Y0 Y1 Y2 hdep hS d0
      refine wpOp_step (by rfl) (fun KK hK => ?_)
      go_simp
      refine (Q3 _).mono ?_
      rintro e w' ⟨rfl, hb⟩
      exact hK _ _ (HH.out w' hb)
    | 6, ho =>
      cases ho
      have HH := Lib.hid (inv_alloc h (i := 0) (by omega) hS)
      clear h Y0 Y1 Y2 hdep hS
      refine wpOp_step (by rfl) (fun KK hK => ?_)
      go_simp
      exact hK _ _ HH.out
    | 7, ho =>
      cases ho
      have HH := Lib.hid (inv_alloc h (i := 1) (by omega) hS)
      clear h Y0 Y1 Y2 hdep hS
      refine wpOp_step (by rfl) (fun KK hK => ?_)
      go_simp
      exact hK _ _ HH.out
    | 8, ho =>
      cases ho
      have HH := Lib.hid (inv_alloc h (i := 2) (by omega) hS)
      clear h Y0 Y1 Y2 hdep hS
      refine wpOp_step (by rfl) (fun KK hK => ?_)
      go_simp
      exact hK _ _ HH.out
    | 9, ho =>
      cases ho
      have d0 : S 6 = true := hdep ⟨6, .data⟩ (by simp) rfl
      have d1 : S 1 = true := hdep ⟨1, .data⟩ (by simp) rfl
      obtain ⟨e1, _, _, e2⟩ := h.vars 0 (by omega) d0
      have e0 : K 0 = .agg #[fv A.x0, fv A.y0, fv A.x1, fv A.y1, fv A.x2, fv A.y2, fv A.x3, fv A.y3] := h.calls 0 (by omega) d1
      rw [hS] at e2
      have e2 : wx.heap[p 0]? = some (.cells zero8 27) := e2
      obtain ⟨c0, c1, c2, c3, c4, c5, c6, c7, y0, y1, y2, y3, y4, y5, y6, y7⟩ := cell8 rfl e2
      have z0 : wx.frozen? ⟨p 0, 0, none⟩ = false := by simp [World.frozen?, e2]
      have z1 : wx.frozen? ⟨p 0, 1, none⟩ = false := by simp [World.frozen?, e2]
      have z2 : wx.frozen? ⟨p 0, 2, none⟩ = false := by simp [World.frozen?, e2]
      have z3 : wx.frozen? ⟨p 0, 3, none⟩ = false := by simp [World.frozen?, e2]
      have z4 : wx.frozen? ⟨p 0, 4, none⟩ = false := by simp [World.frozen?, e2]
      have z5 : wx.frozen? ⟨p 0, 5, none⟩ = false := by simp [World.frozen?, e2]
      have z6 : wx.frozen? ⟨p 0, 6, none⟩ = false := by simp [World.frozen?, e2]
      have z7 : wx.frozen? ⟨p 0, 7, none⟩ = false := by simp [World.frozen?, e2]
      have F := fill8 (x0 := fv A.x0) (x1 := fv A.y0) (x2 := fv A.x1) (x3 := fv A.y1) (x4 := fv A.x2) (x5 := fv A.y2) (x6 := fv A.x3) (x7 := fv A.y3) rfl e2
      have HH := Lib.hid (inv_store' h (i := 0) (by omega) d0 d1 F.1 F.2)
      clear h Y0 Y1 Y2 hdep hS d0 d1 F e2
      generalize p 0 = pk at *
      refine wpOp_step (by rfl) (fun KK hK => ?_)
      go_simp
      exact hK _ _ HH.out
    | 10, ho =>
      cases ho
      have d0 : S 7 = true := hdep ⟨7, .data⟩ (by simp) rfl
      have d1 : S 3 = true := hdep ⟨3, .data⟩ (by simp) rfl
      obtain ⟨e1, _, _, e2⟩ := h.vars 1 (by omega) d0
      have e0 : K 1 = .agg #[fv B.x0, fv B.y0, fv B.x1, fv B.y1, fv B.x2, fv B.y2, fv B.x3, fv B.y3] := h.calls 1 (by omega) d1
      rw [hS] at e2
      have e2 : wx.heap[p 1]? = some (.cells zero8 27) := e2
      obtain ⟨c0, c1, c2, c3, c4, c5, c6, c7, y0, y1, y2, y3, y4, y5, y6, y7⟩ := cell8 rfl e2
      have z0 : wx.frozen? ⟨p 1, 0, none⟩ = false := by simp [World.frozen?, e2]
      have z1 : wx.frozen? ⟨p 1, 1, none⟩ = false := by simp [World.frozen?, e2]
      have z2 : wx.frozen? ⟨p 1, 2, none⟩ = false := by simp [World.frozen?, e2]
      have z3 : wx.frozen? ⟨p 1, 3, none⟩ = false := by simp [World.frozen?, e2]
      have z4 : wx.frozen? ⟨p 1, 4, none⟩ = false := by simp [World.frozen?, e2]
      have z5 : wx.frozen? ⟨p 1, 5, none⟩ = false := by simp [World.frozen?, e2]
      have z6 : wx.frozen? ⟨p 1, 6, none⟩ = false := by simp [World.frozen?, e2]
      have z7 : wx.frozen? ⟨p 1, 7, none⟩ = false := by simp [World.frozen?, e2]
      have F := fill8 (x0 := fv B.x0) (x1 := fv B.y0) (x2 := fv B.x1) (x3 := fv B.y1) (x4 := fv B.x2) (x5 := fv B.y2) (x6 := fv B.x3) (x7 := fv B.y3) rfl e2
      have HH := Lib.hid (inv_store' h (i := 1) (by omega) d0 d1 F.1 F.2)
      clear h Y0 Y1 Y2 hdep hS d0 d1 F e2
      generalize p 1 = pk at *
      refine wpOp_step (by rfl) (fun KK hK => ?_)
      go_simp
      exact hK _ _ HH.out
    | 11, ho =>
      cases ho
      have d0 : S 8 = true := hdep ⟨8, .data⟩ (by simp) rfl
      have d1 : S 5 = true := hdep ⟨5, .data⟩ (by simp) rfl
      obtain ⟨e1, _, _, e2⟩ := h.vars 2 (by omega) d0
      have e0 : K 2 = .agg #[fv C.x0, fv C.y0, fv C.x1, fv C.y1, fv C.x2, fv C.y2, fv C.x3, fv C.y3] := h.calls 2 (by omega) d1
      rw [hS] at e2
      have e2 : wx.heap[p 2]? = some (.cells zero8 27) := e2
      obtain ⟨c0, c1, c2, c3, c4, c5, c6, c7, y0, y1, y2, y3, y4, y5, y6, y7⟩ := cell8 rfl e2
      have z0 : wx.frozen? ⟨p 2, 0, none⟩ = false := by simp [World.frozen?, e2]
      have z1 : wx.frozen? ⟨p 2, 1, none⟩ = false := by simp [World.frozen?, e2]
      have z2 : wx.frozen? ⟨p 2, 2, none⟩ = false := by simp [World.frozen?, e2]
      have z3 : wx.frozen? ⟨p 2, 3, none⟩ = false := by simp [World.frozen?, e2]
      have z4 : wx.frozen? ⟨p 2, 4, none⟩ = false := by simp [World.frozen?, e2]
      have z5 : wx.frozen? ⟨p 2, 5, none⟩ = false := by simp [World.frozen?, e2]
      have z6 : wx.frozen? ⟨p 2, 6, none⟩ = false := by simp [World.frozen?, e2]
      have z7 : wx.frozen? ⟨p 2, 7, none⟩ = false := by simp [World.frozen?, e2]
      have F := fill8 (x0 := fv C.x0) (x1 := fv C.y0) (x2 := fv C.x1) (x3 := fv C.y1) (x4 := fv C.x2) (x5 := fv C.y2) (x6 := fv C.x3) (x7 := fv C.y3) rfl e2
      have HH := Lib.hid (inv_store' h (i := 2) (by omega) d0 d1 F.1 F.2)
      clear h Y0 Y1 Y2 hdep hS d0 d1 F e2
      generalize p 2 = pk at *
      refine wpOp_step (by rfl) (fun KK hK => ?_)
      go_simp
      exact hK _ _ HH.out
    | j + 12, ho => simp at ho

end Go.Proofs.Ytaadklfendegfaa
