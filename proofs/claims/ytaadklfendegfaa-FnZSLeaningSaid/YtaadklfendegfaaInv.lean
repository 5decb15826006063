/- A region that draws its order, shown by what holds whichever of its operations have been done. -/
import Derived.Test.YtaadklfendegfaaFast
namespace Go.Proofs.Ytaadklfendegfaa
open Go

/-- the operations that are done, with one more -/
def more (S : Nat → Bool) (i : Nat) : Nat → Bool := fun j => S j || j == i

theorem getD_set_at {listed : Array Bool} {i : Nat} (h : i < listed.size) (d : Bool) : (listed.setIfInBounds i true).getD i d = true := by
  simp [Array.getD, h]

theorem wpAny_inv {P : Program} {Q : Exit → Act → World → Prop} {ops : Array Oper} (Inv : (Nat → Bool) → Act → World → Prop)
    (hstep : ∀ (S : Nat → Bool) (i : Nat) (o : Oper), ops[i]? = some o → S i = false → (∀ e ∈ o.after, Region.binds .any e = true → S e.on = true) → ∀ a w, Inv S a w → wpOp P ops Q i (Inv (more S i)) a w)
    (hend : ∀ S : Nat → Bool, (∀ i, i < ops.size → S i = true) → ∀ a w, Inv S a w → Q .normal a w)
    (hback : ∀ i o, ops[i]? = some o → ∀ e ∈ o.after, Region.binds .any e = true → e.on < i) :
    ∀ (fuel : Nat) (listed : Array Bool) (a : Act) (w : World), listed.size = ops.size → ((List.range ops.size).filter fun i => !listed.getD i true).length ≤ fuel →
      Inv (fun i => listed.getD i false) a w → wpAny P .any ops Q fuel listed a w := by
  have ready_ne : ∀ listed : Array Bool, listed.size = ops.size → ∀ i, i < ops.size → listed.getD i true = false → Region.ready .any ops listed ≠ [] := by
    intro listed hsz i
    induction i using Nat.strongRecOn with
    | _ i ih =>
      intro hi hl
      by_cases hr : i ∈ Region.ready .any ops listed
      · intro h0; rw [h0] at hr; cases hr
      · have hget : ops[i]? = some ops[i] := by simp [hi]
        rw [mem_ready] at hr
        have : ∃ e ∈ ops[i].after, Region.binds .any e = true ∧ listed.getD e.on false = false := by
          apply Classical.byContradiction
          intro hc
          apply hr
          refine ⟨hl, ops[i], hget, fun e he hb => ?_⟩
          cases hx : listed.getD e.on false with
          | true => rfl
          | false => exact absurd ⟨e, he, hb, hx⟩ hc
        obtain ⟨e, he, hb, hx⟩ := this
        have hlt := hback i _ hget e he hb
        exact ih e.on hlt (by omega) (getD_in (by rw [hsz]; omega) hx)
  intro fuel
  induction fuel with
  | zero =>
    intro listed a w hsz hf hinv
    have hnil : (List.range ops.size).filter (fun i => !listed.getD i true) = [] := List.length_eq_zero_iff.1 (by omega)
    have hall : ∀ i, i < ops.size → listed.getD i true = true := by
      intro i hi
      rw [List.filter_eq_nil_iff] at hnil
      have := hnil i (List.mem_range.2 hi)
      simpa using this
    have hr : Region.ready .any ops listed = [] := by
      rw [List.eq_nil_iff_forall_not_mem]
      intro j hj
      rw [mem_ready] at hj
      obtain ⟨h1, o, h2, _⟩ := hj
      have hj' : j < ops.size := (Array.getElem?_eq_some_iff.1 h2).1
      rw [hall j hj'] at h1
      cases h1
    refine ⟨hr, hend _ (fun i hi => ?_) a w hinv⟩
    have := hall i hi
    cases hx : listed.getD i false with
    | true => rfl
    | false => rw [getD_in (by rw [hsz]; exact hi) hx] at this; cases this
  | succ fuel ih =>
    intro listed a w hsz hf hinv
    refine ⟨fun hr => hend _ (fun i hi => ?_) a w hinv, fun i hi => ?_⟩
    · cases hx : listed.getD i false with
      | true => rfl
      | false => exact absurd hr (ready_ne listed hsz i hi (getD_in (by rw [hsz]; exact hi) hx))
    · rw [mem_ready] at hi
      obtain ⟨hl, o, ho, hdeps⟩ := hi
      have hilt : i < ops.size := (Array.getElem?_eq_some_iff.1 ho).1
      have hS : listed.getD i false = false := by
        cases hx : listed.getD i false with
        | false => rfl
        | true =>
          have h2 : i < listed.size := by rw [hsz]; exact hilt
          simp [Array.getD, h2] at hx hl
          rw [hx] at hl; cases hl
      refine wpOp_mono (fun a' w' h' => ?_) (hstep _ i o ho hS (fun e he hb => hdeps e he hb) a w hinv)
      refine ih _ a' w' (by simp [hsz]) ?_ ?_
      · have hle : ((List.range ops.size).filter fun j => !(listed.setIfInBounds i true).getD j true).length < ((List.range ops.size).filter fun j => !listed.getD j true).length := by
          have hsub : ((List.range ops.size).filter fun j => !(listed.setIfInBounds i true).getD j true) = ((List.range ops.size).filter fun j => !listed.getD j true).filter (fun j => j != i) := by
            rw [List.filter_filter]
            apply List.filter_congr
            intro j hj
            by_cases hji : i = j
            · subst hji
              rw [getD_set_at (by rw [hsz]; exact hilt)]
              simp
            · rw [getD_set_ne true hji]
              have : (j != i) = true := by simp; omega
              rw [this]; simp
          rw [hsub]
          have hmem : i ∈ (List.range ops.size).filter fun j => !listed.getD j true := by
            rw [List.mem_filter]; exact ⟨List.mem_range.2 hilt, by simp [hl]⟩
          exact List.length_filter_lt_length_iff_exists.2 ⟨i, hmem, by simp⟩
        omega
      · have : (fun j => (listed.setIfInBounds i true).getD j false) = more (fun j => listed.getD j false) i := by
          funext j
          unfold more
          by_cases hji : i = j
          · subst hji
            rw [getD_set_at (by rw [hsz]; exact hilt)]
            simp
          · rw [getD_set_ne false hji]
            have : (j == i) = false := by simp; omega
            rw [this]; simp
        rw [this]
        exact h'

/-- the edges lead back -/
def backB : Nat → List Oper → Bool
  | _, [] => true
  | k, o :: r => (o.after.toList.all fun e => !Region.binds .any e || Nat.blt e.on k) && backB (k + 1) r

theorem backB_at : ∀ {l : List Oper} {k : Nat}, backB k l = true → ∀ j o, l[j]? = some o → ∀ e ∈ o.after, Region.binds .any e = true → e.on < k + j
  | [], _, _, j, o, h => by simp at h
  | x :: r, k, h, j, o, ho => by
    simp only [backB, Bool.and_eq_true] at h
    cases j with
    | zero =>
      simp at ho; subst ho
      intro e he hb
      have h1 := h.1
      rw [List.all_eq_true] at h1
      have := h1 e (Array.mem_toList_iff.2 he)
      rw [hb] at this
      simpa using this
    | succ j =>
      have := backB_at h.2 j o (by simpa using ho)
      intro e he hb
      have := this e he hb
      omega

/-- the rule -/
theorem wp_region_inv {P : Program} {id : Nat} {Q : Exit → Act → World → Prop} {a : Act} {w : World} {l : List Oper} (hm : P.follows .mixedOrders = true) (hb : backB 0 l = true) (Inv : (Nat → Bool) → Act → World → Prop)
    (h0 : Inv (fun _ => false) a w.drew)
    (hend : ∀ S : Nat → Bool, (∀ i, i < l.length → S i = true) → ∀ a w, Inv S a w → Q .normal a w)
    (hstep : ∀ (S : Nat → Bool) (i : Nat) (o : Oper), l[i]? = some o → S i = false → (∀ e ∈ o.after, Region.binds .any e = true → S e.on = true) → ∀ a w, Inv S a w → wpOp P l.toArray Q i (Inv (more S i)) a w) :
    (Code.region id l.toArray true).wp P Q a w := by
  refine wp_region_any hm (wpAny_inv Inv (fun S i o ho => hstep S i o (by simpa using ho)) (fun S h => hend S (by simpa using h)) (fun i o ho e he hbb => ?_) _ _ _ _ (by simp) ?_ ?_)
  · have := backB_at hb i o (by simpa using ho) e he hbb
    omega
  · refine Nat.le_trans (List.length_filter_le _ _) (by simp)
  · have e : (fun i => (Array.replicate l.toArray.size false).getD i false) = fun _ => false := by
      funext i
      exact getD_replicate_false _ _
    rw [e]
    exact h0

end Go.Proofs.Ytaadklfendegfaa
