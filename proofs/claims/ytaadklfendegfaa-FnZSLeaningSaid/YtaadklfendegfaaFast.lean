/- A region that draws its order, all of whose operations but the last few only read: a check that costs little, and the walk in the order of the text. -/
import Derived.StillTailTactics
import Derived.KernelRfl
namespace Go.Proofs.Ytaadklfendegfaa
open Go

/-- the slots that an operation reads -/
def tmpsOf (o : Oper) : List Tmp := o.op.operands.toList.filterMap fun | .tmp t => some t | _ => none

/-- one operation at place k: its edges lead back; it has no guard, is no select; if it is of the head, it writes slot d + k and reads slots below d, or such as it waits for; one of the tail writes none of the head's slots -/
def opOk (d n k : Nat) (o : Oper) : Bool :=
  o.guard.isNone && (match o.op with | .select .. => false | _ => true) &&
  (o.after.toList.all fun e => !Region.binds .any e || Nat.blt e.on k) &&
  (tmpsOf o).all (fun t => Nat.blt t d || (o.after.toList.any fun e => Region.binds .any e && Nat.beq (d + e.on) t) || Nat.ble (d + n) t) &&
  (if Nat.blt k n then (match o.dst with | some s => Nat.beq s (d + k) | none => false) && (tmpsOf o).all (fun t => Nat.blt t (d + k)) else (match o.dst with | some s => Nat.blt s d || Nat.ble (d + n) s | none => true))

def allOk (d n : Nat) : Nat → List Oper → Bool
  | _, [] => true
  | k, o :: r => opOk d n k o && allOk d n (k + 1) r

/-- the head's operations do not read a slot that the tail writes -/
def tailDst (n : Nat) (l : List Oper) : List Tmp := (l.drop n).filterMap (·.dst)

def onsOf (l : List Oper) : List Nat := l.flatMap fun o => o.after.toList.filterMap fun e => if Region.binds .any e then some e.on else none

def fastB (d n : Nat) (l : List Oper) : Bool :=
  Nat.blt n l.length && allOk d n 0 l &&
  (let ons := onsOf (l.take (n + 1)); (List.range n).all fun i => ons.any (Nat.beq i)) &&
  (let td := tailDst n l; (l.take n).all fun o => (tmpsOf o).all fun t => !td.any (Nat.beq t)) &&
  (((List.range l.length).drop (n + 1)).all fun t => Region.waitsFor .any l.toArray t (t - 1))

theorem allOk_at {d n : Nat} : ∀ {l : List Oper} {k : Nat}, allOk d n k l = true → ∀ j o, l[j]? = some o → opOk d n (k + j) o = true
  | [], _, _, j, o, h => by simp at h
  | x :: r, k, h, j, o, ho => by
    simp only [allOk, Bool.and_eq_true] at h
    cases j with
    | zero => simp at ho; subst ho; exact h.1
    | succ j => have := allOk_at h.2 j o (by simpa using ho); rwa [show k + (j + 1) = k + 1 + j by omega]

structure OpFacts (d n k : Nat) (o : Oper) : Prop where
  guard : o.guard = none
  sel : (match o.op with | .select .. => false | _ => true) = true
  back : ∀ e ∈ o.after, Region.binds .any e = true → e.on < k
  reads : ∀ t ∈ tmpsOf o, t < d ∨ (∃ e ∈ o.after, Region.binds .any e = true ∧ d + e.on = t) ∨ d + n ≤ t
  head : k < n → o.dst = some (d + k) ∧ ∀ t ∈ tmpsOf o, t < d + k
  tail : ¬ k < n → ∀ s, o.dst = some s → s < d ∨ d + n ≤ s

theorem opOk_facts {d n k : Nat} {o : Oper} (h : opOk d n k o = true) : OpFacts d n k o := by
  unfold opOk at h
  simp only [Bool.and_eq_true, List.all_eq_true, Bool.or_eq_true, List.any_eq_true, Nat.blt_eq, Nat.ble_eq, Nat.beq_eq, Option.isNone_iff_eq_none] at h
  obtain ⟨⟨⟨⟨h1, h2⟩, h3⟩, h4⟩, h5⟩ := h
  refine ⟨h1, h2, fun e he hb => ?_, fun t ht => ?_, fun hk => ?_, fun hk s hs => ?_⟩
  · have := h3 e (Array.mem_toList_iff.2 he)
    rcases this with h | h
    · rw [hb] at h; simp at h
    · exact h
  · rcases h4 t ht with (h | ⟨e, he, hb, hq⟩) | h
    · exact Or.inl h
    · exact Or.inr (Or.inl ⟨e, Array.mem_toList_iff.1 he, hb, hq⟩)
    · exact Or.inr (Or.inr h)
  · rw [if_pos hk] at h5
    simp only [Bool.and_eq_true, List.all_eq_true, Nat.blt_eq] at h5
    refine ⟨?_, h5.2⟩
    cases hd : o.dst with
    | none => rw [hd] at h5; simp at h5
    | some s => rw [hd] at h5; simp at h5; rw [h5.1]
  · rw [if_neg hk, hs] at h5
    simpa using h5

theorem looks_eq {ops : Array Oper} {o : Oper} (h : o.guard = none) : o.looksAt ops = tmpsOf o := by
  unfold Oper.looksAt tmpsOf; rw [h]; simp only [List.append_nil]; congr 1

/-- the first k are listed -/
def upTo (size k : Nat) (listed : Array Bool) : Prop := listed.size = size ∧ ∀ j, j < size → ∀ x, listed.getD j x = decide (j < k)

theorem upTo_zero (size : Nat) : upTo size 0 (Array.replicate size false) := by
  refine ⟨by simp, fun j hj x => ?_⟩
  simp [hj]

theorem upTo_set {size k : Nat} {listed : Array Bool} (h : upTo size k listed) : upTo size (k + 1) (listed.setIfInBounds k true) := by
  refine ⟨by simp [h.1], fun j hj x => ?_⟩
  have := h.2 j hj x
  by_cases hjk : k = j
  · subst hjk
    simp [h.1, hj]
  · rw [getD_set_ne x hjk, this]
    have : (j < k) ↔ (j < k + 1) := by omega
    simp [this]

theorem filter_one {n k : Nat} (p : Nat → Bool) (hk : k < n) (h : ∀ i, i < n → (p i = true ↔ i = k)) : (List.range n).filter p = [k] := by
  induction n with
  | zero => omega
  | succ n ih =>
    rw [List.range_succ, List.filter_append]
    by_cases hkn : k = n
    · subst hkn
      have e1 : (List.range k).filter p = [] := by
        rw [List.filter_eq_nil_iff]
        intro a ha hp
        have ha := List.mem_range.1 ha
        have := (h a (by omega)).1 hp
        omega
      have e2 : p k = true := (h k (by omega)).2 rfl
      simp [e1, e2]
    · rw [ih (by omega) (fun i hi => h i (by omega))]
      have e2 : p n = false := by
        cases hp : p n with
        | false => rfl
        | true => have := (h n (by omega)).1 hp; omega
      simp [e2]

section
variable {d n : Nat} {l : List Oper}

theorem fast_seq (hn : n < l.length) (hops : ∀ j o, l[j]? = some o → OpFacts d n j o) (hc : ∀ t, n < t → t < l.length → Region.waitsFor .any l.toArray t (t - 1) = true) :
    ∀ (g k : Nat) (listed : Array Bool), k + g = l.length → n ≤ k → upTo l.length k listed → Region.seqB .any l.toArray g k listed = true
  | 0, k, listed, hk, _, hu => by
    have : k = l.length := by omega
    subst this
    simp only [Region.seqB, Region.ready, List.isEmpty_iff, List.filter_eq_nil_iff, List.size_toArray]
    intro a ha
    have ha := List.mem_range.1 ha
    rw [hu.2 a ha]
    simp [ha]
  | g + 1, k, listed, hk, hnk, hu => by
    have hkl : k < l.length := by omega
    simp only [Region.seqB, Bool.and_eq_true, decide_eq_true_eq]
    refine ⟨?_, fast_seq hn hops hc g (k + 1) _ (by omega) (by omega) (upTo_set hu)⟩
    unfold Region.ready
    rw [List.size_toArray]
    refine filter_one _ hkl (fun i hi => ?_)
    rw [hu.2 i hi]
    have hget : l.toArray[i]? = some l[i] := by simp [hi]
    rw [hget]
    simp only [Option.map_some, Option.getD_some, Bool.and_eq_true, Bool.not_eq_true', decide_eq_false_iff_not, Array.all_eq_true_iff_forall_mem, Bool.or_eq_true]
    constructor
    · intro ⟨h1, h2⟩
      by_cases hik : i = k
      · exact hik
      · exfalso
        obtain ⟨oj, hoj, e, he, hb, hon⟩ := Region.waitsFor_spec (hc i (by omega) hi)
        rw [hget] at hoj
        cases hoj
        have h3 := h2 e he
        rw [hb] at h3
        have hlt : e.on < l.length := by omega
        rw [hu.2 e.on hlt] at h3
        simp at h3
        omega
    · intro hik
      subst hik
      refine ⟨by omega, fun e he => ?_⟩
      cases hb : Region.binds .any e with
      | false => exact Or.inl rfl
      | true =>
        right
        have := (hops i l[i] (by simp [hi])).back e he hb
        rw [hu.2 e.on (by omega)]
        simpa using this

theorem fast_free (hops : ∀ j o, l[j]? = some o → OpFacts d n j o) (htd : ∀ o ∈ l.take n, ∀ t ∈ tmpsOf o, t ∉ tailDst n l) {k : Nat} (hk : k < n) (hkl : k < l.length) {listed : Array Bool} (hu : upTo l.length k listed) :
    Region.free .any l.toArray listed k = true := by
  unfold Region.free
  have hget : l.toArray[k]? = some l[k] := by simp [hkl]
  rw [hget]
  simp only [List.all_eq_true, List.mem_range, List.size_toArray]
  intro j hj
  rw [hu.2 j hj]
  have hgetj : l.toArray[j]? = some l[j] := by simp [hj]
  rw [hgetj]
  dsimp only
  by_cases hjk : j ≤ k
  · by_cases e : j = k
    · subst e; simp
    · have : j < k := by omega
      simp [this]
  · have fk := hops k l[k] (by simp [hkl])
    have fj := hops j l[j] (by simp [hj])
    obtain ⟨hdst, hrk⟩ := fk.head hk
    by_cases hw : (l[j].after.any fun e => Region.binds .any e && e.on == k) = true
    · rw [hw]; simp
    · have happ : l[k].apart l.toArray l[j] = true := by
        unfold Oper.apart
        rw [looks_eq fk.guard, looks_eq fj.guard, hdst]
        have a1 : d + k ∉ tmpsOf l[j] := by
          intro hm
          rcases fj.reads _ hm with h | ⟨e, he, hb, hq⟩ | h
          · exact absurd h (by show ¬ (d + k : Nat) < d; omega)
          · apply hw
            rw [Array.any_eq_true']
            exact ⟨e, he, by simp only [hb, Bool.true_and, beq_iff_eq]; exact Nat.add_left_cancel hq⟩
          · exact absurd h (by show ¬ (d + n : Nat) ≤ d + k; omega)
        have a2 : l[j].dst ≠ some (d + k) := by
          intro h
          by_cases hjn : j < n
          · rw [(fj.head hjn).1] at h
            have h : (d + j : Nat) = d + k := Option.some.inj h
            omega
          · rcases fj.tail hjn _ h with h | h
            · exact absurd h (by show ¬ (d + k : Nat) < d; omega)
            · exact absurd h (by show ¬ (d + n : Nat) ≤ d + k; omega)
        have a3 : ∀ s, l[j].dst = some s → s ∉ tmpsOf l[k] := by
          intro s hs hm
          by_cases hjn : j < n
          · rw [(fj.head hjn).1] at hs
            have h2 := Option.some.inj hs
            subst h2
            exact absurd (hrk _ hm) (by show ¬ (d + j : Nat) < d + k; omega)
          · have hmem : l[k] ∈ l.take n := by
              rw [List.mem_take_iff_getElem]
              exact ⟨k, by omega, rfl⟩
            refine htd _ hmem s hm ?_
            unfold tailDst
            rw [List.mem_filterMap]
            refine ⟨l[j], ?_, hs⟩
            rw [List.mem_drop_iff_getElem]
            exact ⟨j - n, by omega, by congr 1; omega⟩
        simp only [Bool.and_eq_true, Bool.not_eq_true', bne_iff_ne, ne_eq]
        refine ⟨⟨by simpa using a1, a2⟩, ?_⟩
        cases hs : l[j].dst with
        | none => rfl
        | some s => simpa using a3 s hs
      rw [happ]; simp

theorem fast_head (hn : n < l.length) (hops : ∀ j o, l[j]? = some o → OpFacts d n j o) (htd : ∀ o ∈ l.take n, ∀ t ∈ tmpsOf o, t ∉ tailDst n l) (hc : ∀ t, n < t → t < l.length → Region.waitsFor .any l.toArray t (t - 1) = true) :
    ∀ (f k : Nat) (listed : Array Bool), k + f = n → upTo l.length k listed → Region.lexHead .any l.toArray (l.length - n) f k listed = true
  | 0, k, listed, hk, hu => by
    have : k = n := by omega
    subst this
    exact fast_seq hn hops hc _ _ _ (by omega) (Nat.le_refl _) hu
  | f + 1, k, listed, hk, hu => by
    have hkl : k < l.length := by omega
    simp only [Region.lexHead, Bool.and_eq_true]
    refine ⟨⟨?_, fast_free hops htd (by omega) hkl hu⟩, fast_head hn hops htd hc f (k + 1) _ (by omega) (upTo_set hu)⟩
    rw [List.contains_iff_mem, mem_ready]
    refine ⟨by rw [hu.2 k hkl]; simp, l[k], by simp [hkl], fun e he hb => ?_⟩
    have := (hops k l[k] (by simp [hkl])).back e he hb
    rw [hu.2 e.on (by omega)]
    simpa using this

theorem fast_tail (h : fastB d n l = true) : Region.lexTailB .any l.toArray n = true := by
  simp only [fastB, Bool.and_eq_true, Nat.blt_eq] at h
  obtain ⟨⟨⟨⟨hn, hall⟩, hsink⟩, htd⟩, hch⟩ := h
  have hops : ∀ j o, l[j]? = some o → OpFacts d n j o := fun j o ho => by
    have := allOk_at hall j o ho
    rw [Nat.zero_add] at this
    exact opOk_facts this
  have hc : ∀ t, n < t → t < l.length → Region.waitsFor .any l.toArray t (t - 1) = true := by
    intro t h1 h2
    rw [List.all_eq_true] at hch
    refine hch t ?_
    rw [List.mem_drop_iff_getElem]
    exact ⟨t - (n + 1), by simp; omega, by simp; omega⟩
  have htd' : ∀ o ∈ l.take n, ∀ t ∈ tmpsOf o, t ∉ tailDst n l := by
    intro o ho t ht hm
    simp only [List.all_eq_true, Bool.not_eq_true'] at htd
    have := htd o ho t ht
    rw [List.any_eq_false] at this
    exact this t hm (by simp)
  unfold Region.lexTailB
  simp only [Bool.and_eq_true, decide_eq_true_eq, List.size_toArray]
  refine ⟨⟨⟨⟨?_, hn⟩, ?_⟩, ?_⟩, fast_head hn hops htd' hc n 0 _ (by omega) (upTo_zero _)⟩
  · unfold Region.noSelect
    rw [Array.all_eq_true_iff_forall_mem]
    intro o ho
    obtain ⟨i, hi, rfl⟩ := Array.mem_iff_getElem.1 ho
    have := (hops i l[i] (by simp at hi; simp [hi])).sel
    show (match l[i].op with | .select .. => false | _ => true) = true
    revert this
    cases l[i].op <;> intro this <;> first | rfl | cases this
  · unfold Region.sinkB
    rw [List.all_eq_true]
    intro i hi
    simp only [List.all_eq_true] at hsink
    have h1 := hsink i hi
    rw [List.any_eq_true] at h1
    obtain ⟨x, hx, hxi⟩ := h1
    have hxi : i = x := by simpa using hxi
    subst hxi
    unfold onsOf at hx
    rw [List.mem_flatMap] at hx
    obtain ⟨o, ho, he⟩ := hx
    rw [List.mem_filterMap] at he
    obtain ⟨e, he, hb⟩ := he
    rw [List.mem_take_iff_getElem] at ho
    obtain ⟨j, hj, rfl⟩ := ho
    have hbb : Region.binds .any e = true ∧ e.on = i := by
      by_cases hbb : Region.binds .any e = true
      · rw [if_pos hbb] at hb; exact ⟨hbb, by simpa using hb⟩
      · rw [if_neg hbb] at hb; cases hb
    have hback := (hops j l[j] (by simp)).back e (Array.mem_toList_iff.1 he) hbb.1
    rw [List.any_eq_true]
    refine ⟨j, List.mem_range.2 (by omega), ?_⟩
    simp only [Bool.and_eq_true, decide_eq_true_eq]
    refine ⟨by omega, ?_⟩
    unfold Region.waitsFor
    have hget : l.toArray[j]? = some l[j] := by simp
    rw [hget]
    dsimp only
    rw [Array.any_eq_true']
    exact ⟨e, Array.mem_toList_iff.1 he, by simp [hbb.1, hbb.2]⟩
  · unfold Region.chainB
    rw [List.all_eq_true]
    intro t ht
    have ht := List.mem_range.1 ht
    simp only [Bool.or_eq_true, decide_eq_true_eq]
    by_cases h1 : t ≤ n
    · exact Or.inl h1
    · exact Or.inr (hc t (by omega) (by simpa using ht))
end

/-- the walk of such a region: the head in the order of the text, then the tail, one draw later -/
theorem wp_region_fast {P : Program} {id : Nat} {Q : Exit → Act → World → Prop} {a : Act} {w : World} {l : List Oper} (d n : Nat) (hm : P.follows .mixedOrders = true) (hB : fastB d n l = true)
    (h : ∀ (ops : Array Oper) (K : Act → Prop), (∀ a', wpList P l.toArray Q (l.drop n) a' w.drew → K a') → wpStill P ops w.drew K (l.take n) a) : (Code.region id l.toArray true).wp P Q a w :=
  wp_region_still_tail n hm (fast_tail hB) (h l.toArray _ fun _ h => h)

end Go.Proofs.Ytaadklfendegfaa
