/- The walk of estimateBlackPoint: two peaks. -/
import Derived.Test.YtaadklfendegfaaSo
namespace Go.Proofs.Ytaadklfendegfaa
open Go.RowKit

theorem sc_pos (fo e : Int) (h1 : 1 ≤ fo) (h2 : fo ≤ 1000000) (h3 : e ≤ 31) (h4 : -31 ≤ e) (h5 : 8 ≤ e ∨ e ≤ -8) : -31000000 ≤ fo * e ∧ fo * e ≤ 31000000 ∧ 1 ≤ fo * e * e ∧ fo * e * e ≤ 961000000 := by
  obtain ⟨a, rfl⟩ : ∃ a : Nat, fo = a := ⟨fo.toNat, by omega⟩
  obtain ⟨m, hm, hm2, he⟩ : ∃ m : Nat, 8 ≤ m ∧ m ≤ 31 ∧ (e = m ∨ e = -(m : Int)) := ⟨e.natAbs, by omega, by omega, by omega⟩
  have ham : a * m ≤ 1000000 * 31 := Nat.mul_le_mul (by omega) hm2
  have hamm : a * m * m ≤ 1000000 * 31 * 31 := Nat.mul_le_mul ham hm2
  have h1m : 1 ≤ a * m * m := Nat.mul_pos (Nat.mul_pos (by omega) (by omega)) (by omega)
  have e1 : (a : Int) * (m : Int) = ((a * m : Nat) : Int) := by simp
  have e2 : (a : Int) * (m : Int) * (m : Int) = ((a * m * m : Nat) : Int) := by simp
  rcases he with rfl | rfl
  · rw [e2, e1]; omega
  · rw [Int.mul_neg, Int.neg_mul_neg, e2, e1]; omega

set_option maxRecDepth 100000 in
set_option maxHeartbeats 4000000 in
theorem peak_calls (tv : Value) (bb d l : Nat) (f : Nat → Int) (w : World) (hr : w.rowIs bb 3 32 (fun i => .int .i64 (f i))) (hd : d + 8 ≤ l) (hl : l < 32) (hf : ∀ i, i ≠ d → i ≠ l → f i = 0) (ha : 1 ≤ f d) (ha2 : f d ≤ 1000000) (hb : 1 ≤ f l) (hb2 : f l ≤ 1000000) :
    Calls Try.prog 118 #[tv, .slice (some ⟨bb, 0, none⟩) 32 32] w fun e w' => ∃ v : Nat, d < v ∧ v < l ∧ e = .returned (.tuple #[.int .i64 ((v * 8 : Nat) : Int), .nilIface]) ∧ w' = w := by
  have HC : Hid (∀ i, i < 32 → w.cell? ⟨bb, i, none⟩ = some (.int .i64 (f i))) := fun i hi => hr.cell hi
  have HF := Lib.hid hf
  clear hr hf
  go_enter Try.func118, Try.ntmps118
  go_wp2
  go_loop [7, 8, 9, 10] (fun m p s x => ∃ (k : Nat) (mm pp ss : Int), k ≤ 32 ∧ x = .int .i64 (k : Int) ∧ m = .int .i64 mm ∧ p = .int .i64 pp ∧ s = .int .i64 ss ∧ (k ≤ d → ss = 0) ∧ (d < k → k ≤ l → pp = d ∧ ss = f d) ∧ (l < k → (pp = d ∨ pp = l) ∧ 1 ≤ ss)) (fun _ _ _ x => 32 - (intOf x).toNat)
  case atStart => exact ⟨0, 0, 0, 0, by omega, rfl, rfl, rfl, rfl, by omega, by omega, by omega⟩
  case round =>
    obtain ⟨k, mm, pp, ss, hk, rfl, rfl, rfl, rfl, q1, q2, q3⟩ := hrel
    have HQ := Lib.hid (And.intro q1 (And.intro q2 q3))
    clear q1 q2 q3
    by_cases hlt : k < 32
    · have X := HC.out k hlt
      have I0 : 0 ≤ (k : Int) := by omega
      have I1 : (k : Int) < 32 := by omega
      generalize hfk : f k = fk at X
      have HFk := Lib.hid hfk
      clear hfk
      go_wp2
      all_goals
        refine ⟨?_, by simp [intOf]; omega⟩
        obtain ⟨q1, q2, q3⟩ := HQ.out
        have hfk := HFk.out
        refine ⟨k + 1, _, _, _, by omega, by go_num, rfl, rfl, rfl, ?_, ?_, ?_⟩
        · intro h
          have := HF.out k (by omega) (by omega)
          have := q1 (by omega)
          omega
        · intro h1 h2
          by_cases e : k = d
          · subst e
            have := q1 (by omega)
            first | (exfalso; omega) | (constructor <;> omega)
          · have h3 := HF.out k e (by omega)
            obtain ⟨e1, e2⟩ := q2 (by omega) (by omega)
            first | (exfalso; omega) | (constructor <;> omega)
        · intro h
          by_cases e : k = l
          · subst e
            obtain ⟨e1, e2⟩ := q2 (by omega) (by omega)
            omega
          · have h3 := HF.out k (by omega) e
            have := q3 (by omega)
            omega
    · obtain rfl : k = 32 := by omega
      obtain ⟨hp, _⟩ := HQ.out.2.2 (by omega)
      clear HQ
      obtain ⟨o, hod, hp⟩ : ∃ o : Nat, ((pp = (d : Int) ∧ o = l) ∨ (pp = (l : Int) ∧ o = d)) ∧ True := by
        rcases hp with h | h
        · exact ⟨l, .inl ⟨h, rfl⟩, trivial⟩
        · exact ⟨d, .inr ⟨h, rfl⟩, trivial⟩
      clear hp
      obtain ⟨fo, hfo, hfo1, hfo2⟩ : ∃ fo : Int, f o = fo ∧ 1 ≤ fo ∧ fo ≤ 1000000 := by
        rcases hod with ⟨_, rfl⟩ | ⟨_, rfl⟩
        · exact ⟨_, rfl, hb, hb2⟩
        · exact ⟨_, rfl, ha, ha2⟩
      have HFO := Lib.hid hfo
      clear hfo
      have ho32 : o < 32 := by omega
      have hoff : (o : Int) - pp ≤ 31 ∧ -31 ≤ (o : Int) - pp ∧ (8 ≤ (o : Int) - pp ∨ (o : Int) - pp ≤ -8) := by omega
      have HOD := Lib.hid hod
      clear hod
      go_wp2
      go_loop [11, 12, 13] (fun sp sc x => ∃ (k : Nat) (p2 s2 : Int), k ≤ 32 ∧ x = .int .i64 (k : Int) ∧ sp = .int .i64 p2 ∧ sc = .int .i64 s2 ∧ (k ≤ o → s2 = 0) ∧ (o < k → p2 = o ∧ 1 ≤ s2)) (fun _ _ x => 32 - (intOf x).toNat)
      case atStart => exact ⟨0, 0, 0, by omega, rfl, rfl, rfl, by omega, by omega⟩
      case round =>
        obtain ⟨k, p2, s2, hk, rfl, rfl, rfl, q1, q2⟩ := hrel
        have HQ := Lib.hid (And.intro q1 q2)
        clear q1 q2
        by_cases hlt : k < 32
        · have X := HC.out k hlt
          have I0 : 0 ≤ (k : Int) := by omega
          have I1 : (k : Int) < 32 := by omega
          have J0 : 0 ≤ pp := by have := HOD.out; omega
          have J1 : pp ≤ 31 := by have := HOD.out; omega
          by_cases hko : k = o
          · subst hko
            obtain rfl : s2 = 0 := HQ.out.1 (Nat.le_refl _)
            rw [HFO.out] at X
            generalize hE : (k : Int) - pp = e at *
            obtain ⟨a1, a2, a3, a4⟩ := sc_pos fo e hfo1 hfo2 hoff.1 hoff.2.1 hoff.2.2
            generalize hP : fo * e = P at *
            generalize hR : P * e = Z at *
            go_wp2
            all_goals
              refine ⟨?_, by simp [intOf]; omega⟩
              exact ⟨k + 1, _, _, by omega, by go_num, rfl, rfl, by omega, fun _ => ⟨rfl, a3⟩⟩
          · have hneg : decide (s2 < 0) = false := by
              have := HQ.out
              simp
              by_cases h : k ≤ o
              · have := this.1 h; omega
              · have := this.2 (by omega); omega
            by_cases hkp : (k : Int) = pp
            · subst hkp
              generalize f k = fk at X
              go_wp2
              all_goals
                refine ⟨?_, by simp [intOf]; omega⟩
                exact ⟨k + 1, _, _, by omega, by go_num, rfl, rfl, fun h => HQ.out.1 (by omega), fun h => HQ.out.2 (by omega)⟩
            · have hf0 : f k = 0 := HF.out k (by have := HOD.out; omega) (by have := HOD.out; omega)
              rw [hf0] at X
              go_wp2
              all_goals
                refine ⟨?_, by simp [intOf]; omega⟩
                exact ⟨k + 1, _, _, by omega, by go_num, rfl, rfl, fun h => HQ.out.1 (by omega), fun h => HQ.out.2 (by omega)⟩
        · obtain rfl : k = 32 := by omega
          obtain ⟨rfl, _⟩ := HQ.out.2 (by omega)
          clear HQ HF HFO
          have S1 : decide ((l : Int) - (d : Int) ≤ 2) = false := by simp; omega
          have S2 : (d : Int) < (l : Int) := by omega
          have S3 : decide ((l : Int) < (d : Int)) = false := by simp; omega
          have S4 : decide (l < d) = false := by simp; omega
          rcases HOD.out with ⟨h1, h2⟩ | ⟨h1, h2⟩
          all_goals
            clear HOD hoff
            subst pp
            subst o
            go_wp2
            go_loop [16, 17, 18] (fun bv s x => ∃ (v k : Nat) (ss : Int), d < v ∧ v < l ∧ d ≤ k ∧ k < l ∧ bv = .int .i64 (v : Int) ∧ s = .int .i64 ss ∧ x = .int .i64 (k : Int)) (fun _ _ x => (intOf x).toNat)
            case atStart => exact ⟨l - 1, l - 1, -1, by omega, by omega, by omega, by omega, by congr 1; omega, rfl, by congr 1; omega⟩
            case round =>
              obtain ⟨v, k, ss, v1, v2, k1, k2, rfl, rfl, rfl⟩ := hrel
              by_cases hlt : d < k
              · have X := HC.out k (by omega)
                have I0 : 0 ≤ (k : Int) := by omega
                have I1 : (k : Int) < 32 := by omega
                generalize f k = fk at X
                go_wp2
                all_goals
                  refine ⟨?_, by simp [intOf]; omega⟩
                  first
                  | exact ⟨k, k - 1, _, by omega, by omega, by omega, by omega, rfl, rfl, by congr 1; omega⟩
                  | exact ⟨v, k - 1, _, by omega, by omega, by omega, by omega, rfl, rfl, by congr 1; omega⟩
              · obtain rfl : k = d := by omega
                go_wp2
                go_ret2
                exact ⟨v, by omega, by omega, by congr 3, rfl⟩

end Go.Proofs.Ytaadklfendegfaa
