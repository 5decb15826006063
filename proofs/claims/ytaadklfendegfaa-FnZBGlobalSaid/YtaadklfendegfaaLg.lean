/- The walk of FnZBGlobal. -/
import Derived.Test.YtaadklfendegfaaZa
namespace Go.Proofs.Ytaadklfendegfaa
open Go.RowKit

/-- a dark one, or a light one, is seen -/
def SeenF (F : Nat → Nat → Bool) (W H : Nat) (b : Bool) : Prop := ∃ k x, (1 ≤ k ∧ k < 5) ∧ (W / 5 ≤ x ∧ x < W * 4 / 5) ∧ F (H * k / 5) x = b

set_option maxRecDepth 100000 in
set_option maxHeartbeats 1000000 in
theorem global_big (sa : Option Addr) (len cap : Nat) (a1 a2 a3 a4 : Int) (w : World) (hlen : 2147483647 < len) :
    Calls Try.prog 7 #[.slice sa len cap, .int .u8 a1, .int .u8 a2, .int .u8 a3, .int .u8 a4] w fun e w' => e = .returned (.bool true) ∧ Below w.heap.size w w' := by
  have hl : (2147483647 : Int) < (len : Int) := by omega
  have hX := Lib.hid (Below.refl w.heap.size w)
  go_enter Try.func7, Try.ntmps7
  go_wp2
  go_ret
  exact ⟨rfl, hX.out⟩

set_option maxRecDepth 100000 in
set_option maxHeartbeats 1000000 in
theorem global_near (sa : Option Addr) (len cap : Nat) (a1 a2 a3 a4 : Int) (w : World) (hlen : len ≤ 2147483647) (h3 : 0 ≤ a3 ∧ a3 ≤ 255) (h4 : 0 ≤ a4 ∧ a4 ≤ 255) (hn : a4 < a3 + 64) :
    Calls Try.prog 7 #[.slice sa len cap, .int .u8 a1, .int .u8 a2, .int .u8 a3, .int .u8 a4] w fun e w' => e = .returned (.bool true) ∧ Below w.heap.size w w' := by
  have hl : decide ((2147483647 : Int) < (len : Int)) = false := by simp; omega
  obtain ⟨h30, h31⟩ := h3
  obtain ⟨h40, h41⟩ := h4
  go_enter Try.func7, Try.ntmps7
  go_wp2_with (go_at_call 23; refine (awake_calls _).mono ?_)
  rintro e w1 ⟨rfl, hb⟩
  have HB := Lib.hid hb
  clear hb
  go_wp2
  go_ret
  exact ⟨rfl, HB.out⟩

set_option maxRecDepth 100000 in
set_option maxHeartbeats 4000000 in
theorem global_walk (sa : Option Addr) (len cap : Nat) (zs : List Int) (a1 a2 a3 a4 : Int) (w : World) (hlen : len ≤ 2147483647) (h1 : 0 ≤ a1 ∧ a1 ≤ 255) (h2 : 0 ≤ a2 ∧ a2 ≤ 255) (h3 : 0 ≤ a3 ∧ a3 ≤ 255) (h4 : 0 ≤ a4 ∧ a4 ≤ 255) (hn : a3 + 64 ≤ a4)
    (hz : len = 0 ∨ ∃ ab aoff, sa = some ⟨ab, aoff, none⟩ ∧ ∀ j, j < len → w.cell? ⟨ab, aoff + j, none⟩ = some (.int .u8 (zs.getD j 0))) :
    Calls Try.prog 7 #[.slice sa len cap, .int .u8 a1, .int .u8 a2, .int .u8 a3, .int .u8 a4] w fun e w' => e = .returned (.bool true) ∧ Below w.heap.size w w' := by
  have hl : decide ((2147483647 : Int) < (len : Int)) = false := by simp; omega
  obtain ⟨h10, h11⟩ := h1
  obtain ⟨h20, h21⟩ := h2
  obtain ⟨h30, h31⟩ := h3
  obtain ⟨h40, h41⟩ := h4
  obtain ⟨W, hW⟩ : ∃ W : Nat, 10 + a1 % 64 = (W : Int) := ⟨(10 + a1 % 64).toNat, by omega⟩
  obtain ⟨H, hH⟩ : ∃ H : Nat, 10 + a2 % 64 = (H : Int) := ⟨(10 + a2 % 64).toNat, by omega⟩
  have hW0 : 10 ≤ W := by omega
  have hW1 : W ≤ 73 := by omega
  have hH0 : 10 ≤ H := by omega
  have hH1 : H ≤ 73 := by omega
  have HZ := Lib.hid hz
  clear hz
  go_enter Try.func7, Try.ntmps7
  go_wp2_with (fail)
  refine (bits_calls sa len cap W H zs _ hlen (by omega) (by omega) (by omega) (by omega) HZ.out).mono ?_
  rintro e w1 ⟨v, F, rfl, hgo, hb1⟩
  obtain ⟨g, c, R, rfl, hg, hrows, hR⟩ := hgo
  have HGO : Hid (GridO w.heap.size w1 (.slice (some ⟨g, 0, none⟩) H c) H W F) := ⟨g, c, R, rfl, hg, hrows, hR⟩
  have L0 := hrows.1 0 (by omega)
  have HRows := Lib.hid hrows
  have HB1 := Lib.hid hb1
  clear hrows hb1 hR
  go_wp2
  go_quiet (fail)
  go_wp2
  have HB2 : Hid (Below w.heap.size w (w1.drewN nq)) := below_drewN HB1.out nq
  have HR2 : Hid (Rows2 (w1.drewN nq) g R H W F) := HRows.out.after (below_drewN (Below.refl _ _) nq)
  generalize w1.drewN nq = w2 at *
  clear HB1 HRows HGO L0
  go_loopw [14, 15, 16] (fun s n y wr => ∃ (k : Nat) (bs bn : Bool), 1 ≤ k ∧ k ≤ 5 ∧ y = .int .i64 (k : Int) ∧ s = .bool bs ∧ n = .bool bn ∧ Hid (bs = true → SeenF F W H true) ∧ Hid (bn = true → SeenF F W H false) ∧ ∃ m, wr = w2.drewN m) (fun _ _ y _ => 5 - (intOf y).toNat)
  case atStart => exact ⟨1, false, false, by omega, by omega, rfl, rfl, rfl, (fun h => by cases h), (fun h => by cases h), 0, rfl⟩
  case round =>
    obtain ⟨wo, rfl⟩ : ∃ wo : World, wo = wr := ⟨_, rfl⟩
    obtain ⟨k, bs, bn, hk1, hk5, rfl, rfl, rfl, HS, HN, m, hm⟩ := hrel
    have HM := Lib.hid hm
    clear hm
    by_cases hlt : k < 5
    · have E1 : IntKind.i64.wrap ((H : Int) * (k : Int)) = ((H * k : Nat) : Int) := by
        rw [Int.natCast_mul]
        have h1 : H * k ≤ 73 * 5 := Nat.mul_le_mul hH1 (by omega)
        have h2 := Int.ofNat_le.2 h1
        rw [Int.natCast_mul] at h2
        exact IntWalk.i64_in _ ⟨by have := Int.mul_nonneg (a := (H:Int)) (b := (k:Int)) (by omega) (by omega); omega, by omega⟩
      have hHk : H * k / 5 < H := by
        have : H * k < 5 * H := by rw [Nat.mul_comm 5 H]; exact Nat.mul_lt_mul_of_pos_left (by omega) (by omega)
        omega
      generalize hHk5 : H * k = hk at *
      have E2 : (hk : Int) / 5 = ((hk / 5 : Nat) : Int) := by omega
      generalize hrw : hk / 5 = rw5 at *
      have HRw := Lib.hid (And.intro hHk5 hrw)
      clear hHk5 hrw
      have E3 : (W : Int) * 4 / 5 = ((W * 4 / 5 : Nat) : Int) := by omega
      have E4 : (W : Int) / 5 = ((W / 5 : Nat) : Int) := by omega
      have hrt : W * 4 / 5 ≤ W := by omega
      have HRt := Lib.hid (rfl : W * 4 / 5 = W * 4 / 5)
      obtain ⟨rt, hrt5⟩ : ∃ rt, W * 4 / 5 = rt := ⟨_, rfl⟩
      obtain ⟨lf, hlf5⟩ : ∃ lf, W / 5 = lf := ⟨_, rfl⟩
      rw [hrt5] at E3 hrt
      rw [hlf5] at E4
      have HLR := Lib.hid (And.intro hrt5 hlf5)
      clear hrt5 hlf5 HRt
      have I5 : (k : Int) < 5 := by omega
      go_wp2
      go_loopw [14, 15, 17] (fun s n x wr => ∃ (j : Nat) (bs bn : Bool), lf ≤ j ∧ x = .int .i64 (j : Int) ∧ s = .bool bs ∧ n = .bool bn ∧ Hid (bs = true → SeenF F W H true) ∧ Hid (bn = true → SeenF F W H false) ∧ ∃ m, wr = w2.drewN m) (fun _ _ x _ => W - (intOf x).toNat)
      case atStart => exact ⟨lf, bs, bn, by omega, rfl, rfl, rfl, HS, HN, m, HM.out⟩
      case round =>
        obtain ⟨j, bs, bn, hj0, rfl, rfl, rfl, HS, HN, m, hm⟩ := hrel
        by_cases hlt2 : j < rt
        · have X0 : wr.cell? ⟨g, rw5, none⟩ = some (.slice (some ⟨R rw5, 0, none⟩) W W) := by rw [hm]; exact HR2.out.1 rw5 hHk
          have X1 : wr.cell? ⟨R rw5, j, none⟩ = some (.bool (F rw5 j)) := by rw [hm]; exact (HR2.out.2.1 rw5 hHk).cell (by omega)
          have HM := Lib.hid hm
          have I0 : (j : Int) < (W : Int) := by omega
          have I1 : 0 ≤ (j : Int) := by omega
          have I2 : (rw5 : Int) < (H : Int) := by omega
          have I3 : 0 ≤ (rw5 : Int) := by omega
          have HSee : Hid (∀ b, F rw5 j = b → SeenF F W H b) := fun b hb => ⟨k, j, ⟨hk1, by omega⟩, by rw [HLR.out.1, HLR.out.2]; omega, by rw [HRw.out.1, HRw.out.2]; exact hb⟩
          clear hm
          cases bs <;> cases bn <;> cases hF : F rw5 j <;> rw [hF] at X1
          all_goals
            have HF := Lib.hid hF
            clear hF
            go_wp2
            go_quiet (fail)
            go_wp2
            go_roundw
            case rel =>
              first
              | exact ⟨j + 1, true, true, by omega, by go_num, rfl, rfl, (by first | exact HS | exact (fun _ => HS.out trivial) | exact (fun _ => HSee.out _ HF.out)), (by first | exact HN | exact (fun _ => HN.out trivial) | exact (fun _ => HSee.out _ HF.out)), m + nq, by rw [HM.out, World.drewN_drewN]⟩
              | exact ⟨j + 1, true, false, by omega, by go_num, rfl, rfl, (by first | exact HS | exact (fun _ => HS.out trivial) | exact (fun _ => HSee.out _ HF.out)), (fun h => by cases h), m + nq, by rw [HM.out, World.drewN_drewN]⟩
              | exact ⟨j + 1, false, true, by omega, by go_num, rfl, rfl, (fun h => by cases h), (by first | exact HN | exact (fun _ => HN.out trivial) | exact (fun _ => HSee.out _ HF.out)), m + nq, by rw [HM.out, World.drewN_drewN]⟩
              | exact ⟨j + 1, false, false, by omega, by go_num, rfl, rfl, (fun h => by cases h), (fun h => by cases h), m + nq, by rw [HM.out, World.drewN_drewN]⟩
            case measure => simp [intOf]; omega
        · have HM := Lib.hid hm
          clear hm
          go_wp2
          go_roundw
          case rel => exact ⟨k + 1, _, _, by omega, by omega, by go_num, rfl, rfl, HS, HN, m, HM.out⟩
          case measure => simp [intOf]; omega
    · obtain rfl : k = 5 := by omega
      have hBo : Below w.heap.size w wo := by rw [HM.out]; exact below_drewN HB2.out m
      have hgo : GridO 0 wo (.slice (some ⟨g, 0, none⟩) H c) H W F := by
        rw [HM.out]; exact ⟨g, c, R, rfl, by omega, HR2.out.after (below_drewN (Below.refl _ _) m), fun _ _ => by omega⟩
      have HBo := Lib.hid hBo
      have HGo := Lib.hid hgo
      clear hBo hgo HM HB2 HR2
      by_cases hboth : bs = true ∧ bn = true
      · obtain ⟨rfl, rfl⟩ := hboth
        obtain ⟨kd, xd, d1, d2, d3⟩ := HS.out rfl
        obtain ⟨kl, xl, l1, l2, l3⟩ := HN.out rfl
        have hsee : Seen2 W H (gray1 F W a3 a4) a3 a4 := by
          have hp : ∀ k x, k < 5 → W / 5 ≤ x → x < W * 4 / 5 → gray1 F W a3 a4 (H * k / 5 * W + x) = if F (H * k / 5) x = true then a3 else a4 := fun k x _ _ h => gray1_at F W a3 a4 _ _ (by omega)
          refine ⟨h30, hn, h41, fun i _ => gray1_two F W a3 a4 i, kd, xd, kl, xl, d1, l1, d2, l2, ?_, ?_⟩
          · rw [hp kd xd d1.2 d2.1 d2.2, d3]; rfl
          · rw [hp kl xl l1.2 l2.1 l2.2, l3]; rfl
        have HSee := Lib.hid hsee
        clear d1 d2 d3 l1 l2 l3 hsee HS HN
        go_wp2_with (fail)
        refine (draw1_calls _ H W F a3 a4 _ HGo.out.grid (by omega) (by omega) (by omega) (by omega)).mono ?_
        rintro e w3 ⟨v, rfl, ⟨gv, rfl, hgv, hbytes⟩, hb3⟩
        have HB3 := Lib.hid hb3
        have HBy := Lib.hid hbytes
        clear hb3 hbytes
        go_wp2_with (fail)
        refine (zxbinary_calls gv (W * H) (W * H) W H (gray1 F W a3 a4) 0 a3 a4 _ rfl (by omega) (by omega) (by omega) (by omega) (fun i hi => HBy.out.cell hi) HSee.out).mono ?_
        rintro e w4 ⟨v4, rfl, hg4, hb4⟩
        have HG4 : Hid (Grid w4 v4 H W F) := (hg4.grid).congr fun y hy x hx => gray1_dark F W a3 a4 (by omega) y x hx
        have HG5 : Hid (Grid w4 (.slice (some ⟨g, 0, none⟩) H c) H W F) := (HGo.out.grid.below HB3.out).below hb4
        have HB4 : Hid (Below w.heap.size w w4) := (HBo.out.trans (HB3.out.mono HBo.out.size)).trans (hb4.mono (Nat.le_trans HBo.out.size HB3.out.size))
        clear hg4 hb4
        go_wp2_with (fail)
        refine (alike_calls _ _ W H F F _ (by omega) (by omega) HG4.out HG5.out (fun _ _ _ _ => rfl)).mono ?_
        rintro e w5 ⟨rfl, m5, rfl⟩
        go_wp2_with (fail)
        refine (awake_calls _).mono ?_
        rintro e w6 ⟨rfl, hb6⟩
        have HB6 : Hid (Below w.heap.size w w6) := HB4.out.trans ((below_drewN (Below.refl _ _) m5).trans (hb6.mono HB4.out.size))
        clear hb6
        go_wp2
        go_ret
        exact ⟨rfl, HB6.out⟩
      · have hend : ∀ w6 : World, Below wo.heap.size wo w6 → Below w.heap.size w w6 := fun w6 h => HBo.out.trans (h.mono HBo.out.size)
        have HEnd := Lib.hid hend
        clear hend HS HN
        cases bs <;> cases bn
        case true.true => exact absurd ⟨rfl, rfl⟩ hboth
        all_goals
          clear hboth
          go_wp2_with (fail)
          refine (awake_calls _).mono ?_
          rintro e w6 ⟨rfl, hb6⟩
          have HB6 := Lib.hid (HEnd.out _ hb6)
          clear hb6
          go_wp2
          go_ret
          exact ⟨rfl, HB6.out⟩

end Go.Proofs.Ytaadklfendegfaa
