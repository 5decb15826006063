/- The walk of PCDraw: a picture of modules. -/
import Derived.Test.YtaadklfendegfaaZb
import Derived.Deep.QuietTactic
import Derived.BigQuiet
namespace Go.Proofs.Ytaadklfendegfaa
open Go.RowKit

theorem Try.info5 : (Try.prog.info? 5).map (fun i => (i.zero, i.size, i.bytes)) = some (some (.int .u8 0), 1, 1) := by kernel_rfl

/-- the gray of the i-th pixel -/
def drawn (F : Nat → Nat → Bool) (h n s l t wd : Nat) (dark light : Int) (i : Nat) : Int :=
  if l ≤ i % wd ∧ t ≤ i / wd ∧ i % wd < l + s * n ∧ i / wd < t + s * h ∧ F ((i / wd - t) / s) ((i % wd - l) / s) = true then dark else light

theorem Only.drewN' {g : Nat} {a w : World} (h : Only g a w) (n : Nat) : Only g a (w.drewN n) := h.trans ⟨rfl, rfl, rfl, rfl, fun _ _ => rfl⟩

/-- a row of bytes of the call's own -/
def Bytes (base : Nat) (w : World) (v : Value) (n : Nat) (f : Nat → Int) : Prop :=
  ∃ g, v = .slice (some ⟨g, 0, none⟩) n n ∧ base ≤ g ∧ w.rowIs g 5 n (fun i => .int .u8 (f i))

theorem _root_.Go.World.rowIs.seti {w : World} {k : IntKind} {g t n : Nat} {f : Nat → Int} (h : w.rowIs g t n (fun x => .int k (f x))) (j : Nat) (b : Int) :
    (w.setCell ⟨g, j, none⟩ (.int k b)).rowIs g t n (fun x => .int k (if x = j then b else f x)) :=
  (h.set j (.int k b)).congr fun i _ => by by_cases e : i = j <;> simp [e]

set_option maxRecDepth 100000 in
set_option maxHeartbeats 4000000 in
theorem draw_calls (mv : Value) (h n s l t r b : Nat) (F : Nat → Nat → Bool) (dark light : Int) (w : World) (hg : Grid w mv h n F) (hh0 : 1 ≤ h) (hh : h ≤ 1000) (hn0 : 1 ≤ n) (hn : n ≤ 1000) (hs0 : 1 ≤ s) (hs : s ≤ 100)
    (hl : l ≤ 100) (ht : t ≤ 100) (hr : r ≤ 100) (hb : b ≤ 100) :
    Calls Try.prog 17 #[mv, .int .i64 (s : Int), .int .i64 (l : Int), .int .i64 (t : Int), .int .i64 (r : Int), .int .i64 (b : Int), .int .u8 dark, .int .u8 light] w fun e w' =>
      ∃ v, e = .returned (.tuple #[.int .i64 ((l + s * n + r : Nat) : Int), v]) ∧ Bytes w.heap.size w' v ((l + s * n + r) * (t + s * h + b)) (drawn F h n s l t (l + s * n + r) dark light) ∧ Below w.heap.size w w' := by
  obtain ⟨g, c, rfl, hc⟩ := hg
  obtain ⟨u0, c0, r0, k0, rfl, _⟩ := hc 0 (by omega)
  have HC := Lib.hid hc
  clear hc
  have p1 : s * n ≤ 100 * 1000 := Nat.mul_le_mul hs hn
  have p2 : s * h ≤ 100 * 1000 := Nat.mul_le_mul hs hh
  have q1 : 1 ≤ s * n := Nat.mul_pos hs0 hn0
  have q2 : 1 ≤ s * h := Nat.mul_pos hs0 hh0
  have A1 : IntKind.i64.wrap ((s : Int) * (n : Int)) = ((s * n : Nat) : Int) := by rw [Int.natCast_mul]; exact IntWalk.i64_in _ ⟨by have := Int.mul_nonneg (a := (s:Int)) (b := (n:Int)) (by omega) (by omega); omega, by have := Int.ofNat_le.2 p1; rw [Int.natCast_mul] at this; omega⟩
  have A2 : IntKind.i64.wrap ((s : Int) * (h : Int)) = ((s * h : Nat) : Int) := by rw [Int.natCast_mul]; exact IntWalk.i64_in _ ⟨by have := Int.mul_nonneg (a := (s:Int)) (b := (h:Int)) (by omega) (by omega); omega, by have := Int.ofNat_le.2 p2; rw [Int.natCast_mul] at this; omega⟩
  generalize hsn : s * n = sn at *
  generalize hsh : s * h = sh at *
  have p3 : (l + sn + r) * (t + sh + b) ≤ 100200 * 100200 := Nat.mul_le_mul (by omega) (by omega)
  have W1 : (l : Int) + (sn : Int) + (r : Int) = ((l + sn + r : Nat) : Int) := by omega
  have W2 : (t : Int) + (sh : Int) + (b : Int) = ((t + sh + b : Nat) : Int) := by omega
  have hwd0 : 1 ≤ l + sn + r := by omega
  have hwl : l + sn ≤ l + sn + r := by omega
  have hwd1 : l + sn + r ≤ 100200 := by omega
  have hht : t + sh ≤ t + sh + b := by omega
  have hht1 : t + sh + b ≤ 100200 := by omega
  generalize hwd : l + sn + r = wd at *
  generalize hhd : t + sh + b = hd at *
  have A3 : IntKind.i64.wrap ((wd : Int) * (hd : Int)) = ((wd * hd : Nat) : Int) := by rw [Int.natCast_mul]; exact IntWalk.i64_in _ ⟨by have := Int.mul_nonneg (a := (wd:Int)) (b := (hd:Int)) (by omega) (by omega); omega, by have := Int.ofNat_le.2 p3; rw [Int.natCast_mul] at this; omega⟩
  have hdiv : ∀ k, k < wd * hd → k / wd < hd := fun k hk => Nat.div_lt_of_lt_mul hk
  generalize hsz : wd * hd = sz at *
  have HSZ := Lib.hid (And.intro hsn (And.intro hsh (And.intro hwd (And.intro hhd hsz))))
  have HDIV := Lib.hid hdiv
  clear hsn hsh hwd hhd hsz hdiv
  have hmk := fun (w : World) => run_make_row' (P := Try.prog) 39 5 (.int .u8 0) 1 Try.underlying39 Try.info5 rfl .i64 .i64 sz (by omega) (by omega) w
  go_enter Try.func17, Try.ntmps17
  go_wp2
  go_quiet (fail)
  go_wp2
  have HR0 := World.rowIs_made (w.drewN nq) (.int .u8 0) sz 5
  have hbel : Below w.heap.size w ((w.drewN nq).alloc (.cells (madeCells #[.int .u8 0] sz) 5)) := (below_drewN (Below.refl _ _) nq).alloc (Nat.le_refl _) _
  have hsw : w.heap.size < ((w.drewN nq).alloc (.cells (madeCells #[.int .u8 0] sz) 5)).heap.size := by simp
  have hG : (w.drewN nq).heap.size = w.heap.size := by simp
  rw [hG] at HR0
  generalize (w.drewN nq).alloc (.cells (madeCells #[.int .u8 0] sz) 5) = w1 at *
  have HLT : Hid (∀ y, y < h → ∃ u, w.cell? ⟨g, y, none⟩ = some u ∧ BRow w u n (F y)) := HC
  have HBel := Lib.hid hbel
  clear hbel hG HC
  generalize hGe : w.heap.size = G at *
  have HGe := Lib.hid hGe
  clear hGe
  go_loopw [52] (fun i wr => ∃ (k : Nat) (f : Nat → Int), k ≤ sz ∧ i = .int .i64 (k : Int) ∧ Only G w1 wr ∧ wr.rowIs G 5 sz (fun j => .int .u8 (f j)) ∧ Hid (∀ j, j < k → f j = drawn F h n s l t wd dark light j)) (fun i _ => sz - (intOf i).toNat)
  case atStart => exact ⟨0, fun _ => 0, by omega, rfl, Only.refl _ _, HR0, fun j hj => by omega⟩
  case round =>
    obtain ⟨k, f, hk, rfl, ho, hrow, HF⟩ := hrel
    by_cases hlt : k < sz
    · have X0 := hrow.cell hlt
      have F0 := hrow.frozen k
      have HO := Lib.hid ho
      have HRow := Lib.hid hrow
      clear ho hrow
      go_wp2
      have HO2 := Lib.hid (HO.out.setCell (p := ⟨G, k, none⟩) rfl (.int .u8 light))
      have HRow2 := Lib.hid (HRow.out.seti k light)
      clear HO HRow X0 F0
      generalize wr.setCell ⟨G, k, none⟩ (.int .u8 light) = w2 at *
      have hm : k % wd < wd := Nat.mod_lt _ (by omega)
      have hq := HDIV.out k hlt
      have D1 : (k : Int).tmod (wd : Int) = ((k % wd : Nat) : Int) := by rw [Int.tmod_eq_emod_of_nonneg (by omega)]; simp
      have D2 : (k : Int) / (wd : Int) = ((k / wd : Nat) : Int) := by simp
      have HD : Hid (∀ v, (if l ≤ k % wd ∧ t ≤ k / wd ∧ k % wd < l + sn ∧ k / wd < t + sh ∧ F ((k / wd - t) / s) ((k % wd - l) / s) = true then dark else light) = v → drawn F h n s l t wd dark light k = v) := by
        intro v hv
        obtain ⟨e1, e2, _⟩ := HSZ.out
        unfold drawn; rw [e1, e2]; exact hv
      generalize k % wd = m at *
      generalize k / wd = q at *
      have D4 : ¬ (wd : Int) = 0 := by omega
      have D5 : ¬ wd = 0 := by omega
      go_quiet (fail)
      go_wp2
      clear D1 D2 D4 D5
      have X2 := HRow2.out.cell hlt
      have F2 := HRow2.out.frozen k
      simp only [if_true] at X2
      have HNext : Hid (∀ (v : Int) (wz : World) (fz : Nat → Int), (if l ≤ m ∧ t ≤ q ∧ m < l + sn ∧ q < t + sh ∧ F ((q - t) / s) ((m - l) / s) = true then dark else light) = v → Only G w1 wz → wz.rowIs G 5 sz (fun j => .int .u8 (if j = k then v else f j)) →
          ∃ (k' : Nat) (f' : Nat → Int), k' ≤ sz ∧ Value.int .i64 ((k : Int) + 1) = .int .i64 (k' : Int) ∧ Only G w1 wz ∧ wz.rowIs G 5 sz (fun j => .int .u8 (f' j)) ∧ Hid (∀ j, j < k' → f' j = drawn F h n s l t wd dark light j)) := by
        intro v wz fz hv hoz hrz
        refine ⟨k + 1, fun j => if j = k then v else f j, by omega, by go_num, hoz, hrz, fun j hj => ?_⟩
        by_cases e : j = k
        · subst e; simp only [if_true]; exact (HD.out v hv).symm
        · simp only [e, if_false]; exact HF.out j (by omega)
      clear HD HF
      by_cases c1 : l ≤ m
      · have C1 : 0 ≤ (m : Int) - (l : Int) := by omega
        by_cases c2 : t ≤ q
        · have C2 : 0 ≤ (q : Int) - (t : Int) := by omega
          by_cases c3 : m < l + sn
          · have C3 : (m : Int) - (l : Int) < (sn : Int) := by omega
            by_cases c4 : q < t + sh
            · have C4 : (q : Int) - (t : Int) < (sh : Int) := by omega
              have hy : (q - t) / s < h := Nat.div_lt_of_lt_mul (by obtain ⟨_, e, _⟩ := HSZ.out; omega)
              have hx : (m - l) / s < n := Nat.div_lt_of_lt_mul (by obtain ⟨e, _⟩ := HSZ.out; omega)
              have E1 : ((q : Int) - (t : Int)) / (s : Int) = (((q - t) / s : Nat) : Int) := by rw [← Int.ofNat_sub c2]; simp
              have E2 : ((m : Int) - (l : Int)) / (s : Int) = (((m - l) / s : Nat) : Int) := by rw [← Int.ofNat_sub c1]; simp
              obtain ⟨u, hu, b', c', rfl, hrow⟩ := HLT.out _ hy
              have tr : ∀ (aa : Addr) (vv : Value), w.cell? aa = some vv → w2.cell? aa = some vv := fun aa vv hv => by
                have hl := cell_lt hv
                rw [World.cell?_of_block (w := w1) (HO2.out.block _ (by have := HGe.out; omega)), HBel.out.cell (by rw [← HGe.out]; exact hl)]; exact hv
              have Y0 := tr _ _ hu
              have Y1 := tr _ _ (hrow _ hx)
              clear tr hu hrow
              generalize (q - t) / s = yy at *
              generalize (m - l) / s = xx at *
              have B1 : (yy : Int) < (h : Int) := by omega
              have B2 : (xx : Int) < (n : Int) := by omega
              have D4 : ¬ (s : Int) = 0 := by omega
              have D5 : ¬ s = 0 := by omega
              by_cases hF : F yy xx = true
              · rw [hF] at Y1
                go_quiet (fail)
                go_wp2
                go_roundw
                case rel => exact HNext.out dark _ (fun _ => 0) (by rw [if_pos ⟨c1, c2, c3, c4, hF⟩]) ((HO2.out.drewN' _).setCell rfl _) ((HRow2.out.seti k dark).congr fun j _ => by by_cases e : j = k <;> simp [e])
                case measure => simp [intOf]; omega
              · rw [Bool.not_eq_true] at hF
                rw [hF] at Y1
                go_quiet (fail)
                go_wp2
                go_roundw
                case rel => exact HNext.out light _ (fun _ => 0) (by rw [if_neg]; rw [hF]; simp) (HO2.out.drewN' _) (HRow2.out)
                case measure => simp [intOf]; omega
            · have C4 : decide ((q : Int) - (t : Int) < (sh : Int)) = false := by simp; omega
              go_quiet (fail)
              go_wp2
              go_roundw
              case rel => exact HNext.out light _ (fun _ => 0) (by rw [if_neg]; exact fun h => c4 h.2.2.2.1) (HO2.out.drewN' _) (HRow2.out)
              case measure => simp [intOf]; omega
          · have C3 : decide ((m : Int) - (l : Int) < (sn : Int)) = false := by simp; omega
            go_quiet (fail)
            go_wp2
            go_roundw
            case rel => exact HNext.out light _ (fun _ => 0) (by rw [if_neg]; exact fun h => c3 h.2.2.1) (HO2.out.drewN' _) (HRow2.out)
            case measure => simp [intOf]; omega
        · have C2 : decide (0 ≤ (q : Int) - (t : Int)) = false := by simp; omega
          go_quiet (fail)
          go_wp2
          go_roundw
          case rel => exact HNext.out light _ (fun _ => 0) (by rw [if_neg]; exact fun h => c2 h.2.1) (HO2.out.drewN' _) (HRow2.out)
          case measure => simp [intOf]; omega
      · have C1 : decide (0 ≤ (m : Int) - (l : Int)) = false := by simp; omega
        go_quiet (fail)
        go_wp2
        go_roundw
        case rel => exact HNext.out light _ (fun _ => 0) (by rw [if_neg]; exact fun h => c1 h.1) (HO2.out.drewN' _) (HRow2.out)
        case measure => simp [intOf]; omega
    · obtain rfl : k = sz := by omega
      have HO := Lib.hid ho
      have HRow := Lib.hid hrow
      clear ho hrow
      go_wp2
      go_ret2
      refine ⟨_, rfl, ⟨G, rfl, by rw [HGe.out]; exact Nat.le_refl _, HRow.out.congr fun j hj => ?_⟩, ?_⟩
      · rw [HF.out j hj]
      · rw [HGe.out]; exact HBel.out.trans (HO.out.below (Nat.le_refl _))

end Go.Proofs.Ytaadklfendegfaa
