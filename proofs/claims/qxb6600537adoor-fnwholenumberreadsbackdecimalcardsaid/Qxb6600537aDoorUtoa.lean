import Derived.Test.Qxb6600537aDoorApp
import Derived.Test.Qxb6600537aDoorPlain
import Derived.Laws.Bits64
import Derived.Deep.CutBlock
import Derived.Deep.DeepCutAuto
namespace Go.Proofs.Qxb6600537aDoor
open Go.ChangeShapes Go.WideShapes Go.ChangeAt Go.RowKit
set_option linter.unusedVariables false

theorem pow_lt_of_div {n t : Nat} (hn : n ≤ 18446744073709551615) (h : 0 < n / 10 ^ t) : t ≤ 19 := by
  by_cases ht : t ≤ 19
  · exact ht
  · have h2 : (10 : Nat) ^ 20 ≤ 10 ^ t := Nat.pow_le_pow_right (by omega) (by omega)
    have h3 : (10 : Nat) ^ 20 = 100000000000000000000 := by decide
    have : n / 10 ^ t = 0 := Nat.div_eq_of_lt (by omega)
    omega

def digAt (n q : Nat) : Int := 48 + ((n / 10 ^ (19 - q) % 10 : Nat) : Int)
/-- The array behind t rounds. -/
def bufRow (n t : Nat) (q : Nat) : Value := .int .u8 (if 20 - t ≤ q then digAt n q else 0)
theorem buf_start (n : Nat) (w : World) : (w.alloc (.cells #[.int .u8 0, .int .u8 0, .int .u8 0, .int .u8 0, .int .u8 0, .int .u8 0, .int .u8 0, .int .u8 0, .int .u8 0, .int .u8 0, .int .u8 0, .int .u8 0, .int .u8 0, .int .u8 0, .int .u8 0, .int .u8 0, .int .u8 0, .int .u8 0, .int .u8 0, .int .u8 0] 43)).rowIs w.heap.size 43 20 (bufRow n 0) := by
  have h := World.rowIs_alloc w #[.int .u8 0, .int .u8 0, .int .u8 0, .int .u8 0, .int .u8 0, .int .u8 0, .int .u8 0, .int .u8 0, .int .u8 0, .int .u8 0, .int .u8 0, .int .u8 0, .int .u8 0, .int .u8 0, .int .u8 0, .int .u8 0, .int .u8 0, .int .u8 0, .int .u8 0, .int .u8 0] 43 (fun _ => .int .u8 0) (fun i hi => by
    match i, hi with
    | 0, _ => rfl | 1, _ => rfl | 2, _ => rfl | 3, _ => rfl | 4, _ => rfl | 5, _ => rfl | 6, _ => rfl | 7, _ => rfl | 8, _ => rfl | 9, _ => rfl
    | 10, _ => rfl | 11, _ => rfl | 12, _ => rfl | 13, _ => rfl | 14, _ => rfl | 15, _ => rfl | 16, _ => rfl | 17, _ => rfl | 18, _ => rfl | 19, _ => rfl
    | i + 20, h => simp at h; omega)
  exact h.congr (fun i hi => by
    unfold bufRow
    rw [if_neg (by have : i < 20 := hi; omega)])

theorem row_step {wr : World} {B n t N : Nat} (h : wr.rowIs B 43 20 (bufRow n t)) (ht : t ≤ 19) (hN : N = n / 10 ^ t) : (wr.setCell ⟨B, 19 - t, none⟩ (.int .u8 (48 + (N : Int) % 10))).rowIs B 43 20 (bufRow n (t + 1)) := by
  refine (h.set (19 - t) _).congr (fun j hj => ?_)
  unfold bufRow
  by_cases e : j = 19 - t
  · subst e
    rw [if_pos rfl, if_pos (by omega)]
    unfold digAt
    rw [show 19 - (19 - t) = t by omega, ← hN]
    congr 1
  · rw [if_neg e]
    by_cases h1 : 20 - t ≤ j
    · rw [if_pos h1, if_pos (by omega)]
    · rw [if_neg h1, if_neg (by omega)]
theorem div_step {n t N : Nat} (hN : N = n / 10 ^ t) : n / 10 ^ (t + 1) = N / 10 := by
  rw [hN, Nat.pow_succ, Nat.div_div_eq_div_mul]

theorem make0 (c : Nat) (hc : c ≤ 2147483648) (x : Int) (hx : x = (c : Int)) (w : World) :
    (Instr.makeSlice 22 (.int .i64 0) (.int .i64 x)).run Tryd.prog w = .ok (.slice (some ⟨w.heap.size, 0, none⟩) 0 c) (w.alloc (.cells (madeCells #[.int .u8 0] c) 5)) := by
  obtain ⟨i, hi, hzz⟩ := Option.map_eq_some_iff.1 info5
  simp only [Prod.mk.injEq] at hzz
  obtain ⟨hz, hsz, hb⟩ := hzz
  have h := run_make (P := Tryd.prog) w 22 5 i (.int .u8 0) Tryd.underlying22 hi hz .i64 .i64 0 x (by omega) (by omega) (by rw [hb]; omega) (by omega)
  rw [hx] at h ⊢
  simp only [Int.toNat_natCast, hsz, Nat.mul_one, Int.toNat_zero] at h
  exact h

set_option maxRecDepth 4000 in
set_option maxHeartbeats 1000000 in
theorem utoa (n : Nat) (hn : n ≤ 18446744073709551615) (w : World) :
    Calls Tryd.prog 13 #[.int .u64 n] w fun e w' => ∃ d : Nat, ∃ a : Option Addr, 1 ≤ d ∧ d ≤ 20 ∧ e = .returned (.slice a d d) ∧ Below w.heap.size w w' ∧ Row w' a d (fun q => 48 + ((n / 10 ^ (d - 1 - q) % 10 : Nat) : Int)) ∧ n / 10 ^ d = 0 ∧ (1 < d → 0 < n / 10 ^ (d - 1)) := by
  go_enter Tryd.func13, Tryd.ntmps13
  go_upto_block 0 with fail
  go_cut [4] (fun kk wx => ∃ d : Nat, 1 ≤ d ∧ d ≤ 20 ∧ kk = .int .i64 (20 - (d : Int)) ∧ Below w.heap.size w wx ∧ wx.heap.size = w.heap.size + 1 ∧ wx.rowIs w.heap.size 43 20 (bufRow n d) ∧ n / 10 ^ d = 0 ∧ (1 < d → 0 < n / 10 ^ (d - 1)))
  case first =>
    go_wp2_with fail
    go_loopw [0, 4] (fun nn kk wx => ∃ t N : Nat, t ≤ 19 ∧ N = n / 10 ^ t ∧ N ≤ 18446744073709551615 ∧ nn = .int .u64 N ∧ kk = .int .i64 (20 - (t : Int)) ∧ (0 < t → 0 < n / 10 ^ t) ∧ Below w.heap.size w wx ∧ wx.heap.size = w.heap.size + 1 ∧ wx.rowIs w.heap.size 43 20 (bufRow n t)) (fun _ kk _ => (intOf kk).toNat)
    case atStart => exact ⟨0, n, by omega, by simp, hn, rfl, rfl, fun h => by omega, (Below.refl _ _).alloc (Nat.le_refl _) _, by simp, buf_start n w⟩
    case round =>
      obtain ⟨t, N, ht, hN, hN1, rfl, rfl, hpos, hB, hsz, hrow⟩ := hrel
      have HN : Hid (N = n / 10 ^ t) := hN
      have hf := hrow.frozen (19 - t)
      have hc := hrow.cell (i := 19 - t) (by omega)
      have HP : Hid (0 < t → 0 < n / 10 ^ t) := hpos
      have HR : Hid (wr.rowIs w.heap.size 43 20 (bufRow n t)) := hrow
      have k0 : (0 : Int) ≤ 20 - (t : Int) - 1 := by omega
      have k1 : (20 : Int) - (t : Int) - 1 < 20 := by omega
      have kn : ((20 : Int) - (t : Int) - 1).toNat = 19 - t := by omega
      clear hN hpos hrow
      go_wp2
      · have h0 : ((N : Int) / 10 == 0) = true := by assumption
        have h1 : N / 10 = 0 := by
          have : (N : Int) / 10 = 0 := by simpa using h0
          omega
        go_meet
        case rel => exact ⟨t + 1, by omega, by omega, by go_num, hB.setCell (Nat.le_refl _) _, by simp [World.setCell, hsz], row_step HR.out ht HN.out, by rw [div_step HN.out, h1], fun h => by
          rw [Nat.add_sub_cancel]; exact HP.out (by omega)⟩
      · have h0 : ((N : Int) / 10 == 0) = false := by assumption
        have h1 : 0 < N / 10 := by
          have : ¬ (N : Int) / 10 = 0 := by simpa using h0
          omega
        have h2 : 0 < n / 10 ^ (t + 1) := by rw [div_step HN.out]; exact h1
        go_roundw
        case rel => exact ⟨t + 1, N / 10, pow_lt_of_div hn h2, (div_step HN.out).symm, by omega, by go_num, by go_num, fun _ => h2, hB.setCell (Nat.le_refl _) _, by simp [World.setCell, hsz], row_step HR.out ht HN.out⟩
        case measure => simp [intOf]; omega
  case rest =>
    obtain ⟨d, hd1, hd20, rfl, hB, hsz, hrow, hz, hp⟩ := hcut
    have HR : Hid (wc.rowIs w.heap.size 43 20 (bufRow n d)) := hrow
    have HZ : Hid (n / 10 ^ d = 0) := hz
    have HP : Hid (1 < d → 0 < n / 10 ^ (d - 1)) := hp
    clear hrow hz hp
    have hmk := make0 d (by omega) (20 - (20 - (d : Int))) (by omega)
    have hg : Below w.heap.size w (wc.alloc (.cells (madeCells #[.int .u8 0] d) 5)) := hB.alloc hB.size _
    have hrb : (wc.alloc (.cells (madeCells #[.int .u8 0] d) 5)).rowIs w.heap.size 43 20 (bufRow n d) := HR.out.alloc _
    have hrg : (wc.alloc (.cells (madeCells #[.int .u8 0] d) 5)).rowIs (w.heap.size + 1) 5 d (fun _ => .int .u8 0) := by
      have := World.rowIs_made wc (.int .u8 0) d 5
      rw [hsz] at this
      exact this
    have HRB : Hid ((wc.alloc (.cells (madeCells #[.int .u8 0] d) 5)).rowIs w.heap.size 43 20 (bufRow n d)) := hrb
    have HRG : Hid ((wc.alloc (.cells (madeCells #[.int .u8 0] d) 5)).rowIs (w.heap.size + 1) 5 d (fun _ => .int .u8 0)) := hrg
    clear hrb hrg
    go_wp2
    go_loopw [5, 6] (fun out qq wx => ∃ q : Nat, q ≤ d ∧ qq = .int .i64 (20 - (d : Int) + q) ∧ out = .slice (some ⟨w.heap.size + 1, 0, none⟩) q d ∧ Below w.heap.size w wx ∧ w.heap.size + 2 ≤ wx.heap.size ∧ wx.rowIs w.heap.size 43 20 (bufRow n d) ∧
      wx.rowIs (w.heap.size + 1) 5 d (fun j => .int .u8 (if j < q then digAt n (20 - d + j) else 0))) (fun _ qq _ => (20 - intOf qq).toNat)
    case atStart => exact ⟨0, Nat.zero_le _, by simp, rfl, hg, by simp [hsz], HRB.out, HRG.out.congr (fun j hj => by simp)⟩
    case round =>
      obtain ⟨q, hq, rfl, rfl, hBr, hszr, hrb, hrg⟩ := hrel
      have HRb : Hid (wr.rowIs w.heap.size 43 20 (bufRow n d)) := hrb
      have HRg : Hid (wr.rowIs (w.heap.size + 1) 5 d (fun j => .int .u8 (if j < q then digAt n (20 - d + j) else 0))) := hrg
      clear hmk
      by_cases hlt : q < d
      · have c1 : wr.cell? ⟨w.heap.size, 20 - d + q, none⟩ = some (.int .u8 (digAt n (20 - d + q))) := by
          rw [hrb.cell (i := 20 - d + q) (by omega)]
          unfold bufRow
          rw [if_pos (by omega)]
        clear hrb hrg
        have k0 : (0 : Int) ≤ 20 - (d : Int) + (q : Int) := by omega
        have k1 : 20 - (d : Int) + (q : Int) < 20 := by omega
        have kn : (20 - (d : Int) + (q : Int)).toNat = 20 - d + q := by omega
        go_wp2_with (at_builtin; refine wpList_append_row rfl (.tmp 27) (.tmp 31) rfl (w.heap.size + 1) q d (fun j => if j < q then digAt n (20 - d + j) else 0) rfl (HRg.out.alloc _) (some ⟨wr.heap.size, 0, none⟩) 1 1 (fun _ => digAt n (20 - d + q)) rfl ?hsrc (by omega) ?_)
        case hsrc => exact .inr ⟨_, rfl, fun j hj => by
            obtain rfl : j = 0 := by omega
            simp [Addr.add]⟩
        intro w1 hrow1 hb1 hsz1
        have RB : w1.rowIs w.heap.size 43 20 (bufRow n d) := (HRb.out.alloc _).of_block (hb1.block _ (by omega))
        have hB1 : Below w.heap.size w w1 := (hBr.alloc hBr.size _).trans (hb1.mono (by omega))
        have RG : w1.rowIs (w.heap.size + 1) 5 d (fun j => .int .u8 (if j < q + 1 then digAt n (20 - d + j) else 0)) := hrow1.congr (fun j hj => by
          by_cases e : q ≤ j ∧ j < q + 1
          · rw [if_pos e, if_pos e.2, show q = j by omega]
          · rw [if_neg e]
            by_cases e2 : j < q
            · rw [if_pos e2, if_pos (by omega)]
            · rw [if_neg e2, if_neg (by omega)])
        have HRB1 : Hid (w1.rowIs w.heap.size 43 20 (bufRow n d)) := RB
        have HRG1 : Hid (w1.rowIs (w.heap.size + 1) 5 d (fun j => .int .u8 (if j < q + 1 then digAt n (20 - d + j) else 0))) := RG
        clear hrow1 RB RG
        go_wp2
        go_roundw
        case rel => exact ⟨q + 1, by omega, by go_num, rfl, hB1, by omega, HRB1.out, HRG1.out⟩
        case measure => simp [intOf]; omega
      · have hqd : q = d := by omega
        subst hqd
        clear hrb hrg
        go_wp2
        go_ret
        exact ⟨q, _, hd1, hd20, rfl, hBr, .inr ⟨w.heap.size + 1, rfl, by omega, fun j hj => by
          rw [HRg.out.cell hj, if_pos hj]
          unfold digAt
          rw [show 19 - (20 - q + j) = q - 1 - j by omega]⟩, HZ.out, HP.out⟩
end Go.Proofs.Qxb6600537aDoor
