import Derived.Test.Qxb6600537aDoorPlace
import Derived.Test.Qxb6600537aDoorZZ
namespace Go.Proofs.Qxb6600537aDoor
open Go.ChangeShapes Go.WideShapes Go.ChangeAt Go.RowKit
set_option linter.unusedVariables false

theorem bytesE_ok (a0 : Option Addr) (n0 c0 : Nat) (i : Int) (w : World) (h : n0 ≤ 1048576) :
    Calls Tryd.prog 6 #[.slice a0 n0 c0, .int .i64 i] w fun e w' => e = .returned (.bool true) ∧ w = w' := by
  have h0 : (n0 : Int) ≤ 1048576 := by omega
  go_enter Tryd.func6, Tryd.ntmps6
  go_wp2
  go_ret
  exact ⟨rfl, rfl⟩
theorem bytesE_no (a0 : Option Addr) (n0 c0 : Nat) (i : Int) (w : World) (h : ¬ n0 ≤ 1048576) :
    Calls Tryd.prog 6 #[.slice a0 n0 c0, .int .i64 i] w fun e w' => e = .returned (.bool false) ∧ w = w' := by
  have h0 : 1048576 < (n0 : Int) := by omega
  go_enter Tryd.func6, Tryd.ntmps6
  go_wp2
  go_ret
  exact ⟨rfl, rfl⟩

set_option maxRecDepth 4000 in
set_option maxHeartbeats 2000000 in
theorem exact_main (a0 : Option Addr) (n cap0 : Nat) (z0 : List Int) (i : Nat) (w : World) (w0 : IsRow .u8 w a0 n cap0 z0) (hn : n ≤ 1048576) (hi : i ≤ n) (he : Errs w) :
    Calls Tryd.prog 3 #[.slice a0 n cap0, .int .i64 i] w fun e w' => e = .returned (.bool true) ∧ Below w.heap.size w w' := by
  have hn0 : (n : Int) ≤ 1048576 := by omega
  have hi0 : (0 : Int) ≤ (i : Int) := by omega
  have hi1 : (i : Int) ≤ (n : Int) := by omega
  go_enter Tryd.func3, Tryd.ntmps3
  go_wp2_with (go_at_call 6; refine (bytesE_ok _ _ _ _ _ hn).mono ?_; rintro e w' ⟨rfl, rfl⟩)
  refine (clone_any _ _ _ _ _ (by omega) w0).mono ?_
  rintro e wc ⟨b0, rfl, hb0, r0⟩
  have hE := he.below hb0
  clear he w0
  obtain ⟨f, hf0⟩ : ∃ f, f = fun i => z0.getD i 0 := ⟨_, rfl⟩
  rw [← hf0] at r0
  clear hf0
  go_upto_block 0 with fail
  go_cut [5] (fun jj wx => ∃ j : Nat, IsRun f n i j ∧ jj = .int .i64 j ∧ wx = wc)
  case first =>
    go_wp2_with fail
    go_loop [5] (fun jj => ∃ j : Nat, i ≤ j ∧ j ≤ n ∧ jj = .int .i64 j ∧ ∀ q, i ≤ q → q < j → 48 ≤ f q ∧ f q ≤ 57) (fun jj => n - (intOf jj).toNat)
    case atStart => exact ⟨i, Nat.le_refl _, hi, rfl, fun q h1 h2 => by omega⟩
    case round =>
      obtain ⟨j, hij, hjn, rfl, hdig⟩ := hrel
      have HD : Hid (∀ q, i ≤ q → q < j → 48 ≤ f q ∧ f q ≤ 57) := hdig
      clear hdig
      by_cases hlt : j < n
      · have hlt' : (j : Int) < (n : Int) := by omega
        obtain ⟨B0, hB0, h3, h4⟩ : ∃ B, b0 = some ⟨B, 0, none⟩ ∧ B < wc.heap.size ∧ ∀ j, j < n → wc.cell? ⟨B, j, none⟩ = some (.int .u8 (f j)) := by
          rcases r0 with h | h
          · omega
          · exact h
        have c1 := h4 j hlt
        subst hB0
        clear h4
        by_cases hd : 48 ≤ f j ∧ f j ≤ 57
        · have HDd : Hid (48 ≤ f j ∧ f j ≤ 57) := hd
          clear hd
          go_wp2_with (go_at_call 8; refine (isDigit_yes _ _ HDd.out.1 HDd.out.2).mono ?_; rintro e w' ⟨rfl, rfl⟩)
          go_round
          case rel => exact ⟨j + 1, by omega, by omega, by go_num, fun q h1 h2 => by
            by_cases e : q = j
            · subst e; exact HDd.out
            · exact HD.out q h1 (by omega)⟩
          case measure => simp [intOf]; omega
        · have HDd : Hid (¬ (48 ≤ f j ∧ f j ≤ 57)) := hd
          clear hd
          go_wp2_with (go_at_call 8; refine (isDigit_no _ _ HDd.out).mono ?_; rintro e w' ⟨rfl, rfl⟩)
          go_meet
          case rel => exact ⟨j, ⟨hij, hjn, HD.out, fun _ => HDd.out⟩, rfl, rfl⟩
      · go_wp2
        go_meet
        case rel => exact ⟨j, ⟨hij, hjn, HD.out, fun h => absurd h hlt⟩, rfl, rfl⟩
  case rest =>
    obtain ⟨j, run, rfl, hwc⟩ := hcut
    subst hwc
    have HR : Hid (IsRun f n i j) := run
    have hij := run.le
    have hjn := run.len
    have HD : Hid (∀ q, i ≤ q → q < j → 48 ≤ f q ∧ f q ≤ 57) := run.dig
    have HE : Hid (Errs wc) := hE
    have hij' : (i : Int) ≤ (j : Int) := by omega
    have hjn' : (j : Int) ≤ (n : Int) := by omega
    clear run hE
    by_cases hm : j = i
    · subst hm
      have eN : wnN f j j = 0 := by simp [wnN]
      have eB : wnB f j j = false := by simp [wnB]
      have HRo : Hid (Row wc b0 n f) := r0
      rcases r0 with hn00 | ⟨B0, hB0, h3, h4⟩
      · subst hn00
        have hj0 : j = 0 := by omega
        subst hj0
        go_wp2_with fail
        refine (zzwhole 0 0 0 0 b0 f _ (by omega) (by omega) HRo.out HE.out HR.out).mono ?_
        rw [eN, eB]
        rintro e wd ⟨rfl, hb⟩
        go_wp2
        go_ret
        exact ⟨rfl, hb0.trans (hb.mono hb0.size)⟩
      · subst hB0
        clear h4
        by_cases hnj : n = j
        · subst hnj
          go_wp2_with fail
          refine (zzwhole n n n n _ f _ (by omega) (by omega) HRo.out HE.out HR.out).mono ?_
          rw [eN, eB]
          rintro e wd ⟨rfl, hb⟩
          go_wp2
          go_ret
          exact ⟨rfl, hb0.trans (hb.mono hb0.size)⟩
        · go_wp2_with fail
          refine (zzwhole n n j j _ f _ (by omega) (by omega) HRo.out HE.out HR.out).mono ?_
          rw [eN, eB]
          rintro e wd ⟨rfl, hb⟩
          go_wp2
          go_ret
          exact ⟨rfl, hb0.trans (hb.mono hb0.size)⟩
    · have HRo : Hid (Row wc b0 n f) := r0
      rcases r0 with hn00 | ⟨B0, hB0, h3, h4⟩
      · omega
      subst hB0
      have hd : ∀ q, q < j - i → 48 ≤ f (i + q) ∧ f (i + q) ≤ 57 := fun q hq => HD.out (i + q) (by omega) (by omega)
      have hcs : ∀ q, q < j - i → wc.cell? ⟨B0, i + q, none⟩ = some (.int .u8 (f (i + q))) := fun q hq => h4 (i + q) (by omega)
      have HDm : Hid (∀ q, q < j - i → 48 ≤ f (i + q) ∧ f (i + q) ≤ 57) := hd
      have HCm : Hid (∀ q, q < j - i → wc.cell? ⟨B0, i + q, none⟩ = some (.int .u8 (f (i + q)))) := hcs
      have c4 := h4 i (by omega)
      have hni : ¬ n = i := by omega
      have hlt1 : (i : Int) < (j : Int) := by omega
      have hl0 : ¬ ((j - i : Nat) : Int) = 0 := by omega
      have hl0' : (((j - i : Nat) : Int) == 0) = false := by simpa using hl0
      clear h4 hd hcs
      by_cases hz : 1 < j - i ∧ f i = 48
      · have eN : wnN f i j = 0 := by rw [wnN, if_neg hm, if_pos hz]
        have eB : wnB f i j = false := by rw [wnB, if_neg hm, if_pos hz]
        obtain ⟨hz1, hz2⟩ := hz
        rw [hz2] at c4
        clear hz2
        have hz1' : (1 : Int) < ((j - i : Nat) : Int) := by omega
        go_wp2_with fail
        refine (zzwhole n n i j _ f _ (by omega) (by omega) HRo.out HE.out HR.out).mono ?_
        rw [eN, eB]
        rintro e wd ⟨rfl, hb⟩
        go_wp2
        go_ret
        exact ⟨rfl, hb0.trans (hb.mono hb0.size)⟩
      · have hz' : (¬ (1 : Int) < ((j - i : Nat) : Int)) ∨ ((1 : Int) < ((j - i : Nat) : Int) ∧ (f i == 48) = false) := by
          by_cases h1 : 1 < j - i
          · exact .inr ⟨by omega, by simpa using fun h => hz ⟨h1, h⟩⟩
          · exact .inl (by omega)
        have HZ : Hid (¬ (1 < j - i ∧ f i = 48)) := hz
        have hm20 : V (dg f i) (j - i) ≤ 18446744073709551615 → j - i ≤ 20 := fun hV => by
          by_cases h : j - i ≤ 20
          · exact h
          · exact absurd hV (fit_long f i (j - i) (by omega) (fun h0 => hz ⟨by omega, h0⟩) HDm.out)
        clear hz
        by_cases hfit : V (dg f i) (j - i) ≤ 18446744073709551615
        · have eN : wnN f i j = (V (dg f i) (j - i) : Int) := by rw [wnN, if_neg hm, if_neg HZ.out, if_pos hfit]
          have eB : wnB f i j = true := by rw [wnB, if_neg hm, if_neg HZ.out, if_pos hfit]
          have eF : fitB f i (j - i) = true := decide_eq_true hfit
          have hm2 := hm20 hfit
          obtain ⟨Vv, hVv⟩ : ∃ v, v = V (dg f i) (j - i) := ⟨_, rfl⟩
          rw [← hVv] at eN
          have HV : Hid (Vv = V (dg f i) (j - i)) := hVv
          have HF : Hid (V (dg f i) (j - i) ≤ 18446744073709551615) := hfit
          clear hm20 hVv hfit
          rcases hz' with hz | ⟨hz, hz2⟩
          all_goals
            go_wp2_with fail
            refine (fits_any B0 i (j - i) (n - i) f i _ HZ.out HDm.out HCm.out).mono ?_
            rw [eF]
            rintro e wd ⟨rfl, hwd⟩
            subst hwd
            go_wp2_with fail
            refine (place_any B0 i (j - i) (n - i) f i _ hm2 HDm.out HF.out HCm.out).mono ?_
            rw [← HV.out]
            rintro e wd ⟨rfl, hwd⟩
            subst hwd
            go_wp2_with fail
            refine (zzwhole n n i j _ f _ (by omega) (by omega) HRo.out HE.out HR.out).mono ?_
            rw [eN, eB]
            rintro e wd ⟨rfl, hb⟩
            go_wp2
            go_ret
            exact ⟨rfl, hb0.trans (hb.mono hb0.size)⟩
        · have eN : wnN f i j = 18446744073709551615 := by rw [wnN, if_neg hm, if_neg HZ.out, if_neg hfit]
          have eB : wnB f i j = false := by rw [wnB, if_neg hm, if_neg HZ.out, if_neg hfit]
          have eF : fitB f i (j - i) = false := decide_eq_false hfit
          clear hm20 hfit
          rcases hz' with hz | ⟨hz, hz2⟩
          all_goals
            go_wp2_with fail
            refine (fits_any B0 i (j - i) (n - i) f i _ HZ.out HDm.out HCm.out).mono ?_
            rw [eF]
            rintro e wd ⟨rfl, hwd⟩
            subst hwd
            go_wp2_with fail
            refine (zzwhole n n i j _ f _ (by omega) (by omega) HRo.out HE.out HR.out).mono ?_
            rw [eN, eB]
            rintro e wd ⟨rfl, hb⟩
            go_wp2
            go_ret
            exact ⟨rfl, hb0.trans (hb.mono hb0.size)⟩

theorem exact_walk (a0 : Option Addr) (n cap0 : Nat) (z0 : List Int) (a1 : Int) (w : World) (w0 : IsRow .u8 w a0 n cap0 z0) (he : Errs w) :
    Calls Tryd.prog 3 #[.slice a0 n cap0, .int .i64 a1] w fun e w' => e = .returned (.bool true) ∧ Below w.heap.size w w' := by
  by_cases hn : n ≤ 1048576
  · have hn0 : (n : Int) ≤ 1048576 := by omega
    by_cases h1 : a1 < 0
    · go_enter Tryd.func3, Tryd.ntmps3
      go_wp2_with (go_at_call 6; refine (bytesE_ok _ _ _ _ _ hn).mono ?_; rintro e w' ⟨rfl, rfl⟩)
      go_ret
      exact ⟨rfl, Below.refl _ _⟩
    · by_cases h2 : (n : Int) < a1
      · go_enter Tryd.func3, Tryd.ntmps3
        go_wp2_with (go_at_call 6; refine (bytesE_ok _ _ _ _ _ hn).mono ?_; rintro e w' ⟨rfl, rfl⟩)
        go_ret
        exact ⟨rfl, Below.refl _ _⟩
      · obtain ⟨i, rfl⟩ : ∃ i : Nat, a1 = (i : Int) := ⟨a1.toNat, by omega⟩
        exact exact_main a0 n cap0 z0 i w w0 hn (by omega) he
  · go_enter Tryd.func3, Tryd.ntmps3
    go_wp2_with (go_at_call 6; refine (bytesE_no _ _ _ _ _ hn).mono ?_; rintro e w' ⟨rfl, rfl⟩)
    go_ret
    exact ⟨rfl, Below.refl _ _⟩
end Go.Proofs.Qxb6600537aDoor
