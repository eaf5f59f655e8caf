import Derived.Test.Qxb6600537aDoorClone
import Derived.Test.Qxb6600537aDoorPlain
namespace Go.Proofs.Qxb6600537aDoor
open Go.ChangeShapes Go.WideShapes Go.ChangeAt Go.RowKit
set_option linter.unusedVariables false

theorem isDigit_yes (c : Int) (w : World) (h0 : 48 ≤ c) (h1 : c ≤ 57) : Calls Tryd.prog 8 #[.int .u8 c] w fun e w' => e = .returned (.bool true) ∧ w' = w := by
  go_enter Tryd.func8, Tryd.ntmps8
  go_wp2
  go_ret
  exact ⟨rfl, rfl⟩
theorem isDigit_no (c : Int) (w : World) (h0 : ¬ (48 ≤ c ∧ c ≤ 57)) : Calls Tryd.prog 8 #[.int .u8 c] w fun e w' => e = .returned (.bool false) ∧ w' = w := by
  by_cases h : 48 ≤ c
  · have h2 : ¬ c ≤ 57 := fun h' => h0 ⟨h, h'⟩
    go_enter Tryd.func8, Tryd.ntmps8
    go_wp2
    go_ret
    exact ⟨rfl, rfl⟩
  · go_enter Tryd.func8, Tryd.ntmps8
    go_wp2
    go_ret
    exact ⟨rfl, rfl⟩

set_option maxRecDepth 4000 in
set_option maxHeartbeats 1000000 in
theorem fits20 (b o cap : Nat) (f : Nat → Int) (i : Nat) (w : World) (hd : ∀ q, q < 20 → 48 ≤ f (i + q) ∧ f (i + q) ≤ 57)
    (hc : ∀ q, q < 20 → w.cell? ⟨b, o + q, none⟩ = some (.int .u8 (f (i + q)))) :
    Calls Tryd.prog 9 #[.slice (some ⟨b, o, none⟩) 20 cap] w fun e w' => e = .returned (.bool (decide (V (dg f i) 20 ≤ 18446744073709551615))) ∧ w' = w := by
  go_enter Tryd.func9, Tryd.ntmps9
  go_wp2
  go_loop [3] (fun k => ∃ q : Nat, q ≤ 20 ∧ k = .int .i64 q ∧ ∀ j, j < q → dg f i j = maxDig j) (fun k => 20 - (intOf k).toNat)
  case atStart => exact ⟨0, by omega, rfl, fun j hj => by omega⟩
  case round =>
    obtain ⟨q, hq, rfl, heq⟩ := hrel
    have H : Hid (∀ j, j < q → dg f i j = maxDig j) := heq
    clear heq
    by_cases hlt : q < 20
    · have c1 := hc q hlt
      have HD : Hid (∀ q, q < 20 → 48 ≤ f (i + q) ∧ f (i + q) ≤ 57) := hd
      clear hc hd
      have hlt' : (q : Int) < 20 := by omega
      go_wp2
      · go_ret
        exact ⟨by rw [decide_eq_true (fit_lt f i q hlt _ H.out HD.out ‹_›)]; rfl, rfl⟩
      · go_ret
        exact ⟨by rw [decide_eq_false (fit_gt f i q hlt _ H.out HD.out ‹_›)]; rfl, rfl⟩
      · go_round
        case rel => exact ⟨q + 1, by omega, by go_num, fit_eq f i q hlt _ H.out HD.out ‹_› ‹_›⟩
        case measure => simp [intOf]; omega
    · have hq2 : q = 20 := by omega
      subst hq2
      clear hc hd
      go_wp2
      go_ret
      exact ⟨by rw [decide_eq_true (fit_end f i H.out)]; rfl, rfl⟩

theorem fits_short (b o m cap : Nat) (w : World) (hm : m < 20) :
    Calls Tryd.prog 9 #[.slice (some ⟨b, o, none⟩) m cap] w fun e w' => e = .returned (.bool true) ∧ w' = w := by
  have h : (m : Int) < 20 := by omega
  go_enter Tryd.func9, Tryd.ntmps9
  go_wp2
  go_ret
  exact ⟨rfl, rfl⟩
theorem fits_long (b o m cap : Nat) (w : World) (hm : 20 < m) :
    Calls Tryd.prog 9 #[.slice (some ⟨b, o, none⟩) m cap] w fun e w' => e = .returned (.bool false) ∧ w' = w := by
  have h : (20 : Int) < m := by omega
  go_enter Tryd.func9, Tryd.ntmps9
  go_wp2
  go_ret
  exact ⟨rfl, rfl⟩

def fitB (f : Nat → Int) (i m : Nat) : Bool := decide (V (dg f i) m ≤ 18446744073709551615)
theorem fits_any (b o m cap : Nat) (f : Nat → Int) (i : Nat) (w : World) (hz : ¬ (1 < m ∧ f i = 48)) (hd : ∀ q, q < m → 48 ≤ f (i + q) ∧ f (i + q) ≤ 57)
    (hc : ∀ q, q < m → w.cell? ⟨b, o + q, none⟩ = some (.int .u8 (f (i + q)))) :
    Calls Tryd.prog 9 #[.slice (some ⟨b, o, none⟩) m cap] w fun e w' => e = .returned (.bool (fitB f i m)) ∧ w' = w := by
  rcases Nat.lt_trichotomy m 20 with h | h | h
  · refine (fits_short b o m cap w h).mono ?_
    rintro e w' ⟨rfl, rfl⟩
    exact ⟨by rw [fitB, decide_eq_true (fit_short f i m h hd)], rfl⟩
  · subst h
    exact fits20 b o cap f i w hd hc
  · refine (fits_long b o m cap w h).mono ?_
    rintro e w' ⟨rfl, rfl⟩
    exact ⟨by rw [fitB, decide_eq_false (fit_long f i m h (fun h0 => hz ⟨by omega, h0⟩) hd)], rfl⟩
end Go.Proofs.Qxb6600537aDoor
