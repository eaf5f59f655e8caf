import Derived.Test.Qxb6600537aDoorUtoa
import Derived.Test.Qxb6600537aDoorFits
import Derived.Test.Qxb6600537aDoorZZ
namespace Go.Proofs.Qxb6600537aDoor
open Go.ChangeShapes Go.WideShapes Go.ChangeAt Go.RowKit
set_option linter.unusedVariables false

theorem bytesB_ok (a0 a2 : Option Addr) (n0 c0 n2 c2 : Nat) (i : Int) (w : World) (h : n0 + n2 ≤ 1048576) :
    Calls Tryd.prog 12 #[.slice a0 n0 c0, .int .u64 i, .slice a2 n2 c2] w fun e w' => e = .returned (.bool true) ∧ w = w' := by
  have h0 : (n0 : Int) ≤ 1048576 := by omega
  have h2 : (n2 : Int) ≤ 1048576 := by omega
  have h3 : (n0 : Int) + n2 ≤ 1048576 := by omega
  go_enter Tryd.func12, Tryd.ntmps12
  go_wp2
  go_ret
  exact ⟨rfl, rfl⟩
theorem bytesB_no (a0 a2 : Option Addr) (n0 c0 n2 c2 : Nat) (i : Int) (w : World) (h : ¬ n0 + n2 ≤ 1048576) :
    Calls Tryd.prog 12 #[.slice a0 n0 c0, .int .u64 i, .slice a2 n2 c2] w fun e w' => e = .returned (.bool false) ∧ w = w' := by
  by_cases h0 : n0 ≤ 1048576
  · have h0' : (n0 : Int) ≤ 1048576 := by omega
    by_cases h2 : n2 ≤ 1048576
    · have h2' : (n2 : Int) ≤ 1048576 := by omega
      have h3 : 1048576 < (n0 : Int) + n2 := by omega
      go_enter Tryd.func12, Tryd.ntmps12
      go_wp2
      go_ret
      exact ⟨rfl, rfl⟩
    · have h2' : 1048576 < (n2 : Int) := by omega
      go_enter Tryd.func12, Tryd.ntmps12
      go_wp2
      go_ret
      exact ⟨rfl, rfl⟩
  · have h0' : 1048576 < (n0 : Int) := by omega
    go_enter Tryd.func12, Tryd.ntmps12
    go_wp2
    go_ret
    exact ⟨rfl, rfl⟩

/-! ### the plain law -/
theorem V_digits (n d m : Nat) (hd : n / 10 ^ d = 0) (hm : m ≤ d) : V (fun q => n / 10 ^ (d - 1 - q) % 10) m = n / 10 ^ (d - m) := by
  induction m with
  | zero => simp [V, hd]
  | succ m ih =>
    show 10 * V (fun q => n / 10 ^ (d - 1 - q) % 10) m + n / 10 ^ (d - 1 - m) % 10 = _
    rw [ih (by omega)]
    have e1 : d - m = (d - 1 - m) + 1 := by omega
    have e2 : d - (m + 1) = d - 1 - m := by omega
    rw [e1, e2, div_step rfl]
    omega
/-- the byte at place q of n's d digits -/
def dq (n d q : Nat) : Int := 48 + ((n / 10 ^ (d - 1 - q) % 10 : Nat) : Int)
/-- the joined bytes -/
def joined (f0 f2 : Nat → Int) (n n0 d : Nat) (j : Nat) : Int :=
  if n0 + d ≤ j then f2 (j - (n0 + d)) else if n0 ≤ j then dq n d (j - n0) else f0 j
/-- what the row holds behind each of the three appends -/
def rowA (f0 : Nat → Int) (n0 : Nat) (j : Nat) : Int := if j < n0 then f0 j else 0
def rowB (f0 : Nat → Int) (n n0 d : Nat) (j : Nat) : Int := if n0 ≤ j ∧ j < n0 + d then dq n d (j - n0) else rowA f0 n0 j
def rowC (f0 f2 : Nat → Int) (n n0 d T : Nat) (j : Nat) : Int := if n0 + d ≤ j ∧ j < T then f2 (j - (n0 + d)) else rowB f0 n n0 d j
theorem rowA_eq (f0 : Nat → Int) (n0 j : Nat) : rowA f0 n0 j = if 0 ≤ j ∧ j < n0 then f0 (j - 0) else 0 := by simp [rowA]
theorem rowC_joined (f0 f2 : Nat → Int) (n n0 d T j : Nat) (hj : j < T) : rowC f0 f2 n n0 d T j = joined f0 f2 n n0 d j := by
  unfold rowC rowB rowA joined
  by_cases e1 : n0 + d ≤ j
  · rw [if_pos ⟨e1, hj⟩, if_pos e1]
  · rw [if_neg (fun h => e1 h.1), if_neg e1]
    by_cases e2 : n0 ≤ j
    · rw [if_pos ⟨e2, by omega⟩, if_pos e2]
    · rw [if_neg (fun h => e2 h.1), if_neg e2, if_pos (by omega)]
theorem joined_dig (f0 f2 : Nat → Int) (n n0 d q : Nat) (h : q < d) : joined f0 f2 n n0 d (n0 + q) = 48 + ((n / 10 ^ (d - 1 - q) % 10 : Nat) : Int) := by
  unfold joined dq
  rw [if_neg (by omega), if_pos (by omega), show n0 + q - n0 = q by omega]
theorem joined_run (f0 f2 : Nat → Int) (n n0 d n2 : Nat) (hs : 0 < n2 → ¬ (48 ≤ f2 0 ∧ f2 0 ≤ 57)) : IsRun (joined f0 f2 n n0 d) (n0 + d + n2) n0 (n0 + d) := by
  refine ⟨by omega, by omega, fun q h1 h2 => ?_, fun h => ?_⟩
  · obtain ⟨r, rfl⟩ : ∃ r, q = n0 + r := ⟨q - n0, by omega⟩
    rw [joined_dig f0 f2 n n0 d r (by omega)]
    omega
  · unfold joined
    rw [if_pos (by omega), Nat.sub_self]
    exact hs (by omega)
theorem joined_V (f0 f2 : Nat → Int) (n n0 d : Nat) (hd : n / 10 ^ d = 0) : V (dg (joined f0 f2 n n0 d) n0) d = n := by
  have h := V_digits n d d hd (Nat.le_refl _)
  rw [Nat.sub_self, Nat.pow_zero, Nat.div_one] at h
  rw [← h]
  rw [h]
  have h2 : V (dg (joined f0 f2 n n0 d) n0) d = V (fun q => n / 10 ^ (d - 1 - q) % 10) d := V_congr _ _ _ (fun q hq => by
    show (joined f0 f2 n n0 d (n0 + q) - 48).toNat = _
    rw [joined_dig f0 f2 n n0 d q hq]
    omega)
  rw [h2, h]
theorem joined_lead (f0 f2 : Nat → Int) (n n0 d : Nat) (hd : n / 10 ^ d = 0) (hp : 1 < d → 0 < n / 10 ^ (d - 1)) : ¬ (1 < d ∧ joined f0 f2 n n0 d n0 = 48) := by
  rintro ⟨h1, h2⟩
  have h3 := joined_dig f0 f2 n n0 d 0 (by omega)
  rw [Nat.add_zero, Nat.sub_zero] at h3
  have h4 := hp h1
  obtain ⟨e, rfl⟩ : ∃ e, d = e + 1 := ⟨d - 1, by omega⟩
  rw [div_step rfl] at hd
  rw [Nat.add_sub_cancel] at h3 h4
  omega
theorem joined_N (f0 f2 : Nat → Int) (n n0 d : Nat) (hn : n ≤ 18446744073709551615) (h1 : 1 ≤ d) (hd : n / 10 ^ d = 0) (hp : 1 < d → 0 < n / 10 ^ (d - 1)) :
    wnN (joined f0 f2 n n0 d) n0 (n0 + d) = (n : Int) ∧ wnB (joined f0 f2 n n0 d) n0 (n0 + d) = true := by
  have e : n0 + d - n0 = d := by omega
  unfold wnN wnB
  rw [e, if_neg (by omega), if_neg (joined_lead f0 f2 n n0 d hd hp), joined_V f0 f2 n n0 d hd, if_pos hn, if_neg (by omega), if_neg (joined_lead f0 f2 n n0 d hd hp), if_pos hn]
  exact ⟨rfl, rfl⟩
end Go.Proofs.Qxb6600537aDoor
