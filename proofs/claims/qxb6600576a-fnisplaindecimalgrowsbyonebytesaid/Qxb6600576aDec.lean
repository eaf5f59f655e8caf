import Derived.Test.Qxb6600576aPlain
import Derived.WalkKit
import Derived.ProofKit
import Derived.OpenShut
import Derived.ShutString
import Derived.Below
import Derived.WalkSpells
import Derived.Handy
namespace Go.Proofs.Qxb6600576a
open Go.ChangeShapes Go.WideShapes Go.ChangeAt Go.RowKit
set_option linter.unusedVariables false

theorem take_snoc (s : ByteArray) (k : Nat) (h : k < s.size) : s.data.toList.take (k + 1) = s.data.toList.take k ++ [s[k]] := by
  rw [List.take_succ_eq_append_getElem (by simpa using h)]; rfl
theorem dig_of {c : UInt8} (h1 : (48 : Int) ≤ (c.toNat : Int)) (h2 : (c.toNat : Int) ≤ 57) : isDig c = true := by
  unfold isDig; exact decide_eq_true (by omega)
theorem nodig_of {c : UInt8} (h : ¬ ((48 : Int) ≤ (c.toNat : Int) ∧ (c.toNat : Int) ≤ 57)) : isDig c = false := by
  unfold isDig; exact decide_eq_false (by omega)

theorem pd_false_of (l : List UInt8) (i : Nat) (h : st (l.take i) = none) : pd l = false := by
  unfold pd
  rw [st_take_none l i h]
  rfl

set_option maxHeartbeats 1000000 in
theorem isPlain (s : ByteArray) (w : World) (hs : s.size ≤ 2097152) :
    Calls Try.prog 19 #[.string s] w fun e w' => e = .returned (.bool (pd s.data.toList)) ∧ w = w' := by
  go_enter Try.func19, Try.ntmps19
  go_wp2
  go_loop [3, 4, 5] (fun dv pv iv => ∃ (i d : Nat) (p : Bool), i ≤ s.size ∧ iv = .int .i64 i ∧ dv = .int .i64 d ∧ pv = .bool p ∧ d ≤ i ∧ st (s.data.toList.take i) = some (d, p)) (fun _ _ iv => s.size - (intOf iv).toNat)
  case atStart => exact ⟨0, 0, false, Nat.zero_le _, rfl, rfl, rfl, Nat.le_refl _, rfl⟩
  case round =>
    obtain ⟨i, d, p, hi, rfl, rfl, rfl, hd, hst⟩ := hrel
    have HS : Hid (st (s.data.toList.take i) = some (d, p)) := hst
    clear hst
    by_cases hlt : i < s.size
    · have HT : Hid (st (s.data.toList.take (i + 1)) = step (some (d, p)) s[i]) := by
        show st _ = _
        rw [take_snoc s i hlt, st_snoc, HS.out]
      go_wp2
      · go_round
        case rel => exact ⟨i + 1, d + 1, p, by omega, by go_num, by go_num, rfl, by omega, by rw [HT.out, step_dig (dig_of ‹_› ‹_›)]⟩
        case measure => simp [intOf]; omega
      · have h1 : (57 : Int) < (s[i].toNat : Int) := by assumption
        have hn := HT.out
        rw [step_no (nodig_of (by omega)) (by omega)] at hn
        go_ret
        exact ⟨by rw [pd_false_of _ _ hn]; rfl, rfl⟩
      · have h1 : (s[i].toNat : Int) = 46 := by assumption
        have h2 : p = true := by assumption
        have hn := HT.out
        rw [step_no (nodig_of (by omega)) (by rw [h2]; simp)] at hn
        go_ret
        exact ⟨by rw [pd_false_of _ _ hn]; rfl, rfl⟩
      · have h1 : (s[i].toNat : Int) = 46 := by assumption
        have h2 : ¬ p = true := by assumption
        have h3 : 0 < d := by assumption
        have hp : p = false := by simpa using h2
        have hn := HT.out
        rw [hp, step_pt (by omega) h3] at hn
        go_round
        case rel => exact ⟨i + 1, 0, true, by omega, by go_num, rfl, rfl, by omega, hn⟩
        case measure => simp [intOf]; omega
      · have h1 : (s[i].toNat : Int) = 46 := by assumption
        have h3 : ¬ 0 < d := by assumption
        have hn := HT.out
        rw [step_no (nodig_of (by omega)) (fun h => h3 h.2.2)] at hn
        go_ret
        exact ⟨by rw [pd_false_of _ _ hn]; rfl, rfl⟩
      · have h1 : (s[i].toNat : Int) < 48 := by assumption
        have h2 : ¬ (s[i].toNat : Int) = 46 := by assumption
        have hn := HT.out
        rw [step_no (nodig_of (by omega)) (by omega)] at hn
        go_ret
        exact ⟨by rw [pd_false_of _ _ hn]; rfl, rfl⟩
    · have hpd : pd s.data.toList = decide (0 < d) := by
        have e : s.data.toList.take i = s.data.toList := List.take_of_length_le (by simp; omega)
        have h := HS.out
        rw [e] at h
        unfold pd
        rw [h]
        rfl
      go_wp2
      go_ret
      exact ⟨rfl, rfl⟩

theorem zzIsPlain (s : ByteArray) (w : World) (hs : s.size ≤ 2097152) :
    Calls Try.prog 8 #[.string s] w fun e w' => e = .returned (.bool (pd s.data.toList)) ∧ w = w' := by
  go_enter Try.func8, Try.ntmps8
  go_wp2_with (go_at_call 19; refine (isPlain _ _ hs).mono ?_; rintro e w' ⟨rfl, rfl⟩)
  go_ret
  exact ⟨rfl, rfl⟩

/-! ### the model's callees -/
theorem all_take_false (l : List UInt8) (i : Nat) (h : i < l.length) (hd : isDig l[i] = false) : ad l = false := by
  unfold ad
  have : l.all isDig = false := by
    rw [List.all_eq_false]
    exact ⟨l[i], List.getElem_mem h, by rw [hd]; simp⟩
  rw [this, Bool.and_false]
set_option maxHeartbeats 1000000 in
theorem allDigits (s : ByteArray) (w : World) (hs : s.size ≤ 2097152) :
    Calls Try.prog 20 #[.string s] w fun e w' => e = .returned (.bool (ad s.data.toList)) ∧ w = w' := by
  by_cases h0 : s.size = 0
  · have he : ad s.data.toList = false := by
      have : s.data.toList = [] := List.eq_nil_of_length_eq_zero (by simpa using h0)
      rw [this]; rfl
    have h0' : ((s.size : Int) == 0) = true := by simp [h0]
    go_enter Try.func20, Try.ntmps20
    go_wp2
    go_ret
    exact ⟨by rw [he]; rfl, rfl⟩
  · have h0' : ((s.size : Int) == 0) = false := beq_eq_false_iff_ne.2 (by omega)
    go_enter Try.func20, Try.ntmps20
    go_wp2
    go_loop [3] (fun iv => ∃ i : Nat, i ≤ s.size ∧ iv = .int .i64 i ∧ (s.data.toList.take i).all isDig = true) (fun iv => s.size - (intOf iv).toNat)
    case atStart => exact ⟨0, Nat.zero_le _, rfl, rfl⟩
    case round =>
      obtain ⟨i, hi, rfl, hall⟩ := hrel
      have HA : Hid ((s.data.toList.take i).all isDig = true) := hall
      clear hall
      by_cases hlt : i < s.size
      · have hlt' : i < s.data.toList.length := by simpa using hlt
        have HF : Hid (isDig s[i] = false → ad s.data.toList = false) := fun h => all_take_false _ i hlt' h
        have HT : Hid (isDig s[i] = true → (s.data.toList.take (i + 1)).all isDig = true) := fun h => by
          rw [take_snoc s i hlt, List.all_append, HA.out]; simp [h]
        go_wp2
        · have h1 : (s[i].toNat : Int) < 48 ∨ (57 : Int) < (s[i].toNat : Int) := by assumption
          go_ret
          exact ⟨by rw [HF.out (nodig_of (by omega))]; rfl, rfl⟩
        · have h1 : (48 : Int) ≤ (s[i].toNat : Int) ∧ (s[i].toNat : Int) ≤ 57 := by assumption
          go_round
          case rel => exact ⟨i + 1, by omega, by go_num, HT.out (dig_of h1.1 h1.2)⟩
          case measure => simp [intOf]; omega
        · have h1 : (s[i].toNat : Int) < 48 := by assumption
          go_ret
          exact ⟨by rw [HF.out (nodig_of (by omega))]; rfl, rfl⟩
      · have had : ad s.data.toList = true := by
          have e : s.data.toList.take i = s.data.toList := List.take_of_length_le (by simp; omega)
          have h := HA.out
          rw [e] at h
          unfold ad
          rw [h]
          have : s.data.toList ≠ [] := fun hn => h0 (by simpa using congrArg List.length hn)
          simpa using this
        go_wp2
        go_ret
        exact ⟨rfl, rfl⟩
end Go.Proofs.Qxb6600576a
