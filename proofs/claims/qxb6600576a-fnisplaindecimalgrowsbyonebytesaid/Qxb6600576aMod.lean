import Derived.Test.Qxb6600576aDec
namespace Go.Proofs.Qxb6600576a
open Go.ChangeShapes Go.WideShapes Go.ChangeAt Go.RowKit
set_option linter.unusedVariables false

theorem fi_append_none : ∀ (l r : List UInt8), fi l = none → fi (l ++ r) = (fi r).map (· + l.length)
  | [], r, _ => by simp
  | c :: l, r, h => by
    rw [fi] at h
    by_cases hc : c.toNat = 46
    · rw [if_pos hc] at h; cases h
    · rw [if_neg hc] at h
      have h' : fi l = none := by
        cases e : fi l with
        | none => rfl
        | some v => rw [e] at h; cases h
      rw [List.cons_append, fi, if_neg hc, fi_append_none l r h']
      cases fi r with
      | none => rfl
      | some v => simp; omega
theorem fi_take_succ (s : ByteArray) (i : Nat) (h : i < s.size) (hn : fi (s.data.toList.take i) = none) (hc : ¬ s[i].toNat = 46) : fi (s.data.toList.take (i + 1)) = none := by
  rw [take_snoc s i h, fi_append_none _ _ hn]
  simp [fi, hc]
theorem fi_found (s : ByteArray) (i : Nat) (h : i < s.size) (hn : fi (s.data.toList.take i) = none) (hc : s[i].toNat = 46) : fi s.data.toList = some i := by
  have hl : (s.data.toList.take i).length = i := by simp; omega
  have e : s.data.toList = s.data.toList.take i ++ s.data.toList.drop i := (List.take_append_drop i _).symm
  have hd : s.data.toList.drop i = s[i] :: s.data.toList.drop (i + 1) := by
    rw [List.drop_eq_getElem_cons (by simpa using h)]; rfl
  rw [e, fi_append_none _ _ hn, hd, fi, if_pos hc, hl]
  simp

/-- What firstIndex answers. -/
def fiv (l : List UInt8) : Int := match fi l with
  | none => -1
  | some i => i

set_option maxHeartbeats 1000000 in
theorem firstIndex (s : ByteArray) (w : World) (hs : s.size ≤ 2097152) :
    Calls Try.prog 12 #[.string s, .int .u8 46] w fun e w' => e = .returned (.int .i64 (fiv s.data.toList)) ∧ w = w' := by
  go_enter Try.func12, Try.ntmps12
  go_wp2
  go_loop [5] (fun iv => ∃ i : Nat, i ≤ s.size ∧ iv = .int .i64 i ∧ fi (s.data.toList.take i) = none) (fun iv => s.size - (intOf iv).toNat)
  case atStart => exact ⟨0, Nat.zero_le _, rfl, rfl⟩
  case round =>
    obtain ⟨i, hi, rfl, hn⟩ := hrel
    have HN : Hid (fi (s.data.toList.take i) = none) := hn
    clear hn
    by_cases hlt : i < s.size
    · have HF : Hid ((s[i].toNat : Int) = 46 → fi s.data.toList = some i) := fun h => fi_found s i hlt HN.out (by omega)
      have HT : Hid (¬ (s[i].toNat : Int) = 46 → fi (s.data.toList.take (i + 1)) = none) := fun h => fi_take_succ s i hlt HN.out (by omega)
      go_wp2
      · have h0 : ((s[i].toNat : Int) == 46) = true := by assumption
        have h1 : (s[i].toNat : Int) = 46 := eq_of_beq h0
        go_ret
        exact ⟨by unfold fiv; rw [HF.out h1]; rfl, rfl⟩
      · have h0 : ((s[i].toNat : Int) == 46) = false := by assumption
        have h1 : ¬ (s[i].toNat : Int) = 46 := beq_eq_false_iff_ne.1 h0
        go_round
        case rel => exact ⟨i + 1, by omega, by go_num, HT.out h1⟩
        case measure => simp [intOf]; omega
    · have HE : Hid (fi s.data.toList = none) := by
        have e : s.data.toList.take i = s.data.toList := List.take_of_length_le (by simp; omega)
        have h := HN.out
        rw [e] at h
        exact h
      go_wp2
      go_ret
      exact ⟨by unfold fiv; rw [HE.out]; rfl, rfl⟩

set_option maxHeartbeats 1000000 in
theorem decimalModel (s : ByteArray) (w : World) (hs : s.size ≤ 2097152) :
    Calls Try.prog 9 #[.string s] w fun e w' => e = .returned (.bool (model s.data.toList)) ∧ w = w' := by
  cases h : fi s.data.toList with
  | none =>
    have hv : fiv s.data.toList = -1 := by unfold fiv; rw [h]
    have hm : model s.data.toList = ad s.data.toList := by unfold model; rw [h]
    go_enter Try.func9, Try.ntmps9
    go_wp2_with (first
      | (go_at_call 12; refine (firstIndex _ _ hs).mono ?_; rintro e w' ⟨rfl, rfl⟩; rw [hv])
      | (go_at_call 20; refine (allDigits _ _ hs).mono ?_; rintro e w' ⟨rfl, rfl⟩))
    go_ret
    exact ⟨by rw [hm]; rfl, rfl⟩
  | some i =>
    have hv : fiv s.data.toList = i := by unfold fiv; rw [h]
    have hi : i < s.size := by simpa using fi_lt _ _ h
    have hm : model s.data.toList = (ad (s.extract 0 i).data.toList && ad (s.extract (i + 1) s.size).data.toList) := by
      unfold model; rw [h]
      have e1 : (s.extract 0 i).data.toList = s.data.toList.take i := by simp
      have e2 : (s.extract (i + 1) s.size).data.toList = s.data.toList.drop (i + 1) := by
        have : s.data.toList.length = s.size := by simp
        simp; rw [List.take_of_length_le (by simp)]
      rw [e1, e2]
    have hs1 : (s.extract 0 i).size ≤ 2097152 := by simp; omega
    have hs2 : (s.extract (i + 1) s.size).size ≤ 2097152 := by simp; omega
    cases hb : ad (s.extract 0 i).data.toList with
    | false =>
      go_enter Try.func9, Try.ntmps9
      go_wp2_with (first
        | (go_at_call 12; refine (firstIndex _ _ hs).mono ?_; rintro e w' ⟨rfl, rfl⟩; rw [hv])
        | (go_at_call 20; refine (allDigits _ _ hs1).mono ?_; rintro e w' ⟨rfl, rfl⟩; rw [hb]))
      go_ret
      exact ⟨by rw [hm, hb]; rfl, rfl⟩
    | true =>
      go_enter Try.func9, Try.ntmps9
      go_wp2_with (first
        | (go_at_call 12; refine (firstIndex _ _ hs).mono ?_; rintro e w' ⟨rfl, rfl⟩; rw [hv])
        | (go_at_call 20; refine (allDigits _ _ (by first | exact hs1 | exact hs2)).mono ?_; rintro e w' ⟨rfl, rfl⟩; try rw [hb]))
      go_ret
      refine ⟨?_, rfl⟩
      rw [hm, hb]
      simp

theorem zz7 (s : ByteArray) (w : World) (hs : s.size ≤ maxLen) :
    Calls Try.prog 7 #[.string s] w fun e w' => e = .returned (.bool (decide (s.size ≤ 1048576))) ∧ w = w' := by
  by_cases h : s.size ≤ 1048576
  · rw [decide_eq_true h]
    go_enter Try.func7, Try.ntmps7
    go_wp2
    go_ret
    exact ⟨rfl, rfl⟩
  · rw [decide_eq_false h]
    go_enter Try.func7, Try.ntmps7
    go_wp2
    go_ret
    exact ⟨rfl, rfl⟩
theorem zz10 (s : ByteArray) (c : Int) (w : World) (hs : s.size ≤ maxLen) :
    Calls Try.prog 10 #[.string s, .int .u8 c] w fun e w' => e = .returned (.bool (decide (s.size ≤ 1048576))) ∧ w = w' := by
  by_cases h : s.size ≤ 1048576
  · rw [decide_eq_true h]
    go_enter Try.func10, Try.ntmps10
    go_wp2
    go_ret
    exact ⟨rfl, rfl⟩
  · rw [decide_eq_false h]
    go_enter Try.func10, Try.ntmps10
    go_wp2
    go_ret
    exact ⟨rfl, rfl⟩

theorem law3 (s : ByteArray) (w : World) (hs : s.size ≤ maxLen) :
    Calls Try.prog 3 #[.string s] w fun e w' => e = .returned (.bool true) ∧ Grown w w' := by
  by_cases h : s.size ≤ 1048576
  · have hd : decide (s.size ≤ 1048576) = true := decide_eq_true h
    have hs2 : s.size ≤ 2097152 := by omega
    go_enter Try.func3, Try.ntmps3
    go_wp2_with (first
      | (go_at_call 7; refine (zz7 _ _ hs).mono ?_; rintro e w' ⟨rfl, rfl⟩; rw [hd])
      | (go_at_call 8; refine (zzIsPlain _ _ hs2).mono ?_; rintro e w' ⟨rfl, rfl⟩; rw [pd_model])
      | (go_at_call 9; refine (decimalModel _ _ hs2).mono ?_; rintro e w' ⟨rfl, rfl⟩))
    go_ret
    exact ⟨by simp, Grown.refl _⟩
  · have hd : decide (s.size ≤ 1048576) = false := decide_eq_false h
    go_enter Try.func3, Try.ntmps3
    go_wp2_with (go_at_call 7; refine (zz7 _ _ hs).mono ?_; rintro e w' ⟨rfl, rfl⟩; rw [hd])
    go_ret
    exact ⟨rfl, Grown.refl _⟩
end Go.Proofs.Qxb6600576a
