import Derived.Test.Qxb6600576aWith
namespace Go.Proofs.Qxb6600576a
open Go.ChangeShapes Go.WideShapes Go.ChangeAt Go.RowKit
set_option linter.unusedVariables false

theorem snoc_list (s : ByteArray) (c : UInt8) : (snoc s c).data.toList = s.data.toList ++ [c] := by simp [snoc]
theorem snoc_size (s : ByteArray) (c : UInt8) : (snoc s c).size = s.size + 1 := by
  show (s.data.toList ++ [c]).toArray.size = _
  simp

/-- The answers that the law takes, as facts for the walk. -/
theorem grow_big (s : ByteArray) (x : Int) (w : World) (hs : s.size ≤ maxLen) (h : ¬ s.size ≤ 1048576) :
    Calls Try.prog 4 #[.string s, .int .u8 x] w fun e w' => e = .returned (.bool true) ∧ Below w.heap.size w w' := by
  have hd : decide (s.size ≤ 1048576) = false := decide_eq_false h
  go_enter Try.func4, Try.ntmps4
  go_wp2_with (go_at_call 10; refine (zz10 _ _ _ hs).mono ?_; rintro e w' ⟨rfl, rfl⟩; rw [hd])
  go_ret
  exact ⟨rfl, Below.refl _ _⟩

theorem grow_lo (s : ByteArray) (c : UInt8) (w : World) (h : s.size ≤ 1048576) (hc : c.toNat < 48) :
    Calls Try.prog 4 #[.string s, .int .u8 (c.toNat : Int)] w fun e w' => e = .returned (.bool true) ∧ Below w.heap.size w w' := by
  have hd : decide (s.size ≤ 1048576) = true := decide_eq_true h
  have hm : s.size ≤ maxLen := by unfold maxLen; omega
  have hz : (snoc s c).size ≤ 2097152 := by rw [snoc_size]; omega
  have hs2 : s.size ≤ 2097152 := by omega
  have hs' : (s.size : Int) ≤ 1048576 := by omega
  have hg : pd (snoc s c).data.toList = false := by rw [snoc_list]; exact pd_snoc_no _ _ (nodig_of (by omega))
  have hc1 : (c.toNat : Int) < 48 := by omega
  go_enter Try.func4, Try.ntmps4
  go_wp2_with (first
    | (go_at_call 10; refine (zz10 _ _ _ hm).mono ?_; rintro e w' ⟨rfl, rfl⟩; rw [hd])
    | (go_at_call 11; refine (withByte _ _ _ h).mono ?_; rintro e w1 ⟨rfl, hb⟩)
    | (go_at_call 8; refine (zzIsPlain _ _ (by first | (with_reducible exact hz) | (with_reducible exact hs2) | (with_reducible exact ht2))).mono ?_; rintro e w' ⟨rfl, rfl⟩; first | rw [hg] | rw [hp] | rw [hq])
    | (go_at_call 12; refine (firstIndex _ _ ht2).mono ?_; rintro e w' ⟨rfl, rfl⟩; rw [hv]))
  go_ret
  exact ⟨rfl, hb⟩
theorem grow_hi (s : ByteArray) (c : UInt8) (w : World) (h : s.size ≤ 1048576) (hc : 57 < c.toNat) :
    Calls Try.prog 4 #[.string s, .int .u8 (c.toNat : Int)] w fun e w' => e = .returned (.bool true) ∧ Below w.heap.size w w' := by
  have hd : decide (s.size ≤ 1048576) = true := decide_eq_true h
  have hm : s.size ≤ maxLen := by unfold maxLen; omega
  have hz : (snoc s c).size ≤ 2097152 := by rw [snoc_size]; omega
  have hs2 : s.size ≤ 2097152 := by omega
  have hs' : (s.size : Int) ≤ 1048576 := by omega
  have hg : pd (snoc s c).data.toList = false := by rw [snoc_list]; exact pd_snoc_no _ _ (nodig_of (by omega))
  have hc1 : ¬ (c.toNat : Int) < 48 := by omega
  have hc2 : (57 : Int) < (c.toNat : Int) := by omega
  go_enter Try.func4, Try.ntmps4
  go_wp2_with (first
    | (go_at_call 10; refine (zz10 _ _ _ hm).mono ?_; rintro e w' ⟨rfl, rfl⟩; rw [hd])
    | (go_at_call 11; refine (withByte _ _ _ h).mono ?_; rintro e w1 ⟨rfl, hb⟩)
    | (go_at_call 8; refine (zzIsPlain _ _ (by first | (with_reducible exact hz) | (with_reducible exact hs2) | (with_reducible exact ht2))).mono ?_; rintro e w' ⟨rfl, rfl⟩; first | rw [hg] | rw [hp] | rw [hq])
    | (go_at_call 12; refine (firstIndex _ _ ht2).mono ?_; rintro e w' ⟨rfl, rfl⟩; rw [hv]))
  go_ret
  exact ⟨rfl, hb⟩
theorem grow_empty (s : ByteArray) (c : UInt8) (w : World) (h : s.size ≤ 1048576) (hc : 48 ≤ c.toNat ∧ c.toNat ≤ 57) (h0 : s.size = 0) (hg : pd (snoc s c).data.toList = true) :
    Calls Try.prog 4 #[.string s, .int .u8 (c.toNat : Int)] w fun e w' => e = .returned (.bool true) ∧ Below w.heap.size w w' := by
  have hd : decide (s.size ≤ 1048576) = true := decide_eq_true h
  have hm : s.size ≤ maxLen := by unfold maxLen; omega
  have hz : (snoc s c).size ≤ 2097152 := by rw [snoc_size]; omega
  have hs2 : s.size ≤ 2097152 := by omega
  have hs' : (s.size : Int) ≤ 1048576 := by omega
  have hc1 : ¬ (c.toNat : Int) < 48 := by omega
  have hc2 : ¬ (57 : Int) < (c.toNat : Int) := by omega
  have h0' : ((s.size : Int) == 0) = true := by simp [h0]
  have h1 : s.data.toList.length = 0 := by simpa using h0
  go_enter Try.func4, Try.ntmps4
  go_wp2_with (first
    | (go_at_call 10; refine (zz10 _ _ _ hm).mono ?_; rintro e w' ⟨rfl, rfl⟩; rw [hd])
    | (go_at_call 11; refine (withByte _ _ _ h).mono ?_; rintro e w1 ⟨rfl, hb⟩)
    | (go_at_call 8; refine (zzIsPlain _ _ (by first | (with_reducible exact hz) | (with_reducible exact hs2) | (with_reducible exact ht2))).mono ?_; rintro e w' ⟨rfl, rfl⟩; first | rw [hg] | rw [hp] | rw [hq])
    | (go_at_call 12; refine (firstIndex _ _ ht2).mono ?_; rintro e w' ⟨rfl, rfl⟩; rw [hv]))
  go_ret
  exact ⟨rfl, hb⟩
theorem grow_yes (s : ByteArray) (c : UInt8) (w : World) (h : s.size ≤ 1048576) (hc : 48 ≤ c.toNat ∧ c.toNat ≤ 57) (h0 : s.size ≠ 0) (hp : pd s.data.toList = true) (hg : pd (snoc s c).data.toList = true) :
    Calls Try.prog 4 #[.string s, .int .u8 (c.toNat : Int)] w fun e w' => e = .returned (.bool true) ∧ Below w.heap.size w w' := by
  have hd : decide (s.size ≤ 1048576) = true := decide_eq_true h
  have hm : s.size ≤ maxLen := by unfold maxLen; omega
  have hz : (snoc s c).size ≤ 2097152 := by rw [snoc_size]; omega
  have hs2 : s.size ≤ 2097152 := by omega
  have hs' : (s.size : Int) ≤ 1048576 := by omega
  have hc1 : ¬ (c.toNat : Int) < 48 := by omega
  have hc2 : ¬ (57 : Int) < (c.toNat : Int) := by omega
  have h0' : ((s.size : Int) == 0) = false := beq_eq_false_iff_ne.2 (by omega)
  go_enter Try.func4, Try.ntmps4
  go_wp2_with (first
    | (go_at_call 10; refine (zz10 _ _ _ hm).mono ?_; rintro e w' ⟨rfl, rfl⟩; rw [hd])
    | (go_at_call 11; refine (withByte _ _ _ h).mono ?_; rintro e w1 ⟨rfl, hb⟩)
    | (go_at_call 8; refine (zzIsPlain _ _ (by first | (with_reducible exact hz) | (with_reducible exact hs2) | (with_reducible exact ht2))).mono ?_; rintro e w' ⟨rfl, rfl⟩; first | rw [hg] | rw [hp] | rw [hq])
    | (go_at_call 12; refine (firstIndex _ _ ht2).mono ?_; rintro e w' ⟨rfl, rfl⟩; rw [hv]))
  go_ret
  exact ⟨rfl, hb⟩
theorem grow_other (s : ByteArray) (c : UInt8) (w : World) (h : s.size ≤ 1048576) (hc : 48 ≤ c.toNat ∧ c.toNat ≤ 57) (h0 : s.size ≠ 0) (hp : pd s.data.toList = false) (hl : s[s.size - 1].toNat ≠ 46) (hg : pd (snoc s c).data.toList = false) :
    Calls Try.prog 4 #[.string s, .int .u8 (c.toNat : Int)] w fun e w' => e = .returned (.bool true) ∧ Below w.heap.size w w' := by
  have hd : decide (s.size ≤ 1048576) = true := decide_eq_true h
  have hm : s.size ≤ maxLen := by unfold maxLen; omega
  have hz : (snoc s c).size ≤ 2097152 := by rw [snoc_size]; omega
  have hs2 : s.size ≤ 2097152 := by omega
  have hs' : (s.size : Int) ≤ 1048576 := by omega
  have hc1 : ¬ (c.toNat : Int) < 48 := by omega
  have hc2 : ¬ (57 : Int) < (c.toNat : Int) := by omega
  have h0' : ((s.size : Int) == 0) = false := beq_eq_false_iff_ne.2 (by omega)
  have hl' : ((s[s.size - 1].toNat : Int) == 46) = false := beq_eq_false_iff_ne.2 (by omega)
  go_enter Try.func4, Try.ntmps4
  go_wp2_with (first
    | (go_at_call 10; refine (zz10 _ _ _ hm).mono ?_; rintro e w' ⟨rfl, rfl⟩; rw [hd])
    | (go_at_call 11; refine (withByte _ _ _ h).mono ?_; rintro e w1 ⟨rfl, hb⟩)
    | (go_at_call 8; refine (zzIsPlain _ _ (by first | (with_reducible exact hz) | (with_reducible exact hs2) | (with_reducible exact ht2))).mono ?_; rintro e w' ⟨rfl, rfl⟩; first | rw [hg] | rw [hp] | rw [hq])
    | (go_at_call 12; refine (firstIndex _ _ ht2).mono ?_; rintro e w' ⟨rfl, rfl⟩; rw [hv]))
  go_ret
  exact ⟨rfl, hb⟩
theorem grow_point_no (s : ByteArray) (c : UInt8) (w : World) (h : s.size ≤ 1048576) (hc : 48 ≤ c.toNat ∧ c.toNat ≤ 57) (h0 : s.size ≠ 0) (hp : pd s.data.toList = false) (hl : s[s.size - 1].toNat = 46) (hq : pd (s.extract 0 (s.size - 1)).data.toList = false) (hg : pd (snoc s c).data.toList = false) :
    Calls Try.prog 4 #[.string s, .int .u8 (c.toNat : Int)] w fun e w' => e = .returned (.bool true) ∧ Below w.heap.size w w' := by
  have hd : decide (s.size ≤ 1048576) = true := decide_eq_true h
  have hm : s.size ≤ maxLen := by unfold maxLen; omega
  have hz : (snoc s c).size ≤ 2097152 := by rw [snoc_size]; omega
  have hs2 : s.size ≤ 2097152 := by omega
  have hs' : (s.size : Int) ≤ 1048576 := by omega
  have hc1 : ¬ (c.toNat : Int) < 48 := by omega
  have hc2 : ¬ (57 : Int) < (c.toNat : Int) := by omega
  have h0' : ((s.size : Int) == 0) = false := beq_eq_false_iff_ne.2 (by omega)
  have hl' : ((s[s.size - 1].toNat : Int) == 46) = true := by simp; omega
  have ht2 : (s.extract 0 (s.size - 1)).size ≤ 2097152 := by simp; omega
  go_enter Try.func4, Try.ntmps4
  go_wp2_with (first
    | (go_at_call 10; refine (zz10 _ _ _ hm).mono ?_; rintro e w' ⟨rfl, rfl⟩; rw [hd])
    | (go_at_call 11; refine (withByte _ _ _ h).mono ?_; rintro e w1 ⟨rfl, hb⟩)
    | (go_at_call 8; refine (zzIsPlain _ _ (by first | (with_reducible exact hz) | (with_reducible exact hs2) | (with_reducible exact ht2))).mono ?_; rintro e w' ⟨rfl, rfl⟩; first | rw [hg] | rw [hp] | rw [hq])
    | (go_at_call 12; refine (firstIndex _ _ ht2).mono ?_; rintro e w' ⟨rfl, rfl⟩; rw [hv]))
  go_ret
  exact ⟨rfl, hb⟩
theorem grow_point_two (s : ByteArray) (c : UInt8) (w : World) (h : s.size ≤ 1048576) (hc : 48 ≤ c.toNat ∧ c.toNat ≤ 57) (h0 : s.size ≠ 0) (hp : pd s.data.toList = false) (hl : s[s.size - 1].toNat = 46) (hq : pd (s.extract 0 (s.size - 1)).data.toList = true) (i : Nat) (hv : fiv (s.extract 0 (s.size - 1)).data.toList = i) (hg : pd (snoc s c).data.toList = false) :
    Calls Try.prog 4 #[.string s, .int .u8 (c.toNat : Int)] w fun e w' => e = .returned (.bool true) ∧ Below w.heap.size w w' := by
  have hd : decide (s.size ≤ 1048576) = true := decide_eq_true h
  have hm : s.size ≤ maxLen := by unfold maxLen; omega
  have hz : (snoc s c).size ≤ 2097152 := by rw [snoc_size]; omega
  have hs2 : s.size ≤ 2097152 := by omega
  have hs' : (s.size : Int) ≤ 1048576 := by omega
  have hc1 : ¬ (c.toNat : Int) < 48 := by omega
  have hc2 : ¬ (57 : Int) < (c.toNat : Int) := by omega
  have h0' : ((s.size : Int) == 0) = false := beq_eq_false_iff_ne.2 (by omega)
  have hl' : ((s[s.size - 1].toNat : Int) == 46) = true := by simp; omega
  have ht2 : (s.extract 0 (s.size - 1)).size ≤ 2097152 := by simp; omega
  go_enter Try.func4, Try.ntmps4
  go_wp2_with (first
    | (go_at_call 10; refine (zz10 _ _ _ hm).mono ?_; rintro e w' ⟨rfl, rfl⟩; rw [hd])
    | (go_at_call 11; refine (withByte _ _ _ h).mono ?_; rintro e w1 ⟨rfl, hb⟩)
    | (go_at_call 8; refine (zzIsPlain _ _ (by first | (with_reducible exact hz) | (with_reducible exact hs2) | (with_reducible exact ht2))).mono ?_; rintro e w' ⟨rfl, rfl⟩; first | rw [hg] | rw [hp] | rw [hq])
    | (go_at_call 12; refine (firstIndex _ _ ht2).mono ?_; rintro e w' ⟨rfl, rfl⟩; rw [hv]))
  go_ret
  exact ⟨rfl, hb⟩
theorem grow_point_one (s : ByteArray) (c : UInt8) (w : World) (h : s.size ≤ 1048576) (hc : 48 ≤ c.toNat ∧ c.toNat ≤ 57) (h0 : s.size ≠ 0) (hp : pd s.data.toList = false) (hl : s[s.size - 1].toNat = 46) (hq : pd (s.extract 0 (s.size - 1)).data.toList = true) (hv : fiv (s.extract 0 (s.size - 1)).data.toList = -1) (hg : pd (snoc s c).data.toList = true) :
    Calls Try.prog 4 #[.string s, .int .u8 (c.toNat : Int)] w fun e w' => e = .returned (.bool true) ∧ Below w.heap.size w w' := by
  have hd : decide (s.size ≤ 1048576) = true := decide_eq_true h
  have hm : s.size ≤ maxLen := by unfold maxLen; omega
  have hz : (snoc s c).size ≤ 2097152 := by rw [snoc_size]; omega
  have hs2 : s.size ≤ 2097152 := by omega
  have hs' : (s.size : Int) ≤ 1048576 := by omega
  have hc1 : ¬ (c.toNat : Int) < 48 := by omega
  have hc2 : ¬ (57 : Int) < (c.toNat : Int) := by omega
  have h0' : ((s.size : Int) == 0) = false := beq_eq_false_iff_ne.2 (by omega)
  have hl' : ((s[s.size - 1].toNat : Int) == 46) = true := by simp; omega
  have ht2 : (s.extract 0 (s.size - 1)).size ≤ 2097152 := by simp; omega
  go_enter Try.func4, Try.ntmps4
  go_wp2_with (first
    | (go_at_call 10; refine (zz10 _ _ _ hm).mono ?_; rintro e w' ⟨rfl, rfl⟩; rw [hd])
    | (go_at_call 11; refine (withByte _ _ _ h).mono ?_; rintro e w1 ⟨rfl, hb⟩)
    | (go_at_call 8; refine (zzIsPlain _ _ (by first | (with_reducible exact hz) | (with_reducible exact hs2) | (with_reducible exact ht2))).mono ?_; rintro e w' ⟨rfl, rfl⟩; first | rw [hg] | rw [hp] | rw [hq])
    | (go_at_call 12; refine (firstIndex _ _ ht2).mono ?_; rintro e w' ⟨rfl, rfl⟩; rw [hv]))
  go_ret
  exact ⟨rfl, hb⟩
theorem extract_take (s : ByteArray) (i : Nat) : (s.extract 0 i).data.toList = s.data.toList.take i := by simp
theorem init_list (s : ByteArray) : (s.extract 0 (s.size - 1)).data.toList = s.data.toList.dropLast := by
  have e : s.data.toList.length = s.size := by simp
  rw [List.dropLast_eq_take, e, extract_take]
theorem last_list (s : ByteArray) (h0 : s.size ≠ 0) : s.data.toList.getLast? = some (s[s.size - 1]'(by omega)) := by
  rw [List.getLast?_eq_getElem?]
  have : s.data.toList.length = s.size := by simp
  rw [this, List.getElem?_eq_getElem (by omega)]
  rfl
theorem grow_want (s : ByteArray) (c : UInt8) (hc : 48 ≤ c.toNat ∧ c.toNat ≤ 57) : pd (snoc s c).data.toList = want s.data.toList := by
  rw [snoc_list, pd_snoc_dig _ _ (dig_of (by omega) (by omega)), isSome_want]

theorem law4 (s : ByteArray) (x : Int) (w : World) (hs : s.size ≤ maxLen) (hx : (Lit.int .u8 x).wf = true) :
    Calls Try.prog 4 #[.string s, .int .u8 x] w fun e w' => e = .returned (.bool true) ∧ Below w.heap.size w w' := by
  by_cases h : s.size ≤ 1048576
  · obtain ⟨c, rfl⟩ : ∃ c : UInt8, x = (c.toNat : Int) := by
      have hx' : 0 ≤ x ∧ x < 256 := by
        have := hx
        simp [Lit.wf, IntKind.min, IntKind.max, IntKind.signed, IntKind.bits] at this
        omega
      refine ⟨UInt8.ofNat x.toNat, ?_⟩
      rw [UInt8.toNat_ofNat_of_lt' (by simp [UInt8.size]; omega)]
      omega
    by_cases h1 : c.toNat < 48
    · exact grow_lo s c w h h1
    by_cases h2 : 57 < c.toNat
    · exact grow_hi s c w h h2
    have hc : 48 ≤ c.toNat ∧ c.toNat ≤ 57 := by omega
    have hw := grow_want s c hc
    unfold want at hw
    by_cases h0 : s.size = 0
    · have hn : s.data.toList = [] := List.eq_nil_of_length_eq_zero (by simpa using h0)
      rw [if_pos hn] at hw
      exact grow_empty s c w h hc h0 hw
    have hn : s.data.toList ≠ [] := fun hn => h0 (by simpa using congrArg List.length hn)
    rw [if_neg hn] at hw
    by_cases hp : pd s.data.toList = true
    · rw [if_pos hp] at hw
      exact grow_yes s c w h hc h0 hp hw
    rw [if_neg hp, last_list s h0] at hw
    have hp' : pd s.data.toList = false := by simpa using hp
    by_cases hl : (s[s.size - 1]'(by omega)).toNat = 46
    · rw [if_pos (by rw [Option.map_some, hl]), ← init_list] at hw
      cases hq : pd (s.extract 0 (s.size - 1)).data.toList with
      | false =>
        rw [hq, Bool.false_and] at hw
        exact grow_point_no s c w h hc h0 hp' hl hq hw
      | true =>
        rw [hq, Bool.true_and] at hw
        cases hf : fi (s.extract 0 (s.size - 1)).data.toList with
        | none => exact grow_point_one s c w h hc h0 hp' hl hq (by unfold fiv; rw [hf]) (by rw [hw, hf]; rfl)
        | some i => exact grow_point_two s c w h hc h0 hp' hl hq i (by unfold fiv; rw [hf]) (by rw [hw, hf]; rfl)
    · rw [if_neg (by simpa using hl)] at hw
      exact grow_other s c w h hc h0 hp' hl hw
  · exact grow_big s x w hs h
end Go.Proofs.Qxb6600576a
