import Derived.Test.Qxb6600576aRows
namespace Go.Proofs.Qxb6600576a
set_option linter.unusedVariables false

def isDig (c : UInt8) : Bool := decide (48 ≤ c.toNat ∧ c.toNat ≤ 57)
/-- One byte more: the count of digits since the point, and whether a point came; none: refused. -/
def step : Option (Nat × Bool) → UInt8 → Option (Nat × Bool)
  | none, _ => none
  | some (d, p), c => if isDig c = true then some (d + 1, p) else if c.toNat = 46 ∧ p = false ∧ 0 < d then some (0, true) else none
def st (l : List UInt8) : Option (Nat × Bool) := l.foldl step (some (0, false))
def ans : Option (Nat × Bool) → Bool
  | none => false
  | some (d, _) => decide (0 < d)
/-- what isPlainDecimal answers -/
def pd (l : List UInt8) : Bool := ans (st l)
/-- what allDigits answers -/
def ad (l : List UInt8) : Bool := !l.isEmpty && l.all isDig
/-- the first point -/
def fi : List UInt8 → Option Nat
  | [] => none
  | c :: r => if c.toNat = 46 then some 0 else (fi r).map (· + 1)
def model (l : List UInt8) : Bool := match fi l with
  | none => ad l
  | some i => ad (l.take i) && ad (l.drop (i + 1))

theorem foldl_none : ∀ l : List UInt8, l.foldl step none = none
  | [] => rfl
  | c :: r => foldl_none r
theorem st_snoc (l : List UInt8) (c : UInt8) : st (l ++ [c]) = step (st l) c := by
  unfold st
  rw [List.foldl_append]
  rfl
theorem st_take_none (l : List UInt8) (i : Nat) (h : st (l.take i) = none) : st l = none := by
  have e : st l = (l.drop i).foldl step (st (l.take i)) := by
    unfold st
    rw [← List.foldl_append, List.take_append_drop]
  rw [e, h, foldl_none]

theorem step_dig {c : UInt8} (h : isDig c = true) (d : Nat) (p : Bool) : step (some (d, p)) c = some (d + 1, p) := by
  show (if isDig c = true then some (d + 1, p) else if c.toNat = 46 ∧ p = false ∧ 0 < d then some (0, true) else none) = _
  rw [if_pos h]
theorem isDig_46 {c : UInt8} (h : c.toNat = 46) : isDig c = false := by
  unfold isDig
  rw [h]
  rfl
theorem step_pt {c : UInt8} (h : c.toNat = 46) {d : Nat} (hd : 0 < d) : step (some (d, false)) c = some (0, true) := by
  show (if isDig c = true then some (d + 1, false) else if c.toNat = 46 ∧ false = false ∧ 0 < d then some (0, true) else none) = _
  rw [isDig_46 h, if_neg (by simp), if_pos ⟨h, rfl, hd⟩]
theorem step_no {c : UInt8} {d : Nat} {p : Bool} (h : isDig c = false) (h2 : ¬ (c.toNat = 46 ∧ p = false ∧ 0 < d)) : step (some (d, p)) c = none := by
  show (if isDig c = true then some (d + 1, p) else if c.toNat = 46 ∧ p = false ∧ 0 < d then some (0, true) else none) = _
  rw [h, if_neg (by simp), if_neg h2]

theorem fold_true : ∀ (l : List UInt8) (d : Nat), ans (l.foldl step (some (d, true))) = (l.all isDig && (decide (0 < d) || !l.isEmpty))
  | [], d => by simp [ans]
  | c :: r, d => by
    show ans (r.foldl step (step (some (d, true)) c)) = _
    cases h : isDig c with
    | true =>
      rw [step_dig h, fold_true r (d + 1)]
      simp [h]
    | false =>
      rw [step_no h (fun h => by simp at h), foldl_none]
      simp [ans, h]
theorem fold_false : ∀ (l : List UInt8) (d : Nat), ans (l.foldl step (some (d, false))) = (match fi l with
    | none => l.all isDig && (decide (0 < d) || !l.isEmpty)
    | some i => (l.take i).all isDig && (decide (0 < d) || decide (0 < i)) && ad (l.drop (i + 1)))
  | [], d => by simp [ans, fi]
  | c :: r, d => by
    show ans (r.foldl step (step (some (d, false)) c)) = _
    by_cases h46 : c.toNat = 46
    · have hf : fi (c :: r) = some 0 := if_pos h46
      rw [hf]
      by_cases hd : 0 < d
      · rw [step_pt h46 hd, fold_true r 0]
        simp [hd, ad]
        rw [Bool.and_comm]
      · rw [step_no (isDig_46 h46) (fun h => hd h.2.2), foldl_none]
        simp [hd, ans]
    · have hf : fi (c :: r) = (fi r).map (· + 1) := if_neg h46
      rw [hf]
      cases h : isDig c with
      | true =>
        rw [step_dig h, fold_false r (d + 1)]
        cases hr : fi r with
        | none => simp [h]
        | some i => simp [h]
      | false =>
        rw [step_no h (fun h => h46 h.1), foldl_none]
        cases hr : fi r with
        | none => simp [h, ans]
        | some i => simp [h, ans]
theorem fi_lt : ∀ (l : List UInt8) (i : Nat), fi l = some i → i < l.length
  | [], i, h => by cases h
  | c :: r, i, h => by
    by_cases h46 : c.toNat = 46
    · have hf : fi (c :: r) = some 0 := if_pos h46
      rw [hf] at h
      cases h
      simp
    · have hf : fi (c :: r) = (fi r).map (· + 1) := if_neg h46
      rw [hf] at h
      cases hr : fi r with
      | none => rw [hr] at h; cases h
      | some k =>
        rw [hr] at h
        cases h
        have := fi_lt r k hr
        simp
        omega
/-- THE FIRST LAW, plain. -/
theorem pd_model (l : List UInt8) : pd l = model l := by
  unfold pd st model
  rw [fold_false l 0]
  cases hf : fi l with
  | none => simp [ad]; rw [Bool.and_comm]
  | some i =>
    have hl := fi_lt l i hf
    have e : (l.take i).isEmpty = decide (i = 0) := by
      cases l with
      | nil => simp at hl
      | cons c r => cases i with
        | zero => rfl
        | succ k => rfl
    show ((l.take i).all isDig && (decide (0 < 0) || decide (0 < i)) && ad (l.drop (i + 1))) = (ad (l.take i) && ad (l.drop (i + 1)))
    have e2 : (decide (0 < 0) || decide (0 < i)) = !decide (i = 0) := by
      by_cases h0 : i = 0
      · subst h0; rfl
      · simp [h0]; omega
    rw [e2, show ad (l.take i) = (!(l.take i).isEmpty && (l.take i).all isDig) from rfl, e]
    cases (decide (i = 0)) <;> simp

/-! ### the second law -/
theorem st_point : ∀ (l : List UInt8) (s : Nat × Bool) (d : Nat) (p : Bool), l.foldl step (some s) = some (d, p) → (p = true ↔ (s.2 = true ∨ fi l ≠ none))
  | [], s, d, p, h => by
    cases h
    simp [fi]
  | c :: r, s, d, p, h => by
    obtain ⟨d0, p0⟩ := s
    have h' : r.foldl step (step (some (d0, p0)) c) = some (d, p) := h
    cases hdg : isDig c with
    | true =>
      rw [step_dig hdg] at h'
      have ih := st_point r (d0 + 1, p0) d p h'
      have h46 : ¬ c.toNat = 46 := fun e => by rw [isDig_46 e] at hdg; cases hdg
      have hf : fi (c :: r) = (fi r).map (· + 1) := if_neg h46
      rw [hf, ih]
      cases fi r <;> simp
    | false =>
      by_cases hp : c.toNat = 46 ∧ p0 = false ∧ 0 < d0
      · obtain ⟨h46, rfl, hd⟩ := hp
        rw [step_pt h46 hd] at h'
        have ih := st_point r (0, true) d p h'
        have hf : fi (c :: r) = some 0 := if_pos h46
        rw [hf, ih]
        simp
      · rw [step_no hdg hp, foldl_none] at h'
        cases h'
theorem st_none_fi (l : List UInt8) (d : Nat) (p : Bool) (h : st l = some (d, p)) : (p = true ↔ fi l ≠ none) := by
  have := st_point l (0, false) d p h
  simpa using this

/-- a byte that is no digit at the end: refused -/
theorem pd_snoc_no (l : List UInt8) (c : UInt8) (h : isDig c = false) : pd (l ++ [c]) = false := by
  unfold pd
  rw [st_snoc]
  cases hs : st l with
  | none => rfl
  | some s =>
    obtain ⟨d, p⟩ := s
    by_cases hp : c.toNat = 46 ∧ p = false ∧ 0 < d
    · obtain ⟨h46, rfl, hd⟩ := hp
      rw [step_pt h46 hd]
      rfl
    · rw [step_no h hp]
      rfl
theorem pd_snoc_dig (l : List UInt8) (c : UInt8) (h : isDig c = true) : pd (l ++ [c]) = (st l).isSome := by
  unfold pd
  rw [st_snoc]
  cases hs : st l with
  | none => rfl
  | some s =>
    obtain ⟨d, p⟩ := s
    rw [step_dig h]
    simp [ans]
/-- what the law expects where the last byte is a digit -/
def want (l : List UInt8) : Bool :=
  if l = [] then true else if pd l = true then true else if (l.getLast?.map (·.toNat)) = some 46 then pd l.dropLast && (fi l.dropLast).isNone else false
theorem isSome_want (l : List UInt8) : (st l).isSome = want l := by
  unfold want
  by_cases h0 : l = []
  · subst h0; rfl
  · rw [if_neg h0]
    obtain ⟨t, c, rfl⟩ : ∃ t c, l = t ++ [c] := ⟨l.dropLast, l.getLast h0, (List.dropLast_concat_getLast h0).symm⟩
    have e1 : (t ++ [c]).getLast? = some c := by simp
    have e2 : (t ++ [c]).dropLast = t := by simp
    rw [e1, e2]
    by_cases hp : pd (t ++ [c]) = true
    · rw [if_pos hp]
      unfold pd at hp
      cases hs : st (t ++ [c]) with
      | none => rw [hs] at hp; cases hp
      | some s => rfl
    · rw [if_neg hp]
      by_cases h46 : c.toNat = 46
      · rw [if_pos (by simp [h46]), st_snoc]
        cases hs : st t with
        | none => simp [step, pd, hs, ans]
        | some s =>
          obtain ⟨d, p⟩ := s
          have hq := st_none_fi t d p hs
          have hpd : pd t = decide (0 < d) := by unfold pd; rw [hs]; rfl
          rw [hpd]
          by_cases hc : p = false ∧ 0 < d
          · obtain ⟨rfl, hd⟩ := hc
            rw [step_pt h46 hd]
            have : fi t = none := by
              cases hf : fi t with
              | none => rfl
              | some k => exact absurd (hq.2 (by rw [hf]; simp)) (by simp)
            simp [hd, this]
          · rw [step_no (isDig_46 h46) (fun h => hc h.2)]
            by_cases hd : 0 < d
            · have hpt : p = true := by
                cases p with
                | true => rfl
                | false => exact absurd ⟨rfl, hd⟩ hc
              have := hq.1 hpt
              cases hf : fi t with
              | none => exact absurd hf this
              | some k => simp
            · simp [hd]
      · rw [if_neg (by simpa using h46)]
        have hst : ans (st (t ++ [c])) = false := by
          have := hp
          unfold pd at this
          simpa using this
        rw [st_snoc] at hst ⊢
        cases hs : st t with
        | none => rfl
        | some s =>
          obtain ⟨d, p⟩ := s
          rw [hs] at hst
          cases hdg : isDig c with
          | true => rw [step_dig hdg] at hst; simp [ans] at hst
          | false => rw [step_no hdg (fun h => h46 h.1)]; rfl
end Go.Proofs.Qxb6600576a
