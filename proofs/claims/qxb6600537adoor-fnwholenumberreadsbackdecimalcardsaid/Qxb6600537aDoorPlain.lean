import Derived.Lib.ParseIntB
namespace Go.Proofs.Qxb6600537aDoor
open Go
set_option linter.unusedVariables false

/-- The number that the digits g 0, .., g (m - 1) spell. -/
def V (g : Nat → Nat) : Nat → Nat
  | 0 => 0
  | m + 1 => 10 * V g m + g m
/-- The digit at place q of the bytes f from i on. -/
def dg (f : Nat → Int) (i : Nat) (q : Nat) : Nat := (f (i + q) - 48).toNat
def bytesOf (f : Nat → Int) (i m : Nat) : List UInt8 := (List.range m).map fun q => UInt8.ofNat (f (i + q)).toNat
def accV : Nat → List UInt8 → Nat
  | acc, [] => acc
  | acc, c :: r => accV (acc * 10 + (c.toNat - 48)) r

theorem accV_le : ∀ (l : List UInt8) (acc : Nat), acc ≤ accV acc l
  | [], acc => Nat.le_refl _
  | c :: r, acc => by
    have := accV_le r (acc * 10 + (c.toNat - 48))
    unfold accV
    omega
theorem accV_snoc : ∀ (l : List UInt8) (acc : Nat) (c : UInt8), accV acc (l ++ [c]) = accV acc l * 10 + (c.toNat - 48)
  | [], acc, c => rfl
  | d :: r, acc, c => by
    show accV (acc * 10 + (d.toNat - 48)) (r ++ [c]) = accV (acc * 10 + (d.toNat - 48)) r * 10 + _
    exact accV_snoc r _ c

theorem bytesOf_len (f : Nat → Int) (i m : Nat) : (bytesOf f i m).length = m := by simp [bytesOf]
theorem bytesOf_snoc (f : Nat → Int) (i m : Nat) : bytesOf f i (m + 1) = bytesOf f i m ++ [UInt8.ofNat (f (i + m)).toNat] := by
  simp [bytesOf, List.range_succ]
theorem toNat_byte {z : Int} (h0 : 0 ≤ z) (h1 : z ≤ 255) : ((UInt8.ofNat z.toNat).toNat : Int) = z := by
  rw [UInt8.toNat_ofNat']
  omega
theorem bytesOf_get (f : Nat → Int) (i m j : Nat) (hj : j < (bytesOf f i m).length) (h0 : 0 ≤ f (i + j)) (h1 : f (i + j) ≤ 255) : ((bytesOf f i m)[j].toNat : Int) = f (i + j) := by
  simp only [bytesOf, List.getElem_map, List.getElem_range]
  exact toNat_byte h0 h1
theorem bytesOf_digits (f : Nat → Int) (i m : Nat) (h : ∀ q, q < m → 48 ≤ f (i + q) ∧ f (i + q) ≤ 57) : ∀ c ∈ bytesOf f i m, 48 ≤ c.toNat ∧ c.toNat ≤ 57 := by
  intro c hc
  simp only [bytesOf, List.mem_map, List.mem_range] at hc
  obtain ⟨q, hq, rfl⟩ := hc
  have h2 := h q hq
  have h3 := toNat_byte (z := f (i + q)) (by omega) (by omega)
  omega
theorem accV_bytesOf (f : Nat → Int) (i m : Nat) (h : ∀ q, q < m → 48 ≤ f (i + q) ∧ f (i + q) ≤ 57) : accV 0 (bytesOf f i m) = V (dg f i) m := by
  induction m with
  | zero => rfl
  | succ m ih =>
    rw [bytesOf_snoc, accV_snoc, ih (fun q hq => h q (by omega))]
    have h2 := h m (by omega)
    have h3 := toNat_byte (z := f (i + m)) (by omega) (by omega)
    show _ = 10 * V (dg f i) m + dg f i m
    unfold dg
    omega

theorem parse_digits : ∀ (l : List UInt8) (acc : Nat), (∀ c ∈ l, 48 ≤ c.toNat ∧ c.toNat ≤ 57) → acc ≤ 18446744073709551615 →
    Lib.parseUintM 18446744073709551615 acc l = if accV acc l ≤ 18446744073709551615 then .ok (accV acc l) else .range
  | [], acc, _, ha => by
    show Lib.NumEnd.ok acc = if acc ≤ 18446744073709551615 then .ok acc else .range
    rw [if_pos ha]
  | c :: r, acc, h, ha => by
    have hc := h c (by simp)
    have hm := accV_le r (acc * 10 + (c.toNat - 48))
    unfold Lib.parseUintM accV
    rw [if_pos hc]
    by_cases h1 : 1844674407370955162 ≤ acc
    · rw [if_pos h1, if_neg (by omega)]
    · rw [if_neg h1]
      by_cases h2 : 18446744073709551615 < acc * 10 + (c.toNat - 48)
      · rw [if_pos h2, if_neg (by omega)]
      · rw [if_neg h2]
        exact parse_digits r _ (fun d hd => h d (by simp [hd])) (by omega)

theorem parseB_digits (f : Nat → Int) (i m : Nat) (hm : 0 < m) (h : ∀ q, q < m → 48 ≤ f (i + q) ∧ f (i + q) ≤ 57) :
    Lib.parseUintB 64 (bytesOf f i m) = if V (dg f i) m ≤ 18446744073709551615 then .ok (V (dg f i) m) else .range := by
  have hne : bytesOf f i m ≠ [] := by
    intro e
    have := bytesOf_len f i m
    rw [e] at this
    simp at this
    omega
  unfold Lib.parseUintB
  rw [if_neg hne]
  have e : (2 ^ 64 - 1 : Nat) = 18446744073709551615 := by decide
  rw [e, parse_digits _ _ (bytesOf_digits f i m h) (by omega), accV_bytesOf f i m h]

/-- What 'wholeNumber' answers of the digits from i to j. -/
def wnN (f : Nat → Int) (i j : Nat) : Int :=
  if j = i then 0 else if 1 < j - i ∧ f i = 48 then 0 else if V (dg f i) (j - i) ≤ 18446744073709551615 then (V (dg f i) (j - i) : Int) else 18446744073709551615
def wnB (f : Nat → Int) (i j : Nat) : Bool :=
  if j = i then false else if 1 < j - i ∧ f i = 48 then false else if V (dg f i) (j - i) ≤ 18446744073709551615 then true else false

/-- The digits from i to j are the longest run at i. -/
structure IsRun (f : Nat → Int) (n i j : Nat) : Prop where
  le : i ≤ j
  len : j ≤ n
  dig : ∀ q, i ≤ q → q < j → 48 ≤ f q ∧ f q ≤ 57
  stop : j < n → ¬ (48 ≤ f j ∧ f j ≤ 57)

theorem V_lt (g : Nat → Nat) (m : Nat) (h : ∀ q, q < m → g q ≤ 9) : V g m < 10 ^ m := by
  induction m with
  | zero => simp [V]
  | succ m ih =>
    have := ih (fun q hq => h q (by omega))
    have h2 := h m (by omega)
    show 10 * V g m + g m < 10 ^ (m + 1)
    rw [Nat.pow_succ]
    omega
theorem V_ge (g : Nat → Nat) (m : Nat) (h : 0 < g 0) : 10 ^ m ≤ V g (m + 1) := by
  induction m with
  | zero => simp [V]; omega
  | succ m ih =>
    show 10 ^ (m + 1) ≤ 10 * V g (m + 1) + g (m + 1)
    rw [Nat.pow_succ]
    omega
theorem V_congr (g h : Nat → Nat) (m : Nat) (e : ∀ q, q < m → g q = h q) : V g m = V h m := by
  induction m with
  | zero => rfl
  | succ m ih =>
    show 10 * V g m + g m = 10 * V h m + h m
    rw [ih (fun q hq => e q (by omega)), e m (by omega)]
theorem V_lex (g h : Nat → Nat) (k m : Nat) (hk : k < m) (e : ∀ q, q < k → g q = h q) (hlt : g k < h k) (h9 : ∀ q, q < m → g q ≤ 9) : V g m < V h m := by
  induction m with
  | zero => omega
  | succ m ih =>
    show 10 * V g m + g m < 10 * V h m + h m
    by_cases e1 : k = m
    · subst e1
      rw [V_congr g h k e]
      omega
    · have := ih (by omega) (fun q hq => h9 q (by omega))
      have := h9 m (by omega)
      omega

/-- The digits of the greatest number of 64 bits. -/
def maxText : List Nat := [49, 56, 52, 52, 54, 55, 52, 52, 48, 55, 51, 55, 48, 57, 53, 53, 49, 54, 49, 53]
def maxDig (q : Nat) : Nat := maxText.getD q 48 - 48
theorem V_max : V maxDig 20 = 18446744073709551615 := by decide
theorem maxDig_le (q : Nat) : maxDig q ≤ 9 := by
  by_cases h : q < 20
  · have : ∀ q, q < 20 → maxDig q ≤ 9 := by decide
    exact this q h
  · have : maxText.getD q 48 = 48 := by
      rw [List.getD_eq_getElem?_getD, List.getElem?_eq_none (by show 20 ≤ q; omega)]; rfl
    unfold maxDig
    rw [this]
    omega

/-- The sum of the last t digits at their places. -/
def S (g : Nat → Nat) (m : Nat) : Nat → Nat
  | 0 => 0
  | t + 1 => S g m t + g (m - 1 - t) * 10 ^ t
theorem V_split (g : Nat → Nat) (m t : Nat) (h : t ≤ m) : V g m = V g (m - t) * 10 ^ t + S g m t := by
  induction t with
  | zero => simp [S]
  | succ t ih =>
    rw [ih (by omega)]
    obtain ⟨k, hk⟩ : ∃ k, m - t = k + 1 := ⟨m - t - 1, by omega⟩
    have e1 : m - (t + 1) = k := by omega
    have e2 : m - 1 - t = k := by omega
    rw [hk, e1]
    show (10 * V g k + g k) * 10 ^ t + S g m t = V g k * 10 ^ (t + 1) + (S g m t + g (m - 1 - t) * 10 ^ t)
    rw [e2, Nat.pow_succ, Nat.add_mul]
    have : 10 * V g k * 10 ^ t = V g k * (10 ^ t * 10) := by
      rw [Nat.mul_comm 10 (V g k), Nat.mul_assoc, Nat.mul_comm 10 (10 ^ t)]
    omega
theorem S_all (g : Nat → Nat) (m : Nat) : S g m m = V g m := by
  have := V_split g m m (Nat.le_refl _)
  rw [Nat.sub_self] at this
  simp [V] at this
  exact this.symm
theorem S_le (g : Nat → Nat) (m t : Nat) (h : t ≤ m) : S g m t ≤ V g m := by
  have := V_split g m t h
  omega

theorem maxByte (q : Nat) (hq : q < 20) (hs : q < (⟨#[49, 56, 52, 52, 54, 55, 52, 52, 48, 55, 51, 55, 48, 57, 53, 53, 49, 54, 49, 53]⟩ : ByteArray).size) : (((⟨#[49, 56, 52, 52, 54, 55, 52, 52, 48, 55, 51, 55, 48, 57, 53, 53, 49, 54, 49, 53]⟩ : ByteArray)[q]'hs).toNat : Int) = (maxDig q : Int) + 48 := by
  have h : ∀ q : Fin 20, (((⟨#[49, 56, 52, 52, 54, 55, 52, 52, 48, 55, 51, 55, 48, 57, 53, 53, 49, 54, 49, 53]⟩ : ByteArray)[q.val]'q.isLt).toNat : Int) = (maxDig q.val : Int) + 48 := by decide
  exact h ⟨q, hq⟩
theorem dg_le (f : Nat → Int) (i m : Nat) (hd : ∀ q, q < m → 48 ≤ f (i + q) ∧ f (i + q) ≤ 57) (q : Nat) (hq : q < m) : dg f i q ≤ 9 := by
  have := hd q hq
  unfold dg
  omega
theorem fit_lt (f : Nat → Int) (i q : Nat) (hq : q < 20) (hs : q < (⟨#[49, 56, 52, 52, 54, 55, 52, 52, 48, 55, 51, 55, 48, 57, 53, 53, 49, 54, 49, 53]⟩ : ByteArray).size) (H : ∀ j, j < q → dg f i j = maxDig j) (hd : ∀ q, q < 20 → 48 ≤ f (i + q) ∧ f (i + q) ≤ 57)
    (h : f (i + q) < (((⟨#[49, 56, 52, 52, 54, 55, 52, 52, 48, 55, 51, 55, 48, 57, 53, 53, 49, 54, 49, 53]⟩ : ByteArray)[q]'hs).toNat : Int)) : V (dg f i) 20 ≤ 18446744073709551615 := by
  rw [maxByte q hq hs] at h
  have h1 := hd q hq
  have := V_lex (dg f i) maxDig q 20 hq H (by unfold dg; omega) (dg_le f i 20 hd)
  rw [V_max] at this
  omega
theorem fit_gt (f : Nat → Int) (i q : Nat) (hq : q < 20) (hs : q < (⟨#[49, 56, 52, 52, 54, 55, 52, 52, 48, 55, 51, 55, 48, 57, 53, 53, 49, 54, 49, 53]⟩ : ByteArray).size) (H : ∀ j, j < q → dg f i j = maxDig j) (hd : ∀ q, q < 20 → 48 ≤ f (i + q) ∧ f (i + q) ≤ 57)
    (h : (((⟨#[49, 56, 52, 52, 54, 55, 52, 52, 48, 55, 51, 55, 48, 57, 53, 53, 49, 54, 49, 53]⟩ : ByteArray)[q]'hs).toNat : Int) < f (i + q)) : ¬ V (dg f i) 20 ≤ 18446744073709551615 := by
  rw [maxByte q hq hs] at h
  have h1 := hd q hq
  have := V_lex maxDig (dg f i) q 20 hq (fun j hj => (H j hj).symm) (by unfold dg; omega) (fun q _ => maxDig_le q)
  rw [V_max] at this
  omega
theorem fit_eq (f : Nat → Int) (i q : Nat) (hq : q < 20) (hs : q < (⟨#[49, 56, 52, 52, 54, 55, 52, 52, 48, 55, 51, 55, 48, 57, 53, 53, 49, 54, 49, 53]⟩ : ByteArray).size) (H : ∀ j, j < q → dg f i j = maxDig j) (hd : ∀ q, q < 20 → 48 ≤ f (i + q) ∧ f (i + q) ≤ 57)
    (h : (((⟨#[49, 56, 52, 52, 54, 55, 52, 52, 48, 55, 51, 55, 48, 57, 53, 53, 49, 54, 49, 53]⟩ : ByteArray)[q]'hs).toNat : Int) ≤ f (i + q)) (h' : f (i + q) ≤ (((⟨#[49, 56, 52, 52, 54, 55, 52, 52, 48, 55, 51, 55, 48, 57, 53, 53, 49, 54, 49, 53]⟩ : ByteArray)[q]'hs).toNat : Int)) : ∀ j, j < q + 1 → dg f i j = maxDig j := by
  rw [maxByte q hq hs] at h h'
  intro j hj
  by_cases e : j = q
  · subst e
    unfold dg
    omega
  · exact H j (by omega)
theorem fit_end (f : Nat → Int) (i : Nat) (H : ∀ j, j < 20 → dg f i j = maxDig j) : V (dg f i) 20 ≤ 18446744073709551615 := by
  rw [V_congr _ _ 20 H, V_max]
  omega
theorem fit_short (f : Nat → Int) (i m : Nat) (hm : m < 20) (hd : ∀ q, q < m → 48 ≤ f (i + q) ∧ f (i + q) ≤ 57) : V (dg f i) m ≤ 18446744073709551615 := by
  have h := V_lt (dg f i) m (dg_le f i m hd)
  have h2 : 10 ^ m ≤ 10 ^ 19 := Nat.pow_le_pow_right (by omega) (by omega)
  have h3 : (10 : Nat) ^ 19 = 10000000000000000000 := by decide
  omega
theorem fit_long (f : Nat → Int) (i m : Nat) (hm : 20 < m) (h0 : f i ≠ 48) (hd : ∀ q, q < m → 48 ≤ f (i + q) ∧ f (i + q) ≤ 57) : ¬ V (dg f i) m ≤ 18446744073709551615 := by
  have h1 := hd 0 (by omega)
  rw [Nat.add_zero] at h1
  have hg : 0 < dg f i 0 := by
    unfold dg
    rw [Nat.add_zero]
    omega
  obtain ⟨k, rfl⟩ : ∃ k, m = k + 1 := ⟨m - 1, by omega⟩
  have h := V_ge (dg f i) k hg
  have h2 : (10 : Nat) ^ 20 ≤ 10 ^ k := Nat.pow_le_pow_right (by omega) (by omega)
  have h3 : (10 : Nat) ^ 20 = 100000000000000000000 := by decide
  omega
end Go.Proofs.Qxb6600537aDoor
