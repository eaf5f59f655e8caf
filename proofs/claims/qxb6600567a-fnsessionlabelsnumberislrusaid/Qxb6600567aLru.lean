import Derived.Test.Qxb6600567aNum
namespace Go.Proofs.Qxb6600567a
set_option linter.unusedVariables false

/-- No more pigeons than holes. -/
theorem php : ∀ (b a : Nat) (h : Nat → Nat), (∀ i, i < a → h i < b) → (∀ i j, i < a → j < a → h i = h j → i = j) → a ≤ b
  | 0, a, h, hr, _ => by
    by_cases h0 : a = 0
    · omega
    · have := hr 0 (by omega); omega
  | b + 1, a, h, hr, hi => by
    by_cases ha : a = 0
    · omega
    obtain ⟨a', rfl⟩ : ∃ a', a = a' + 1 := ⟨a - 1, by omega⟩
    -- the last pigeon sits in h a'; whoever sits in b moves there
    have := php b a' (fun i => if h i = b then h a' else h i) (fun i hia => by
      show (if h i = b then h a' else h i) < b
      have h1 := hr i (by omega)
      have h2 := hr a' (by omega)
      by_cases e : h i = b
      · rw [if_pos e]
        have : h a' ≠ b := fun e2 => by
          have := hi i a' (by omega) (by omega) (by rw [e, e2]); omega
        omega
      · rw [if_neg e]; omega) (fun i j hia hja e => by
      have e' : (if h i = b then h a' else h i) = (if h j = b then h a' else h j) := e
      by_cases e1 : h i = b
      · rw [if_pos e1] at e'
        by_cases e2 : h j = b
        · exact hi i j (by omega) (by omega) (by rw [e1, e2])
        · rw [if_neg e2] at e'
          have := hi a' j (by omega) (by omega) e'; omega
      · rw [if_neg e1] at e'
        by_cases e2 : h j = b
        · rw [if_pos e2] at e'
          have := hi i a' (by omega) (by omega) e'; omega
        · rw [if_neg e2] at e'
          exact hi i j (by omega) (by omega) e')
    omega
/-- The same, one hole left free. -/
theorem php_lt (b a : Nat) (h : Nat → Nat) (x : Nat) (hx : x < b) (hr : ∀ i, i < a → h i < b) (hi : ∀ i j, i < a → j < a → h i = h j → i = j) (hf : ∀ i, i < a → h i ≠ x) : a < b := by
  have := php b (a + 1) (fun i => if i < a then h i else x) (fun i hia => by
    show (if i < a then h i else x) < b
    by_cases e : i < a
    · rw [if_pos e]; exact hr i e
    · rw [if_neg e]; exact hx) (fun i j hia hja e => by
    have e' : (if i < a then h i else x) = (if j < a then h j else x) := e
    by_cases e1 : i < a
    · rw [if_pos e1] at e'
      by_cases e2 : j < a
      · rw [if_pos e2] at e'; exact hi i j e1 e2 e'
      · rw [if_neg e2] at e'; exact absurd e' (hf i e1)
    · rw [if_neg e1] at e'
      by_cases e2 : j < a
      · rw [if_pos e2] at e'; exact absurd e'.symm (hf j e2)
      · omega)
  omega

/-- Steps i and j bear one key. -/
def same (f g : Nat → Int) (i j : Nat) : Prop := f i = f j ∧ g i = g j
theorem same.symm {f g : Nat → Int} {i j : Nat} (h : same f g i j) : same f g j i := ⟨h.1.symm, h.2.symm⟩
theorem same.trans {f g : Nat → Int} {i j k : Nat} (h : same f g i j) (h' : same f g j k) : same f g i k := ⟨h.1.trans h'.1, h.2.trans h'.2⟩

/-- WHAT THE SLOTS ARE BEHIND t STEPS: slot q's key came last at step p q, and its number was given there; the slots are the keys that came last. -/
structure Inv (f g nums : Nat → Int) (t m ms : Nat) (L : Nat → Int × Int × Int) (p : Nat → Nat) : Prop where
  le : m ≤ 64
  lt : ∀ q, q < m → p q < t
  use : ∀ q, q < m → (L q).2.2 = (p q : Int) + 1
  k0 : ∀ q, q < m → (L q).1 = f (p q)
  k1 : ∀ q, q < m → (L q).2.1 = g (p q)
  last : ∀ q, q < m → ∀ j, p q < j → j < t → ¬ same f g j (p q)
  num : ∀ q, q < m → nums (p q) = (q : Int) + 1
  inj : ∀ q r, q < m → r < m → p q = p r → q = r
  cover : ∀ j, j < t → (∃ q, q < m ∧ same f g j (p q)) ∨ (m = 64 ∧ ∀ q, q < m → j < p q)
  cnt : m = min ms 64

/-- WHAT THE MODEL HAS SEEN, steps r to t - 1 scanned: c keys, each at its last step, from the last on; none is step t's. -/
structure Scan (f g : Nat → Int) (t r c : Nat) (sn : Nat → Nat) : Prop where
  lo : ∀ a, a < c → r ≤ sn a
  hi : ∀ a, a < c → sn a < t
  last : ∀ a, a < c → ∀ j, sn a < j → j < t → ¬ same f g j (sn a)
  all : ∀ j, r ≤ j → j < t → ∃ a, a < c ∧ same f g j (sn a)
  dec : ∀ a b, a < b → b < c → sn b < sn a
  no : ∀ j, r ≤ j → j < t → ¬ same f g j t

theorem Scan.uniq {f g : Nat → Int} {t r c : Nat} {sn : Nat → Nat} (h : Scan f g t r c sn) {a b : Nat} (ha : a < c) (hb : b < c) (e : same f g (sn a) (sn b)) : a = b := by
  rcases Nat.lt_trichotomy a b with h1 | h1 | h1
  · exact absurd e (h.last b hb (sn a) (h.dec a b h1 hb) (h.hi a ha))
  · exact h1
  · exact absurd e.symm (h.last a ha (sn b) (h.dec b a h1 ha) (h.hi b hb))

theorem Inv.uniq {f g nums : Nat → Int} {t m ms : Nat} {L : Nat → Int × Int × Int} {p : Nat → Nat} (h : Inv f g nums t m ms L p) {q r : Nat} (hq : q < m) (hr : r < m) (e : same f g (p q) (p r)) : q = r := by
  refine h.inj q r hq hr ?_
  rcases Nat.lt_trichotomy (p q) (p r) with h1 | h1 | h1
  · exact absurd e.symm (h.last q hq (p r) h1 (h.lt r hr))
  · exact h1
  · exact absurd e (h.last r hr (p q) h1 (h.lt q hq))

/-- A scanned key that lies in a slot lies there at its own step. -/
theorem Inv.at_seen {f g nums : Nat → Int} {t m ms : Nat} {L : Nat → Int × Int × Int} {p : Nat → Nat} (h : Inv f g nums t m ms L p) {r c : Nat} {sn : Nat → Nat} (hs : Scan f g t r c sn) {a q : Nat} (ha : a < c) (hq : q < m) (e : same f g (sn a) (p q)) : sn a = p q := by
  rcases Nat.lt_trichotomy (sn a) (p q) with h1 | h1 | h1
  · exact absurd e.symm (hs.last a ha (p q) h1 (h.lt q hq))
  · exact h1
  · exact absurd e (h.last q hq (sn a) h1 (hs.hi a ha))

/-- Slots that came last at step r or later are all seen. -/
theorem slots_le {f g nums : Nat → Int} {t m ms : Nat} {L : Nat → Int × Int × Int} {p : Nat → Nat} (h : Inv f g nums t m ms L p) {r c : Nat} {sn : Nat → Nat} (hs : Scan f g t r c sn) (hr : ∀ q, q < m → r ≤ p q) : m ≤ c := by
  have key : ∀ q, ∃ a, q < m → a < c ∧ same f g (p q) (sn a) := fun q => by
    by_cases hq : q < m
    · obtain ⟨a, h1, h2⟩ := hs.all (p q) (hr q hq) (h.lt q hq)
      exact ⟨a, fun _ => ⟨h1, h2⟩⟩
    · exact ⟨0, fun h' => absurd h' hq⟩
  refine php c m (fun q => Classical.choose (key q)) (fun q hq => (Classical.choose_spec (key q) hq).1) (fun q q' hq hq' e => ?_)
  have e1 := (Classical.choose_spec (key q) hq).2
  have e2 := (Classical.choose_spec (key q') hq').2
  have e' : Classical.choose (key q) = Classical.choose (key q') := e
  rw [e'] at e1
  exact h.uniq hq hq' (e1.trans e2.symm)
/-- Seen keys behind slot x's step all lie in other slots. -/
theorem seen_lt {f g nums : Nat → Int} {t m ms : Nat} {L : Nat → Int × Int × Int} {p : Nat → Nat} (h : Inv f g nums t m ms L p) {r c : Nat} {sn : Nat → Nat} (hs : Scan f g t r c sn) {x : Nat} (hx : x < m) (hr : ∀ a, a < c → p x < sn a) : c < m := by
  have key : ∀ a, ∃ q, a < c → q < m ∧ sn a = p q := fun a => by
    by_cases ha : a < c
    · rcases h.cover (sn a) (hs.hi a ha) with ⟨q, h1, h2⟩ | ⟨_, h2⟩
      · exact ⟨q, fun _ => ⟨h1, h.at_seen hs ha h1 h2⟩⟩
      · have h3 := h2 x hx
        have h4 := hr a ha
        omega
    · exact ⟨0, fun h' => absurd h' ha⟩
  refine php_lt m c (fun a => Classical.choose (key a)) x hx (fun a ha => (Classical.choose_spec (key a) ha).1) (fun a b ha hb e => ?_) (fun a ha e => ?_)
  · have e1 := (Classical.choose_spec (key a) ha).2
    have e2 := (Classical.choose_spec (key b) hb).2
    have e' : Classical.choose (key a) = Classical.choose (key b) := e
    rw [e', ← e2] at e1
    rcases Nat.lt_trichotomy a b with h1 | h1 | h1
    · have := hs.dec a b h1 hb; omega
    · exact h1
    · have := hs.dec b a h1 ha; omega
  · have e1 := (Classical.choose_spec (key a) ha).2
    have e' : Classical.choose (key a) = x := e
    rw [e'] at e1
    have := hr a ha
    omega

/-- THE MODEL's ANSWER. -/
def ModelPost (f g nums : Nat → Int) (t ms : Nat) (want : Int) (wd : Bool) : Prop :=
  (∃ j c sn, j < t ∧ c < 64 ∧ Scan f g t (j + 1) c sn ∧ same f g j t ∧ want = nums j ∧ wd = true) ∨
  (∃ sn, Scan f g t (sn 63) 64 sn ∧ wd = false ∧ want = if ms < 64 then (ms : Int) + 1 else nums (sn 63)) ∨
  (∃ c sn, c < 64 ∧ Scan f g t 0 c sn ∧ wd = false ∧ want = if ms < 64 then (ms : Int) + 1 else 0)

theorem lst_le (L : Nat → Int × Int × Int) : ∀ i q, q < i → (L (lst L i)).2.2 ≤ (L q).2.2
  | 0, q, h => by omega
  | i + 1, q, h => by
    unfold lst
    by_cases e : (L i).2.2 < (L (lst L i)).2.2
    · rw [if_pos e]
      by_cases e2 : q = i
      · subst e2; exact Int.le_refl _
      · have := lst_le L i q (by omega); omega
    · rw [if_neg e]
      by_cases e2 : q = i
      · subst e2; omega
      · exact lst_le L i q (by omega)
end Go.Proofs.Qxb6600567a
