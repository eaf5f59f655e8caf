import Derived.Test.Qxb6600567aLru
namespace Go.Proofs.Qxb6600567a
set_option linter.unusedVariables false

/-- ONE CALL's ANSWER, without the memory. -/
def NumOut (L : Nat → Int × Int × Int) (m : Nat) (u ks su : Int) (got : Int) (df : Bool) (L' : Nat → Int × Int × Int) (m' : Nat) : Prop :=
  (∃ i, i < m ∧ isKey L ks su i ∧ got = (i : Int) + 1 ∧ df = true ∧ L' = updT L i (u + 1) ∧ m' = m) ∨
  ((∀ q, q < m → ¬ isKey L ks su q) ∧ m < 64 ∧ got = (m : Int) + 1 ∧ df = false ∧ L' = updS L m (ks, su, u + 1) ∧ m' = m + 1) ∨
  ((∀ q, q < m → ¬ isKey L ks su q) ∧ m = 64 ∧ got = (lst L m : Int) + 1 ∧ df = false ∧ L' = updS L (lst L m) (ks, su, u + 1) ∧ m' = m)

theorem NumPost.plain {Sb N0 m : Nat} {L : Nat → Int × Int × Int} {u ks su : Int} {w : World} {got : Int} {df : Bool} {w' : World} (h : NumPost Sb N0 m L u ks su w (.returned (.tuple #[.int .i64 got, .bool df])) w') :
    ∃ L' m', Sess w' Sb N0 L' m' (u + 1) ∧ NumOut L m u ks su got df L' m' := by
  rcases h with ⟨i, h1, h2, h3, h4, h5, h6⟩ | ⟨h1, h2, h3, h4, h5⟩ | ⟨h1, h2, h3, h4, h5⟩
  · simp only [Ending.returned.injEq, Value.tuple.injEq, Array.mk.injEq, List.cons.injEq, Value.int.injEq, Value.bool.injEq, true_and, and_true] at h4
    exact ⟨_, _, h5, .inl ⟨i, h1, h2, h4.1, h4.2, rfl, rfl⟩⟩
  · simp only [Ending.returned.injEq, Value.tuple.injEq, Array.mk.injEq, List.cons.injEq, Value.int.injEq, Value.bool.injEq, true_and, and_true] at h3
    exact ⟨_, _, h4, .inr (.inl ⟨h1, h2, h3.1, h3.2, rfl, rfl⟩)⟩
  · simp only [Ending.returned.injEq, Value.tuple.injEq, Array.mk.injEq, List.cons.injEq, Value.int.injEq, Value.bool.injEq, true_and, and_true] at h3
    exact ⟨_, _, h4, .inr (.inr ⟨h1, h2, h3.1, h3.2, rfl, rfl⟩)⟩

section
variable {f g nums : Nat → Int} {t m ms : Nat} {L : Nat → Int × Int × Int} {p : Nat → Nat}

theorem Inv.key (h : Inv f g nums t m ms L p) {q : Nat} (hq : q < m) : isKey L (f t) (g t) q ↔ same f g (p q) t := by
  unfold isKey same
  rw [h.k0 q hq, h.k1 q hq]
theorem Inv.least (h : Inv f g nums t m ms L p) {q : Nat} (hq : q < m) : p (lst L m) ≤ p q := by
  have h1 := lst_le L m q hq
  rw [h.use q hq, h.use _ (lst_lt L m (by omega))] at h1
  omega

/-- THE CALL AND THE MODEL AGREE. -/
theorem agree (h : Inv f g nums t m ms L p) {u got want : Int} {df wd : Bool} {L' : Nat → Int × Int × Int} {m' : Nat} (ho : NumOut L m u (f t) (g t) got df L' m') (hm : ModelPost f g nums t ms want wd) : got = want ∧ df = wd := by
  have hle := h.le
  rcases ho with ⟨i, h1, h2, h3, h4, _, _⟩ | ⟨h1, h2, h3, h4, _, _⟩ | ⟨h1, h2, h3, h4, _, _⟩
  · have e := (h.key h1).1 h2
    rcases hm with ⟨j, c, sn, g1, g2, g3, g4, g5, g6⟩ | ⟨sn, g3, g5, g6⟩ | ⟨c, sn, g2, g3, g5, g6⟩
    · have hj : j = p i := by
        rcases Nat.lt_trichotomy j (p i) with a | a | a
        · exact absurd e (g3.no (p i) (by omega) (h.lt i h1))
        · exact a
        · exact absurd (g4.trans e.symm) (h.last i h1 j a g1)
      subst hj
      exact ⟨by rw [h3, g5, h.num i h1], by rw [h4, g6]⟩
    · have hp : p i < sn 63 := by
        by_cases a : p i < sn 63
        · exact a
        · exact absurd e (g3.no (p i) (by omega) (h.lt i h1))
      have := seen_lt h g3 h1 (fun a ha => by
        by_cases e63 : a = 63
        · subst e63; exact hp
        · have := g3.dec a 63 (by omega) (by omega); omega)
      omega
    · exact absurd e (g3.no (p i) (by omega) (h.lt i h1))
  · have hms : ms = m := by have := h.cnt; omega
    rcases hm with ⟨j, c, sn, g1, g2, g3, g4, g5, g6⟩ | ⟨sn, g3, g5, g6⟩ | ⟨c, sn, g2, g3, g5, g6⟩
    · rcases h.cover j g1 with ⟨q, a1, a2⟩ | ⟨a1, _⟩
      · exact absurd ((h.key a1).2 (a2.symm.trans g4)) (h1 q a1)
      · omega
    · rw [if_pos (by omega)] at g6
      exact ⟨by rw [h3, g6, hms], by rw [h4, g5]⟩
    · rw [if_pos (by omega)] at g6
      exact ⟨by rw [h3, g6, hms], by rw [h4, g5]⟩
  · have hms : ¬ ms < 64 := by have := h.cnt; omega
    have hl := lst_lt L m (by omega)
    rcases hm with ⟨j, c, sn, g1, g2, g3, g4, g5, g6⟩ | ⟨sn, g3, g5, g6⟩ | ⟨c, sn, g2, g3, g5, g6⟩
    · rcases h.cover j g1 with ⟨q, a1, a2⟩ | ⟨a1, a2⟩
      · exact absurd ((h.key a1).2 (a2.symm.trans g4)) (h1 q a1)
      · have := slots_le h g3 (fun q hq => a2 q hq)
        omega
    · have hs : sn 63 = p (lst L m) := by
        rcases Nat.lt_trichotomy (sn 63) (p (lst L m)) with a | a | a
        · have g3' : Scan f g t (sn 63 + 1) 63 sn := ⟨fun b hb => g3.dec b 63 (by omega) (by omega), fun b hb => g3.hi b (by omega), fun b hb => g3.last b (by omega), fun j hj1 hj2 => by
            obtain ⟨b, b1, b2⟩ := g3.all j (by omega) hj2
            by_cases e : b = 63
            · subst e; exact absurd b2 (g3.last 63 (by omega) j (by omega) hj2)
            · exact ⟨b, by omega, b2⟩, fun b b' x y => g3.dec b b' x (by omega), fun j hj1 hj2 => g3.no j (by omega) hj2⟩
          have := slots_le h g3' (fun q hq => by have := h.least hq; omega)
          omega
        · exact a
        · have := seen_lt h g3 hl (fun b hb => by
            by_cases e63 : b = 63
            · subst e63; exact a
            · have := g3.dec b 63 (by omega) (by omega); omega)
          omega
      rw [if_neg hms, hs, h.num _ hl] at g6
      exact ⟨by rw [h3, g6], by rw [h4, g5]⟩
    · have := slots_le h g3 (fun q hq => Nat.zero_le _)
      omega

/-- THE SLOTS BEHIND ONE STEP MORE. -/
theorem Inv.step (h : Inv f g nums t m ms L p) {got : Int} {df : Bool} {L' : Nat → Int × Int × Int} {m' : Nat} (ho : NumOut L m t (f t) (g t) got df L' m') :
    ∃ p', Inv f g (fun j => if j = t then got else nums j) (t + 1) m' (if df = true then ms else ms + 1) L' p' := by
  have hle := h.le
  have hcnt := h.cnt
  -- one proof for all three: slot x is given to step t
  have main : ∀ x, x < m' → m' ≤ 64 → m ≤ m' → (∀ q, q < m' → q ≠ x → q < m) → got = (x : Int) + 1 → (L' x).1 = f t → (L' x).2.1 = g t → (L' x).2.2 = (t : Int) + 1 → (∀ q, q ≠ x → L' q = L q) → (∀ q, q < m → q ≠ x → ¬ same f g (p q) t) →
      (∀ j, j < t → (∃ q, q < m' ∧ q ≠ x ∧ same f g j (p q)) ∨ same f g j t ∨ (m' = 64 ∧ ∀ q, q < m' → q ≠ x → j < p q)) → m' = min (if df = true then ms else ms + 1) 64 →
      ∃ p', Inv f g (fun j => if j = t then got else nums j) (t + 1) m' (if df = true then ms else ms + 1) L' p' := by
    intro x hx hm64 hmm hq hgot e0 e1 e2 eL hns hcov hc
    refine ⟨fun q => if q = x then t else p q, hm64, fun q h1 => ?_, fun q h1 => ?_, fun q h1 => ?_, fun q h1 => ?_, fun q h1 j h2 h3 => ?_, fun q h1 => ?_, fun q r h1 h2 h3 => ?_, fun j h1 => ?_, hc⟩
    · show (if q = x then t else p q) < t + 1
      by_cases e : q = x
      · rw [if_pos e]; omega
      · rw [if_neg e]; have := h.lt q (hq q h1 e); omega
    · show (L' q).2.2 = ((if q = x then t else p q : Nat) : Int) + 1
      by_cases e : q = x
      · rw [if_pos e, e]; exact e2
      · rw [if_neg e, eL q e]; exact h.use q (hq q h1 e)
    · show (L' q).1 = f (if q = x then t else p q)
      by_cases e : q = x
      · rw [if_pos e, e]; exact e0
      · rw [if_neg e, eL q e]; exact h.k0 q (hq q h1 e)
    · show (L' q).2.1 = g (if q = x then t else p q)
      by_cases e : q = x
      · rw [if_pos e, e]; exact e1
      · rw [if_neg e, eL q e]; exact h.k1 q (hq q h1 e)
    · show ¬ same f g j (if q = x then t else p q)
      have h2' : (if q = x then t else p q) < j := h2
      by_cases e : q = x
      · rw [if_pos e] at h2'; omega
      · rw [if_neg e] at h2' ⊢
        by_cases ej : j = t
        · subst ej; exact fun s => hns q (hq q h1 e) e s.symm
        · exact h.last q (hq q h1 e) j h2' (by omega)
    · show (if (if q = x then t else p q) = t then got else nums (if q = x then t else p q)) = (q : Int) + 1
      by_cases e : q = x
      · rw [if_pos e, if_pos rfl, e]; exact hgot
      · rw [if_neg e, if_neg (by have := h.lt q (hq q h1 e); omega)]; exact h.num q (hq q h1 e)
    · have h3' : (if q = x then t else p q) = (if r = x then t else p r) := h3
      by_cases e : q = x
      · rw [if_pos e] at h3'
        by_cases e' : r = x
        · omega
        · rw [if_neg e'] at h3'; have := h.lt r (hq r h2 e'); omega
      · rw [if_neg e] at h3'
        by_cases e' : r = x
        · rw [if_pos e'] at h3'; have := h.lt q (hq q h1 e); omega
        · rw [if_neg e'] at h3'; exact h.inj q r (hq q h1 e) (hq r h2 e') h3'
    · by_cases ej : j = t
      · exact .inl ⟨x, hx, by show same f g j (if x = x then t else p x); rw [if_pos rfl, ej]; exact ⟨rfl, rfl⟩⟩
      · rcases hcov j (by omega) with ⟨q, a1, a2, a3⟩ | a | ⟨a1, a2⟩
        · exact .inl ⟨q, a1, by show same f g j (if q = x then t else p q); rw [if_neg a2]; exact a3⟩
        · exact .inl ⟨x, hx, by show same f g j (if x = x then t else p x); rw [if_pos rfl]; exact a⟩
        · refine .inr ⟨a1, fun q hqm => ?_⟩
          show j < (if q = x then t else p q)
          by_cases e : q = x
          · rw [if_pos e]; omega
          · rw [if_neg e]; exact a2 q hqm e
  rcases ho with ⟨i, h1, h2, h3, rfl, rfl, rfl⟩ | ⟨h1, h2, h3, rfl, rfl, rfl⟩ | ⟨h1, h2, h3, rfl, rfl, rfl⟩
  · have e := (h.key h1).1 h2
    refine main i h1 hle (Nat.le_refl _) (fun q a _ => a) h3 ?_ ?_ ?_ (fun q hq => by unfold updT; rw [if_neg hq]) (fun q a b s => b (h.uniq a h1 (s.trans e.symm))) (fun j hj => ?_) (by simpa using hcnt)
    · unfold updT; rw [if_pos rfl]; exact h2.1
    · unfold updT; rw [if_pos rfl]; exact h2.2
    · unfold updT; rw [if_pos rfl]
    · rcases h.cover j hj with ⟨q, a1, a2⟩ | ⟨a1, a2⟩
      · by_cases eq : q = i
        · subst eq; exact .inr (.inl (a2.trans e))
        · exact .inl ⟨q, a1, eq, a2⟩
      · exact .inr (.inr ⟨a1, fun q b _ => a2 q b⟩)
  · refine main m (by omega) (by omega) (by omega) (fun q a b => by omega) h3 ?_ ?_ ?_ (fun q hq => by unfold updS; rw [if_neg hq]) (fun q a _ s => h1 q a ((h.key a).2 s)) (fun j hj => ?_) ?_
    · unfold updS; rw [if_pos rfl]
    · unfold updS; rw [if_pos rfl]
    · unfold updS; rw [if_pos rfl]
    · rcases h.cover j hj with ⟨q, a1, a2⟩ | ⟨a1, a2⟩
      · exact .inl ⟨q, by omega, by omega, a2⟩
      · omega
    · rw [if_neg (by simp)]; omega
  · have hl := lst_lt L m' (by omega)
    refine main (lst L m') hl hle (Nat.le_refl _) (fun q a _ => a) h3 ?_ ?_ ?_ (fun q hq => by unfold updS; rw [if_neg hq]) (fun q a _ s => h1 q a ((h.key a).2 s)) (fun j hj => ?_) ?_
    · unfold updS; rw [if_pos rfl]
    · unfold updS; rw [if_pos rfl]
    · unfold updS; rw [if_pos rfl]
    · rcases h.cover j hj with ⟨q, a1, a2⟩ | ⟨a1, a2⟩
      · by_cases eq : q = lst L m'
        · subst eq
          -- the key that gives way: every other slot came later
          refine .inr (.inr ⟨h2, fun r b1 b2 => ?_⟩)
          have c1 := h.least b1
          have c2 : p r ≠ p (lst L m') := fun e => b2 (h.inj r _ b1 hl e)
          have c3 : j ≤ p (lst L m') := by
            by_cases c : j ≤ p (lst L m')
            · exact c
            · exact absurd a2 (h.last _ hl j (by omega) hj)
          omega
        · exact .inl ⟨q, a1, eq, a2⟩
      · exact .inr (.inr ⟨a1, fun q b _ => a2 q b⟩)
    · rw [if_neg (by simp)]; omega
end
end Go.Proofs.Qxb6600567a
