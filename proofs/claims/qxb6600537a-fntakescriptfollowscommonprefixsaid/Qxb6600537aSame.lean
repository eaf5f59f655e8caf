import Derived.Test.Qxb6600537aTake
namespace Go.Proofs.Qxb6600537a
open Go.ChangeShapes Go.WideShapes Go.ChangeAt Go.RowKit
set_option linter.unusedVariables false

def sameB (f g : Nat → Int) (n : Nat) : Bool := decide (∀ j, j < n → f j = g j)
theorem sameB_true {f g : Nat → Int} {n : Nat} (h : ∀ j, j < n → f j = g j) : sameB f g n = true := decide_eq_true h
theorem sameB_false {f g : Nat → Int} {n j : Nat} (hj : j < n) (h : f j ≠ g j) : sameB f g n = false := decide_eq_false fun H => h (H j hj)

set_option maxHeartbeats 400000 in
theorem same_empty (a a' : Option Addr) (c c' : Nat) (w : World) :
    Calls Try.prog 9 #[.slice a 0 c, .slice a' 0 c'] w fun e w' => e = .returned (.bool true) ∧ w' = w := by
  go_enter Try.func9, Try.ntmps9
  go_wp2
  go_rounds 1
  go_ret
  exact ⟨rfl, rfl⟩

set_option maxHeartbeats 400000 in
theorem same_some (b o n c b' o' c' : Nat) (f g : Nat → Int) (w : World) (hn : n ≤ 1048576)
    (hf : ∀ j, j < n → w.cell? ⟨b, o + j, none⟩ = some (.int .u8 (f j))) (hg : ∀ j, j < n → w.cell? ⟨b', o' + j, none⟩ = some (.int .u8 (g j))) :
    Calls Try.prog 9 #[.slice (some ⟨b, o, none⟩) n c, .slice (some ⟨b', o', none⟩) n c'] w fun e w' => e = .returned (.bool (sameB f g n)) ∧ ∃ k, w' = w.drewN k := by
  go_enter Try.func9, Try.ntmps9
  go_wp2
  go_loopw [5] (fun i wr => ∃ k m : Nat, k ≤ n ∧ i = .int .i64 k ∧ wr = w.drewN m ∧ ∀ j, j < k → f j = g j) (fun i _ => n - (intOf i).toNat)
  case atStart => exact ⟨0, 0, Nat.zero_le _, rfl, rfl, fun j hj => absurd hj (Nat.not_lt_zero _)⟩
  case round =>
    obtain ⟨k, m, hk, rfl, rfl, heq⟩ := hrel
    by_cases hlt : k < n
    · have c1 : w.cell? ⟨b, o + k, none⟩ = some (.int .u8 (f k)) := hf k hlt
      have c2 : w.cell? ⟨b', o' + k, none⟩ = some (.int .u8 (g k)) := hg k hlt
      have hlt' : (k : Int) < (n : Int) := by omega
      have H : Hid (∀ j, j < k → f j = g j) := heq
      clear heq hf hg
      by_cases he : f k = g k
      · have he' : (f k != g k) = false := by simp [he]
        have HE : Hid (f k = g k) := he
        clear he
        go_wp2
        go_quiet (fail)
        go_wp2
        go_roundw
        case rel => exact ⟨k + 1, _, by omega, by go_num, rfl, fun j hj => by
          by_cases e : j = k
          · subst e; exact HE.out
          · exact H.out j (by omega)⟩
        case measure => simp [intOf]; omega
      · have he' : (f k != g k) = true := by simp [he]
        have hs : sameB f g n = false := sameB_false hlt he
        clear he
        go_wp2
        go_quiet (fail)
        go_wp2
        go_ret
        exact ⟨by rw [hs]; rfl, _, World.drewN_drewN _ _ _⟩
    · have hs : sameB f g n = true := sameB_true (fun j hj => heq j (by omega))
      clear heq hf hg
      go_wp2
      go_ret
      exact ⟨by rw [hs]; rfl, _, rfl⟩

/-- What is known of a slice of bytes: where it has elements, it begins at the head of a block, and its cells hold f. -/
def Row (w : World) (a : Option Addr) (n : Nat) (f : Nat → Int) : Prop :=
  n = 0 ∨ ∃ B, a = some ⟨B, 0, none⟩ ∧ B < w.heap.size ∧ ∀ j, j < n → w.cell? ⟨B, j, none⟩ = some (.int .u8 (f j))
theorem Row.below {w w' : World} {a : Option Addr} {n : Nat} {f : Nat → Int} (h : Row w a n f) (hb : Below w.heap.size w w') : Row w' a n f := by
  rcases h with h | ⟨B, h1, h2, h3⟩
  · exact .inl h
  · exact .inr ⟨B, h1, Nat.lt_of_lt_of_le h2 hb.size, fun j hj => (hb.cell h2).trans (h3 j hj)⟩

/-- WHAT THE WALK IS TOLD OF A SLICE OF INTEGERS THAT CAME IN -/
def IsRow (k : IntKind) (w : World) (a : Option Addr) (len cap : Nat) (zs : List Int) : Prop :=
  (a = none ∧ len = 0 ∧ cap = 0 ∧ zs = []) ∨
  ∃ x, a = some x ∧ len ≤ cap ∧ cap ≤ maxLen ∧ zs.length = cap ∧ (∀ i, i < zs.length → w.cell? (x.add i) = some (.int k (zs.getD i 0))) ∧ ∀ n ∈ zs, (Lit.int k n).wf = true
theorem IsRow.below {k : IntKind} {w w' : World} {a : Option Addr} {len cap : Nat} {zs : List Int} (h : IsRow k w a len cap zs) (hb : Below w.heap.size w w') : IsRow k w' a len cap zs := by
  rcases h with h | ⟨x, h1, h2, h3, h4, h5, h6⟩
  · exact .inl h
  · exact .inr ⟨x, h1, h2, h3, h4, fun i hi => cell_later hb (h5 i hi), h6⟩

theorem clone_any (a : Option Addr) (len cap : Nat) (zs : List Int) (w : World) (hl : len ≤ 1048576) (h : IsRow .u8 w a len cap zs) :
    Calls Try.prog 7 #[.slice a len cap] w fun e w' => ∃ a', e = .returned (.slice a' len len) ∧ Below w.heap.size w w' ∧ Row w' a' len (fun i => zs.getD i 0) := by
  rcases h with ⟨rfl, rfl, rfl, rfl⟩ | ⟨x, rfl, h2, h3, h4, h5, h6⟩
  · refine (clone_nil w).mono ?_
    rintro e w' ⟨rfl, rfl⟩
    exact ⟨none, rfl, Below.refl _ _, .inl rfl⟩
  · by_cases h0 : len = 0
    · subst h0
      refine (clone_empty x cap w).mono ?_
      rintro e w' ⟨rfl, hb, _, _⟩
      exact ⟨_, rfl, hb, .inl rfl⟩
    · obtain ⟨b, off, sp⟩ := x
      have hsp : sp = none := by simpa [Addr.add] using World.cell?_spot (h5 0 (by omega))
      subst hsp
      have hcell : ∀ i, i < len → w.cell? ⟨b, off + i, none⟩ = some (.int .u8 (zs.getD i 0)) := fun i hi => by
        have := h5 i (by omega)
        rwa [add_plain] at this
      have hb : b < w.heap.size := World.block_lt_of_cell? _ _ (hcell 0 (by omega))
      refine (clone_some b off len cap zs w hl hb hcell).mono ?_
      rintro e w' ⟨rfl, hb, hs, hr⟩
      exact ⟨_, rfl, hb, .inr ⟨w.heap.size, rfl, by omega, fun j hj => hr.cell hj⟩⟩

theorem same_any (b o n c : Nat) (a' : Option Addr) (c' : Nat) (f g : Nat → Int) (w : World) (hn : n ≤ 1048576)
    (hf : ∀ j, j < n → w.cell? ⟨b, o + j, none⟩ = some (.int .u8 (f j))) (hg : Row w a' n g) :
    Calls Try.prog 9 #[.slice (some ⟨b, o, none⟩) n c, .slice a' n c'] w fun e w' => e = .returned (.bool (sameB f g n)) ∧ ∃ k, w' = w.drewN k := by
  rcases hg with rfl | ⟨B, rfl, h2, h3⟩
  · refine (same_empty _ _ _ _ w).mono ?_
    rintro e w' ⟨rfl, rfl⟩
    exact ⟨by rw [sameB_true (fun j hj => absurd hj (Nat.not_lt_zero _))], 0, rfl⟩
  · exact same_some b o n c B 0 c' f g w hn hf (fun j hj => by rw [Nat.zero_add]; exact h3 j hj)

theorem take_any_yes (a : Option Addr) (n cp i : Nat) (c : Int) (f : Nat → Int) (w : World) (hr : Row w a n f) (hi : i < n) (hn : n ≤ 1048576) (hc : f i = c) :
    Calls Try.prog 13 #[.slice a n cp, .int .i64 i, .int .u8 c] w fun e w' => e = .returned (.tuple #[.int .i64 ((i : Int) + 1), .bool true]) ∧ Below w.heap.size w w' := by
  rcases hr with rfl | ⟨B, rfl, h2, h3⟩
  · omega
  · exact zztake_yes B n cp i c w hi hn h2 (by rw [h3 i hi, hc])

theorem take_any_no (a : Option Addr) (n cp i : Nat) (c : Int) (f : Nat → Int) (w : World) (hr : Row w a n f) (hi : i ≤ n) (hc : i < n → f i ≠ c) :
    Calls Try.prog 13 #[.slice a n cp, .int .i64 i, .int .u8 c] w fun e w' => e = .returned (.tuple #[.int .i64 (i : Int), .bool false]) ∧ Below w.heap.size w w' := by
  by_cases he : i = n
  · subst he; exact zztake_end a i cp c w
  · rcases hr with rfl | ⟨B, rfl, h2, h3⟩
    · omega
    · exact zztake_no B n cp i (f i) c w (by omega) h2 (h3 i (by omega)) (hc (by omega))
end Go.Proofs.Qxb6600537a
