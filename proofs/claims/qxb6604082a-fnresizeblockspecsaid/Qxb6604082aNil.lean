import Derived.Test.Qxb6604082aGrow
namespace Go.Proofs.Qxb6604082a
open Go.ChangeShapes Go.WideShapes Go.ChangeAt Go.RowKit
set_option linter.unusedVariables false

set_option maxRecDepth 8000 in
set_option maxHeartbeats 4000000 in
theorem law_nil (least : Int) (w : World) (hle : least ≤ 65536) :
    Calls Try.prog 4 #[.slice none 0 0, .int .i64 0, .int .i64 0, .int .i64 least] w fun r w' => r = .returned (.bool true) ∧ Below w.heap.size w w' := by
  have hba : Below w.heap.size w (w.alloc (.cells (madeCells #[.int .u8 0] 0) 5)) := (Below.refl _ _).alloc (Nat.le_refl _) _
  have hcp := run_copy_none (P := Try.prog) (w.alloc (.cells (madeCells #[.int .u8 0] 0) 5)) 24 24 3 5 (some ⟨w.heap.size, 0, none⟩) none 0 0 0 0 Try.underlying24 infoSize5 rfl
  have hmk := make24 0 0 0 0 rfl rfl (Nat.le_refl _) (by omega)
  have q := q24
  have HB : Hid (Below w.heap.size w (w.alloc (.cells (madeCells #[.int .u8 0] 0) 5))) := hba
  clear hba
  go_enter Try.func4, Try.ntmps4
  go_wp2_with (first
    | (go_at_call 7; refine (zzBytes _ 0 _ _ _ _ _ (by unfold maxLen; omega)).mono ?_; rintro r w' ⟨rfl, rfl⟩; rw [show decide (0 ≤ 1048576) = true from rfl])
    | (go_at_call 8; refine (zz_nil _ _).mono ?_; rintro r W5 ⟨rfl, rfl⟩))
  go_rounds 1
  go_wp2
  go_rounds 1
  go_wp2
  go_ret
  exact ⟨rfl, HB.out⟩

set_option maxRecDepth 8000 in
set_option maxHeartbeats 4000000 in
theorem law_nil_grow (e K : Nat) (least : Int) (w : World) (he : 0 < e) (he6 : e ≤ 65536) (hle : least ≤ 65536) (hK : (K : Int) = max (min (max (e : Int) (2 * (0 : Nat))) 65536) least) :
    Calls Try.prog 4 #[.slice none 0 0, .int .i64 0, .int .i64 e, .int .i64 least] w fun r w' => r = .returned (.bool true) ∧ Below w.heap.size w w' := by
  have hba : Below w.heap.size w (w.alloc (.cells (madeCells #[.int .u8 0] 0) 5)) := (Below.refl _ _).alloc (Nat.le_refl _) _
  have hcp := run_copy_none (P := Try.prog) (w.alloc (.cells (madeCells #[.int .u8 0] 0) 5)) 24 24 3 5 (some ⟨w.heap.size, 0, none⟩) none 0 0 0 0 Try.underlying24 infoSize5 rfl
  have hmk := make24 0 0 0 0 rfl rfl (Nat.le_refl _) (by omega)
  have q := q24
  have HK : Hid ((K : Int) = max (min (max (e : Int) (2 * (0 : Nat))) 65536) least) := hK
  have k1 : ¬ (K : Int) < least := by omega
  have k2 : ¬ (K : Int) < e := by omega
  have k3 : ¬ (K : Int) < 0 := by omega
  obtain ⟨W4, hW4⟩ : ∃ W, W = w.alloc (.cells (madeCells #[.int .u8 0] 0) 5) := ⟨_, rfl⟩
  have S4 : W4.heap.size = w.heap.size + 1 := by rw [hW4]; simp
  have HS4 : Hid (W4.heap.size = w.heap.size + 1) := S4
  rw [← hW4] at hcp hba
  have hmk' := hmk w
  rw [← hW4] at hmk'
  have HB : Hid (Below w.heap.size w W4) := hba
  clear hba hK hmk hW4 S4
  go_enter Try.func4, Try.ntmps4
  go_wp2_with (first
    | (go_at_call 7; refine (zzBytes _ 0 _ _ _ _ _ (by unfold maxLen; omega)).mono ?_; rintro r w' ⟨rfl, rfl⟩; rw [show decide (0 ≤ 1048576) = true from rfl])
    | (go_at_call 8; refine (zz_grow none 0 0 e K least W4 (fun _ => 0) (Nat.le_refl _) (by omega) he he6 hle HK.out (.inl rfl)).mono ?_; rintro r W5 ⟨rfl, r5, b5, s5⟩))
  have HB5 : Hid (Below w.heap.size w W5) := HB.out.trans (b5.mono (by have := HS4.out; omega))
  have HR5 : Hid (W5.rowIs W4.heap.size 5 K (fun j => .int .u8 (overlaid 0 (fun _ => 0) (fun _ => 0) j))) := r5
  clear r5 b5 s5 hcp hmk' q
  go_loop [14] (fun iv => ∃ i : Nat, i ≤ e ∧ iv = .int .i64 i) (fun iv => e - (intOf iv).toNat)
  case atStart => exact ⟨0, Nat.zero_le _, rfl⟩
  case round =>
    obtain ⟨i, hi, rfl⟩ := hrel
    by_cases hlt : i < e
    · have c2 := HR5.out.cell (show i < K by omega)
      have z : overlaid 0 (fun _ => 0) (fun _ => 0) i = 0 := by unfold overlaid; split <;> rfl
      rw [z] at c2
      go_wp2
      go_round
      case rel => exact ⟨i + 1, by omega, by go_num⟩
      case measure => simp [intOf]; omega
    · have c0 := HR5.out.cell (show 0 < K by omega)
      have c1 := HR5.out.frozen 0
      have k4 : Hid ((K : Int) = least ∨ (K : Int) = e) := by have := HK.out; show _ ∨ _; omega
      go_wp2
      go_rounds 1
      go_wp2
      · go_quiet (fail)
        go_wp2
        go_ret
        exact ⟨rfl, below_drewN (HB5.out.setCell (p := ⟨W4.heap.size, 0, none⟩) (by show w.heap.size ≤ W4.heap.size; have := HS4.out; omega) _) _⟩
      · go_quiet (fail)
        go_wp2
        go_ret
        exact ⟨rfl, below_drewN (HB5.out.setCell (p := ⟨W4.heap.size, 0, none⟩) (by show w.heap.size ≤ W4.heap.size; have := HS4.out; omega) _) _⟩
      · exfalso
        have h := ‹(((K : Int) != least) = true ∧ ((K : Int) != (e : Int)) = true) ∧ ((K : Int) != 0) = true›
        simp only [bne_iff_ne] at h
        rcases k4.out with h4 | h4
        · exact h.1.1 h4
        · exact h.1.2 h4
      · go_quiet (fail)
        go_wp2
        go_ret
        exact ⟨rfl, below_drewN (HB5.out.setCell (p := ⟨W4.heap.size, 0, none⟩) (by show w.heap.size ≤ W4.heap.size; have := HS4.out; omega) _) _⟩
/-! ### the law's guards -/
set_option maxRecDepth 8000 in
theorem law_big (a : Option Addr) (n cap : Nat) (x y z : Int) (w : World) (hm : n ≤ maxLen) (hn : ¬ n ≤ 1048576) :
    Calls Try.prog 4 #[.slice a n cap, .int .i64 x, .int .i64 y, .int .i64 z] w fun r w' => r = .returned (.bool true) ∧ Below w.heap.size w w' := by
  have hd : decide (n ≤ 1048576) = false := decide_eq_false hn
  go_enter Try.func4, Try.ntmps4
  go_wp2_with (go_at_call 7; refine (zzBytes _ _ _ _ _ _ _ hm).mono ?_; rintro r w' ⟨rfl, rfl⟩; rw [hd])
  go_ret
  exact ⟨rfl, Below.refl _ _⟩
set_option maxRecDepth 8000 in
set_option maxHeartbeats 1000000 in
theorem law_guard (a : Option Addr) (n cap : Nat) (x y z : Int) (w : World) (hn : n ≤ 1048576)
    (hg : x < 0 ∨ (0 ≤ x ∧ (n : Int) < x) ∨ (0 ≤ x ∧ x ≤ n ∧ y < 0) ∨ (0 ≤ x ∧ x ≤ n ∧ 0 ≤ y ∧ 65536 < y) ∨ (0 ≤ x ∧ x ≤ n ∧ 0 ≤ y ∧ y ≤ 65536 ∧ 65536 < z)) :
    Calls Try.prog 4 #[.slice a n cap, .int .i64 x, .int .i64 y, .int .i64 z] w fun r w' => r = .returned (.bool true) ∧ Below w.heap.size w w' := by
  have hm : n ≤ maxLen := by unfold maxLen; omega
  have hd : decide (n ≤ 1048576) = true := decide_eq_true hn
  rcases hg with h1 | ⟨h1, h2⟩ | ⟨h1, h2, h3⟩ | ⟨h1, h2, h3, h4⟩ | ⟨h1, h2, h3, h4, h5⟩ <;>
  · go_enter Try.func4, Try.ntmps4
    go_wp2_with (go_at_call 7; refine (zzBytes _ _ _ _ _ _ _ hm).mono ?_; rintro r w' ⟨rfl, rfl⟩; rw [hd])
    go_ret
    exact ⟨rfl, Below.refl _ _⟩
/-- WHAT THE LAW IS TOLD OF A SLICE OF INTEGERS THAT CAME IN -/
def IsRow (k : IntKind) (w : World) (a : Option Addr) (len cap : Nat) (zs : List Int) : Prop :=
  (a = none ∧ len = 0 ∧ cap = 0 ∧ zs = []) ∨
  ∃ x, a = some x ∧ len ≤ cap ∧ cap ≤ maxLen ∧ zs.length = cap ∧ (∀ i, i < zs.length → w.cell? (x.add i) = some (.int k (zs.getD i 0))) ∧ ∀ n ∈ zs, (Lit.int k n).wf = true
theorem IsRow.src {w : World} {x : Addr} {len cap : Nat} {zs : List Int} (h2 : len ≤ cap) (h4 : zs.length = cap) (h5 : ∀ i, i < zs.length → w.cell? (x.add i) = some (.int .u8 (zs.getD i 0))) : Src w (some x) len (fun i => zs.getD i 0) := by
  by_cases h0 : len = 0
  · exact .inl h0
  · obtain ⟨b, off, sp⟩ := x
    have hsp : sp = none := by simpa [Addr.add] using World.cell?_spot (h5 0 (by omega))
    subst hsp
    have hcell : ∀ i, i < len → w.cell? ⟨b, off + i, none⟩ = some (.int .u8 (zs.getD i 0)) := fun i hi => by
      have := h5 i (by omega)
      rwa [add_plain] at this
    exact .inr ⟨b, off, rfl, World.block_lt_of_cell? _ _ (hcell 0 (by omega)), hcell⟩

theorem law (a : Option Addr) (n cap : Nat) (zs : List Int) (x y z : Int) (w : World) (h : IsRow .u8 w a n cap zs) :
    Calls Try.prog 4 #[.slice a n cap, .int .i64 x, .int .i64 y, .int .i64 z] w fun r w' => r = .returned (.bool true) ∧ Below w.heap.size w w' := by
  have hm : n ≤ maxLen := by
    rcases h with ⟨_, h, _, _⟩ | ⟨_, _, h2, h3, _⟩
    · rw [h]; exact Nat.zero_le _
    · omega
  by_cases hn : n ≤ 1048576
  · by_cases hg : x < 0 ∨ (0 ≤ x ∧ (n : Int) < x) ∨ (0 ≤ x ∧ x ≤ n ∧ y < 0) ∨ (0 ≤ x ∧ x ≤ n ∧ 0 ≤ y ∧ 65536 < y) ∨ (0 ≤ x ∧ x ≤ n ∧ 0 ≤ y ∧ y ≤ 65536 ∧ 65536 < z)
    · exact law_guard a n cap x y z w hn hg
    · obtain ⟨l, rfl⟩ : ∃ l : Nat, x = (l : Int) := ⟨x.toNat, by omega⟩
      obtain ⟨e, rfl⟩ : ∃ e : Nat, y = (e : Int) := ⟨y.toNat, by omega⟩
      have hl : l ≤ n := by omega
      have he6 : e ≤ 65536 := by omega
      have hz : z ≤ 65536 := by omega
      obtain ⟨K, hK⟩ : ∃ K : Nat, (K : Int) = max (min (max (e : Int) (2 * n)) 65536) z := ⟨(max (min (max (e : Int) (2 * n)) 65536) z).toNat, by omega⟩
      clear hg
      rcases h with ⟨rfl, rfl, rfl, rfl⟩ | ⟨x, rfl, h2, h3, h4, h5, h6⟩
      · obtain rfl : l = 0 := by omega
        by_cases he : e = 0
        · subst he; exact law_nil z w hz
        · exact law_nil_grow e K z w (by omega) he6 hz hK
      · have hs := IsRow.src h2 h4 h5
        by_cases he : e ≤ n
        · exact law_fits x n cap l e z _ w hn hl he he6 hz hs
        · exact law_grow x n cap l e K z _ w hn hl (by omega) he6 hz hK hs
  · exact law_big a n cap x y z w hm hn
end Go.Proofs.Qxb6604082a
