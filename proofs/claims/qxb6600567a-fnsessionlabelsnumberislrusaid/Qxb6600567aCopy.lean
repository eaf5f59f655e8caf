import Derived.Test.Qxb6600567aRows
import Derived.WalkKit
import Derived.ProofKit
import Derived.OpenShut
import Derived.ShutString
import Derived.ChangeOld
import Derived.Below
import Derived.WalkSpells
import Derived.Deep.OwnRows
import Derived.Deep.QuietTactic
import Derived.BigQuiet
import Derived.Handy
import Derived.WalkSmall
namespace Go.Proofs.Qxb6600567a
open Go.ChangeShapes Go.WideShapes Go.ChangeAt Go.RowKit
set_option linter.unusedVariables false

theorem info3 : (Try.prog.info? 3).map (fun i => (i.zero, i.size, i.bytes)) = some (some (.int .i64 0), 1, 8) := by kernel_rfl
theorem q22 (w : World) (a : Option Addr) (n c n' c' : Nat) : (binOp .eql 22 (.slice a n c) (.slice none n' c')).run Try.prog w = .ok (.bool a.isNone) w := Lib.run_eql_slice_nil w _ _ a n c n' c' Try.underlying22

/-- a nil slice is cloned to nil -/
theorem clone_nil_i (w : World) : Calls Try.prog 6 #[.slice none 0 0] w fun e w' => e = .returned (.slice none 0 0) ∧ w' = w := by
  have q := q22
  go_enter Try.func6, Try.ntmps6
  go_wp2
  go_ret
  exact ⟨rfl, rfl⟩


theorem clone_empty_i (a : Addr) (cap : Nat) (w : World) :
    Calls Try.prog 6 #[.slice (some a) 0 cap] w fun e w' => e = .returned (.slice (some ⟨w.heap.size, 0, none⟩) 0 0) ∧ Below w.heap.size w w' ∧ w'.heap.size = w.heap.size + 1 ∧
      w'.rowIs w.heap.size 3 0 (fun i => .int .i64 0) := by
  have hmk := run_make_row' (P := Try.prog) 22 3 (.int .i64 0) 8 Try.underlying22 info3 rfl .i64 .i64 0 (by omega) (by omega)
  simp only [Int.natCast_zero] at hmk
  have q := q22
  go_enter Try.func6, Try.ntmps6
  go_wp2
  go_rounds 1
  go_ret
  exact ⟨rfl, (Below.refl _ _).alloc (Nat.le_refl _) _, by simp, World.rowIs_made _ _ _ _⟩

set_option maxHeartbeats 400000 in
theorem clone_some_i (b off len cap : Nat) (zs : List Int) (w : World) (hl : len ≤ 4096) (hb : b < w.heap.size)
    (hc : ∀ i, i < len → w.cell? ⟨b, off + i, none⟩ = some (.int .i64 (zs.getD i 0))) :
    Calls Try.prog 6 #[.slice (some ⟨b, off, none⟩) len cap] w fun e w' => e = .returned (.slice (some ⟨w.heap.size, 0, none⟩) len len) ∧ Below w.heap.size w w' ∧ w'.heap.size = w.heap.size + 1 ∧
      w'.rowIs w.heap.size 3 len (fun i => .int .i64 (zs.getD i 0)) := by
  have hmk := run_make_row' (P := Try.prog) 22 3 (.int .i64 0) 8 Try.underlying22 info3 rfl .i64 .i64 len (by omega) (by omega)
  have q := q22
  go_enter Try.func6, Try.ntmps6
  go_wp2
  go_loopw [4] (fun i wr => ∃ k : Nat, k ≤ len ∧ i = .int .i64 k ∧ Below w.heap.size w wr ∧ wr.heap.size = w.heap.size + 1 ∧ wr.rowIs w.heap.size 3 len (fun j => .int .i64 (if j < k then zs.getD j 0 else 0))) (fun i _ => len - (intOf i).toNat)
  case atStart => exact ⟨0, Nat.zero_le _, rfl, (Below.refl _ _).alloc (Nat.le_refl _) _, by simp, (World.rowIs_made _ _ _ _).congr (fun i hi => by simp)⟩
  case round =>
    obtain ⟨k, hk, rfl, hbel, hsz, hrow⟩ := hrel
    by_cases hlt : k < len
    · have c1 : wr.cell? ⟨b, off + k, none⟩ = some (.int .i64 (zs.getD k 0)) := (hbel.cell (by exact hb)).trans (hc k hlt)
      have c2 := hrow.cell hlt
      have c3 := hrow.frozen k
      have R := (hrow.set k (.int .i64 (zs.getD k 0)))
      have hB := hbel.setCell (p := ⟨w.heap.size, k, none⟩) (Nat.le_refl _) (.int .i64 (zs.getD k 0))
      clear hc hrow hbel
      go_wp2
      go_roundw
      case rel => 
        exact ⟨k + 1, by omega, by go_num, hB, by simp [World.setCell, hsz], R.congr (fun j hj => by
          by_cases e : j = k
          · subst e; rw [if_pos rfl, if_pos (by omega)]
          · rw [if_neg e]; by_cases e2 : j < k
            · rw [if_pos e2, if_pos (by omega)]
            · rw [if_neg e2, if_neg (by omega)])⟩
      case measure => simp [intOf]; omega
    · go_wp2
      go_ret
      exact ⟨rfl, hbel, hsz, hrow.congr (fun i hi => by rw [if_pos (by omega)])⟩
theorem info34 : (Try.prog.info? 34).map (fun i => (i.zero, i.size, i.bytes)) = some (some (.int .u64 0), 1, 8) := by kernel_rfl
theorem q23 (w : World) (a : Option Addr) (n c n' c' : Nat) : (binOp .eql 23 (.slice a n c) (.slice none n' c')).run Try.prog w = .ok (.bool a.isNone) w := Lib.run_eql_slice_nil w _ _ a n c n' c' Try.underlying23

/-- a nil slice is cloned to nil -/
theorem clone_nil_u (w : World) : Calls Try.prog 7 #[.slice none 0 0] w fun e w' => e = .returned (.slice none 0 0) ∧ w' = w := by
  have q := q23
  go_enter Try.func7, Try.ntmps7
  go_wp2
  go_ret
  exact ⟨rfl, rfl⟩


theorem clone_empty_u (a : Addr) (cap : Nat) (w : World) :
    Calls Try.prog 7 #[.slice (some a) 0 cap] w fun e w' => e = .returned (.slice (some ⟨w.heap.size, 0, none⟩) 0 0) ∧ Below w.heap.size w w' ∧ w'.heap.size = w.heap.size + 1 ∧
      w'.rowIs w.heap.size 34 0 (fun i => .int .u64 0) := by
  have hmk := run_make_row' (P := Try.prog) 23 34 (.int .u64 0) 8 Try.underlying23 info34 rfl .i64 .i64 0 (by omega) (by omega)
  simp only [Int.natCast_zero] at hmk
  have q := q23
  go_enter Try.func7, Try.ntmps7
  go_wp2
  go_rounds 1
  go_ret
  exact ⟨rfl, (Below.refl _ _).alloc (Nat.le_refl _) _, by simp, World.rowIs_made _ _ _ _⟩

set_option maxHeartbeats 400000 in
theorem clone_some_u (b off len cap : Nat) (zs : List Int) (w : World) (hl : len ≤ 4096) (hb : b < w.heap.size)
    (hc : ∀ i, i < len → w.cell? ⟨b, off + i, none⟩ = some (.int .u64 (zs.getD i 0))) :
    Calls Try.prog 7 #[.slice (some ⟨b, off, none⟩) len cap] w fun e w' => e = .returned (.slice (some ⟨w.heap.size, 0, none⟩) len len) ∧ Below w.heap.size w w' ∧ w'.heap.size = w.heap.size + 1 ∧
      w'.rowIs w.heap.size 34 len (fun i => .int .u64 (zs.getD i 0)) := by
  have hmk := run_make_row' (P := Try.prog) 23 34 (.int .u64 0) 8 Try.underlying23 info34 rfl .i64 .i64 len (by omega) (by omega)
  have q := q23
  go_enter Try.func7, Try.ntmps7
  go_wp2
  go_loopw [4] (fun i wr => ∃ k : Nat, k ≤ len ∧ i = .int .i64 k ∧ Below w.heap.size w wr ∧ wr.heap.size = w.heap.size + 1 ∧ wr.rowIs w.heap.size 34 len (fun j => .int .u64 (if j < k then zs.getD j 0 else 0))) (fun i _ => len - (intOf i).toNat)
  case atStart => exact ⟨0, Nat.zero_le _, rfl, (Below.refl _ _).alloc (Nat.le_refl _) _, by simp, (World.rowIs_made _ _ _ _).congr (fun i hi => by simp)⟩
  case round =>
    obtain ⟨k, hk, rfl, hbel, hsz, hrow⟩ := hrel
    by_cases hlt : k < len
    · have c1 : wr.cell? ⟨b, off + k, none⟩ = some (.int .u64 (zs.getD k 0)) := (hbel.cell (by exact hb)).trans (hc k hlt)
      have c2 := hrow.cell hlt
      have c3 := hrow.frozen k
      have R := (hrow.set k (.int .u64 (zs.getD k 0)))
      have hB := hbel.setCell (p := ⟨w.heap.size, k, none⟩) (Nat.le_refl _) (.int .u64 (zs.getD k 0))
      clear hc hrow hbel
      go_wp2
      go_roundw
      case rel => 
        exact ⟨k + 1, by omega, by go_num, hB, by simp [World.setCell, hsz], R.congr (fun j hj => by
          by_cases e : j = k
          · subst e; rw [if_pos rfl, if_pos (by omega)]
          · rw [if_neg e]; by_cases e2 : j < k
            · rw [if_pos e2, if_pos (by omega)]
            · rw [if_neg e2, if_neg (by omega)])⟩
      case measure => simp [intOf]; omega
    · go_wp2
      go_ret
      exact ⟨rfl, hbel, hsz, hrow.congr (fun i hi => by rw [if_pos (by omega)])⟩
/-- What is known of a slice of bytes: where it has elements, it begins at the head of a block, and its cells hold f. -/
def Row (k : IntKind) (w : World) (a : Option Addr) (n : Nat) (f : Nat → Int) : Prop :=
  n = 0 ∨ ∃ B, a = some ⟨B, 0, none⟩ ∧ B < w.heap.size ∧ ∀ j, j < n → w.cell? ⟨B, j, none⟩ = some (.int k (f j))
theorem Row.below {k : IntKind} {w w' : World} {a : Option Addr} {n : Nat} {f : Nat → Int} (h : Row k w a n f) (hb : Below w.heap.size w w') : Row k w' a n f := by
  rcases h with h | ⟨B, h1, h2, h3⟩
  · exact .inl h
  · exact .inr ⟨B, h1, Nat.lt_of_lt_of_le h2 hb.size, fun j hj => (hb.cell h2).trans (h3 j hj)⟩

/-- WHAT THE WALK IS TOLD OF A SLICE OF INTEGERS THAT CAME IN -/
def IsRow (k : IntKind) (w : World) (a : Option Addr) (len cap : Nat) (zs : List Int) : Prop :=
  (a = none ∧ len = 0 ∧ cap = 0 ∧ zs = []) ∨
  ∃ x, a = some x ∧ len ≤ cap ∧ cap ≤ maxLen ∧ zs.length = cap ∧ (∀ i, i < zs.length → w.cell? (x.add i) = some (.int k (zs.getD i 0))) ∧ ∀ n ∈ zs, (Lit.int k n).wf = true
theorem IsRow.below {k : IntKind} {w w' : World} {a : Option Addr} {len cap : Nat} {zs : List Int} (h : IsRow k w a len cap zs) (hb : Below w.heap.size w w') : IsRow k w' a len cap zs := by
  rcases h with h | ⟨x, h1, h2, h3, h4, h5, h6⟩
  · exact .inl h
  · exact .inr ⟨x, h1, h2, h3, h4, fun i hi => cell_later hb (h5 i hi), h6⟩

theorem clone_any_i (a : Option Addr) (len cap : Nat) (zs : List Int) (w : World) (hl : len ≤ 4096) (h : IsRow .i64 w a len cap zs) :
    Calls Try.prog 6 #[.slice a len cap] w fun e w' => ∃ a', e = .returned (.slice a' len len) ∧ Below w.heap.size w w' ∧ Row .i64 w' a' len (fun i => zs.getD i 0) := by
  rcases h with ⟨rfl, rfl, rfl, rfl⟩ | ⟨x, rfl, h2, h3, h4, h5, h6⟩
  · refine (clone_nil_i w).mono ?_
    rintro e w' ⟨rfl, rfl⟩
    exact ⟨none, rfl, Below.refl _ _, .inl rfl⟩
  · by_cases h0 : len = 0
    · subst h0
      refine (clone_empty_i x cap w).mono ?_
      rintro e w' ⟨rfl, hb, _, _⟩
      exact ⟨_, rfl, hb, .inl rfl⟩
    · obtain ⟨b, off, sp⟩ := x
      have hsp : sp = none := by simpa [Addr.add] using World.cell?_spot (h5 0 (by omega))
      subst hsp
      have hcell : ∀ i, i < len → w.cell? ⟨b, off + i, none⟩ = some (.int .i64 (zs.getD i 0)) := fun i hi => by
        have := h5 i (by omega)
        rwa [add_plain] at this
      have hb : b < w.heap.size := World.block_lt_of_cell? _ _ (hcell 0 (by omega))
      refine (clone_some_i b off len cap zs w hl hb hcell).mono ?_
      rintro e w' ⟨rfl, hb, hs, hr⟩
      exact ⟨_, rfl, hb, .inr ⟨w.heap.size, rfl, by omega, fun j hj => hr.cell hj⟩⟩

theorem clone_any_u (a : Option Addr) (len cap : Nat) (zs : List Int) (w : World) (hl : len ≤ 4096) (h : IsRow .u64 w a len cap zs) :
    Calls Try.prog 7 #[.slice a len cap] w fun e w' => ∃ a', e = .returned (.slice a' len len) ∧ Below w.heap.size w w' ∧ Row .u64 w' a' len (fun i => zs.getD i 0) := by
  rcases h with ⟨rfl, rfl, rfl, rfl⟩ | ⟨x, rfl, h2, h3, h4, h5, h6⟩
  · refine (clone_nil_u w).mono ?_
    rintro e w' ⟨rfl, rfl⟩
    exact ⟨none, rfl, Below.refl _ _, .inl rfl⟩
  · by_cases h0 : len = 0
    · subst h0
      refine (clone_empty_u x cap w).mono ?_
      rintro e w' ⟨rfl, hb, _, _⟩
      exact ⟨_, rfl, hb, .inl rfl⟩
    · obtain ⟨b, off, sp⟩ := x
      have hsp : sp = none := by simpa [Addr.add] using World.cell?_spot (h5 0 (by omega))
      subst hsp
      have hcell : ∀ i, i < len → w.cell? ⟨b, off + i, none⟩ = some (.int .u64 (zs.getD i 0)) := fun i hi => by
        have := h5 i (by omega)
        rwa [add_plain] at this
      have hb : b < w.heap.size := World.block_lt_of_cell? _ _ (hcell 0 (by omega))
      refine (clone_some_u b off len cap zs w hl hb hcell).mono ?_
      rintro e w' ⟨rfl, hb, hs, hr⟩
      exact ⟨_, rfl, hb, .inr ⟨w.heap.size, rfl, by omega, fun j hj => hr.cell hj⟩⟩

theorem Row.drewN {k : IntKind} {w : World} {a : Option Addr} {n : Nat} {f : Nat → Int} (h : Row k w a n f) (q : Nat) : Row k (w.drewN q) a n f := h
end Go.Proofs.Qxb6600567a
