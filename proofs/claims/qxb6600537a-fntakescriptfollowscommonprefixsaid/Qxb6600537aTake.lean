import Derived.Test.Qxb6600537aClone
import Derived.WalkSmall
namespace Go.Proofs.Qxb6600537a
open Go.ChangeShapes Go.WideShapes Go.ChangeAt Go.RowKit
set_option linter.unusedVariables false

set_option maxHeartbeats 400000 in
theorem take_end (S : Nat) (a : Option Addr) (n cp : Nat) (c : Int) (w : World)
    (h0 : w.cell? ⟨S, 0, none⟩ = some (.slice a n cp)) (h1 : w.cell? ⟨S, 1, none⟩ = some (.int .i64 n)) :
    Calls Try.prog 15 #[.pointer (some ⟨S, 0, none⟩), .int .u8 c] w fun e w' => e = .returned (.bool false) ∧ ∃ k, w' = w.drewN k := by
  have hg : ((n : Int) == (n : Int)) = true := by simp
  go_enter Try.func15, Try.ntmps15
  go_wp2
  go_quiet (fail)
  go_wp2
  go_ret
  exact ⟨rfl, _, rfl⟩

set_option maxHeartbeats 400000 in
theorem take_no (S b n cp i : Nat) (x c : Int) (w : World) (hi : i < n)
    (h0 : w.cell? ⟨S, 0, none⟩ = some (.slice (some ⟨b, 0, none⟩) n cp)) (h1 : w.cell? ⟨S, 1, none⟩ = some (.int .i64 i))
    (h2 : w.cell? ⟨b, i, none⟩ = some (.int .u8 x)) (hx : x ≠ c) :
    Calls Try.prog 15 #[.pointer (some ⟨S, 0, none⟩), .int .u8 c] w fun e w' => e = .returned (.bool false) ∧ ∃ k, w' = w.drewN k := by
  have hg : ((i : Int) == (n : Int)) = false := by simp; omega
  have hi' : (i : Int) < (n : Int) := by omega
  have hx' : (x != c) = true := by simp [hx]
  go_enter Try.func15, Try.ntmps15
  go_wp2
  go_quiet (fail)
  go_wp2
  go_ret
  exact ⟨rfl, _, rfl⟩

set_option maxHeartbeats 400000 in
theorem take_yes (S b n cp i : Nat) (c : Int) (w : World) (hi : i < n) (hn : n ≤ 1048576)
    (h0 : w.cell? ⟨S, 0, none⟩ = some (.slice (some ⟨b, 0, none⟩) n cp)) (h1 : w.cell? ⟨S, 1, none⟩ = some (.int .i64 i))
    (h2 : w.cell? ⟨b, i, none⟩ = some (.int .u8 c)) (h3 : w.frozen? ⟨S, 1, none⟩ = false) :
    Calls Try.prog 15 #[.pointer (some ⟨S, 0, none⟩), .int .u8 c] w fun e w' => e = .returned (.bool true) ∧ ∃ k, w' = (w.drewN k).setCell ⟨S, 1, none⟩ (.int .i64 ((i : Int) + 1)) := by
  have hg : ((i : Int) == (n : Int)) = false := by simp; omega
  have hi' : (i : Int) < (n : Int) := by omega
  have hx' : (c != c) = false := by simp
  go_enter Try.func15, Try.ntmps15
  go_wp2
  go_quiet (fail)
  go_wp2
  go_ret
  exact ⟨rfl, _, rfl⟩

set_option maxHeartbeats 400000 in
theorem zztake_end (a : Option Addr) (n cp : Nat) (c : Int) (w : World) :
    Calls Try.prog 13 #[.slice a n cp, .int .i64 n, .int .u8 c] w fun e w' => e = .returned (.tuple #[.int .i64 n, .bool false]) ∧ Below w.heap.size w w' := by
  go_enter Try.func13, Try.ntmps13
  go_wp2_with (go_at_call 15; refine (take_end _ a n cp c _ ?_ ?_).mono ?_ )
  · simp
  · simp
  rintro e w' ⟨rfl, k, rfl⟩
  go_wp2
  go_ret2
  exact ⟨rfl, below_drewN ((Below.refl _ _).alloc (Nat.le_refl _) _) _⟩

set_option maxHeartbeats 400000 in
theorem zztake_no (b n cp i : Nat) (x c : Int) (w : World) (hi : i < n) (hb : b < w.heap.size) (h2 : w.cell? ⟨b, i, none⟩ = some (.int .u8 x)) (hx : x ≠ c) :
    Calls Try.prog 13 #[.slice (some ⟨b, 0, none⟩) n cp, .int .i64 i, .int .u8 c] w fun e w' => e = .returned (.tuple #[.int .i64 i, .bool false]) ∧ Below w.heap.size w w' := by
  go_enter Try.func13, Try.ntmps13
  go_wp2_with (go_at_call 15; refine (take_no _ b n cp i x c _ hi ?_ ?_ ?_ hx).mono ?_ )
  · simp
  · simp
  · rw [World.cell?_alloc_past _ _ _ hb]; exact h2
  rintro e w' ⟨rfl, k, rfl⟩
  go_wp2
  go_ret2
  exact ⟨rfl, below_drewN ((Below.refl _ _).alloc (Nat.le_refl _) _) _⟩

set_option maxHeartbeats 400000 in
theorem zztake_yes (b n cp i : Nat) (c : Int) (w : World) (hi : i < n) (hn : n ≤ 1048576) (hb : b < w.heap.size) (h2 : w.cell? ⟨b, i, none⟩ = some (.int .u8 c)) :
    Calls Try.prog 13 #[.slice (some ⟨b, 0, none⟩) n cp, .int .i64 i, .int .u8 c] w fun e w' => e = .returned (.tuple #[.int .i64 ((i : Int) + 1), .bool true]) ∧ Below w.heap.size w w' := by
  go_enter Try.func13, Try.ntmps13
  go_wp2_with (go_at_call 15; refine (take_yes _ b n cp i c _ hi hn ?_ ?_ ?_ ?_).mono ?_ )
  · simp
  · simp
  · rw [World.cell?_alloc_past _ _ _ hb]; exact h2
  · simp
  rintro e w' ⟨rfl, k, rfl⟩
  go_wp2
  go_ret2
  exact ⟨rfl, (below_drewN ((Below.refl _ _).alloc (Nat.le_refl _) _) _).setCell (Nat.le_refl _) _⟩
end Go.Proofs.Qxb6600537a
