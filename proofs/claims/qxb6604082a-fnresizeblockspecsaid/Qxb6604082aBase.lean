import Derived.Test.Qxb6604082aRows
import Derived.WalkKit
import Derived.ProofKit
import Derived.OpenShut
import Derived.ShutString
import Derived.ChangeOld
import Derived.Below
import Derived.WalkSpells
import Derived.Handy
import Derived.Deep.OwnRows
import Derived.Deep.QuietTactic
import Derived.Lib.LazyBuf
import Derived.Lib.SliceRun
import Derived.Laws.IdiomCopy
import Derived.Laws.MakeOwn
import Derived.BigQuiet
import Derived.WalkSmall
namespace Go.Proofs.Qxb6604082a
open Go.ChangeShapes Go.WideShapes Go.ChangeAt Go.RowKit
set_option linter.unusedVariables false

theorem info5 : (Try.prog.info? 5).map (fun i => (i.zero, i.size, i.bytes)) = some (some (.int .u8 0), 1, 1) := by kernel_rfl
theorem infoSize5 : (Try.prog.info? 5).map (·.size) = some 1 := by kernel_rfl
theorem zero5 (w : World) : (zeroValue 5).run Try.prog w = .ok (.int .u8 0) w := by
  simp [zeroValue]
  rfl
theorem size_setCells (b : Nat) : ∀ (vs : List Value) (o : Nat) (w : World), (w.setCells b o vs).heap.size = w.heap.size
  | [], _, _ => rfl
  | v :: r, o, w => by
    show ((w.setCell ⟨b, o, none⟩ v).setCells b (o + 1) r).heap.size = _
    rw [size_setCells b r]
    simp [World.setCell]
theorem make24 (l c : Nat) (x y : Int) (hx : x = (l : Int)) (hy : y = (c : Int)) (hl : l ≤ c) (hc : c ≤ 2147483648) (w : World) :
    (Instr.makeSlice 24 (.int .i64 x) (.int .i64 y)).run Try.prog w = .ok (.slice (some ⟨w.heap.size, 0, none⟩) l c) (w.alloc (.cells (madeCells #[.int .u8 0] c) 5)) := by
  subst hx hy
  obtain ⟨i, hi, hzz⟩ := Option.map_eq_some_iff.1 info5
  simp only [Prod.mk.injEq] at hzz
  obtain ⟨hz, hsz, hb⟩ := hzz
  have h := run_make (P := Try.prog) w 24 5 i (.int .u8 0) Try.underlying24 hi hz .i64 .i64 (l : Int) (c : Int) (by omega) (by omega) (by rw [hb]; omega) (by omega)
  rw [hsz, Nat.mul_one, Int.toNat_natCast, Int.toNat_natCast] at h
  exact h

/-- What is known of a slice that is read: no element, whatever the address; or the cells behind a block's head, or behind an address. -/
def Src (w : World) (a : Option Addr) (m : Nat) (F : Nat → Int) : Prop :=
  m = 0 ∨ ∃ b o, a = some ⟨b, o, none⟩ ∧ b < w.heap.size ∧ ∀ j, j < m → w.cell? ⟨b, o + j, none⟩ = some (.int .u8 (F j))
theorem Src.below {w w' : World} {a : Option Addr} {m : Nat} {F : Nat → Int} (h : Src w a m F) {B : Nat} (hB : w.heap.size ≤ B) (hb : Below B w w') : Src w' a m F := by
  rcases h with h | ⟨b, o, h1, h2, h3⟩
  · exact .inl h
  · exact .inr ⟨b, o, h1, Nat.lt_of_lt_of_le h2 hb.size, fun j hj => (hb.cell (by exact Nat.lt_of_lt_of_le h2 hB)).trans (h3 j hj)⟩
theorem Src.take {w : World} {a : Option Addr} {m m' : Nat} {F : Nat → Int} (h : Src w a m F) (hm : m' ≤ m) : Src w a m' F := by
  rcases h with h | ⟨b, o, h1, h2, h3⟩
  · exact .inl (by omega)
  · exact .inr ⟨b, o, h1, h2, fun j hj => h3 j (by omega)⟩

/-- The first m cells turned, the rest as they were. -/
def overlaid (m : Nat) (G F : Nat → Int) (j : Nat) : Int := if j < m then G j else F j

/-- 'copy' of a slice onto the head of a row of the call's own that has room for it. -/
theorem copy_row (w : World) (g N D : Nat) (F : Nat → Int) (hrow : w.rowIs g 5 N (fun j => .int .u8 (F j))) (a : Option Addr) (m cap : Nat) (G : Nat → Int) (hs : Src w a m G) (hle : m ≤ D) (hD : D ≤ N) :
    ∃ w', (Builtin.copy_ #[24, 24] 3 #[.slice (some ⟨g, 0, none⟩) D N, .slice a m cap]).run Try.prog w = .ok (.int .i64 (m : Int)) w' ∧ w'.rowIs g 5 N (fun j => .int .u8 (overlaid m G F j)) ∧ Below g w w' ∧ w'.heap.size = w.heap.size := by
  rcases hs with h0 | ⟨b, o, rfl, hb, hcell⟩
  · subst h0
    refine ⟨w, run_copy_none (P := Try.prog) w 24 24 3 5 _ a D N 0 cap Try.underlying24 infoSize5 (Nat.zero_min D), ?_, Below.refl _ _, rfl⟩
    exact hrow.congr fun j _ => by unfold overlaid; rw [if_neg (Nat.not_lt_zero _)]
  · have hl : ((List.range m).map fun j => Value.int .u8 (G j)).length = m := by simp
    have hr := run_copy_cells (P := Try.prog) w 24 24 3 5 g 0 D N ⟨b, o, none⟩ m cap ((List.range m).map fun j => Value.int .u8 (G j)) Try.underlying24 infoSize5
      (by rw [hl]; exact (Nat.min_eq_left hle).symm)
      (fun j v hj => by
        have hj' : j < m := by have := (List.getElem?_eq_some_iff.1 hj).1; simpa using this
        rw [List.getElem?_map, List.getElem?_range hj'] at hj
        rw [add_plain, hcell j hj']
        exact hj)
      (fun j hj => by rw [hl] at hj; rw [Nat.zero_add, hrow.cell (by omega)]; rfl)
      (fun j hj => by rw [Nat.zero_add]; exact hrow.frozen _)
      (fun v hv => by obtain ⟨_, _, rfl⟩ := List.mem_map.1 hv; rfl)
    rw [hl] at hr
    refine ⟨_, hr, ?_, below_setCells (Nat.le_refl _) _ _ _ (Below.refl _ _), size_setCells _ _ _ _⟩
    refine (rowIs_setCells _ 0 w _ hrow).congr (fun j hj => ?_)
    unfold overlaid
    by_cases h1 : j < m
    · rw [if_pos (by rw [hl]; omega), if_pos h1, Nat.sub_zero, List.getElem?_map, List.getElem?_range h1]; rfl
    · rw [if_neg (by rw [hl]; omega), if_neg h1]

/-- Zeros from l to e. -/
def zeroed (l e : Nat) (F : Nat → Int) (j : Nat) : Int := if l ≤ j ∧ j < e then 0 else F j
theorem clear_row (w : World) (g N l e c : Nat) (F : Nat → Int) (hrow : w.rowIs g 5 N (fun j => .int .u8 (F j))) (hle : l < e) (hN : e ≤ N) (ty : TypeId) :
    ∃ w', (Builtin.clear_ #[24] ty #[.slice (some ⟨g, l, none⟩) (e - l) c]).run Try.prog w = .ok (.tuple #[]) w' ∧ w'.rowIs g 5 N (fun j => .int .u8 (zeroed l e F j)) ∧ Below g w w' ∧ w'.heap.size = w.heap.size := by
  have hr := Lib.run_clear_slice (P := Try.prog) w 24 5 ty (.int .u8 0) Try.underlying24 zero5 rfl rfl g l (e - l) c (by omega)
    (fun j hj => by rw [hrow.cell (by omega)]; rfl) (fun j hj => hrow.frozen _)
  refine ⟨_, hr, ?_, below_setCells (Nat.le_refl _) _ _ _ (Below.refl _ _), size_setCells _ _ _ _⟩
  refine (rowIs_setCells _ l w _ hrow).congr (fun j hj => ?_)
  unfold zeroed
  by_cases h1 : l ≤ j ∧ j < e
  · rw [if_pos (by rw [List.length_replicate]; omega), if_pos h1, List.getElem?_replicate, if_pos (by omega)]; rfl
  · rw [if_neg (by rw [List.length_replicate]; omega), if_neg h1]

/-! ### resizeBlock -/
theorem resize_nil (least : Int) (w : World) :
    Calls Try.prog 10 #[.slice none 0 0, .int .i64 0, .int .i64 least] w fun e w' => e = .returned (.slice none 0 0) ∧ w' = w := by
  go_enter Try.func10, Try.ntmps10
  go_wp2
  go_ret
  exact ⟨rfl, rfl⟩

theorem resize_same (g l n e : Nat) (least : Int) (w : World) (hl : l ≤ n) (hn : n ≤ 1048576) (he : e ≤ l) :
    Calls Try.prog 10 #[.slice (some ⟨g, 0, none⟩) l n, .int .i64 e, .int .i64 least] w fun r w' => r = .returned (.slice (some ⟨g, 0, none⟩) e n) ∧ w' = w := by
  go_enter Try.func10, Try.ntmps10
  go_wp2
  go_ret
  exact ⟨rfl, rfl⟩

theorem resize_clear (g l n e : Nat) (least : Int) (w : World) (F : Nat → Int) (hl : l ≤ n) (hn : n ≤ 1048576) (he : l < e) (hen : e ≤ n) (hrow : w.rowIs g 5 n (fun j => .int .u8 (F j))) :
    Calls Try.prog 10 #[.slice (some ⟨g, 0, none⟩) l n, .int .i64 e, .int .i64 least] w fun r w' => r = .returned (.slice (some ⟨g, 0, none⟩) e n) ∧
      w'.rowIs g 5 n (fun j => .int .u8 (zeroed l e F j)) ∧ Below g w w' ∧ w'.heap.size = w.heap.size := by
  obtain ⟨w1, hcl, g1, hb1, hs1⟩ := clear_row w g n l e (n - l) F hrow he hen 0
  go_enter Try.func10, Try.ntmps10
  go_wp2
  go_ret
  exact ⟨rfl, g1, hb1, hs1⟩

theorem resize_grow (a : Option Addr) (l n e K : Nat) (least : Int) (w : World) (F : Nat → Int) (hl : l ≤ n) (hn : n ≤ 1048576) (hen : n < e) (he : e ≤ 65536) (hle : least ≤ 65536)
    (hK : (K : Int) = max (min (max (e : Int) (2 * n)) 65536) least) (hs : Src w a l F) :
    Calls Try.prog 10 #[.slice a l n, .int .i64 e, .int .i64 least] w fun r w' => r = .returned (.slice (some ⟨w.heap.size, 0, none⟩) e K) ∧
      w'.rowIs w.heap.size 5 K (fun j => .int .u8 (overlaid l F (fun _ => 0) j)) ∧ Below w.heap.size w w' ∧ w'.heap.size = w.heap.size + 1 := by
  have hba : Below w.heap.size w (w.alloc (.cells (madeCells #[.int .u8 0] K) 5)) := (Below.refl _ _).alloc (Nat.le_refl _) _
  obtain ⟨w1, hcp, g1, hb1, hs1⟩ := copy_row (w.alloc (.cells (madeCells #[.int .u8 0] K) 5)) w.heap.size K e (fun _ => 0) (World.rowIs_made w (.int .u8 0) K 5) a l n F (hs.below (Nat.le_refl _) hba) (by omega) (by omega)
  have hB := hba.trans hb1
  have hS : w1.heap.size = w.heap.size + 1 := by rw [hs1]; simp
  clear hba hb1 hs1
  by_cases h1 : (e : Int) < 2 * n
  · have i1 : (if (e : Int) < 2 * n then 2 * (n : Int) else e) = 2 * n := if_pos h1
    by_cases h2 : (65536 : Int) < 2 * n
    · have hmk := make24 e K e 65536 rfl (by omega) (by omega) (by omega)
      clear hK
      go_enter Try.func10, Try.ntmps10
      go_wp2
      go_ret
      exact ⟨rfl, g1, hB, hS⟩
    · by_cases h3 : 2 * (n : Int) < least
      · have hmk := make24 e K e least rfl (by omega) (by omega) (by omega)
        clear hK
        go_enter Try.func10, Try.ntmps10
        go_wp2
        go_ret
        exact ⟨rfl, g1, hB, hS⟩
      · have hmk := make24 e K e (2 * (n : Int)) rfl (by omega) (by omega) (by omega)
        clear hK
        go_enter Try.func10, Try.ntmps10
        go_wp2
        go_ret
        exact ⟨rfl, g1, hB, hS⟩
  · have i1 : (if (e : Int) < 2 * n then 2 * (n : Int) else e) = e := if_neg h1
    have h2 : ¬ (65536 : Int) < e := by omega
    by_cases h3 : (e : Int) < least
    · have hmk := make24 e K e least rfl (by omega) (by omega) (by omega)
      clear hK
      go_enter Try.func10, Try.ntmps10
      go_wp2
      go_ret
      exact ⟨rfl, g1, hB, hS⟩
    · have hmk := make24 e K e e rfl (by omega) (by omega) (by omega)
      clear hK
      go_enter Try.func10, Try.ntmps10
      go_wp2
      go_ret
      exact ⟨rfl, g1, hB, hS⟩

/-- The three ways in one, on an array that is there. -/
theorem resize_fits (g l n e : Nat) (least : Int) (w : World) (F : Nat → Int) (hl : l ≤ n) (hn : n ≤ 1048576) (hen : e ≤ n) (hrow : w.rowIs g 5 n (fun j => .int .u8 (F j))) :
    Calls Try.prog 10 #[.slice (some ⟨g, 0, none⟩) l n, .int .i64 e, .int .i64 least] w fun r w' => r = .returned (.slice (some ⟨g, 0, none⟩) e n) ∧
      w'.rowIs g 5 n (fun j => .int .u8 (zeroed l e F j)) ∧ Below g w w' ∧ w'.heap.size = w.heap.size := by
  by_cases he : l < e
  · exact resize_clear g l n e least w F hl hn he hen hrow
  · refine (resize_same g l n e least w hl hn (by omega)).mono ?_
    rintro r w' ⟨rfl, rfl⟩
    exact ⟨rfl, hrow.congr (fun j _ => by unfold zeroed; rw [if_neg (by omega)]), Below.refl _ _, rfl⟩

/-! ### and its export -/
theorem zz_nil (least : Int) (w : World) :
    Calls Try.prog 8 #[.slice none 0 0, .int .i64 0, .int .i64 least] w fun e w' => e = .returned (.slice none 0 0) ∧ w' = w := by
  go_enter Try.func8, Try.ntmps8
  go_wp2_with (go_at_call 10; refine (resize_nil _ _).mono ?_; rintro r w' ⟨rfl, rfl⟩)
  go_ret
  exact ⟨rfl, rfl⟩
theorem zz_fits (g l n e : Nat) (least : Int) (w : World) (F : Nat → Int) (hl : l ≤ n) (hn : n ≤ 1048576) (hen : e ≤ n) (hrow : w.rowIs g 5 n (fun j => .int .u8 (F j))) :
    Calls Try.prog 8 #[.slice (some ⟨g, 0, none⟩) l n, .int .i64 e, .int .i64 least] w fun r w' => r = .returned (.slice (some ⟨g, 0, none⟩) e n) ∧
      w'.rowIs g 5 n (fun j => .int .u8 (zeroed l e F j)) ∧ Below g w w' ∧ w'.heap.size = w.heap.size := by
  go_enter Try.func8, Try.ntmps8
  go_wp2_with (go_at_call 10; refine (resize_fits g l n e least w F hl hn hen hrow).mono ?_; rintro r w' ⟨rfl, h1, h2, h3⟩)
  go_ret
  exact ⟨rfl, h1, h2, h3⟩
theorem zz_grow (a : Option Addr) (l n e K : Nat) (least : Int) (w : World) (F : Nat → Int) (hl : l ≤ n) (hn : n ≤ 1048576) (hen : n < e) (he : e ≤ 65536) (hle : least ≤ 65536)
    (hK : (K : Int) = max (min (max (e : Int) (2 * n)) 65536) least) (hs : Src w a l F) :
    Calls Try.prog 8 #[.slice a l n, .int .i64 e, .int .i64 least] w fun r w' => r = .returned (.slice (some ⟨w.heap.size, 0, none⟩) e K) ∧
      w'.rowIs w.heap.size 5 K (fun j => .int .u8 (overlaid l F (fun _ => 0) j)) ∧ Below w.heap.size w w' ∧ w'.heap.size = w.heap.size + 1 := by
  go_enter Try.func8, Try.ntmps8
  go_wp2_with (go_at_call 10; refine (resize_grow a l n e K least w F hl hn hen he hle hK hs).mono ?_; rintro r w' ⟨rfl, h1, h2, h3⟩)
  go_ret
  exact ⟨rfl, h1, h2, h3⟩
/-- The bound on the lengths. -/
theorem zzBytes (a : Option Addr) (n c : Nat) (x y z : Int) (w : World) (hn : n ≤ maxLen) :
    Calls Try.prog 7 #[.slice a n c, .int .i64 x, .int .i64 y, .int .i64 z] w fun e w' => e = .returned (.bool (decide (n ≤ 1048576))) ∧ w = w' := by
  by_cases h : n ≤ 1048576
  · rw [decide_eq_true h]
    go_enter Try.func7, Try.ntmps7
    go_wp2
    go_ret
    exact ⟨rfl, rfl⟩
  · rw [decide_eq_false h]
    go_enter Try.func7, Try.ntmps7
    go_wp2
    go_ret
    exact ⟨rfl, rfl⟩
end Go.Proofs.Qxb6604082a
