import Derived.Test.Qxb6600567aZZ
import Derived.Deep.RegionWith
import Derived.Deep.LoopGhost
namespace Go.Proofs.Qxb6600567a
open Go.ChangeShapes Go.WideShapes Go.ChangeAt Go.RowKit
set_option linter.unusedVariables false

theorem bytesR_ok (a0 a1 : Option Addr) (n0 c0 n1 c1 : Nat) (w : World) (h : n0 + n1 ≤ 1048576) :
    Calls Try.prog 11 #[.slice a0 n0 c0, .slice a1 n1 c1] w fun e w' => e = .returned (.bool true) ∧ w = w' := by
  have h0 : (n0 : Int) ≤ 1048576 := by omega
  have h2 : (n1 : Int) ≤ 1048576 := by omega
  have h3 : (n0 : Int) + n1 ≤ 1048576 := by omega
  go_enter Try.func11, Try.ntmps11
  go_wp2
  go_ret
  exact ⟨rfl, rfl⟩
theorem bytesR_no (a0 a1 : Option Addr) (n0 c0 n1 c1 : Nat) (w : World) (h : ¬ n0 + n1 ≤ 1048576) :
    Calls Try.prog 11 #[.slice a0 n0 c0, .slice a1 n1 c1] w fun e w' => e = .returned (.bool false) ∧ w = w' := by
  by_cases h0 : n0 ≤ 1048576
  · have h0' : (n0 : Int) ≤ 1048576 := by omega
    by_cases h2 : n1 ≤ 1048576
    · have h2' : (n1 : Int) ≤ 1048576 := by omega
      have h3 : 1048576 < (n0 : Int) + n1 := by omega
      go_enter Try.func11, Try.ntmps11
      go_wp2
      go_ret
      exact ⟨rfl, rfl⟩
    · have h2' : 1048576 < (n1 : Int) := by omega
      go_enter Try.func11, Try.ntmps11
      go_wp2
      go_ret
      exact ⟨rfl, rfl⟩
  · have h0' : 1048576 < (n0 : Int) := by omega
    go_enter Try.func11, Try.ntmps11
    go_wp2
    go_ret
    exact ⟨rfl, rfl⟩

/-- The reader's table: number k stands for slot k - 1. -/
def tSet (m : Nat) (k : Nat) : Value := .bool (decide (1 ≤ k ∧ k ≤ m))
def tSize (L : Nat → Int × Int × Int) (m : Nat) (k : Nat) : Value := .int .i64 (if 1 ≤ k ∧ k ≤ m then (L (k - 1)).1 else 0)
def tSum (L : Nat → Int × Int × Int) (m : Nat) (k : Nat) : Value := .int .u64 (if 1 ≤ k ∧ k ≤ m then (L (k - 1)).2.1 else 0)
structure Tab (w : World) (B : Nat) (L : Nat → Int × Int × Int) (m : Nat) : Prop where
  set : w.rowIs B 38 65 (tSet m)
  size : w.rowIs (B + 1) 39 65 (tSize L m)
  sum : w.rowIs (B + 1 + 1) 40 65 (tSum L m)

theorem rowIs_rep (w : World) (z : Value) (n : Nat) (t : TypeId) (f : Nat → Value) (hf : ∀ i, i < n → f i = z) : (w.alloc (.cells (Array.replicate n z) t)).rowIs w.heap.size t n f := by
  have h := World.rowIs_alloc w (Array.replicate n z) t f (fun i hi => by
    have hi' : i < n := by simpa using hi
    rw [hf i hi']
    simp [hi'])
  rwa [Array.size_replicate] at h

def zB : Array Value := Array.replicate 65 (.bool false)
def zI : Array Value := Array.replicate 65 (.int .i64 0)
def zU : Array Value := Array.replicate 65 (.int .u64 0)
theorem zero38 (w : World) : (zeroValue 38).run Try.prog w = .ok (.agg zB) w := by kernel_rfl
theorem zero39 (w : World) : (zeroValue 39).run Try.prog w = .ok (.agg zI) w := by kernel_rfl
theorem zero40 (w : World) : (zeroValue 40).run Try.prog w = .ok (.agg zU) w := by kernel_rfl

/-- The world at the loop's head. -/
theorem start_facts (wc : World) (L : Nat → Int × Int × Int) : Tab ((((wc.alloc (.cells #[.slice none 0 0, .int .i64 0] 29)).alloc (.cells zB 38)).alloc (.cells zI 39)).alloc (.cells zU 40)) (wc.heap.size + 1) L 0 ∧
    Sess ((((wc.alloc (.cells #[.slice none 0 0, .int .i64 0] 29)).alloc (.cells zB 38)).alloc (.cells zI 39)).alloc (.cells zU 40)) wc.heap.size (wc.heap.size + 4) L 0 0 := by
  have e1 : (wc.alloc (.cells #[.slice none 0 0, .int .i64 0] 29)).heap.size = wc.heap.size + 1 := World.size_alloc _ _
  have e2 : ((wc.alloc (.cells #[.slice none 0 0, .int .i64 0] 29)).alloc (.cells zB 38)).heap.size = wc.heap.size + 1 + 1 := by rw [World.size_alloc, e1]
  have e3 : (((wc.alloc (.cells #[.slice none 0 0, .int .i64 0] 29)).alloc (.cells zB 38)).alloc (.cells zI 39)).heap.size = wc.heap.size + 1 + 1 + 1 := by rw [World.size_alloc, e2]
  have r1 := rowIs_rep (wc.alloc (.cells #[.slice none 0 0, .int .i64 0] 29)) (.bool false) 65 38 (tSet 0) (fun i hi => by unfold tSet; rw [decide_eq_false (by omega)])
  have r2 := rowIs_rep ((wc.alloc (.cells #[.slice none 0 0, .int .i64 0] 29)).alloc (.cells zB 38)) (.int .i64 0) 65 39 (tSize L 0) (fun i hi => by unfold tSize; rw [if_neg (by omega)])
  have r3 := rowIs_rep (((wc.alloc (.cells #[.slice none 0 0, .int .i64 0] 29)).alloc (.cells zB 38)).alloc (.cells zI 39)) (.int .u64 0) 65 40 (tSum L 0) (fun i hi => by unfold tSum; rw [if_neg (by omega)])
  rw [e1] at r1
  rw [e2] at r2
  rw [e3] at r3
  refine ⟨⟨(World.rowIs.alloc r1 _).alloc _, World.rowIs.alloc r2 _, r3⟩, ?_⟩
  refine ⟨⟨.slice none 0 0, ?_, World.ownsRow_nil _ _ _ _⟩, ?_, ?_, ?_, by omega, by rw [World.size_alloc, e3]; omega⟩
  · rw [World.cell?_alloc_past _ _ _ (by rw [e3]; omega), World.cell?_alloc_past _ _ _ (by rw [e2]; omega), World.cell?_alloc_past _ _ _ (by rw [e1]; omega)]; exact cell_new rfl _ _ _ _ rfl
  · rw [World.cell?_alloc_past _ _ _ (by rw [e3]; omega), World.cell?_alloc_past _ _ _ (by rw [e2]; omega), World.cell?_alloc_past _ _ _ (by rw [e1]; omega)]; exact cell_new rfl _ _ _ _ rfl
  · rw [World.frozen?_alloc_past _ _ _ (by rw [e3]; omega), World.frozen?_alloc_past _ _ _ (by rw [e2]; omega), World.frozen?_alloc_past _ _ _ (by rw [e1]; omega)]; exact World.frozen?_alloc_at _ _ _ _ rfl
  · rw [World.frozen?_alloc_past _ _ _ (by rw [e3]; omega), World.frozen?_alloc_past _ _ _ (by rw [e2]; omega), World.frozen?_alloc_past _ _ _ (by rw [e1]; omega)]; exact World.frozen?_alloc_at _ _ _ _ rfl

theorem NumPost.bounds {Sb N0 m : Nat} {L : Nat → Int × Int × Int} {u ks su : Int} {w : World} {got : Int} {df : Bool} {w' : World} (h : NumPost Sb N0 m L u ks su w (.returned (.tuple #[.int .i64 got, .bool df])) w') (hm : m ≤ 64) : 1 ≤ got ∧ got ≤ 64 := by
  rcases h with ⟨i, h1, h2, h3, h4, h5, h6⟩ | ⟨h1, h2, h3, h4, h5⟩ | ⟨h1, h2, h3, h4, h5⟩
  · simp at h4; omega
  · simp at h3; omega
  · have := lst_lt L m (by omega)
    simp at h3; omega
theorem NumPost.kept {Sb N0 m : Nat} {L : Nat → Int × Int × Int} {u ks su : Int} {w : World} {e : Ending} {w' : World} (h : NumPost Sb N0 m L u ks su w e w') : Kept N0 Sb w w' := by
  rcases h with ⟨i, h1, h2, h3, h4, h5, h6⟩ | ⟨h1, h2, h3, h4, h5⟩ | ⟨h1, h2, h3, h4, h5⟩
  · exact h6
  · exact h5
  · exact h5
theorem Tab.kept {w w' : World} {Sb m : Nat} {L : Nat → Int × Int × Int} (h : Tab w (Sb + 1) L m) (hk : Kept (Sb + 4) Sb w w') : Tab w' (Sb + 1) L m :=
  ⟨h.set.of_block (hk.block _ (by omega) (by omega)), h.size.of_block (hk.block _ (by omega) (by omega)), h.sum.of_block (hk.block _ (by omega) (by omega))⟩
/-- What the search of the table finds. -/
def AtPost (L : Nat → Int × Int × Int) (m : Nat) (ks su : Int) (v : Int) : Prop :=
  (∃ i, i < m ∧ isKey L ks su i ∧ (∀ q, q < i → ¬ isKey L ks su q) ∧ v = (i : Int) + 1) ∨ ((∀ q, q < m → ¬ isKey L ks su q) ∧ v = 0)

theorem Sess.mid {w : World} {Sb N0 m : Nat} {L : Nat → Int × Int × Int} {u : Int} (h : Sess w Sb N0 L m u) {p : Addr} (h1 : Sb < p.block) (h2 : p.block < N0) (x : Value) : Sess (w.setCell p x) Sb N0 L m u := by
  obtain ⟨⟨v, a1, a2⟩, a3, a4, a5, a6, a7⟩ := h
  have hne : ∀ j, p ≠ ⟨Sb, j, none⟩ := fun j e => by rw [e] at h1; exact absurd h1 (Nat.lt_irrefl _)
  refine ⟨⟨v, by rw [World.cell?_setCell_other _ _ _ _ (hne 0)]; exact a1, ownsRow_setCell_below a2 h2 x⟩, by rw [World.cell?_setCell_other _ _ _ _ (hne 1)]; exact a3, by rw [World.frozen?_setCell]; exact a4, by rw [World.frozen?_setCell]; exact a5, a6, by simpa [World.setCell] using a7⟩
/-- The table behind the three stores. -/
theorem Tab.stored {w : World} {B m m' gn : Nat} {L L' : Nat → Int × Int × Int} {ks su : Int} (h : Tab w B L m)
    (e1 : ∀ k, tSet m' k = if k = gn then .bool true else tSet m k) (e2 : ∀ k, tSize L' m' k = if k = gn then .int .i64 ks else tSize L m k) (e3 : ∀ k, tSum L' m' k = if k = gn then .int .u64 su else tSum L m k) :
    Tab (((w.setCell ⟨B, gn, none⟩ (.bool true)).setCell ⟨B + 1, gn, none⟩ (.int .i64 ks)).setCell ⟨B + 1 + 1, gn, none⟩ (.int .u64 su)) B L' m' := by
  refine ⟨?_, ?_, ?_⟩
  · exact (((h.set.set gn (.bool true)).setOther (a := ⟨B + 1, gn, none⟩) (by show B ≠ B + 1; omega) _).setOther (a := ⟨B + 1 + 1, gn, none⟩) (by show B ≠ B + 1 + 1; omega) _).congr (fun k _ => (e1 k).symm)
  · exact (((h.size.setOther (a := ⟨B, gn, none⟩) (by show B + 1 ≠ B; omega) _).set gn (.int .i64 ks)).setOther (a := ⟨B + 1 + 1, gn, none⟩) (by show B + 1 ≠ B + 1 + 1; omega) _).congr (fun k _ => (e2 k).symm)
  · exact (((h.sum.setOther (a := ⟨B, gn, none⟩) (by show B + 1 + 1 ≠ B; omega) _).setOther (a := ⟨B + 1, gn, none⟩) (by show B + 1 + 1 ≠ B + 1; omega) _).set gn (.int .u64 su)).congr (fun k _ => (e3 k).symm)

/-- All that the round's end asks of one call. -/
theorem NumPost.step {Sb N0 m : Nat} {L : Nat → Int × Int × Int} {u ks su : Int} {w : World} {got v : Int} {df : Bool} {w' : World} (h : NumPost Sb N0 m L u ks su w (.returned (.tuple #[.int .i64 got, .bool df])) w') (hm : m ≤ 64) (ha : AtPost L m ks su v) :
    ∃ (gn m' : Nat) (L' : Nat → Int × Int × Int), got = (gn : Int) ∧ 1 ≤ gn ∧ gn ≤ 64 ∧ m' ≤ 64 ∧ Sess w' Sb N0 L' m' (u + 1) ∧
      (∀ k, tSet m' k = if k = gn then .bool true else tSet m k) ∧ (∀ k, tSize L' m' k = if k = gn then .int .i64 ks else tSize L m k) ∧ (∀ k, tSum L' m' k = if k = gn then .int .u64 su else tSum L m k) ∧
      ((df = true ∧ m' = m ∧ v = (gn : Int)) ∨ (df = false ∧ v = 0 ∧ m < 64 ∧ gn = m + 1 ∧ m' = m + 1) ∨ (df = false ∧ v = 0 ∧ m = 64 ∧ m' = m)) := by
  have none0 : (∀ q, q < m → ¬ isKey L ks su q) → v = 0 := fun hno => by
    rcases ha with ⟨i, h1, h2, _⟩ | ⟨_, h⟩
    · exact absurd h2 (hno i h1)
    · exact h
  rcases h with ⟨i, h1, h2, h3, h4, h5, h6⟩ | ⟨h1, h2, h3, h4, h5⟩ | ⟨h1, h2, h3, h4, h5⟩
  · simp only [Ending.returned.injEq, Value.tuple.injEq, Array.mk.injEq, List.cons.injEq, Value.int.injEq, Value.bool.injEq, true_and, and_true] at h4
    obtain ⟨rfl, rfl⟩ := h4
    have hv : v = (i : Int) + 1 := by
      rcases ha with ⟨i', g1, g2, g3, g4⟩ | ⟨hno, _⟩
      · have : i' = i := by
          rcases Nat.lt_trichotomy i' i with h | h | h
          · exact absurd g2 (h3 i' h)
          · exact h
          · exact absurd h2 (g3 i h)
        rw [g4, this]
      · exact absurd h2 (hno i h1)
    refine ⟨i + 1, m, updT L i (u + 1), by simp, by omega, by omega, hm, h5, fun k => ?_, fun k => ?_, fun k => ?_, .inl ⟨rfl, rfl, by rw [hv]; simp⟩⟩
    · unfold tSet
      by_cases e : k = i + 1
      · rw [if_pos e, decide_eq_true (by omega)]
      · rw [if_neg e]
    · unfold tSize updT
      by_cases e : k = i + 1
      · subst e
        rw [if_pos rfl, if_pos (by omega), if_pos (by omega), h2.1]
      · rw [if_neg e]
        by_cases e2 : 1 ≤ k ∧ k ≤ m
        · rw [if_pos e2, if_pos e2, if_neg (by omega)]
        · rw [if_neg e2, if_neg e2]
    · unfold tSum updT
      by_cases e : k = i + 1
      · subst e
        rw [if_pos rfl, if_pos (by omega), if_pos (by omega), h2.2]
      · rw [if_neg e]
        by_cases e2 : 1 ≤ k ∧ k ≤ m
        · rw [if_pos e2, if_pos e2, if_neg (by omega)]
        · rw [if_neg e2, if_neg e2]
  · simp only [Ending.returned.injEq, Value.tuple.injEq, Array.mk.injEq, List.cons.injEq, Value.int.injEq, Value.bool.injEq, true_and, and_true] at h3
    obtain ⟨rfl, rfl⟩ := h3
    refine ⟨m + 1, m + 1, updS L m (ks, su, u + 1), by simp, by omega, by omega, by omega, h4, fun k => ?_, fun k => ?_, fun k => ?_, .inr (.inl ⟨rfl, none0 h1, h2, rfl, rfl⟩)⟩
    · unfold tSet
      by_cases e : k = m + 1
      · rw [if_pos e, decide_eq_true (by omega)]
      · rw [if_neg e]
        by_cases e2 : 1 ≤ k ∧ k ≤ m
        · rw [decide_eq_true (by omega), decide_eq_true e2]
        · rw [decide_eq_false (by omega), decide_eq_false e2]
    · unfold tSize updS
      by_cases e : k = m + 1
      · subst e
        rw [if_pos rfl, if_pos (by omega), if_pos (by omega)]
      · rw [if_neg e]
        by_cases e2 : 1 ≤ k ∧ k ≤ m
        · rw [if_pos (by omega), if_pos e2, if_neg (by omega)]
        · rw [if_neg (by omega), if_neg e2]
    · unfold tSum updS
      by_cases e : k = m + 1
      · subst e
        rw [if_pos rfl, if_pos (by omega), if_pos (by omega)]
      · rw [if_neg e]
        by_cases e2 : 1 ≤ k ∧ k ≤ m
        · rw [if_pos (by omega), if_pos e2, if_neg (by omega)]
        · rw [if_neg (by omega), if_neg e2]
  · simp only [Ending.returned.injEq, Value.tuple.injEq, Array.mk.injEq, List.cons.injEq, Value.int.injEq, Value.bool.injEq, true_and, and_true] at h3
    obtain ⟨rfl, rfl⟩ := h3
    have hl := lst_lt L m (by omega)
    refine ⟨lst L m + 1, m, updS L (lst L m) (ks, su, u + 1), by simp, by omega, by omega, hm, h4, fun k => ?_, fun k => ?_, fun k => ?_, .inr (.inr ⟨rfl, none0 h1, h2, rfl⟩)⟩
    · unfold tSet
      by_cases e : k = lst L m + 1
      · rw [if_pos e, decide_eq_true (by omega)]
      · rw [if_neg e]
    · unfold tSize updS
      by_cases e : k = lst L m + 1
      · subst e
        rw [if_pos rfl, if_pos (by omega), if_pos (by omega)]
      · rw [if_neg e]
        by_cases e2 : 1 ≤ k ∧ k ≤ m
        · rw [if_pos e2, if_pos e2, if_neg (by omega)]
        · rw [if_neg e2, if_neg e2]
    · unfold tSum updS
      by_cases e : k = lst L m + 1
      · subst e
        rw [if_pos rfl, if_pos (by omega), if_pos (by omega)]
      · rw [if_neg e]
        by_cases e2 : 1 ≤ k ∧ k ≤ m
        · rw [if_pos e2, if_pos e2, if_neg (by omega)]
        · rw [if_neg e2, if_neg e2]

end Go.Proofs.Qxb6600567a
