import Derived.Test.Qxb6600576aMod
import Derived.Deep.OwnRows
import Derived.Deep.QuietTactic
import Derived.Deep.AppendSrc
import Derived.Lib.LazyBuf
import Derived.BigQuiet
import Derived.WalkSmall
import Derived.Laws.IdiomStrings
namespace Go.Proofs.Qxb6600576a
open Go.ChangeShapes Go.WideShapes Go.ChangeAt Go.RowKit
set_option linter.unusedVariables false

theorem info5 : (Try.prog.info? 5).map (fun i => (i.zero, i.size, i.bytes)) = some (some (.int .u8 0), 1, 1) := by kernel_rfl
theorem size5 (w : World) : (Go.sizeOf 5).run Try.prog w = .ok 1 w := by
  simp [Go.sizeOf]
  rfl
theorem size_setCells (b : Nat) : ∀ (vs : List Value) (o : Nat) (w : World), (w.setCells b o vs).heap.size = w.heap.size
  | [], _, _ => rfl
  | v :: r, o, w => by
    show ((w.setCell ⟨b, o, none⟩ v).setCells b (o + 1) r).heap.size = _
    rw [size_setCells b r]
    simp [World.setCell]
theorem make29 (c : Nat) (hc : c ≤ 2147483648) (x : Int) (hx : x = (c : Int)) (w : World) :
    (Instr.makeSlice 29 (.int .i64 x) (.int .i64 x)).run Try.prog w = .ok (.slice (some ⟨w.heap.size, 0, none⟩) c c) (w.alloc (.cells (madeCells #[.int .u8 0] c) 5)) := by
  subst hx
  exact run_make_row' (P := Try.prog) 29 5 (.int .u8 0) 1 Try.underlying29 info5 rfl .i64 .i64 c (by omega) (by omega) w

/-- The first bytes of t, and behind them what was there. -/
def overlaid (t : ByteArray) (F : Nat → Int) (j : Nat) : Int := if j < t.size then ((t.data.toList.getD j 0).toNat : Int) else F j

/-- 'copy' of a string onto a row of the call's own. -/
theorem copy_str (w : World) (g N : Nat) (F : Nat → Int) (hrow : w.rowIs g 5 N (fun j => .int .u8 (F j))) (t : ByteArray) (hle : t.size ≤ N) :
    ∃ w', (Builtin.copy_ #[29, 9] 3 #[.slice (some ⟨g, 0, none⟩) N N, .string t]).run Try.prog w = .ok (.int .i64 (t.size : Int)) w' ∧ w'.rowIs g 5 N (fun j => .int .u8 (overlaid t F j)) ∧ Below g w w' ∧ w'.heap.size = w.heap.size := by
  have hr := run_copy_string (P := Try.prog) w 29 9 3 5 g 0 N N t Try.underlying29 size5 hle
    (fun j hj => by rw [Nat.zero_add, hrow.cell (by omega)]; rfl) (fun j hj => by rw [Nat.zero_add]; exact hrow.frozen _)
  refine ⟨_, hr, ?_, below_setCells (Nat.le_refl _) _ _ _ (Below.refl _ _), size_setCells _ _ _ _⟩
  refine (rowIs_setCells _ 0 w _ hrow).congr (fun j hj => ?_)
  unfold overlaid
  by_cases h1 : j < t.size
  · rw [if_pos (by simp; omega), if_pos h1]
    simp [List.getD, h1]
  · rw [if_neg (by simp; omega), if_neg h1]

def snoc (s : ByteArray) (c : UInt8) : ByteArray := ⟨(s.data.toList ++ [c]).toArray⟩

set_option maxHeartbeats 1000000 in
theorem withByte (s : ByteArray) (c : UInt8) (w : World) (hs : s.size ≤ 1048576) :
    Calls Try.prog 11 #[.string s, .int .u8 (c.toNat : Int)] w fun e w' => e = .returned (.string (snoc s c)) ∧ Below w.heap.size w w' := by
  obtain ⟨N, hN⟩ : ∃ N, N = s.size + 1 := ⟨_, rfl⟩
  have hmk := make29 N (by omega) ((s.size : Int) + 1) (by omega)
  have hba : Below w.heap.size w (w.alloc (.cells (madeCells #[.int .u8 0] N) 5)) := (Below.refl _ _).alloc (Nat.le_refl _) _
  obtain ⟨w1, hcp, g1, hb1, hs1⟩ := copy_str (w.alloc (.cells (madeCells #[.int .u8 0] N) 5)) w.heap.size N (fun _ => 0) (World.rowIs_made w (.int .u8 0) N 5) s (by omega)
  have hB1 := hba.trans hb1
  have c1 := g1.cell (show s.size < N by omega)
  have c2 := g1.frozen s.size
  have hsN : (s.size : Int) < N := by omega
  have R := (g1.set s.size (.int .u8 (c.toNat : Int)))
  have hB := hB1.setCell (p := ⟨w.heap.size, s.size, none⟩) (Nat.le_refl _) (.int .u8 (c.toNat : Int))
  have hcv := run_convert_bytes_back (P := Try.prog) (w1.setCell ⟨w.heap.size, s.size, none⟩ (.int .u8 (c.toNat : Int))) 29 9 5 ⟨w.heap.size, 0, none⟩ N (s.data.toList ++ [c]) Try.underlying29 Try.underlying5 Try.underlying9 (fun j hj => by
    have hj' : j < N := by simp at hj; omega
    rw [add_plain, Nat.zero_add, R.cell hj']
    by_cases e : j = s.size
    · subst e
      simp
    · have hj2 : j < s.data.toList.length := by simp; omega
      have hj3 : j < s.size := by omega
      unfold overlaid
      rw [if_neg e, if_pos hj3, List.getElem_append_left hj2]
      simp [List.getD, hj3])
  have hlen : (s.data.toList ++ [c]).length = N := by simp; omega
  rw [hlen] at hcv
  have HB : Hid (Below w.heap.size w (w1.setCell ⟨w.heap.size, s.size, none⟩ (.int .u8 (c.toNat : Int)))) := hB
  clear g1 R hB hB1 hb1 hN hlen hba
  go_enter Try.func11, Try.ntmps11
  go_wp2
  go_ret
  exact ⟨rfl, HB.out⟩
end Go.Proofs.Qxb6600576a
