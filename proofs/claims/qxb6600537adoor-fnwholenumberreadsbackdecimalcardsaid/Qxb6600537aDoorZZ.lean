import Derived.Test.Qxb6600537aDoorWhole
namespace Go.Proofs.Qxb6600537aDoor
open Go.ChangeShapes Go.WideShapes Go.ChangeAt Go.RowKit
set_option linter.unusedVariables false

set_option maxHeartbeats 1000000 in
theorem zzwhole (n cp i j : Nat) (a : Option Addr) (f : Nat → Int) (w : World) (hn : n ≤ 2097152) (hcp : n ≤ cp) (hr : Row w a n f) (he : Errs w) (run : IsRun f n i j) :
    Calls Tryd.prog 11 #[.slice a n cp, .int .i64 i] w fun e w' => e = .returned (.tuple #[.int .u64 (wnN f i j), .int .i64 j, .bool (wnB f i j)]) ∧ Below w.heap.size w w' := by
  have hb0 : Below w.heap.size w (w.alloc (.cells #[.slice a n cp, .int .i64 i] 40)) := (Below.refl _ _).alloc (Nat.le_refl _) _
  have hlow : ∀ B, a = some ⟨B, 0, none⟩ → 0 < n → B < w.heap.size := by
    intro B hB h0
    rcases hr with h | ⟨B', h1, h2, h3⟩
    · omega
    · rw [hB] at h1
      simp at h1
      omega
  have hE : ∀ w', Below w.heap.size (w.alloc (.cells #[.slice a n cp, .int .i64 i] 40)) w' → Errs w' := fun w' hb => he.below (hb0.trans hb)
  have HR : Hid (Row w a n f) := hr
  clear hr he
  go_enter Tryd.func11, Tryd.ntmps11
  go_wp2_with (go_at_call 19; refine (whole w.heap.size n cp i j a f _ hn hcp (HR.out.below hb0) hlow (by simp) hE (by simp) (by simp) (by simp) run).mono ?_; rintro e w' ⟨rfl, hc, hb⟩)
  go_quiet (fail)
  go_wp2
  go_ret3
  exact ⟨rfl, below_drewN (hb0.trans hb) _⟩
end Go.Proofs.Qxb6600537aDoor
