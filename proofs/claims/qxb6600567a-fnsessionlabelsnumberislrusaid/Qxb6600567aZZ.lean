import Derived.Test.Qxb6600567aNum
namespace Go.Proofs.Qxb6600567a
open Go.ChangeShapes Go.WideShapes Go.ChangeAt Go.RowKit
set_option linter.unusedVariables false

theorem NumPost.under {Sb N0 m : Nat} {L : Nat → Int × Int × Int} {u ks su : Int} {w w1 : World} {e : Ending} {w' : World} (hk : Kept N0 Sb w w1) (h : NumPost Sb N0 m L u ks su w1 e w') : NumPost Sb N0 m L u ks su w e w' := by
  rcases h with ⟨i, h1, h2, h3, h4, h5, h6⟩ | ⟨h1, h2, h3, h4, h5⟩ | ⟨h1, h2, h3, h4, h5⟩
  · exact .inl ⟨i, h1, h2, h3, h4, h5, hk.trans h6⟩
  · exact .inr (.inl ⟨h1, h2, h3, h4, hk.trans h5⟩)
  · exact .inr (.inr ⟨h1, h2, h3, h4, hk.trans h5⟩)
/-- The two results that the call hands back. -/
theorem NumPost.out {Sb N0 m : Nat} {L : Nat → Int × Int × Int} {u ks su : Int} {w : World} {e : Ending} {w' : World} (h : NumPost Sb N0 m L u ks su w e w') : ∃ (got : Int) (df : Bool), e = .returned (.tuple #[.int .i64 got, .bool df]) := by
  rcases h with ⟨i, h1, h2, h3, h4, h5, h6⟩ | ⟨h1, h2, h3, h4, h5⟩ | ⟨h1, h2, h3, h4, h5⟩
  · exact ⟨_, _, h4⟩
  · exact ⟨_, _, h3⟩
  · exact ⟨_, _, h3⟩

set_option maxHeartbeats 400000 in
theorem makeKey (a b : Int) (w : World) :
    Calls Try.prog 10 #[.int .i64 a, .int .u64 b] w fun e w' => e = .returned (.agg #[.int .i64 a, .int .u64 b]) ∧ w' = w.alloc (.cells #[.int .i64 a, .int .u64 b] 36) := by
  go_enter Try.func10, Try.ntmps10
  go_wp2
  exact bodyPost_ret (v := .agg #[.int .i64 a, .int .u64 b]) (by simp [results, Try.results10, go_sem]) rfl ⟨rfl, rfl⟩

set_option maxHeartbeats 400000 in
theorem zznumber (Sb N0 m : Nat) (L : Nat → Int × Int × Int) (u ks su : Int) (w : World) (hs : Sess w Sb N0 L m u) (hm : m ≤ 64) (hu0 : 0 ≤ u) (hu : u ≤ 4096) :
    Calls Try.prog 9 #[.pointer (some ⟨Sb, 0, none⟩), .agg #[.int .i64 ks, .int .u64 su]] w fun e w' => ∃ (got : Int) (df : Bool), e = .returned (.tuple #[.int .i64 got, .bool df]) ∧ NumPost Sb N0 m L u ks su w (.returned (.tuple #[.int .i64 got, .bool df])) w' := by
  have HS : Hid (Sess (w.alloc (.cells #[.int .i64 ks, .int .u64 su] 36)) Sb N0 L m u) := hs.alloc _
  have HK : Hid (Kept N0 Sb w (w.alloc (.cells #[.int .i64 ks, .int .u64 su] 36))) := (Kept.refl _ _ _).alloc hs.le _
  clear hs
  go_enter Try.func9, Try.ntmps9
  go_wp2_with (go_at_call 12; refine (number_any Sb N0 m L u ks su _ HS.out hm hu0 hu).mono ?_)
  intro e w' h
  obtain ⟨got, df, rfl⟩ := h.out
  have H2 : Hid (NumPost Sb N0 m L u ks su w (.returned (.tuple #[.int .i64 got, .bool df])) w') := h.under HK.out
  clear h
  go_wp2
  go_ret2
  exact ⟨got, df, rfl, H2.out⟩
end Go.Proofs.Qxb6600567a
