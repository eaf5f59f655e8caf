import Derived.Test.Qxb6600537aSame
import Derived.Deep.CutBlock
import Derived.Deep.DeepCutAuto
namespace Go.Proofs.Qxb6600537a
open Go.ChangeShapes Go.WideShapes Go.ChangeAt Go.RowKit
set_option linter.unusedVariables false

theorem bytes_ok (a0 a2 : Option Addr) (n0 c0 n2 c2 : Nat) (i : Int) (w : World) (h : n0 + n2 ≤ 1048576) :
    Calls Try.prog 12 #[.slice a0 n0 c0, .int .i64 i, .slice a2 n2 c2] w fun e w' => e = .returned (.bool true) ∧ w' = w := by
  have h0 : (n0 : Int) ≤ 1048576 := by omega
  have h2 : (n2 : Int) ≤ 1048576 := by omega
  have h3 : (n0 : Int) + n2 ≤ 1048576 := by omega
  go_enter Try.func12, Try.ntmps12
  go_wp2
  go_ret
  exact ⟨rfl, rfl⟩

theorem bytes_no (a0 a2 : Option Addr) (n0 c0 n2 c2 : Nat) (i : Int) (w : World) (h : ¬ n0 + n2 ≤ 1048576) :
    Calls Try.prog 12 #[.slice a0 n0 c0, .int .i64 i, .slice a2 n2 c2] w fun e w' => e = .returned (.bool false) ∧ w' = w := by
  by_cases h0 : n0 ≤ 1048576
  · have h0' : (n0 : Int) ≤ 1048576 := by omega
    by_cases h2 : n2 ≤ 1048576
    · have h2' : (n2 : Int) ≤ 1048576 := by omega
      have h3 : 1048576 < (n0 : Int) + n2 := by omega
      go_enter Try.func12, Try.ntmps12
      go_wp2
      go_ret
      exact ⟨rfl, rfl⟩
    · have h2' : 1048576 < (n2 : Int) := by omega
      go_enter Try.func12, Try.ntmps12
      go_wp2
      go_ret
      exact ⟨rfl, rfl⟩
  · have h0' : 1048576 < (n0 : Int) := by omega
    go_enter Try.func12, Try.ntmps12
    go_wp2
    go_ret
    exact ⟨rfl, rfl⟩

theorem Row.drewN {w : World} {a : Option Addr} {n : Nat} {f : Nat → Int} (h : Row w a n f) (k : Nat) : Row (w.drewN k) a n f := h

set_option maxRecDepth 4000 in
set_option maxHeartbeats 1000000 in
theorem walk_main (a0 : Option Addr) (n0 cap0 : Nat) (z0 : List Int) (i : Nat) (a2 : Option Addr) (n2 cap2 : Nat) (z2 : List Int) (w : World) (w0 : IsRow .u8 w a0 n0 cap0 z0) (w2 : IsRow .u8 w a2 n2 cap2 z2)
    (hn : n0 + n2 ≤ 1048576) (hi : i ≤ n0) :
    Calls Try.prog 5 #[.slice a0 n0 cap0, .int .i64 i, .slice a2 n2 cap2] w fun e w' => e = .returned (.bool true) ∧ Below w.heap.size w w' := by
  have hn0 : (n0 : Int) ≤ 1048576 := by omega
  have hn2 : (n2 : Int) ≤ 1048576 := by omega
  have hn02 : (n0 : Int) + n2 ≤ 1048576 := by omega
  have hi0 : (0 : Int) ≤ (i : Int) := by omega
  have hi1 : (i : Int) ≤ (n0 : Int) := by omega
  go_enter Try.func5, Try.ntmps5
  go_wp2_with (go_at_call 12; refine (bytes_ok _ _ _ _ _ _ _ _ hn).mono ?_; rintro e w' ⟨rfl, rfl⟩)
  refine (clone_any _ _ _ _ _ (by omega) w0).mono ?_
  rintro e wb ⟨b0, rfl, hb0, r0⟩
  go_wp2_with fail
  refine (clone_any _ _ _ _ _ (by omega) (w2.below hb0)).mono ?_
  rintro e wc ⟨b2, rfl, hb2, r2⟩
  have R0 := r0.below hb2
  have hbel := hb0.trans (hb2.mono hb0.size)
  clear r0 hb0 hb2 w0 w2
  obtain ⟨f0, hf0⟩ : ∃ f, f = fun i => z0.getD i 0 := ⟨_, rfl⟩
  obtain ⟨f2, hf2⟩ : ∃ f, f = fun i => z2.getD i 0 := ⟨_, rfl⟩
  rw [← hf0] at R0
  rw [← hf2] at r2
  clear hf0 hf2
  go_upto_block 0 with fail
  go_cut [7, 8] (fun pos kk wx => ∃ k : Nat, k ≤ n2 ∧ i + k ≤ n0 ∧ pos = .int .i64 ((i : Int) + k) ∧ kk = .int .i64 k ∧ (∀ j, j < k → f0 (i + j) = f2 j) ∧ (k < n2 → i + k < n0 → f0 (i + k) ≠ f2 k) ∧ Below wc.heap.size wc wx)
  case first =>
    go_wp2_with fail
    go_loopw [7, 8] (fun pos kk wx => ∃ k : Nat, k ≤ n2 ∧ i + k ≤ n0 ∧ pos = .int .i64 ((i : Int) + k) ∧ kk = .int .i64 k ∧ (∀ j, j < k → f0 (i + j) = f2 j) ∧ Below wc.heap.size wc wx) (fun _ kk _ => n2 - (intOf kk).toNat)
    case atStart => exact ⟨0, Nat.zero_le _, hi, by simp, rfl, fun j hj => absurd hj (Nat.not_lt_zero _), Below.refl _ _⟩
    case round =>
      obtain ⟨k, hk, hik, rfl, rfl, heq, hB⟩ := hrel
      have H : Hid (∀ j, j < k → f0 (i + j) = f2 j) := heq
      clear heq
      have R0' := R0.below hB
      have R2' := r2.below hB
      by_cases hlt : k < n2
      · have hlt' : (k : Int) < (n2 : Int) := by omega
        obtain ⟨B2, hB2, h3, h4⟩ : ∃ B, b2 = some ⟨B, 0, none⟩ ∧ B < wr.heap.size ∧ ∀ j, j < n2 → wr.cell? ⟨B, j, none⟩ = some (.int .u8 (f2 j)) := by
          rcases R2' with h | h
          · omega
          · exact h
        have c2 := h4 k hlt
        subst hB2
        have ec : ((i : Int) + (k : Int)) = ((i + k : Nat) : Int) := by omega
        by_cases hy : i + k < n0 ∧ f0 (i + k) = f2 k
        · obtain ⟨hy1, hy2⟩ := hy
          have HY : Hid (f0 (i + k) = f2 k) := hy2
          have HC : Hid (((i : Int) + (k : Int)) = ((i + k : Nat) : Int)) := ec
          clear hy2 ec
          go_wp2_with fail
          rw [HC.out]
          refine (take_any_yes _ _ _ _ _ f0 _ R0' hy1 (by omega) HY.out).mono ?_
          rintro e wd ⟨rfl, hb⟩
          go_wp2
          go_roundw
          case rel => exact ⟨k + 1, by omega, by omega, by go_num, by go_num, fun j hj => by
              by_cases e : j = k
              · subst e; exact HY.out
              · exact H.out j (by omega), hB.trans (hb.mono hB.size)⟩
          case measure => simp [intOf]; omega
        · have HC : Hid (((i : Int) + (k : Int)) = ((i + k : Nat) : Int)) := ec
          have HY : Hid (¬ (i + k < n0 ∧ f0 (i + k) = f2 k)) := hy
          clear hy ec
          go_wp2_with fail
          rw [HC.out]
          refine (take_any_no _ _ _ _ _ f0 _ R0' (by omega) (fun h1 h2 => HY.out ⟨h1, h2⟩)).mono ?_
          rintro e wd ⟨rfl, hb⟩
          go_wp2
          go_meet
          case rel => exact ⟨k, by omega, by omega, by go_num, by go_num, H.out, fun _ h1 h2 => HY.out ⟨h1, h2⟩, hB.trans (hb.mono hB.size)⟩
      · go_wp2
        go_meet
        case rel => exact ⟨k, by omega, by omega, by go_num, by go_num, H.out, fun h1 => absurd h1 hlt, hB⟩
  case rest =>
    obtain ⟨k, hk, hik, rfl, rfl, heq, hne, hB⟩ := hcut
    have R0' := R0.below hB
    have R2' := r2.below hB
    have hbel' := hbel.trans (hB.mono hbel.size)
    have H : Hid (∀ j, j < k → f0 (i + j) = f2 j) := heq
    have HN : Hid (k < n2 → i + k < n0 → f0 (i + k) ≠ f2 k) := hne
    clear heq hne R0 r2 hbel hB
    go_wp2
    go_loopw [11] (fun qq wx => ∃ q m : Nat, q ≤ k ∧ qq = .int .i64 q ∧ wx = wc.drewN m) (fun qq _ => k - (intOf qq).toNat)
    case atStart => exact ⟨0, 0, Nat.zero_le _, rfl, rfl⟩
    case round =>
      obtain ⟨q, m, hq, rfl, rfl⟩ := hrel
      by_cases hlt : q < k
      · obtain ⟨B2, hB2, h3, h4⟩ : ∃ B, b2 = some ⟨B, 0, none⟩ ∧ B < wc.heap.size ∧ ∀ j, j < n2 → wc.cell? ⟨B, j, none⟩ = some (.int .u8 (f2 j)) := by
          rcases R2' with h | h
          · omega
          · exact h
        obtain ⟨B0, hB0, g3, g4⟩ : ∃ B, b0 = some ⟨B, 0, none⟩ ∧ B < wc.heap.size ∧ ∀ j, j < n0 → wc.cell? ⟨B, j, none⟩ = some (.int .u8 (f0 j)) := by
          rcases R0' with h | h
          · omega
          · exact h
        have c2 : wc.cell? ⟨B2, q, none⟩ = some (.int .u8 (f2 q)) := h4 q (by omega)
        have c0 : wc.cell? ⟨B0, i + q, none⟩ = some (.int .u8 (f2 q)) := by
          rw [g4 (i + q) (by omega), H.out q hlt]
        have l3 : (0 : Int) ≤ (i : Int) + (q : Int) := by omega
        have e0 : (f2 q != f2 q) = false := by simp
        have l0 : (i : Int) + (q : Int) < (n0 : Int) := by omega
        have l2 : (q : Int) < (n2 : Int) := by omega
        have l1 : (q : Int) < (k : Int) := by omega
        subst hB2 hB0
        clear h4 g4 R0' R2' hbel' hn0 hn2 hn02 hi0 hi1
        go_wp2
        go_quiet (fail)
        go_wp2
        go_roundw
        case rel => exact ⟨q + 1, _, by omega, by go_num, rfl⟩
        case measure => simp [intOf]; omega
      · have hqk : q = k := by omega
        subst hqk
        have hlt' : ¬ (q : Int) < (q : Int) := by omega
        by_cases hkn : q = n2
        · subst hkn
          have d0 : decide ((q : Int) < (q : Int)) = false := by simp
          have d1 : (q : Int) ≤ (n0 : Int) - (i : Int) := by omega
          rcases R0' with h0 | ⟨B0, hB0, g3, g4⟩
          · have hq0 : q = 0 := by omega
            have hi00 : i = 0 := by omega
            subst h0 hq0 hi00
            go_wp2
            go_quiet (fail)
            go_wp2_with fail
            refine (same_empty _ _ _ _ _).mono ?_
            rintro e wd ⟨rfl, rfl⟩
            go_wp2
            go_ret
            exact ⟨rfl, below_drewN hbel' _⟩
          · subst hB0
            have hs : sameB (fun j => f0 (i + j)) f2 q = true := sameB_true H.out
            go_wp2
            go_quiet (fail)
            go_wp2_with fail
            · have hv : sameB (fun j => f0 (0 + j)) f2 q = true := sameB_true (fun j hj => by omega)
              refine (same_any B0 0 q 0 b2 q (fun j => f0 (0 + j)) f2 _ (by omega) (fun j hj => by omega) (R2'.drewN _)).mono ?_
              rintro e wd ⟨rfl, kd, rfl⟩
              rw [hv]
              go_wp2
              go_ret
              exact ⟨rfl, below_drewN hbel' _⟩
            · refine (same_any B0 i q (n0 - i) b2 q (fun j => f0 (i + j)) f2 (wc.drewN (m + nq)) (by omega) (fun j hj => g4 (i + j) (by omega)) (R2'.drewN _)).mono ?_
              rintro e wd ⟨rfl, kd, rfl⟩
              rw [hs]
              go_wp2
              go_ret
              exact ⟨rfl, below_drewN hbel' _⟩
        · have hkn1 : (q : Int) < (n2 : Int) := by omega
          have e30 : ((q : Int) == (n2 : Int)) = false := by simp; omega
          by_cases h0 : i + q = n0
          · have d1 : ¬ ((n2 : Int) ≤ (n0 : Int) - (i : Int)) := by omega
            have d2 : decide ((i : Int) + (q : Int) < (n0 : Int)) = false := by simp; omega
            clear h0
            go_wp2
            go_quiet (fail)
            go_wp2
            go_ret
            exact ⟨rfl, below_drewN hbel' _⟩
          · have d2 : (i : Int) + (q : Int) < (n0 : Int) := by omega
            have hneq : (f0 (i + q) == f2 q) = false := by
              have := HN.out (by omega) (by omega)
              simpa using this
            obtain ⟨B2, hB2, h3, h4⟩ : ∃ B, b2 = some ⟨B, 0, none⟩ ∧ B < wc.heap.size ∧ ∀ j, j < n2 → wc.cell? ⟨B, j, none⟩ = some (.int .u8 (f2 j)) := by
              rcases R2' with h | h
              · omega
              · exact h
            obtain ⟨B0, hB0, g3, g4⟩ : ∃ B, b0 = some ⟨B, 0, none⟩ ∧ B < wc.heap.size ∧ ∀ j, j < n0 → wc.cell? ⟨B, j, none⟩ = some (.int .u8 (f0 j)) := by
              rcases R0' with h | h
              · omega
              · exact h
            have c2 : wc.cell? ⟨B2, q, none⟩ = some (.int .u8 (f2 q)) := h4 q (by omega)
            have c0 : wc.cell? ⟨B0, i + q, none⟩ = some (.int .u8 (f0 (i + q))) := g4 (i + q) (by omega)
            have l3 : (0 : Int) ≤ (i : Int) + (q : Int) := by omega
            subst hB2 hB0
            by_cases d1 : n2 ≤ n0 - i
            · have d1' : (n2 : Int) ≤ (n0 : Int) - (i : Int) := by omega
              have hs : sameB (fun j => f0 (i + j)) f2 n2 = false := sameB_false (j := q) (by omega) (HN.out (by omega) (by omega))
              have G4 : Hid (∀ j, j < n0 → wc.cell? ⟨B0, j, none⟩ = some (.int .u8 (f0 j))) := g4
              have H4 : Hid (∀ j, j < n2 → wc.cell? ⟨B2, j, none⟩ = some (.int .u8 (f2 j))) := h4
              have hni : ¬ n0 = i := by omega
              clear g4 h4
              go_wp2
              go_quiet (fail)
              go_wp2_with fail
              refine (same_any B0 i n2 (n0 - i) (some ⟨B2, 0, none⟩) n2 (fun j => f0 (i + j)) f2 (wc.drewN (m + nq)) (by omega) (fun j hj => G4.out (i + j) (by omega)) (R2'.drewN _)).mono ?_
              rintro e wd ⟨rfl, kd, rfl⟩
              rw [hs]
              go_wp2
              go_ret
              exact ⟨rfl, below_drewN hbel' _⟩
            · have d1' : ¬ ((n2 : Int) ≤ (n0 : Int) - (i : Int)) := by omega
              clear g4 h4
              go_wp2
              go_quiet (fail)
              go_wp2
              go_ret
              exact ⟨rfl, below_drewN hbel' _⟩

theorem walk (a0 : Option Addr) (len0 cap0 : Nat) (z0 : List Int) (a1 : Int) (a2 : Option Addr) (len2 cap2 : Nat) (z2 : List Int) (w : World) (w0 : IsRow .u8 w a0 len0 cap0 z0) (w1 : (Lit.int .i64 a1).wf = true) (w2 : IsRow .u8 w a2 len2 cap2 z2) :
    Calls Try.prog 5 #[.slice a0 len0 cap0, .int .i64 a1, .slice a2 len2 cap2] w fun e w' => e = .returned (.bool true) ∧ Below w.heap.size w w' := by
  by_cases hn : len0 + len2 ≤ 1048576
  · by_cases h1 : a1 < 0
    · have hn0 : (len0 : Int) ≤ 1048576 := by omega
      have hn2 : (len2 : Int) ≤ 1048576 := by omega
      have hn02 : (len0 : Int) + len2 ≤ 1048576 := by omega
      go_enter Try.func5, Try.ntmps5
      go_wp2_with (go_at_call 12; refine (bytes_ok _ _ _ _ _ _ _ _ hn).mono ?_; rintro e w' ⟨rfl, rfl⟩)
      go_ret
      exact ⟨rfl, Below.refl _ _⟩
    · by_cases h2 : (len0 : Int) < a1
      · have hn0 : (len0 : Int) ≤ 1048576 := by omega
        have hn2 : (len2 : Int) ≤ 1048576 := by omega
        have hn02 : (len0 : Int) + len2 ≤ 1048576 := by omega
        go_enter Try.func5, Try.ntmps5
        go_wp2_with (go_at_call 12; refine (bytes_ok _ _ _ _ _ _ _ _ hn).mono ?_; rintro e w' ⟨rfl, rfl⟩)
        go_ret
        exact ⟨rfl, Below.refl _ _⟩
      · obtain ⟨i, rfl⟩ : ∃ i : Nat, a1 = (i : Int) := ⟨a1.toNat, by omega⟩
        exact walk_main a0 len0 cap0 z0 i a2 len2 cap2 z2 w w0 w2 hn (by omega)
  · go_enter Try.func5, Try.ntmps5
    go_wp2_with (go_at_call 12; refine (bytes_no _ _ _ _ _ _ _ _ hn).mono ?_; rintro e w' ⟨rfl, rfl⟩)
    go_ret
    exact ⟨rfl, Below.refl _ _⟩
end Go.Proofs.Qxb6600537a
