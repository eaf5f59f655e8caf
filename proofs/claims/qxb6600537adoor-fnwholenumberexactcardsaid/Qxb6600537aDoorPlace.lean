import Derived.Test.Qxb6600537aDoorFits
namespace Go.Proofs.Qxb6600537aDoor
open Go.ChangeShapes Go.WideShapes Go.ChangeAt Go.RowKit
set_option linter.unusedVariables false

set_option maxHeartbeats 1000000 in
theorem place_any (b o m cap : Nat) (f : Nat → Int) (i : Nat) (w : World) (hm : m ≤ 20) (hd : ∀ q, q < m → 48 ≤ f (i + q) ∧ f (i + q) ≤ 57) (hV : V (dg f i) m ≤ 18446744073709551615)
    (hc : ∀ q, q < m → w.cell? ⟨b, o + q, none⟩ = some (.int .u8 (f (i + q)))) :
    Calls Tryd.prog 10 #[.slice (some ⟨b, o, none⟩) m cap] w fun e w' => e = .returned (.int .u64 (V (dg f i) m)) ∧ w' = w := by
  go_enter Tryd.func10, Tryd.ntmps10
  go_wp2
  go_loop [3, 4, 5] (fun v pl k => ∃ t r : Nat, ∃ P : Int, r + t = m ∧ k = .int .i64 ((r : Int) - 1) ∧ v = .int .u64 (S (dg f i) m t : Int) ∧ pl = .int .u64 P ∧ 0 ≤ P ∧ P ≤ 18446744073709551615 ∧ (t ≤ 19 → P = (10 ^ t : Nat))) (fun _ _ k => (intOf k + 1).toNat)
  case atStart => exact ⟨0, m, 1, rfl, rfl, rfl, rfl, by omega, by omega, fun _ => rfl⟩
  case round =>
    obtain ⟨t, r, P, hrt, rfl, rfl, rfl, hP0, hP1, hP⟩ := hrel
    cases r with
    | zero =>
      have ht : t = m := by omega
      subst ht
      clear hP hc hd
      go_wp2
      go_ret
      exact ⟨by rw [S_all]; rfl, rfl⟩
    | succ s =>
      have e : (((s + 1 : Nat) : Int) - 1) = (s : Int) := by omega
      rw [e]
      have c1 := hc s (by omega)
      have d1 := hd s (by omega)
      have hs : (s : Int) < (m : Int) := by omega
      have hP := hP (by omega)
      have hS : S (dg f i) m (t + 1) ≤ V (dg f i) m := S_le _ _ _ (by omega)
      have hstep : (S (dg f i) m (t + 1) : Int) = (S (dg f i) m t : Int) + (f (i + s) - 48) * P := by
        show ((S (dg f i) m t + dg f i (m - 1 - t) * 10 ^ t : Nat) : Int) = _
        rw [show m - 1 - t = s by omega, hP, Int.natCast_add, Int.natCast_mul]
        have : (dg f i s : Int) = f (i + s) - 48 := by unfold dg; omega
        rw [this]
      have HST : Hid ((S (dg f i) m (t + 1) : Int) = (S (dg f i) m t : Int) + (f (i + s) - 48) * P) := hstep
      have p0 : 0 ≤ (f (i + s) - 48) * P := Int.mul_nonneg (by omega) hP0
      have p1 : (S (dg f i) m t : Int) + (f (i + s) - 48) * P ≤ 18446744073709551615 := by omega
      have HPe : Hid (P = (10 ^ t : Nat)) := hP
      clear hstep hP hc hd
      obtain ⟨Sv, hSv⟩ : ∃ x : Int, x = (S (dg f i) m t : Int) := ⟨_, rfl⟩
      have hSv0 : 0 ≤ Sv := by omega
      rw [← hSv] at p1 ⊢
      have HSv : Hid (Sv = (S (dg f i) m t : Int)) := hSv
      clear hSv
      obtain ⟨x, hx⟩ : ∃ x : Int, x = f (i + s) := ⟨_, rfl⟩
      rw [← hx] at p0 p1 c1 d1
      have HX : Hid (x = f (i + s)) := hx
      clear hx
      obtain ⟨d1, d2⟩ := d1
      go_wp2
      go_round
      case rel =>
        have hx1 := HX.out
        have hs1 := HSv.out
        have hst := HST.out
        have hpe := HPe.out
        rw [← hx1, ← hs1] at hst
        refine ⟨t + 1, s, _, by omega, rfl, by rw [hst], rfl, ?_, ?_, ?_⟩
        · rw [IntKind.wrap_u64]; omega
        · rw [IntKind.wrap_u64]; omega
        · intro ht
          have h18 : (10 : Nat) ^ t ≤ 10 ^ 18 := Nat.pow_le_pow_right (by omega) (by omega)
          have h18' : (10 : Nat) ^ 18 = 1000000000000000000 := by decide
          rw [IntKind.wrap_u64, hpe, Nat.pow_succ]
          omega
      case measure => simp [intOf]
end Go.Proofs.Qxb6600537aDoor
