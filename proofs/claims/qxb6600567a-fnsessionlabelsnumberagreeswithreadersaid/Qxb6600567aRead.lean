import Derived.Test.Qxb6600567aTab
namespace Go.Proofs.Qxb6600567a
open Go.ChangeShapes Go.WideShapes Go.ChangeAt Go.RowKit
set_option linter.unusedVariables false

set_option maxRecDepth 8000 in
set_option maxHeartbeats 2000000 in
theorem read_main (a0 a1 : Option Addr) (n cap0 cap1 : Nat) (z0 z1 : List Int) (w : World) (w0 : IsRow .i64 w a0 n cap0 z0) (w1 : IsRow .u64 w a1 n cap1 z1) (hn : n ≤ 4096) :
    Calls Try.prog 4 #[.slice a0 n cap0, .slice a1 n cap1] w fun e w' => e = .returned (.bool true) ∧ Below w.heap.size w w' := by
  have hn0 : (n : Int) ≤ 4096 := by omega
  have hb : n + n ≤ 1048576 := by omega
  go_enter Try.func4, Try.ntmps4
  go_wp2_with (go_at_call 11; refine (bytesR_ok _ _ _ _ _ _ _ hb).mono ?_; rintro e w' ⟨rfl, rfl⟩)
  refine (clone_any_i _ _ _ _ _ (by omega) w0).mono ?_
  rintro e wb ⟨b0, rfl, hb0, r0⟩
  go_wp2_with fail
  refine (clone_any_u _ _ _ _ _ (by omega) (w1.below hb0)).mono ?_
  rintro e wv ⟨b1, rfl, hb1, r1⟩
  have R0 := r0.below hb1
  have hbc := hb0.trans (hb1.mono hb0.size)
  clear r0 hb0 hb1 w0 w1
  obtain ⟨f, hf⟩ : ∃ f, f = fun i => z0.getD i 0 := ⟨_, rfl⟩
  obtain ⟨g, hg⟩ : ∃ f, f = fun i => z1.getD i 0 := ⟨_, rfl⟩
  rw [← hf] at R0
  rw [← hg] at r1
  clear hf hg
  have q38 := zero38
  have q39 := zero39
  have q40 := zero40
  go_wp2_with fail
  obtain ⟨T0, S0⟩ := start_facts wv (fun _ => (0, 0, 0))
  have hB0 : Below wv.heap.size wv ((((wv.alloc (.cells #[.slice none 0 0, .int .i64 0] 29)).alloc (.cells zB 38)).alloc (.cells zI 39)).alloc (.cells zU 40)) := by go_grown
  obtain ⟨W0, hW0⟩ : ∃ W, W = (((wv.alloc (.cells #[.slice none 0 0, .int .i64 0] 29)).alloc (.cells zB 38)).alloc (.cells zI 39)).alloc (.cells zU 40) := ⟨_, rfl⟩
  rw [← hW0] at T0 S0 hB0 ⊢
  have hsz0 : W0.heap.size = wv.heap.size + 1 + 1 + 1 + 1 := by rw [hW0]; simp
  clear hW0 q38 q39 q40
  have HR0 : Hid (Row .i64 wv b0 n f) := R0
  have HR1 : Hid (Row .u64 wv b1 n g) := r1
  clear R0 r1
  obtain ⟨Sb, hSb⟩ : ∃ S, S = wv.heap.size := ⟨_, rfl⟩
  rw [← hSb] at T0 S0 hB0 hsz0 ⊢
  have HSb : Hid (Sb = wv.heap.size) := hSb
  clear hSb
  go_loopg [10, 11] n (fun k fv tv wr => ∃ (t m : Nat) (L : Nat → Int × Int × Int), t ≤ n ∧ k = n - t ∧ m ≤ 64 ∧ fv = .int .i64 m ∧ tv = .int .i64 t ∧ Sess wr Sb (Sb + 4) L m t ∧ Tab wr (Sb + 1) L m ∧ Below Sb wv wr)
  case atStart => exact ⟨0, 0, _, Nat.zero_le _, rfl, by omega, rfl, rfl, S0, T0, hB0⟩
  case round =>
    obtain ⟨t, m, L, ht, hgk, hm, rfl, rfl, hS, hT, hB⟩ := hrel
    have HS : Hid (Sess wr Sb (Sb + 4) L m t) := hS
    have HT : Hid (Tab wr (Sb + 1) L m) := hT
    have HG : Hid (gk = n - t) := hgk
    clear hS hT hgk S0 T0 hB0 hsz0
    by_cases hlt : t < n
    · have hlt' : (t : Int) < (n : Int) := by omega
      obtain ⟨Bf, hBf, h3, h4⟩ : ∃ B, b0 = some ⟨B, 0, none⟩ ∧ B < Sb ∧ ∀ j, j < n → wr.cell? ⟨B, j, none⟩ = some (.int .i64 (f j)) := by
        rcases HR0.out with h | ⟨B, h1, h2, h3⟩
        · omega
        · exact ⟨B, h1, by rw [HSb.out]; exact h2, fun j hj => (hB.cell (by rw [HSb.out]; exact h2)).trans (h3 j hj)⟩
      obtain ⟨Bg, hBg, g3, g4⟩ : ∃ B, b1 = some ⟨B, 0, none⟩ ∧ B < Sb ∧ ∀ j, j < n → wr.cell? ⟨B, j, none⟩ = some (.int .u64 (g j)) := by
        rcases HR1.out with h | ⟨B, h1, h2, h3⟩
        · omega
        · exact ⟨B, h1, by rw [HSb.out]; exact h2, fun j hj => (hB.cell (by rw [HSb.out]; exact h2)).trans (h3 j hj)⟩
      have cf := h4 t hlt
      have cg := g4 t hlt
      subst hBf hBg
      clear h4 g4
      have ht4 : (t : Int) ≤ 4096 := by omega
      have ht0 : (0 : Int) ≤ (t : Int) := by omega
      go_upto_region 20 with fail
      go_cut [12, 13] (fun gv dv wx => ∃ (got : Int) (df : Bool), gv = .int .i64 got ∧ dv = .bool df ∧ NumPost Sb (Sb + 4) m L t (f t) (g t) wr (.returned (.tuple #[.int .i64 got, .bool df])) wx)
      case first =>
        go_region_with (first | (go_at_call 10; refine (makeKey _ _ _).mono ?_; rintro e w' ⟨rfl, rfl⟩) | (go_at_call 9; refine (zznumber Sb (Sb + 4) m L t (f t) (g t) _ ((HS.out.alloc _).drew) hm ht0 ht4).mono ?_; rintro e w' ⟨got, df, rfl, hp⟩; replace hp : Hid (NumPost Sb (Sb + 4) m L t (f t) (g t) wr (.returned (.tuple #[.int .i64 got, .bool df])) w') := hp.under (((Kept.refl _ _ _).alloc HS.out.le _).drewN 1)))
        all_goals
          go_wp2_with fail
          go_meet
          exact ⟨got, df, rfl, rfl, hp.out⟩
      case rest =>
        obtain ⟨got, df, rfl, rfl, hp⟩ := hcut
        obtain ⟨hg1, hg64⟩ := hp.bounds hm
        have hk := hp.kept
        have hTc := HT.out.kept hk
        have HTc : Hid (Tab wc (Sb + 1) L m) := hTc
        have HP : Hid (NumPost Sb (Sb + 4) m L t (f t) (g t) wr (.returned (.tuple #[.int .i64 got, .bool df])) wc) := hp
        have hBc : Below Sb wv wc := hB.trans ⟨hk.os, hk.tape, hk.output, hk.size, fun k hk1 => hk.block k (by omega) (by omega)⟩
        have cf' : wc.cell? ⟨Bf, t, none⟩ = some (.int .i64 (f t)) := (hk.cell (by show Bf < Sb + 4; omega) (by show Bf ≠ Sb; omega)).trans cf
        have cg' : wc.cell? ⟨Bg, t, none⟩ = some (.int .u64 (g t)) := (hk.cell (by show Bg < Sb + 4; omega) (by show Bg ≠ Sb; omega)).trans cg
        clear hp hTc cf cg HT HS hB
        go_upto_block 2 with fail
        go_cut [14] (fun av wx => ∃ (v : Int) (q : Nat), av = .int .i64 v ∧ AtPost L m (f t) (g t) v ∧ wx = wc.drewN q)
        case first =>
          go_wp2_with fail
          go_loopw [14, 15] (fun av kv wx => ∃ k q : Nat, 1 ≤ k ∧ k ≤ 65 ∧ av = .int .i64 0 ∧ kv = .int .i64 k ∧ wx = wc.drewN q ∧ ∀ r, r + 1 < k → r < m → ¬ isKey L (f t) (g t) r) (fun _ kv _ => 65 - (intOf kv).toNat)
          case atStart => exact ⟨1, 0, by omega, by omega, rfl, rfl, rfl, fun r h1 h2 => by omega⟩
          case round =>
            obtain ⟨k, q, hk1, hk65, rfl, rfl, rfl, hno⟩ := hrel
            have HNO : Hid (∀ r, r + 1 < k → r < m → ¬ isKey L (f t) (g t) r) := hno
            clear hno
            by_cases hk64 : k ≤ 64
            · have k64 : (k : Int) ≤ 64 := by omega
              have k65 : (k : Int) < 65 := by omega
              have c1 := HTc.out.set.cell (i := k) (by omega)
              have c2 := HTc.out.size.cell (i := k) (by omega)
              have c3 := HTc.out.sum.cell (i := k) (by omega)
              unfold tSet at c1
              unfold tSize at c2
              unfold tSum at c3
              by_cases hkm : k ≤ m
              · rw [decide_eq_true ⟨hk1, hkm⟩] at c1
                rw [if_pos ⟨hk1, hkm⟩] at c2 c3
                obtain ⟨x, hx⟩ : ∃ x, x = (L (k - 1)).1 := ⟨_, rfl⟩
                obtain ⟨y, hy⟩ : ∃ x, x = (L (k - 1)).2.1 := ⟨_, rfl⟩
                rw [← hx] at c2
                rw [← hy] at c3
                have HX : Hid (isKey L (f t) (g t) (k - 1) ↔ (x = f t ∧ y = g t)) := by unfold isKey; rw [hx, hy]; exact Iff.rfl
                clear hx hy
                by_cases e1 : x = f t
                · have e1' : (x == f t) = true := by simpa using e1
                  by_cases e2 : y = g t
                  · have e2' : (y == g t) = true := by simpa using e2
                    have HA : Hid (AtPost L m (f t) (g t) k) := .inl ⟨k - 1, by omega, HX.out.2 ⟨e1, e2⟩, fun r hr => HNO.out r (by omega) (by omega), by omega⟩
                    clear e1 e2
                    go_wp2
                    go_quiet (fail)
                    go_wp2
                    go_meet
                    case rel => exact ⟨k, _, rfl, HA.out, World.drewN_drewN _ _ _⟩
                  · have e2' : (y == g t) = false := by simpa using e2
                    have HN2 : Hid (∀ r, r + 1 < k + 1 → r < m → ¬ isKey L (f t) (g t) r) := fun r h1 h2 => by
                      by_cases e : r = k - 1
                      · subst e; exact fun h => e2 (HX.out.1 h).2
                      · exact HNO.out r (by omega) h2
                    clear e1 e2
                    go_wp2
                    go_quiet (fail)
                    go_wp2
                    go_roundw
                    case rel => exact ⟨k + 1, _, by omega, by omega, rfl, by go_num, rfl, HN2.out⟩
                    case measure => simp [intOf]; omega
                · have e1' : (x == f t) = false := by simpa using e1
                  have HN2 : Hid (∀ r, r + 1 < k + 1 → r < m → ¬ isKey L (f t) (g t) r) := fun r h1 h2 => by
                    by_cases e : r = k - 1
                    · subst e; exact fun h => e1 (HX.out.1 h).1
                    · exact HNO.out r (by omega) h2
                  clear e1
                  go_wp2
                  go_quiet (fail)
                  go_wp2
                  go_roundw
                  case rel => exact ⟨k + 1, _, by omega, by omega, rfl, by go_num, rfl, HN2.out⟩
                  case measure => simp [intOf]; omega
              · rw [decide_eq_false (fun h => hkm h.2)] at c1
                have HN2 : Hid (∀ r, r + 1 < k + 1 → r < m → ¬ isKey L (f t) (g t) r) := fun r h1 h2 => HNO.out r (by omega) h2
                clear c2 c3
                go_wp2
                go_quiet (fail)
                go_wp2
                go_roundw
                case rel => exact ⟨k + 1, _, by omega, by omega, rfl, by go_num, rfl, HN2.out⟩
                case measure => simp [intOf]; omega
            · have HA : Hid (AtPost L m (f t) (g t) 0) := .inr ⟨fun r hr => HNO.out r (by omega) hr, rfl⟩
              go_wp2
              go_meet
              case rel => exact ⟨0, _, rfl, HA.out, rfl⟩
        case rest =>
          obtain ⟨v, q, rfl, hat, hwx⟩ := hcut
          subst hwx
          obtain ⟨gn, m', L', hgn, gn1, gn64, hm', hS', e1, e2, e3, hcase⟩ := HP.out.step hm hat
          subst hgn
          have c1 := HTc.out.set.cell (i := gn) (by omega)
          have c2 := HTc.out.size.cell (i := gn) (by omega)
          have c3 := HTc.out.sum.cell (i := gn) (by omega)
          have d1 := HTc.out.set.frozen gn
          have d2 := HTc.out.size.frozen gn
          have d3 := HTc.out.sum.frozen gn
          have hgi : (gn : Int) < 65 := by omega
          have x1 : Bf ≠ Sb + 1 := by omega
          have x2 : Bg ≠ Sb + 1 := by omega
          have x3 : Bg ≠ Sb + 1 + 1 := by omega
          have x4 : Sb + 1 ≠ Bf := by omega
          have x5 : Sb + 1 ≠ Bg := by omega
          have x6 : Sb + 1 + 1 ≠ Bg := by omega
          have HS2 : Hid (Sess (((wc.setCell ⟨Sb + 1, gn, none⟩ (.bool true)).setCell ⟨Sb + 1 + 1, gn, none⟩ (.int .i64 (f t))).setCell ⟨Sb + 1 + 1 + 1, gn, none⟩ (.int .u64 (g t))) Sb (Sb + 4) L' m' ((t : Int) + 1)) :=
            ((hS'.mid (by show Sb < Sb + 1; omega) (by show Sb + 1 < Sb + 4; omega) _).mid (by show Sb < Sb + 1 + 1; omega) (by show Sb + 1 + 1 < Sb + 4; omega) _).mid (by show Sb < Sb + 1 + 1 + 1; omega) (by show Sb + 1 + 1 + 1 < Sb + 4; omega) _
          have HT2 : Hid (Tab (((wc.setCell ⟨Sb + 1, gn, none⟩ (.bool true)).setCell ⟨Sb + 1 + 1, gn, none⟩ (.int .i64 (f t))).setCell ⟨Sb + 1 + 1 + 1, gn, none⟩ (.int .u64 (g t))) (Sb + 1) L' m') := HTc.out.stored e1 e2 e3
          have HB2 : Hid (Below Sb wv (((wc.setCell ⟨Sb + 1, gn, none⟩ (.bool true)).setCell ⟨Sb + 1 + 1, gn, none⟩ (.int .i64 (f t))).setCell ⟨Sb + 1 + 1 + 1, gn, none⟩ (.int .u64 (g t)))) :=
            ((hBc.setCell (by show Sb ≤ Sb + 1; omega) _).setCell (by show Sb ≤ Sb + 1 + 1; omega) _).setCell (by show Sb ≤ Sb + 1 + 1 + 1; omega) _
          have hM : (m : Int) ≤ 64 := by omega
          have HS3 : Hid (Sess (((wc.setCell ⟨Sb + 1, gn, none⟩ (.bool true)).setCell ⟨Sb + 1 + 1, gn, none⟩ (.int .i64 (f t))).setCell ⟨Sb + 1 + 1 + 1, gn, none⟩ (.int .u64 (g t))) Sb (Sb + 4) L' m' ((t + 1 : Nat) : Int)) := by
            rw [show ((t + 1 : Nat) : Int) = (t : Int) + 1 by omega]; exact HS2.out
          clear hat hS' e1 e2 e3 HP HTc hBc
          rcases hcase with ⟨rfl, rfl, rfl⟩ | ⟨rfl, rfl, hm64, rfl, rfl⟩ | ⟨rfl, rfl, hm64, rfl⟩
          · have y1 : ((gn : Int) == 0) = false := by simp; omega
            go_wp2
            go_roundg (n - (t + 1))
            case measure => have := HG.out; omega
            case rel => exact ⟨t + 1, m', L', by omega, rfl, hm', by go_num, by go_num, HS3.out.drewN q, ⟨HT2.out.set, HT2.out.size, HT2.out.sum⟩, below_drewN HB2.out q⟩
          · have y1 : (m : Int) < 64 := by omega
            go_wp2
            go_roundg (n - (t + 1))
            case measure => have := HG.out; omega
            case rel => exact ⟨t + 1, (m + 1), L', by omega, rfl, hm', by go_num, by go_num, HS3.out.drewN q, ⟨HT2.out.set, HT2.out.size, HT2.out.sum⟩, below_drewN HB2.out q⟩
          · have y1 : ¬ (m' : Int) < 64 := by omega
            go_wp2
            go_roundg (n - (t + 1))
            case measure => have := HG.out; omega
            case rel => exact ⟨t + 1, m', L', by omega, rfl, hm', by go_num, by go_num, HS3.out.drewN q, ⟨HT2.out.set, HT2.out.size, HT2.out.sum⟩, below_drewN HB2.out q⟩
    · go_wp2
      go_ret
      exact ⟨rfl, hbc.trans (hB.mono (by rw [HSb.out]; exact hbc.size))⟩

theorem read_walk (a0 a1 : Option Addr) (n0 cap0 n1 cap1 : Nat) (z0 z1 : List Int) (w : World) (w0 : IsRow .i64 w a0 n0 cap0 z0) (w1 : IsRow .u64 w a1 n1 cap1 z1) :
    Calls Try.prog 4 #[.slice a0 n0 cap0, .slice a1 n1 cap1] w fun e w' => e = .returned (.bool true) ∧ Below w.heap.size w w' := by
  by_cases hb : n0 + n1 ≤ 1048576
  · by_cases h0 : n0 ≤ 4096
    · have h0' : (n0 : Int) ≤ 4096 := by omega
      by_cases h1 : n1 ≤ 4096
      · have h1' : (n1 : Int) ≤ 4096 := by omega
        by_cases he : n0 = n1
        · subst he
          exact read_main a0 a1 n0 cap0 cap1 z0 z1 w w0 w1 h0
        · have he' : ((n0 : Int) != (n1 : Int)) = true := by simp; omega
          go_enter Try.func4, Try.ntmps4
          go_wp2_with (go_at_call 11; refine (bytesR_ok _ _ _ _ _ _ _ hb).mono ?_; rintro e w' ⟨rfl, rfl⟩)
          go_ret
          exact ⟨rfl, Below.refl _ _⟩
      · have h1' : 4096 < (n1 : Int) := by omega
        go_enter Try.func4, Try.ntmps4
        go_wp2_with (go_at_call 11; refine (bytesR_ok _ _ _ _ _ _ _ hb).mono ?_; rintro e w' ⟨rfl, rfl⟩)
        go_ret
        exact ⟨rfl, Below.refl _ _⟩
    · have h0' : 4096 < (n0 : Int) := by omega
      go_enter Try.func4, Try.ntmps4
      go_wp2_with (go_at_call 11; refine (bytesR_ok _ _ _ _ _ _ _ hb).mono ?_; rintro e w' ⟨rfl, rfl⟩)
      go_ret
      exact ⟨rfl, Below.refl _ _⟩
  · go_enter Try.func4, Try.ntmps4
    go_wp2_with (go_at_call 11; refine (bytesR_no _ _ _ _ _ _ _ hb).mono ?_; rintro e w' ⟨rfl, rfl⟩)
    go_ret
    exact ⟨rfl, Below.refl _ _⟩
end Go.Proofs.Qxb6600567a
