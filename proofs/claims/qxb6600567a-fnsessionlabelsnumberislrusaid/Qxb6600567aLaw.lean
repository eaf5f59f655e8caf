import Derived.Test.Qxb6600567aModel
import Derived.Test.Qxb6600567aZZ
import Derived.Deep.RegionWith
namespace Go.Proofs.Qxb6600567a
open Go.ChangeShapes Go.WideShapes Go.ChangeAt Go.RowKit
set_option linter.unusedVariables false

theorem bytesL_ok (a0 a1 : Option Addr) (n0 c0 n1 c1 : Nat) (w : World) (h : n0 + n1 ≤ 1048576) :
    Calls Try.prog 5 #[.slice a0 n0 c0, .slice a1 n1 c1] w fun e w' => e = .returned (.bool true) ∧ w = w' := by
  have h0 : (n0 : Int) ≤ 1048576 := by omega
  have h2 : (n1 : Int) ≤ 1048576 := by omega
  have h3 : (n0 : Int) + n1 ≤ 1048576 := by omega
  go_enter Try.func5, Try.ntmps5
  go_wp2
  go_ret
  exact ⟨rfl, rfl⟩
theorem bytesL_no (a0 a1 : Option Addr) (n0 c0 n1 c1 : Nat) (w : World) (h : ¬ n0 + n1 ≤ 1048576) :
    Calls Try.prog 5 #[.slice a0 n0 c0, .slice a1 n1 c1] w fun e w' => e = .returned (.bool false) ∧ w = w' := by
  by_cases h0 : n0 ≤ 1048576
  · have h0' : (n0 : Int) ≤ 1048576 := by omega
    by_cases h2 : n1 ≤ 1048576
    · have h2' : (n1 : Int) ≤ 1048576 := by omega
      have h3 : 1048576 < (n0 : Int) + n1 := by omega
      go_enter Try.func5, Try.ntmps5
      go_wp2
      go_ret
      exact ⟨rfl, rfl⟩
    · have h2' : 1048576 < (n1 : Int) := by omega
      go_enter Try.func5, Try.ntmps5
      go_wp2
      go_ret
      exact ⟨rfl, rfl⟩
  · have h0' : 1048576 < (n0 : Int) := by omega
    go_enter Try.func5, Try.ntmps5
    go_wp2
    go_ret
    exact ⟨rfl, rfl⟩

theorem Sess.mid2 {w : World} {Sb N0 m : Nat} {L : Nat → Int × Int × Int} {u : Int} (h : Sess w Sb N0 L m u) {p : Addr} (h1 : Sb < p.block) (h2 : p.block < N0) (x : Value) : Sess (w.setCell p x) Sb N0 L m u := by
  obtain ⟨⟨v, a1, a2⟩, a3, a4, a5, a6, a7⟩ := h
  have hne : ∀ j, p ≠ ⟨Sb, j, none⟩ := fun j e => by rw [e] at h1; exact absurd h1 (Nat.lt_irrefl _)
  refine ⟨⟨v, by rw [World.cell?_setCell_other _ _ _ _ (hne 0)]; exact a1, ownsRow_setCell_below a2 h2 x⟩, by rw [World.cell?_setCell_other _ _ _ _ (hne 1)]; exact a3, by rw [World.frozen?_setCell]; exact a4, by rw [World.frozen?_setCell]; exact a5, a6, by simpa [World.setCell] using a7⟩
theorem Sess.below {w w' : World} {Sb N0 m : Nat} {L : Nat → Int × Int × Int} {u : Int} (h : Sess w Sb N0 L m u) (hb : Below w.heap.size w w') : Sess w' Sb N0 L m u := by
  obtain ⟨⟨v, a1, a2⟩, a3, a4, a5, a6, a7⟩ := h
  have hlt : Sb < w.heap.size := by omega
  exact ⟨⟨v, by rw [hb.cell (by exact hlt)]; exact a1, own_of_block a2 (fun g _ hg => hb.block g hg)⟩, by rw [hb.cell (by exact hlt)]; exact a3, by rw [hb.frozen (by exact hlt)]; exact a4, by rw [hb.frozen (by exact hlt)]; exact a5, a6, Nat.le_trans a7 hb.size⟩
theorem Inv.start (f g : Nat → Int) (L : Nat → Int × Int × Int) : Inv f g (fun _ => 0) 0 0 0 L (fun _ => 0) :=
  ⟨by omega, fun q h => by omega, fun q h => by omega, fun q h => by omega, fun q h => by omega, fun q h => by omega, fun q h => by omega, fun q r h => by omega, fun j h => by omega, by omega⟩

/-- The world at the loop's head. -/
theorem startL (wc : World) (n : Nat) (L : Nat → Int × Int × Int) : ((wc.alloc (.cells #[.slice none 0 0, .int .i64 0] 29)).alloc (.cells (madeCells #[.int .i64 0] n) 3)).rowIs (wc.heap.size + 1) 3 n (fun j => .int .i64 0) ∧
    Sess ((wc.alloc (.cells #[.slice none 0 0, .int .i64 0] 29)).alloc (.cells (madeCells #[.int .i64 0] n) 3)) wc.heap.size (wc.heap.size + 2) L 0 0 := by
  have e1 : (wc.alloc (.cells #[.slice none 0 0, .int .i64 0] 29)).heap.size = wc.heap.size + 1 := World.size_alloc _ _
  have r1 := World.rowIs_made (wc.alloc (.cells #[.slice none 0 0, .int .i64 0] 29)) (.int .i64 0) n 3
  rw [e1] at r1
  refine ⟨r1, ⟨⟨.slice none 0 0, ?_, World.ownsRow_nil _ _ _ _⟩, ?_, ?_, ?_, by omega, by rw [World.size_alloc, e1]; omega⟩⟩
  · rw [World.cell?_alloc_past _ _ _ (by rw [e1]; omega)]; exact cell_new rfl _ _ _ _ rfl
  · rw [World.cell?_alloc_past _ _ _ (by rw [e1]; omega)]; exact cell_new rfl _ _ _ _ rfl
  · rw [World.frozen?_alloc_past _ _ _ (by rw [e1]; omega)]; exact World.frozen?_alloc_at _ _ _ _ rfl
  · rw [World.frozen?_alloc_past _ _ _ (by rw [e1]; omega)]; exact World.frozen?_alloc_at _ _ _ _ rfl

set_option maxRecDepth 8000 in
set_option maxHeartbeats 2000000 in
theorem lru_main (a0 a1 : Option Addr) (n cap0 cap1 : Nat) (z0 z1 : List Int) (w : World) (w0 : IsRow .i64 w a0 n cap0 z0) (w1 : IsRow .u64 w a1 n cap1 z1) (hn : n ≤ 4096) :
    Calls Try.prog 3 #[.slice a0 n cap0, .slice a1 n cap1] w fun e w' => e = .returned (.bool true) ∧ Below w.heap.size w w' := by
  have hn0 : (n : Int) ≤ 4096 := by omega
  have hb : n + n ≤ 1048576 := by omega
  have hmk := run_make_row' (P := Try.prog) 22 3 (.int .i64 0) 8 Try.underlying22 info3 rfl .i64 .i64 n (by omega) (by omega)
  go_enter Try.func3, Try.ntmps3
  go_wp2_with (go_at_call 5; refine (bytesL_ok _ _ _ _ _ _ _ hb).mono ?_; rintro e w' ⟨rfl, rfl⟩)
  refine (clone_any_i _ _ _ _ _ (by omega) w0).mono ?_
  rintro e wb ⟨b0, rfl, hb0, r0⟩
  go_wp2_with fail
  refine (clone_any_u _ _ _ _ _ (by omega) (w1.below hb0)).mono ?_
  rintro e wv ⟨b1, rfl, hb1, r1⟩
  have R0 := r0.below hb1
  have hbc := hb0.trans (hb1.mono hb0.size)
  clear r0 hb0 hb1 w0 w1
  obtain ⟨f, hf⟩ : ∃ f, f = fun i => z0.getD i 0 := ⟨_, rfl⟩
  obtain ⟨g, hg⟩ : ∃ f, f = fun i => z1.getD i 0 := ⟨_, rfl⟩
  rw [← hf] at R0
  rw [← hg] at r1
  clear hf hg
  go_wp2_with fail
  obtain ⟨T0, S0⟩ := startL wv n (fun _ => (0, 0, 0))
  have hB0 : Below wv.heap.size wv ((wv.alloc (.cells #[.slice none 0 0, .int .i64 0] 29)).alloc (.cells (madeCells #[.int .i64 0] n) 3)) := by go_grown
  obtain ⟨W0, hW0⟩ : ∃ W, W = (wv.alloc (.cells #[.slice none 0 0, .int .i64 0] 29)).alloc (.cells (madeCells #[.int .i64 0] n) 3) := ⟨_, rfl⟩
  rw [← hW0] at T0 S0 hB0 ⊢
  clear hW0 hmk
  have HR0 : Hid (Row .i64 wv b0 n f) := R0
  have HR1 : Hid (Row .u64 wv b1 n g) := r1
  clear R0 r1
  obtain ⟨Sb, hSb⟩ : ∃ S, S = wv.heap.size := ⟨_, rfl⟩
  rw [← hSb] at T0 S0 hB0 ⊢
  have HSb : Hid (Sb = wv.heap.size) := hSb
  clear hSb
  go_loopg [8, 9] n (fun k mv tv wr => ∃ (t m ms : Nat) (L : Nat → Int × Int × Int) (p : Nat → Nat) (nums : Nat → Int), t ≤ n ∧ k = n - t ∧ mv = .int .i64 ms ∧ tv = .int .i64 t ∧ ms ≤ t ∧ Sess wr Sb (Sb + 2) L m t ∧ wr.rowIs (Sb + 1) 3 n (fun j => .int .i64 (nums j)) ∧ Inv f g nums t m ms L p ∧ Below Sb wv wr)
  case atStart => exact ⟨0, 0, 0, _, _, fun _ => 0, Nat.zero_le _, rfl, rfl, rfl, Nat.le_refl _, S0, T0, Inv.start f g _, hB0⟩
  case round =>
    obtain ⟨t, m, ms, L, p, nums, ht, hgk, rfl, rfl, hmt, hS, hT, hI, hB⟩ := hrel
    have HS : Hid (Sess wr Sb (Sb + 2) L m t) := hS
    have HT : Hid (wr.rowIs (Sb + 1) 3 n (fun j => .int .i64 (nums j))) := hT
    have HI : Hid (Inv f g nums t m ms L p) := hI
    have HG : Hid (gk = n - t) := hgk
    have hm := hI.le
    clear hS hT hgk hI S0 T0 hB0
    by_cases hlt : t < n
    · have hlt' : (t : Int) < (n : Int) := by omega
      obtain ⟨Bf, hBf, h3, h4⟩ : ∃ B, b0 = some ⟨B, 0, none⟩ ∧ B < Sb ∧ ∀ j, j < n → wr.cell? ⟨B, j, none⟩ = some (.int .i64 (f j)) := by
        rcases HR0.out with h | ⟨B, h1, h2, h3⟩
        · omega
        · exact ⟨B, h1, by rw [HSb.out]; exact h2, fun j hj => (hB.cell (by rw [HSb.out]; exact h2)).trans (h3 j hj)⟩
      obtain ⟨Bg, hBg, g3, g4⟩ : ∃ B, b1 = some ⟨B, 0, none⟩ ∧ B < Sb ∧ ∀ j, j < n → wr.cell? ⟨B, j, none⟩ = some (.int .u64 (g j)) := by
        rcases HR1.out with h | ⟨B, h1, h2, h3⟩
        · omega
        · exact ⟨B, h1, by rw [HSb.out]; exact h2, fun j hj => (hB.cell (by rw [HSb.out]; exact h2)).trans (h3 j hj)⟩
      have HF4 : Hid (∀ j, j < n → wr.cell? ⟨Bf, j, none⟩ = some (.int .i64 (f j))) := h4
      have HG4 : Hid (∀ j, j < n → wr.cell? ⟨Bg, j, none⟩ = some (.int .u64 (g j))) := g4
      subst hBf hBg
      clear h4 g4
      have ht4 : (t : Int) ≤ 4096 := by omega
      have ht0 : (0 : Int) ≤ (t : Int) := by omega
      have hszr : Sb + 2 ≤ wr.heap.size := HS.out.le
      go_wp2_with fail
      refine (model Bf Bg (Sb + 1) n t ms f g nums wr hlt hn (by omega) (by omega) (by omega) (by omega) HF4.out HG4.out (fun j hj => HT.out.cell hj)).mono ?_
      rintro e w2 ⟨want, wd, rfl, hmod, hb2⟩
      have HM : Hid (ModelPost f g nums t ms want wd) := hmod
      have HS2 : Hid (Sess w2 Sb (Sb + 2) L m t) := HS.out.below hb2
      have HT2 : Hid (w2.rowIs (Sb + 1) 3 n (fun j => .int .i64 (nums j))) := HT.out.of_block (hb2.block _ (by omega))
      have cf : w2.cell? ⟨Bf, t, none⟩ = some (.int .i64 (f t)) := (hb2.cell (by show Bf < wr.heap.size; omega)).trans (HF4.out t hlt)
      have cg : w2.cell? ⟨Bg, t, none⟩ = some (.int .u64 (g t)) := (hb2.cell (by show Bg < wr.heap.size; omega)).trans (HG4.out t hlt)
      have hB2 : Below Sb wv w2 := hB.trans (hb2.mono (by omega))
      clear hmod HS HT HF4 HG4 hB hb2 hszr
      go_upto_region 19 with fail
      go_cut [12, 13] (fun gv dv wx => ∃ (got : Int) (df : Bool), gv = .int .i64 got ∧ dv = .bool df ∧ NumPost Sb (Sb + 2) m L t (f t) (g t) w2 (.returned (.tuple #[.int .i64 got, .bool df])) wx)
      case first =>
        go_region_with (first | (go_at_call 10; refine (makeKey _ _ _).mono ?_; rintro e w' ⟨rfl, rfl⟩) | (go_at_call 9; refine (zznumber Sb (Sb + 2) m L t (f t) (g t) _ ((HS2.out.alloc _).drew) hm ht0 ht4).mono ?_; rintro e w' ⟨got, df, rfl, hp⟩; replace hp : Hid (NumPost Sb (Sb + 2) m L t (f t) (g t) w2 (.returned (.tuple #[.int .i64 got, .bool df])) w') := hp.under (((Kept.refl _ _ _).alloc HS2.out.le _).drewN 1)))
        all_goals
          go_wp2_with fail
          go_meet
          exact ⟨got, df, rfl, rfl, hp.out⟩
      case rest =>
        obtain ⟨got, df, rfl, rfl, hp⟩ := hcut
        have hk : Kept (Sb + 2) Sb w2 wc := by
          rcases hp with ⟨i, h1, h2, h3, h4, h5, h6⟩ | ⟨h1, h2, h3, h4, h5⟩ | ⟨h1, h2, h3, h4, h5⟩
          · exact h6
          · exact h5
          · exact h5
        obtain ⟨L', m', hS3, hout⟩ := hp.plain
        obtain ⟨eg, ed⟩ := agree HI.out hout HM.out
        obtain ⟨p', hI'⟩ := HI.out.step hout
        subst eg ed
        have hT3 : wc.rowIs (Sb + 1) 3 n (fun j => .int .i64 (nums j)) := HT2.out.of_block (hk.block _ (by omega) (by omega))
        have c1 := hT3.cell (i := t) hlt
        have c2 := hT3.frozen t
        have HS4 : Hid (Sess (wc.setCell ⟨Sb + 1, t, none⟩ (.int .i64 got)) Sb (Sb + 2) L' m' ((t + 1 : Nat) : Int)) := by
          rw [show ((t + 1 : Nat) : Int) = (t : Int) + 1 by omega]
          exact hS3.mid2 (by show Sb < Sb + 1; omega) (by show Sb + 1 < Sb + 2; omega) _
        have HT4 : Hid ((wc.setCell ⟨Sb + 1, t, none⟩ (.int .i64 got)).rowIs (Sb + 1) 3 n (fun j => .int .i64 (if j = t then got else nums j))) := (hT3.set t (.int .i64 got)).congr (fun j hj => by
          by_cases e : j = t
          · rw [if_pos e, if_pos e]
          · rw [if_neg e, if_neg e])
        have hBc : Below Sb wv wc := hB2.trans ⟨hk.os, hk.tape, hk.output, hk.size, fun k hk1 => hk.block k (by omega) (by omega)⟩
        have hB4 : Below Sb wv (wc.setCell ⟨Sb + 1, t, none⟩ (.int .i64 got)) := hBc.setCell (by show Sb ≤ Sb + 1; omega) _
        have HI2 : Hid (Inv f g (fun j => if j = t then got else nums j) (t + 1) m' (if df = true then ms else ms + 1) L' p') := hI'
        have n1 : (got != got) = false := by simp
        have n2 : (df != df) = false := by simp
        have hms4 : (ms : Int) ≤ 4096 := by omega
        clear hp hout hI' hS3 hT3 hk HM HS2 HT2 HI hBc hB2 cf cg
        cases df with
        | true =>
          go_wp2
          go_roundg (n - (t + 1))
          case measure => have := HG.out; omega
          case rel => exact ⟨t + 1, m', ms, L', p', _, by omega, rfl, rfl, by go_num, by omega, HS4.out, HT4.out, HI2.out, hB4⟩
        | false =>
          go_wp2
          go_roundg (n - (t + 1))
          case measure => have := HG.out; omega
          case rel => exact ⟨t + 1, m', ms + 1, L', p', _, by omega, rfl, by go_num, by go_num, by omega, HS4.out, HT4.out, HI2.out, hB4⟩
    · go_wp2
      go_ret
      exact ⟨rfl, hbc.trans (hB.mono (by rw [HSb.out]; exact hbc.size))⟩

theorem lru_walk (a0 a1 : Option Addr) (n0 cap0 n1 cap1 : Nat) (z0 z1 : List Int) (w : World) (w0 : IsRow .i64 w a0 n0 cap0 z0) (w1 : IsRow .u64 w a1 n1 cap1 z1) :
    Calls Try.prog 3 #[.slice a0 n0 cap0, .slice a1 n1 cap1] w fun e w' => e = .returned (.bool true) ∧ Below w.heap.size w w' := by
  by_cases hb : n0 + n1 ≤ 1048576
  · by_cases h0 : n0 ≤ 4096
    · have h0' : (n0 : Int) ≤ 4096 := by omega
      by_cases h1 : n1 ≤ 4096
      · have h1' : (n1 : Int) ≤ 4096 := by omega
        by_cases he : n0 = n1
        · subst he
          exact lru_main a0 a1 n0 cap0 cap1 z0 z1 w w0 w1 h0
        · have he' : ((n0 : Int) != (n1 : Int)) = true := by simp; omega
          go_enter Try.func3, Try.ntmps3
          go_wp2_with (go_at_call 5; refine (bytesL_ok _ _ _ _ _ _ _ hb).mono ?_; rintro e w' ⟨rfl, rfl⟩)
          go_ret
          exact ⟨rfl, Below.refl _ _⟩
      · have h1' : 4096 < (n1 : Int) := by omega
        go_enter Try.func3, Try.ntmps3
        go_wp2_with (go_at_call 5; refine (bytesL_ok _ _ _ _ _ _ _ hb).mono ?_; rintro e w' ⟨rfl, rfl⟩)
        go_ret
        exact ⟨rfl, Below.refl _ _⟩
    · have h0' : 4096 < (n0 : Int) := by omega
      go_enter Try.func3, Try.ntmps3
      go_wp2_with (go_at_call 5; refine (bytesL_ok _ _ _ _ _ _ _ hb).mono ?_; rintro e w' ⟨rfl, rfl⟩)
      go_ret
      exact ⟨rfl, Below.refl _ _⟩
  · go_enter Try.func3, Try.ntmps3
    go_wp2_with (go_at_call 5; refine (bytesL_no _ _ _ _ _ _ _ hb).mono ?_; rintro e w' ⟨rfl, rfl⟩)
    go_ret
    exact ⟨rfl, Below.refl _ _⟩
end Go.Proofs.Qxb6600567a
