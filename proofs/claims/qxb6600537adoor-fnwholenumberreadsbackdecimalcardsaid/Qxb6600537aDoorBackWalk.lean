import Derived.Test.Qxb6600537aDoorBack
namespace Go.Proofs.Qxb6600537aDoor
open Go.ChangeShapes Go.WideShapes Go.ChangeAt Go.RowKit
set_option linter.unusedVariables false

theorem IsRow.head {w : World} {a : Option Addr} {len cap : Nat} {zs : List Int} (h : IsRow .u8 w a len cap zs) (h0 : 0 < len) : ∃ b off, a = some ⟨b, off, none⟩ ∧ w.cell? ⟨b, off, none⟩ = some (.int .u8 (zs.getD 0 0)) := by
  rcases h with ⟨rfl, rfl, rfl, rfl⟩ | ⟨x, rfl, h2, h3, h4, h5, h6⟩
  · omega
  · obtain ⟨b, off, sp⟩ := x
    have hc := h5 0 (by omega)
    have hsp : sp = none := by simpa [Addr.add] using World.cell?_spot hc
    subst hsp
    exact ⟨b, off, rfl, by simpa [Addr.add] using hc⟩

theorem wpList_append_rowN {ops : Array Oper} {rest : List Oper} {o : Oper} {a : Act} {w : World} {Q : Exit → Act → World → Prop} (hgd : o.guard = none) (s x : Operand)
    (ho : o.op = .call { callee := .builtin .append, args := #[s, x], argTypes := #[22, 22] })
    (g n cap N : Nat) (F F' : Nat → Int) (hs : a.eval s = .slice (some ⟨g, 0, none⟩) n cap) (hrow : w.rowIs g 5 cap (fun j => .int .u8 (F j)))
    (ax : Option Addr) (m c : Nat) (G : Nat → Int) (hx : a.eval x = .slice ax m c) (hsrc : SrcRow w ax m G) (hroom : n + m ≤ cap) (hN : N = n + m)
    (hF : ∀ j, F' j = if n ≤ j ∧ j < N then G (j - n) else F j)
    (h : ∀ w', w'.rowIs g 5 cap (fun j => .int .u8 (F' j)) → Below g w w' → w'.heap.size = w.heap.size →
      wpList Tryd.prog ops Q rest (a.put o.dst (.slice (some ⟨g, 0, none⟩) N cap)) w') : wpList Tryd.prog ops Q (o :: rest) a w := by
  subst hN
  exact wpList_append_row hgd s x ho g n cap F hs hrow ax m c G hx hsrc hroom fun w' h1 h2 h3 => h w' (h1.congr (fun j _ => by rw [hF j])) h2 h3

set_option maxRecDepth 4000 in
set_option maxHeartbeats 2000000 in
theorem back_main (a0 : Option Addr) (n0 cap0 : Nat) (z0 : List Int) (n : Nat) (a2 : Option Addr) (n2 cap2 : Nat) (z2 : List Int) (w : World) (w0 : IsRow .u8 w a0 n0 cap0 z0) (hnn : n ≤ 18446744073709551615) (w2 : IsRow .u8 w a2 n2 cap2 z2)
    (hn : n0 + n2 ≤ 1048576) (hs : 0 < n2 → ¬ (48 ≤ z2.getD 0 0 ∧ z2.getD 0 0 ≤ 57)) (he : Errs w) :
    Calls Tryd.prog 4 #[.slice a0 n0 cap0, .int .u64 n, .slice a2 n2 cap2] w fun e w' => e = .returned (.bool true) ∧ Below w.heap.size w w' := by
  have hn0 : (n0 : Int) ≤ 1048576 := by omega
  have hn2 : (n2 : Int) ≤ 1048576 := by omega
  have hn02 : (n0 : Int) + n2 ≤ 1048576 := by omega
  have HS : Hid (0 < n2 → ¬ (48 ≤ z2.getD 0 0 ∧ z2.getD 0 0 ≤ 57)) := hs
  have H0 : Hid (IsRow .u8 w a0 n0 cap0 z0) := w0
  have H2 : Hid (IsRow .u8 w a2 n2 cap2 z2) := w2
  have HE : Hid (Errs w) := he
  have hcase : n2 = 0 ∨ (0 < n2 ∧ ∃ b off, a2 = some ⟨b, off, none⟩ ∧ w.cell? ⟨b, off, none⟩ = some (.int .u8 (z2.getD 0 0))) := by
    by_cases h : n2 = 0
    · exact .inl h
    · exact .inr ⟨by omega, w2.head (by omega)⟩
  clear hs w0 w2 he
  obtain ⟨f0, hf0⟩ : ∃ f, f = fun i => z0.getD i 0 := ⟨_, rfl⟩
  obtain ⟨f2, hf2⟩ : ∃ f, f = fun i => z2.getD i 0 := ⟨_, rfl⟩
  have hs2 : 0 < n2 → ¬ (48 ≤ f2 0 ∧ f2 0 ≤ 57) := by rw [hf2]; exact HS.out
  have HS2 : Hid (0 < n2 → ¬ (48 ≤ f2 0 ∧ f2 0 ≤ 57)) := hs2
  have HF0 : Hid (f0 = fun i => z0.getD i 0) := hf0
  have HF2 : Hid (f2 = fun i => z2.getD i 0) := hf2
  clear hs2 hf0 hf2
  rcases hcase with h2 | ⟨h2, b, off, ha2, hc2⟩
  · have h2' : ¬ (0 : Int) < (n2 : Int) := by omega
    clear h2
    go_enter Tryd.func4, Tryd.ntmps4
    go_wp2_with (go_at_call 12; refine (bytesB_ok _ _ _ _ _ _ _ _ hn).mono ?_; rintro e w' ⟨rfl, rfl⟩)
    refine (clone_any _ _ _ z0 _ (by omega) H0.out).mono ?_
    rintro e wb ⟨b0, rfl, hb0, r0⟩
    go_wp2_with fail
    refine (clone_any _ _ _ z2 _ (by omega) (H2.out.below hb0)).mono ?_
    rintro e wc ⟨b2, rfl, hb2, r2⟩
    rw [← HF0.out] at r0
    rw [← HF2.out] at r2
    have R0 := r0.below hb2
    have hbc := hb0.trans (hb2.mono hb0.size)
    clear r0 hb0 hb2
    go_wp2_with fail
    refine (utoa n hnn _).mono ?_
    rintro e wd ⟨d, bn, hd1, hd20, rfl, hbd, rn, hz, hp⟩
    have HR0 : Hid (Row wd b0 n0 f0) := R0.below hbd
    have HR2 : Hid (Row wd b2 n2 f2) := r2.below hbd
    have HRn : Hid (Row wd bn d (dq n d)) := rn
    have hbel := hbc.trans (hbd.mono hbc.size)
    clear R0 r2 hbc hbd rn
    have HZ : Hid (n / 10 ^ d = 0) := hz
    have HP : Hid (1 < d → 0 < n / 10 ^ (d - 1)) := hp
    have hd20' : (d : Int) ≤ 20 := by omega
    obtain ⟨T, hT⟩ : ∃ T, T = n0 + d + n2 := ⟨_, rfl⟩
    have hmk := make0 T (by omega) ((n0 : Int) + (d : Int) + (n2 : Int)) (by omega)
    have HT : Hid (T = n0 + d + n2) := hT
    have hba : Below wd.heap.size wd (wd.alloc (.cells (madeCells #[.int .u8 0] T) 5)) := (Below.refl _ _).alloc (Nat.le_refl _) _
    have HRg : Hid ((wd.alloc (.cells (madeCells #[.int .u8 0] T) 5)).rowIs wd.heap.size 5 T (fun _ => .int .u8 0)) := World.rowIs_made wd (.int .u8 0) T 5
    clear hz hp hT
    go_wp2_with (at_builtin; refine wpList_append_rowN rfl (.tmp 57) (.tmp 58) rfl wd.heap.size 0 T n0 (fun _ => 0) (rowA f0 n0) rfl HRg.out b0 n0 n0 f0 rfl (HR0.out.below hba).src (by have := HT.out; omega) (by omega) (rowA_eq f0 n0) ?_)
    intro w1 g1 hb1 hs1
    have hB1 := hba.trans hb1
    have G1 : Hid (w1.rowIs wd.heap.size 5 T (fun j => .int .u8 (rowA f0 n0 j))) := g1
    clear g1 hmk
    go_wp2_with (at_builtin; refine wpList_append_rowN rfl (.tmp 60) (.tmp 61) rfl wd.heap.size n0 T (n0 + d) (rowA f0 n0) (rowB f0 n n0 d) rfl G1.out bn d d (dq n d) rfl (HRn.out.below hB1).src (by have := HT.out; omega) (by omega) (fun _ => rfl) ?_)
    intro w2 g2 hb2 hs2
    have hB2 := hB1.trans hb2
    have G2 : Hid (w2.rowIs wd.heap.size 5 T (fun j => .int .u8 (rowB f0 n n0 d j))) := g2
    clear g2
    go_wp2_with (at_builtin; refine wpList_append_rowN rfl (.tmp 63) (.tmp 64) rfl wd.heap.size (n0 + d) T T (rowB f0 n n0 d) (rowC f0 f2 n n0 d T) rfl G2.out b2 n2 n2 f2 rfl (HR2.out.below hB2).src (by have := HT.out; omega) HT.out (fun _ => rfl) ?_)
    intro w3 g3 hb3 hs3
    have hB3 := hB2.trans hb3
    have HRow : Hid (Row w3 (some ⟨wd.heap.size, 0, none⟩) T (joined f0 f2 n n0 d)) := .inr ⟨wd.heap.size, rfl, by omega, fun j hj => by
      rw [g3.cell hj, rowC_joined f0 f2 n n0 d T j hj]⟩
    have hE3 := HE.out.below (hbel.trans (hB3.mono hbel.size))
    have hbel3 := hbel.trans (hB3.mono hbel.size)
    have hrun := joined_run f0 f2 n n0 d n2 HS2.out
    rw [← HT.out] at hrun
    obtain ⟨eN, eB⟩ := joined_N f0 f2 n n0 d hnn hd1 HZ.out HP.out
    have HRun : Hid (IsRun (joined f0 f2 n n0 d) T n0 (n0 + d)) := hrun
    have HE3 : Hid (Errs w3) := hE3
    clear g3 hrun hE3
    go_wp2_with fail
    refine (zzwhole T T n0 (n0 + d) _ (joined f0 f2 n n0 d) _ (by have := HT.out; omega) (Nat.le_refl _) HRow.out HE3.out HRun.out).mono ?_
    rw [eN, eB]
    rintro e w4 ⟨rfl, hb4⟩
    go_wp2
    go_ret
    exact ⟨rfl, hbel3.trans (hb4.mono hbel3.size)⟩
  · subst ha2
    have h2' : (0 : Int) < (n2 : Int) := by omega
    go_enter Tryd.func4, Tryd.ntmps4
    go_wp2_with (first | (go_at_call 12; refine (bytesB_ok _ _ _ _ _ _ _ _ hn).mono ?_; rintro e w' ⟨rfl, rfl⟩) | (go_at_call 8; refine (isDigit_no _ _ (HS.out h2)).mono ?_; rintro e w' ⟨rfl, rfl⟩))
    refine (clone_any _ _ _ z0 _ (by omega) H0.out).mono ?_
    rintro e wb ⟨b0, rfl, hb0, r0⟩
    go_wp2_with fail
    refine (clone_any _ _ _ z2 _ (by omega) (H2.out.below hb0)).mono ?_
    rintro e wc ⟨b2, rfl, hb2, r2⟩
    rw [← HF0.out] at r0
    rw [← HF2.out] at r2
    have R0 := r0.below hb2
    have hbc := hb0.trans (hb2.mono hb0.size)
    clear r0 hb0 hb2
    go_wp2_with fail
    refine (utoa n hnn _).mono ?_
    rintro e wd ⟨d, bn, hd1, hd20, rfl, hbd, rn, hz, hp⟩
    have HR0 : Hid (Row wd b0 n0 f0) := R0.below hbd
    have HR2 : Hid (Row wd b2 n2 f2) := r2.below hbd
    have HRn : Hid (Row wd bn d (dq n d)) := rn
    have hbel := hbc.trans (hbd.mono hbc.size)
    clear R0 r2 hbc hbd rn
    have HZ : Hid (n / 10 ^ d = 0) := hz
    have HP : Hid (1 < d → 0 < n / 10 ^ (d - 1)) := hp
    have hd20' : (d : Int) ≤ 20 := by omega
    obtain ⟨T, hT⟩ : ∃ T, T = n0 + d + n2 := ⟨_, rfl⟩
    have hmk := make0 T (by omega) ((n0 : Int) + (d : Int) + (n2 : Int)) (by omega)
    have HT : Hid (T = n0 + d + n2) := hT
    have hba : Below wd.heap.size wd (wd.alloc (.cells (madeCells #[.int .u8 0] T) 5)) := (Below.refl _ _).alloc (Nat.le_refl _) _
    have HRg : Hid ((wd.alloc (.cells (madeCells #[.int .u8 0] T) 5)).rowIs wd.heap.size 5 T (fun _ => .int .u8 0)) := World.rowIs_made wd (.int .u8 0) T 5
    clear hz hp hT
    go_wp2_with (at_builtin; refine wpList_append_rowN rfl (.tmp 57) (.tmp 58) rfl wd.heap.size 0 T n0 (fun _ => 0) (rowA f0 n0) rfl HRg.out b0 n0 n0 f0 rfl (HR0.out.below hba).src (by have := HT.out; omega) (by omega) (rowA_eq f0 n0) ?_)
    intro w1 g1 hb1 hs1
    have hB1 := hba.trans hb1
    have G1 : Hid (w1.rowIs wd.heap.size 5 T (fun j => .int .u8 (rowA f0 n0 j))) := g1
    clear g1 hmk
    go_wp2_with (at_builtin; refine wpList_append_rowN rfl (.tmp 60) (.tmp 61) rfl wd.heap.size n0 T (n0 + d) (rowA f0 n0) (rowB f0 n n0 d) rfl G1.out bn d d (dq n d) rfl (HRn.out.below hB1).src (by have := HT.out; omega) (by omega) (fun _ => rfl) ?_)
    intro w2 g2 hb2 hs2
    have hB2 := hB1.trans hb2
    have G2 : Hid (w2.rowIs wd.heap.size 5 T (fun j => .int .u8 (rowB f0 n n0 d j))) := g2
    clear g2
    go_wp2_with (at_builtin; refine wpList_append_rowN rfl (.tmp 63) (.tmp 64) rfl wd.heap.size (n0 + d) T T (rowB f0 n n0 d) (rowC f0 f2 n n0 d T) rfl G2.out b2 n2 n2 f2 rfl (HR2.out.below hB2).src (by have := HT.out; omega) HT.out (fun _ => rfl) ?_)
    intro w3 g3 hb3 hs3
    have hB3 := hB2.trans hb3
    have HRow : Hid (Row w3 (some ⟨wd.heap.size, 0, none⟩) T (joined f0 f2 n n0 d)) := .inr ⟨wd.heap.size, rfl, by omega, fun j hj => by
      rw [g3.cell hj, rowC_joined f0 f2 n n0 d T j hj]⟩
    have hE3 := HE.out.below (hbel.trans (hB3.mono hbel.size))
    have hbel3 := hbel.trans (hB3.mono hbel.size)
    have hrun := joined_run f0 f2 n n0 d n2 HS2.out
    rw [← HT.out] at hrun
    obtain ⟨eN, eB⟩ := joined_N f0 f2 n n0 d hnn hd1 HZ.out HP.out
    have HRun : Hid (IsRun (joined f0 f2 n n0 d) T n0 (n0 + d)) := hrun
    have HE3 : Hid (Errs w3) := hE3
    clear g3 hrun hE3
    go_wp2_with fail
    refine (zzwhole T T n0 (n0 + d) _ (joined f0 f2 n n0 d) _ (by have := HT.out; omega) (Nat.le_refl _) HRow.out HE3.out HRun.out).mono ?_
    rw [eN, eB]
    rintro e w4 ⟨rfl, hb4⟩
    go_wp2
    go_ret
    exact ⟨rfl, hbel3.trans (hb4.mono hbel3.size)⟩

set_option maxHeartbeats 1000000 in
theorem back_walk (a0 : Option Addr) (n0 cap0 : Nat) (z0 : List Int) (a1 : Int) (a2 : Option Addr) (n2 cap2 : Nat) (z2 : List Int) (w : World) (w0 : IsRow .u8 w a0 n0 cap0 z0) (w1 : (Lit.int .u64 a1).wf = true) (w2 : IsRow .u8 w a2 n2 cap2 z2) (he : Errs w) :
    Calls Tryd.prog 4 #[.slice a0 n0 cap0, .int .u64 a1, .slice a2 n2 cap2] w fun e w' => e = .returned (.bool true) ∧ Below w.heap.size w w' := by
  have hb := bounds_u64 w1
  by_cases hn : n0 + n2 ≤ 1048576
  · by_cases hs : 0 < n2 → ¬ (48 ≤ z2.getD 0 0 ∧ z2.getD 0 0 ≤ 57)
    · obtain ⟨n, rfl⟩ : ∃ n : Nat, a1 = (n : Int) := ⟨a1.toNat, by omega⟩
      exact back_main a0 n0 cap0 z0 n a2 n2 cap2 z2 w w0 (by omega) w2 hn hs he
    · have hn0 : (n0 : Int) ≤ 1048576 := by omega
      have hn2 : (n2 : Int) ≤ 1048576 := by omega
      have hn02 : (n0 : Int) + n2 ≤ 1048576 := by omega
      have hs' : 0 < n2 ∧ (48 ≤ z2.getD 0 0 ∧ z2.getD 0 0 ≤ 57) := Decidable.byContradiction fun h => hs fun h1 h2 => h ⟨h1, h2⟩
      obtain ⟨h2, hd⟩ := hs'
      obtain ⟨b, off, ha2, hc2⟩ := w2.head h2
      subst ha2
      have h2' : (0 : Int) < (n2 : Int) := by omega
      have HD : Hid (48 ≤ z2.getD 0 0 ∧ z2.getD 0 0 ≤ 57) := hd
      clear hs hd w0 w2 he
      go_enter Tryd.func4, Tryd.ntmps4
      go_wp2_with (first | (go_at_call 12; refine (bytesB_ok _ _ _ _ _ _ _ _ hn).mono ?_; rintro e w' ⟨rfl, rfl⟩) | (go_at_call 8; refine (isDigit_yes _ _ HD.out.1 HD.out.2).mono ?_; rintro e w' ⟨rfl, rfl⟩))
      go_ret
      exact ⟨rfl, Below.refl _ _⟩
  · go_enter Tryd.func4, Tryd.ntmps4
    go_wp2_with (go_at_call 12; refine (bytesB_no _ _ _ _ _ _ _ _ hn).mono ?_; rintro e w' ⟨rfl, rfl⟩)
    go_ret
    exact ⟨rfl, Below.refl _ _⟩
end Go.Proofs.Qxb6600537aDoor
