import Derived.Test.Qxb6600567aSess
namespace Go.Proofs.Qxb6600567a
open Go.ChangeShapes Go.WideShapes Go.ChangeAt Go.RowKit
set_option linter.unusedVariables false

/-- Slot q bears the key. -/
def isKey (L : Nat → Int × Int × Int) (ks su : Int) (q : Nat) : Prop := (L q).1 = ks ∧ (L q).2.1 = su
def NumPost (Sb N0 m : Nat) (L : Nat → Int × Int × Int) (u ks su : Int) (w : World) (e : Ending) (w' : World) : Prop :=
  (∃ i, i < m ∧ isKey L ks su i ∧ (∀ q, q < i → ¬ isKey L ks su q) ∧ e = .returned (.tuple #[.int .i64 ((i : Int) + 1), .bool true]) ∧ Sess w' Sb N0 (updT L i (u + 1)) m (u + 1) ∧ Kept N0 Sb w w') ∨
  ((∀ q, q < m → ¬ isKey L ks su q) ∧ m < 64 ∧ e = .returned (.tuple #[.int .i64 ((m : Int) + 1), .bool false]) ∧ Sess w' Sb N0 (updS L m (ks, su, u + 1)) (m + 1) (u + 1) ∧ Kept N0 Sb w w') ∨
  ((∀ q, q < m → ¬ isKey L ks su q) ∧ m = 64 ∧ e = .returned (.tuple #[.int .i64 ((lst L m : Int) + 1), .bool false]) ∧ Sess w' Sb N0 (updS L (lst L m) (ks, su, u + 1)) m (u + 1) ∧ Kept N0 Sb w w')

theorem info44 : (Try.prog.info? 44).map (fun i => (i.zero, i.size, i.bytes)) = some (some (.agg #[.int .i64 0, .int .u64 0, .int .i64 0]), 3, 24) := by kernel_rfl

/-- The append of a new slot, as the region comes to it. -/
theorem step_push {ops : Array Oper} {o : Oper} {a : Act} {K : Act → World → Prop} {Q : Exit → Act → World → Prop} {E : Prop} {wc : World} {N0 Sb m cap : Nat} {ao : Option Addr} {L : Nat → Int × Int × Int} {ks su t : Int}
    (hg : o.guard = none) (hop : o.op = Op.call { callee := Callee.builtin Builtin.append, args := #[.tmp 66, .tmp 73], argTypes := #[27, 27] })
    (hs : a.eval (.tmp 66) = .slice ao m cap) (hx : a.eval (.tmp 73) = .slice (some ⟨wc.heap.size, 0, none⟩) 1 1) (hm : m ≤ 64)
    (hown : wc.ownsRow N0 44 3 (.slice ao m cap) m (cellsL L m)) (hlt : Sb < N0) (hle : N0 ≤ wc.heap.size)
    (hK : ∀ g' cap' w2, w2.ownsRow N0 44 3 (.slice (some ⟨g', 0, none⟩) (m + 1) cap') (m + 1) (cellsL (updS L m (ks, su, t)) (m + 1)) → Kept N0 Sb wc w2 → w2.cell? ⟨Sb, 0, none⟩ = wc.cell? ⟨Sb, 0, none⟩ → w2.cell? ⟨Sb, 1, none⟩ = wc.cell? ⟨Sb, 1, none⟩ →
      w2.frozen? ⟨Sb, 0, none⟩ = wc.frozen? ⟨Sb, 0, none⟩ → w2.frozen? ⟨Sb, 1, none⟩ = wc.frozen? ⟨Sb, 1, none⟩ → Sb < w2.heap.size → N0 ≤ w2.heap.size → K (a.put o.dst (.slice (some ⟨g', 0, none⟩) (m + 1) cap')) w2) :
    if Region.wanted o (yielded ops a.tmps) = true then Oper.wp Try.prog o a (wc.alloc (.cells #[.int .i64 ks, .int .u64 su, .int .i64 t] 44)).drew K Q else E := by
  obtain ⟨i0, hi, hz0, hz1, hz2⟩ := info_parts info44
  have hown2 : (wc.alloc (.cells #[.int .i64 ks, .int .u64 su, .int .i64 t] 44)).drew.ownsRow N0 44 3 (.slice ao m cap) m (cellsL L m) := hown.alloc _
  have hsz : (wc.alloc (.cells #[.int .i64 ks, .int .u64 su, .int .i64 t] 44)).drew.heap.size = wc.heap.size + 1 := World.size_alloc _ _
  refine step_append_own hg (.tmp 66) (.tmp 73) 27 hop N0 44 i0 (.agg #[.int .i64 0, .int .u64 0, .int .i64 0]) 3 24 Try.underlying27 hi hz0 hz1 hz2 rfl (by decide) (.slice ao m cap) m (cellsL L m) hs hown2 ⟨wc.heap.size, 0, none⟩ 1 1 [.int .i64 ks, .int .u64 su, .int .i64 t] hx rfl ?_ ?_ (by unfold maxLen; omega) (by omega) (by omega) ?_
  · intro j v hj
    match j, hj with
    | 0, hj => cases hj; exact cell_new rfl _ _ _ _ rfl
    | 1, hj => cases hj; exact cell_new rfl _ _ _ _ rfl
    | 2, hj => cases hj; exact cell_new rfl _ _ _ _ rfl
    | j + 3, hj => simp at hj
  · intro v hv
    simp only [List.mem_cons, List.not_mem_nil, or_false] at hv
    rcases hv with rfl | rfl | rfl <;> rfl
  · intro v' w2 ho hgr
    rw [cellsL_app] at ho
    obtain ⟨g', cap', rfl⟩ : ∃ g' cap', v' = .slice (some ⟨g', 0, none⟩) (m + 1) cap' := by
      rcases ho.2 with ⟨_, h⟩ | ⟨g', cap', _, h, _⟩
      · omega
      · exact ⟨g', cap', h⟩
    have hrow : ∀ k, Value.ownBlock (.slice ao m cap) = some k → N0 ≤ k := fun k hk => (hown.lt k hk).1
    have hblk : w2.heap[Sb]? = wc.heap[Sb]? := by
      rw [hgr.block Sb (by omega) (fun e => by have := hrow Sb e.symm; omega)]
      exact Below.heap_alloc _ _ _ (by omega)
    have hkept : Kept N0 Sb wc w2 := ((Kept.refl N0 Sb wc).alloc hle (.cells #[.int .i64 ks, .int .u64 su, .int .i64 t] 44)).drewN 1 |>.grown hgr (by show N0 ≤ (wc.alloc (.cells #[.int .i64 ks, .int .u64 su, .int .i64 t] 44)).drew.heap.size; omega) hrow
    have hsz2 := hgr.size
    exact hK g' cap' w2 ho hkept (World.cell?_of_block hblk) (World.cell?_of_block hblk) (World.frozen?_of_block hblk) (World.frozen?_of_block hblk) (by omega) (by omega)

theorem fin_new {w wc w2 : World} {Sb N0 m g' cap' : Nat} {L : Nat → Int × Int × Int} {u ks su : Int} {v0 : Value} (hnk : ∀ r, r < m → ¬ isKey L ks su r) (h64 : m < 64) (hlt : Sb < N0) (hk : Kept N0 Sb w wc)
    (ho : w2.ownsRow N0 44 3 (.slice (some ⟨g', 0, none⟩) (m + 1) cap') (m + 1) (cellsL (updS L m (ks, su, u + 1)) (m + 1))) (hk2 : Kept N0 Sb wc w2) (q0 : w2.cell? ⟨Sb, 0, none⟩ = some v0) (q1 : w2.cell? ⟨Sb, 1, none⟩ = some (.int .i64 (u + 1)))
    (qf0 : w2.frozen? ⟨Sb, 0, none⟩ = false) (qf1 : w2.frozen? ⟨Sb, 1, none⟩ = false) (qn : N0 ≤ w2.heap.size) :
    NumPost Sb N0 m L u ks su w (.returned (.tuple #[.int .i64 ((m : Int) + 1), .bool false])) (w2.setCell ⟨Sb, 0, none⟩ (.slice (some ⟨g', 0, none⟩) (m + 1) cap')) := by
  refine .inr (.inl ⟨hnk, h64, rfl, ⟨⟨_, World.cell?_setCell_same _ _ _ q0, ownsRow_setCell_below ho hlt _⟩, ?_, ?_, ?_, hlt, ?_⟩, (hk.trans hk2).setCell (.inl rfl) _⟩)
  · rw [World.cell?_setCell_other _ _ _ _ (by simp)]; exact q1
  · rw [World.frozen?_setCell]; exact qf0
  · rw [World.frozen?_setCell]; exact qf1
  · simpa [World.setCell] using qn
theorem fin_full {w wc : World} {Sb N0 m g cap ll : Nat} {L : Nat → Int × Int × Int} {u ks su : Int} (hnk : ∀ r, r < m → ¬ isKey L ks su r) (h64 : m = 64) (hlt : Sb < N0) (hk : Kept N0 Sb w wc) (hll : ll = lst L m) (hl : ll < m) (hg1 : N0 ≤ g)
    (ho : wc.ownsRow N0 44 3 (.slice (some ⟨g, 0, none⟩) m cap) m (cellsL L m)) (q0 : wc.cell? ⟨Sb, 0, none⟩ = some (.slice (some ⟨g, 0, none⟩) m cap)) (q1 : wc.cell? ⟨Sb, 1, none⟩ = some (.int .i64 (u + 1)))
    (qf0 : wc.frozen? ⟨Sb, 0, none⟩ = false) (qf1 : wc.frozen? ⟨Sb, 1, none⟩ = false) (qn : N0 ≤ wc.heap.size) :
    NumPost Sb N0 m L u ks su w (.returned (.tuple #[.int .i64 ((ll : Int) + 1), .bool false])) (((wc.setCell ⟨g, ll * 3, none⟩ (.int .i64 ks)).setCell ⟨g, ll * 3 + 1, none⟩ (.int .u64 su)).setCell ⟨g, ll * 3 + 2, none⟩ (.int .i64 (u + 1))).drew := by
  have hne : ∀ j i, (⟨g, j, none⟩ : Addr) ≠ ⟨Sb, i, none⟩ := fun j i h => by injection h with h1 _ _; omega
  subst hll
  refine .inr (.inr ⟨hnk, h64, rfl, Sess.drew ⟨⟨_, ?_, own_updS ho hl⟩, ?_, ?_, ?_, hlt, ?_⟩, (((hk.setCell (.inr hg1) _).setCell (.inr hg1) _).setCell (.inr hg1) _).drewN 1⟩)
  · rw [World.cell?_setCell_other _ _ _ _ (hne _ _), World.cell?_setCell_other _ _ _ _ (hne _ _), World.cell?_setCell_other _ _ _ _ (hne _ _)]; exact q0
  · rw [World.cell?_setCell_other _ _ _ _ (hne _ _), World.cell?_setCell_other _ _ _ _ (hne _ _), World.cell?_setCell_other _ _ _ _ (hne _ _)]; exact q1
  · simpa using qf0
  · simpa using qf1
  · simpa [World.setCell] using qn

set_option maxRecDepth 4000 in
set_option maxHeartbeats 2000000 in
theorem number_any (Sb N0 m : Nat) (L : Nat → Int × Int × Int) (u ks su : Int) (w : World) (hs : Sess w Sb N0 L m u) (hm : m ≤ 64) (hu0 : 0 ≤ u) (hu : u ≤ 4096) :
    Calls Try.prog 12 #[.pointer (some ⟨Sb, 0, none⟩), .agg #[.int .i64 ks, .int .u64 su]] w fun e w' => NumPost Sb N0 m L u ks su w e w' := by
  obtain ⟨⟨v, hv, hown⟩, hus, f0, f1, hlt, hle⟩ := hs
  obtain ⟨ao, cap, rfl⟩ : ∃ ao cap, v = .slice ao m cap := by
    rcases hown.2 with ⟨h, h'⟩ | ⟨g, cap, _, h, _⟩
    · exact ⟨none, 0, by rw [h, h']⟩
    · exact ⟨_, cap, h⟩
  have hSb : Sb < w.heap.size := by omega
  go_enter Try.func12, Try.ntmps12
  go_upto_block 0 with fail
  obtain ⟨W1, hW1⟩ : ∃ W, W = (w.setCell ⟨Sb, 1, none⟩ (.int .i64 (u + 1))).alloc (.cells #[.int .i64 ks, .int .u64 su] 36) := ⟨_, rfl⟩
  rw [← hW1]
  have s0 : W1.cell? ⟨Sb, 0, none⟩ = some (.slice ao m cap) := by
    rw [hW1, World.cell?_alloc_past _ _ _ (by simpa [World.setCell] using hSb), World.cell?_setCell_other _ _ _ _ (by simp)]; exact hv
  have s1 : W1.cell? ⟨Sb, 1, none⟩ = some (.int .i64 (u + 1)) := by
    rw [hW1, World.cell?_alloc_past _ _ _ (by simpa [World.setCell] using hSb)]; exact World.cell?_setCell_same _ _ _ hus
  have hsz1 : W1.heap.size = w.heap.size + 1 := by rw [hW1]; simp [World.setCell]
  have b0 : W1.cell? ⟨w.heap.size, 0, none⟩ = some (.int .i64 ks) := by rw [hW1]; exact cell_new (by simp [World.setCell]) _ _ _ _ rfl
  have b1 : W1.cell? ⟨w.heap.size, 1, none⟩ = some (.int .u64 su) := by rw [hW1]; exact cell_new (by simp [World.setCell]) _ _ _ _ rfl
  have own1 : W1.ownsRow N0 44 3 (.slice ao m cap) m (cellsL L m) := by rw [hW1]; exact (ownsRow_setCell_below hown hlt _).alloc _
  have fr0 : W1.frozen? ⟨Sb, 0, none⟩ = false := by
    rw [hW1, World.frozen?_alloc_past _ _ _ (by simpa [World.setCell] using hSb), World.frozen?_setCell]; exact f0
  have fr1 : W1.frozen? ⟨Sb, 1, none⟩ = false := by
    rw [hW1, World.frozen?_alloc_past _ _ _ (by simpa [World.setCell] using hSb), World.frozen?_setCell]; exact f1
  have hK1 : Kept N0 Sb w W1 := by
    rw [hW1]; exact ((Kept.refl N0 Sb w).setCell (.inl rfl) _).alloc (by simpa [World.setCell] using hle) _
  have HK : Hid (Kept N0 Sb w W1) := hK1
  have HO : Hid (W1.ownsRow N0 44 3 (.slice ao m cap) m (cellsL L m)) := own1
  clear hW1 own1 hown hv hus f0 f1 hK1
  go_cut [6] (fun lw wr => lw = .int .i64 (lst L m) ∧ Below W1.heap.size W1 wr ∧ ∀ r, r < m → ¬ isKey L ks su r)
  case first =>
    go_wp2_with fail
    go_loopw [6, 21] (fun lw iw wr => ∃ q : Nat, q ≤ m ∧ iw = .int .i64 q ∧ lw = .int .i64 (lst L q) ∧ Below W1.heap.size W1 wr ∧ ∀ r, r < q → ¬ isKey L ks su r) (fun _ iw _ => m - (intOf iw).toNat)
    case atStart => exact ⟨0, Nat.zero_le _, rfl, rfl, Below.refl _ _, fun r hr => absurd hr (Nat.not_lt_zero _)⟩
    case round =>
      obtain ⟨q, hq, rfl, rfl, hB, hnk⟩ := hrel
      have HNK : Hid (∀ r, r < q → ¬ isKey L ks su r) := hnk
      clear hnk
      by_cases hlt2 : q < m
      · obtain ⟨g, hg, hg1, hg2, hgf, hgc⟩ := own_at HO.out (by omega)
        subst hg
        have c0 : wr.cell? ⟨g, q * 3, none⟩ = some (.int .i64 (L q).1) := by rw [hB.cell (by exact hg2), hgc _ (by omega), cellF0]
        have c1 : wr.cell? ⟨g, q * 3 + 1, none⟩ = some (.int .u64 (L q).2.1) := by rw [hB.cell (by exact hg2), hgc _ (by omega), cellF1]
        have c2 : wr.cell? ⟨g, q * 3 + 2, none⟩ = some (.int .i64 (L q).2.2) := by rw [hB.cell (by exact hg2), hgc _ (by omega), cellF2]
        have hl : lst L q < m := lst_lt' L q m hlt2
        have c3 : wr.cell? ⟨g, lst L q * 3 + 2, none⟩ = some (.int .i64 (L (lst L q)).2.2) := by rw [hB.cell (by exact hg2), hgc _ (by omega), cellF2]
        have cf : wr.frozen? ⟨g, q * 3 + 2, none⟩ = false := by rw [hB.frozen (by exact hg2)]; exact hgf _
        have t0 := (hB.cell (p := ⟨w.heap.size, 0, none⟩) (by rw [hsz1]; exact Nat.lt_succ_self _)).trans b0
        have t1 := (hB.cell (p := ⟨w.heap.size, 1, none⟩) (by rw [hsz1]; exact Nat.lt_succ_self _)).trans b1
        have p0 := (hB.cell (p := ⟨Sb, 0, none⟩) (by rw [hsz1]; exact Nat.lt_succ_of_lt hSb)).trans s0
        have p1 := (hB.cell (p := ⟨Sb, 1, none⟩) (by rw [hsz1]; exact Nat.lt_succ_of_lt hSb)).trans s1
        have pf0 := (hB.frozen (p := ⟨Sb, 0, none⟩) (by rw [hsz1]; exact Nat.lt_succ_of_lt hSb)).trans fr0
        have pf1 := (hB.frozen (p := ⟨Sb, 1, none⟩) (by rw [hsz1]; exact Nat.lt_succ_of_lt hSb)).trans fr1
        have hOr : Hid (wr.ownsRow N0 44 3 (.slice (some ⟨g, 0, none⟩) m cap) m (cellsL L m)) := own_of_block HO.out (fun k _ hk => hB.block k hk)
        have hKr : Hid (Kept N0 Sb w wr) := HK.out.below hB (by omega)
        have z0 : w.heap.size < wr.heap.size := by have := hB.size; omega
        have z1 : g < wr.heap.size := by have := hB.size; omega
        have z2 : Sb < wr.heap.size := by omega
        have hstep : lst L (q + 1) = if (L q).2.2 < (L (lst L q)).2.2 then q else lst L q := rfl
        obtain ⟨ll, hll⟩ : ∃ l, l = lst L q := ⟨_, rfl⟩
        obtain ⟨lt, hlt3⟩ : ∃ t, t = (L (lst L q)).2.2 := ⟨_, rfl⟩
        obtain ⟨x, hx⟩ : ∃ x, x = (L q).1 := ⟨_, rfl⟩
        obtain ⟨y, hy⟩ : ∃ x, x = (L q).2.1 := ⟨_, rfl⟩
        obtain ⟨tt, ht⟩ : ∃ x, x = (L q).2.2 := ⟨_, rfl⟩
        rw [← hx] at c0
        rw [← hy] at c1
        rw [← ht] at c2
        rw [← hlt3, ← hll] at c3
        rw [← ht, ← hlt3, ← hll] at hstep
        rw [← hll] at hl ⊢
        have hl' : (ll : Int) < (m : Int) := by omega
        have hq' : (q : Int) < (m : Int) := by omega
        have HST : Hid (lst L (q + 1) = if tt < lt then q else ll) := hstep
        have HX : Hid (isKey L ks su q ↔ (x = ks ∧ y = su)) := by unfold isKey; rw [hx, hy]; exact Iff.rfl
        clear hstep hll hlt3 hx hy ht hgc hgf
        by_cases hkey : x = ks ∧ y = su
        · obtain ⟨rfl, rfl⟩ := hkey
          have hSx : Hid (Sess (wr.setCell ⟨g, q * 3 + 2, none⟩ (.int .i64 (u + 1))) Sb N0 (updT L q (u + 1)) m (u + 1)) := by
            have hne : (⟨g, q * 3 + 2, none⟩ : Addr) ≠ ⟨Sb, 0, none⟩ := by intro h; simp at h
            have hne1 : (⟨g, q * 3 + 2, none⟩ : Addr) ≠ ⟨Sb, 1, none⟩ := by intro h; simp at h
            exact ⟨⟨_, by rw [World.cell?_setCell_other _ _ _ _ hne]; exact p0, own_updT hOr.out hlt2⟩, by rw [World.cell?_setCell_other _ _ _ _ hne1]; exact p1, by rw [World.frozen?_setCell]; exact pf0, by rw [World.frozen?_setCell]; exact pf1, hlt, by simp [World.setCell]; omega⟩
          have hKx : Hid (Kept N0 Sb w (wr.setCell ⟨g, q * 3 + 2, none⟩ (.int .i64 (u + 1)))) := hKr.out.setCell (.inr hg1) _
          have hIk : Hid (isKey L x y q) := HX.out.2 ⟨rfl, rfl⟩
          go_wp2_with fail
          go_region
          go_wp2
          go_ret2
          exact .inl ⟨q, hlt2, hIk.out, HNK.out, rfl, (hSx.out.alloc _).drew, (hKx.out.alloc (by simp [World.setCell]; omega) _).drewN 1⟩
        · have hne' : ((x == ks) = false) ∨ ((x == ks) = true ∧ (y == su) = false) := by
            by_cases e1 : x = ks
            · exact .inr ⟨by simpa using e1, by simpa using fun e2 => hkey ⟨e1, e2⟩⟩
            · exact .inl (by simpa using e1)
          have HK2 : Hid (∀ r, r < q + 1 → ¬ isKey L ks su r) := fun r hr => by
            by_cases e : r = q
            · subst e; exact fun h => hkey (HX.out.1 h)
            · exact HNK.out r (by omega)
          clear hkey
          have hBe : Below W1.heap.size W1 (wr.alloc (.cells #[.int .i64 x, .int .u64 y, .int .i64 tt] 44)) := hB.alloc hB.size _
          by_cases hlt4 : tt < lt
          · rw [if_pos hlt4] at HST
            rcases hne' with e1 | ⟨e1, e2⟩
            all_goals
              go_wp2_with fail
              go_quiet (fail)
              go_wp2
              go_roundw
              case rel => exact ⟨q + 1, by omega, by go_num, by rw [HST.out], below_drewN hBe _, HK2.out⟩
              case measure => simp [intOf]; omega
          · rw [if_neg hlt4] at HST
            rcases hne' with e1 | ⟨e1, e2⟩
            all_goals
              go_wp2_with fail
              go_quiet (fail)
              go_wp2
              go_roundw
              case rel => exact ⟨q + 1, by omega, by go_num, by rw [HST.out], below_drewN hBe _, HK2.out⟩
              case measure => simp [intOf]; omega
      · have hqm : q = m := by omega
        subst hqm
        go_wp2
        go_meet
        case rel => exact ⟨rfl, hB, HNK.out⟩
  case rest =>
    obtain ⟨rfl, hB, hnk⟩ := hcut
    have HNK : Hid (∀ r, r < m → ¬ isKey L ks su r) := hnk
    have t0 := (hB.cell (p := ⟨w.heap.size, 0, none⟩) (by rw [hsz1]; exact Nat.lt_succ_self _)).trans b0
    have t1 := (hB.cell (p := ⟨w.heap.size, 1, none⟩) (by rw [hsz1]; exact Nat.lt_succ_self _)).trans b1
    have p0 := (hB.cell (p := ⟨Sb, 0, none⟩) (by rw [hsz1]; exact Nat.lt_succ_of_lt hSb)).trans s0
    have p1 := (hB.cell (p := ⟨Sb, 1, none⟩) (by rw [hsz1]; exact Nat.lt_succ_of_lt hSb)).trans s1
    have pf0 := (hB.frozen (p := ⟨Sb, 0, none⟩) (by rw [hsz1]; exact Nat.lt_succ_of_lt hSb)).trans fr0
    have pf1 := (hB.frozen (p := ⟨Sb, 1, none⟩) (by rw [hsz1]; exact Nat.lt_succ_of_lt hSb)).trans fr1
    have hOr : Hid (wc.ownsRow N0 44 3 (.slice ao m cap) m (cellsL L m)) := own_of_block HO.out (fun k _ hk => hB.block k hk)
    have hKr : Hid (Kept N0 Sb w wc) := HK.out.below hB (by omega)
    have z0 : w.heap.size < wc.heap.size := by have := hB.size; omega
    have z2 : Sb < wc.heap.size := by omega
    have hNc : N0 ≤ wc.heap.size := by omega
    clear hnk s0 s1 b0 b1 fr0 fr1 HO HK
    by_cases h64 : m < 64
    · have h64' : (m : Int) < 64 := by omega
      go_wp2
      go_region_law (refine step_push (Sb := Sb) rfl rfl (by simp [Act.eval]) (by simp [Act.eval]) hm hOr.out hlt hNc ?_; intro g' cap' w2 ho2 hk2 q0 q1 qf0 qf1 qz qn; rw [p0] at q0; rw [p1] at q1; rw [pf0] at qf0; rw [pf1] at qf1; replace ho2 : Hid (w2.ownsRow N0 44 3 (.slice (some ⟨g', 0, none⟩) (m + 1) cap') (m + 1) (cellsL (updS L m (ks, su, u + 1)) (m + 1))) := ho2; replace hk2 : Hid (Kept N0 Sb wc w2) := hk2)
      all_goals
        go_wp2
        go_ret2
        exact fin_new HNK.out h64 hlt hKr.out ho2.out hk2.out q0 q1 qf0 qf1 qn
    · have h64' : ¬ (m : Int) < 64 := by omega
      have HM : Hid (m = 64) := by show m = 64; omega
      obtain ⟨g, hg, hg1, hg2, hgf, hgc⟩ := own_at hOr.out (by omega)
      subst hg
      obtain ⟨ll, hll⟩ : ∃ l, l = lst L m := ⟨_, rfl⟩
      have hl : ll < m := by rw [hll]; exact lst_lt L m (by omega)
      rw [← hll]
      have HL : Hid (ll = lst L m) := hll
      have hl' : (ll : Int) < (m : Int) := by omega
      have c0 : wc.cell? ⟨g, ll * 3, none⟩ = some (.int .i64 (L ll).1) := by rw [hgc _ (by omega), cellF0]
      have c1 : wc.cell? ⟨g, ll * 3 + 1, none⟩ = some (.int .u64 (L ll).2.1) := by rw [hgc _ (by omega), cellF1]
      have c2 : wc.cell? ⟨g, ll * 3 + 2, none⟩ = some (.int .i64 (L ll).2.2) := by rw [hgc _ (by omega), cellF2]
      have e0 := hgf (ll * 3)
      have e1 := hgf (ll * 3 + 1)
      have e2 := hgf (ll * 3 + 2)
      clear hgc hgf hll
      go_wp2
      go_region
      go_wp2
      go_ret2
      exact fin_full HNK.out HM.out hlt hKr.out HL.out hl hg1 hOr.out p0 p1 pf0 pf1 hNc
end Go.Proofs.Qxb6600567a
