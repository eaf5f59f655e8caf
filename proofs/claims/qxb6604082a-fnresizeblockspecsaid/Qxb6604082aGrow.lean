import Derived.Test.Qxb6604082aFits
import Derived.Deep.CutBlock
import Derived.Deep.RegionHeld
namespace Go.Proofs.Qxb6604082a
open Go.ChangeShapes Go.WideShapes Go.ChangeAt Go.RowKit
set_option linter.unusedVariables false

set_option maxRecDepth 8000 in
set_option maxHeartbeats 4000000 in
theorem law_grow (x : Addr) (n cap l e K : Nat) (least : Int) (f : Nat → Int) (w : World) (hn : n ≤ 1048576) (hl : l ≤ n) (he : n < e) (he6 : e ≤ 65536) (hle : least ≤ 65536)
    (hK : (K : Int) = max (min (max (e : Int) (2 * n)) 65536) least) (hs : Src w (some x) n f) :
    Calls Try.prog 4 #[.slice (some x) n cap, .int .i64 l, .int .i64 e, .int .i64 least] w fun r w' => r = .returned (.bool true) ∧ Below w.heap.size w w' := by
  have hd : decide (n ≤ 1048576) = true := decide_eq_true hn
  have hm : n ≤ maxLen := by unfold maxLen; omega
  obtain ⟨W2, W4, hcp, hcp2, S2, S4, B2, B4, P2, P4, R4⟩ := two_copies (some x) n cap f w hs
  have hmk := make24 n n n n rfl rfl (Nat.le_refl _) (by omega)
  have q := q24
  have HS2 : Hid (W2.heap.size = w.heap.size + 1) := S2
  have HS4 : Hid (W4.heap.size = w.heap.size + 2) := S4
  have HB4 : Hid (Below w.heap.size w W4) := B4
  have HP4 : Hid (∀ j, j < n → W4.cell? ⟨w.heap.size, j, none⟩ = some (.int .u8 (f j))) := P4
  have HR4 : Hid (W4.rowIs W2.heap.size 5 n (fun j => .int .u8 (f j))) := R4
  have HK : Hid ((K : Int) = max (min (max (e : Int) (2 * n)) 65536) least) := hK
  have HSr : Hid (Src W4 (some ⟨W2.heap.size, 0, none⟩) l f) := .inr ⟨W2.heap.size, 0, rfl, by omega, fun j hj => by rw [Nat.zero_add]; exact R4.cell (by omega)⟩
  clear S2 S4 B2 B4 P2 P4 R4 hs hK
  go_enter Try.func4, Try.ntmps4
  go_wp2_with (first
    | (go_at_call 7; refine (zzBytes _ _ _ _ _ _ _ hm).mono ?_; rintro r w' ⟨rfl, rfl⟩; rw [hd])
    | (go_at_call 8; refine (zz_grow (some ⟨W2.heap.size, 0, none⟩) l n e K least W4 f hl hn he he6 hle HK.out HSr.out).mono ?_; rintro r W5 ⟨rfl, r5, b5, s5⟩))
  have HP5 : Hid (∀ j, j < n → W5.cell? ⟨w.heap.size, j, none⟩ = some (.int .u8 (f j))) := fun j hj => (b5.cell (by show w.heap.size < W4.heap.size; have := HS4.out; omega)).trans (HP4.out j hj)
  have HC5 : Hid (∀ j, j < n → W5.cell? ⟨W2.heap.size, j, none⟩ = some (.int .u8 (f j))) := fun j hj => (b5.cell (by show W2.heap.size < W4.heap.size; have := HS4.out; have := HS2.out; omega)).trans (HR4.out.cell hj)
  have HB5 : Hid (Below w.heap.size w W5) := HB4.out.trans (b5.mono (by have := HS4.out; omega))
  have HR5 : Hid (W5.rowIs W4.heap.size 5 K (fun j => .int .u8 (overlaid l f (fun _ => 0) j))) := r5
  have k1 : ¬ (K : Int) < least := by have := HK.out; omega
  have k2 : ¬ (K : Int) < e := by have := HK.out; omega
  clear r5 b5 s5 HP4 HB4 HR4 HSr hcp hcp2 hmk q
  go_loop [14] (fun iv => ∃ i : Nat, i ≤ e ∧ iv = .int .i64 i) (fun iv => e - (intOf iv).toNat)
  case atStart => exact ⟨0, Nat.zero_le _, rfl⟩
  case round =>
    obtain ⟨i, hi, rfl⟩ := hrel
    by_cases hlt : i < e
    · have c2 := HR5.out.cell (show i < K by omega)
      by_cases hil : i < l
      · have c1 := HP5.out i (by omega)
        have z : overlaid l f (fun _ => 0) i = f i := by unfold overlaid; rw [if_pos hil]
        rw [z] at c2
        go_wp2
        go_round
        case rel => exact ⟨i + 1, by omega, by go_num⟩
        case measure => simp [intOf]; omega
      · have z : overlaid l f (fun _ => 0) i = 0 := by unfold overlaid; rw [if_neg hil]
        rw [z] at c2
        go_wp2
        go_round
        case rel => exact ⟨i + 1, by omega, by go_num⟩
        case measure => simp [intOf]; omega
    · go_wp2
      go_loopw [18] (fun iv wr => ∃ i q : Nat, i ≤ n ∧ iv = .int .i64 i ∧ wr = W5.drewN q) (fun iv _ => n - (intOf iv).toNat)
      case atStart => exact ⟨0, 0, Nat.zero_le _, rfl, rfl⟩
      case round =>
        obtain ⟨k, q, hk, rfl, rfl⟩ := hrel
        by_cases hlt : k < n
        · have c1 := HP5.out k (by omega)
          have c2 := HC5.out k (by omega)
          go_wp2
          go_quiet (fail)
          go_wp2
          go_roundw
          case rel => exact ⟨k + 1, _, by omega, by go_num, rfl⟩
          case measure => simp [intOf]; omega
        · have c0 := HR5.out.cell (show 0 < K by omega)
          have c1 := HR5.out.frozen 0
          have n1 : ¬ w.heap.size = W4.heap.size := by have := HS4.out; omega
          have n2 : ¬ W2.heap.size = W4.heap.size := by have := HS4.out; have := HS2.out; omega
          by_cases h6 : (65536 : Int) < 2 * n
          · go_upto_region 54 with fail
            have k3 : ¬ (K : Int) < 65536 := by have := HK.out; omega
            have k4 : Hid ((K : Int) = least ∨ (K : Int) = e ∨ (K : Int) = 65536) := by have := HK.out; show _ ∨ _ ∨ _; omega
            clear h6
            generalize hH : (65536 : Int) = H at k3 k4 ⊢
            clear hH
            go_wp2
            · by_cases h0 : n = 0
              · have h0' : decide ((0 : Int) < (n : Int)) = false := decide_eq_false (by omega)
                go_quiet (fail)
                go_wp2
                go_ret
                exact ⟨rfl, below_drewN (below_drewN HB5.out _ |>.setCell (p := ⟨W4.heap.size, 0, none⟩) (by show w.heap.size ≤ W4.heap.size; have := HS4.out; omega) _) _⟩
              · have h0' : decide ((0 : Int) < (n : Int)) = true := decide_eq_true (by omega)
                have c2 := HP5.out 0 (by omega)
                have c3 := HC5.out 0 (by omega)
                generalize hW6 : (W5.drewN q).setCell ⟨W4.heap.size, 0, none⟩ (.int .u8 (bits .xor .u8 (overlaid l f (fun _ => 0) 0) 255)) = W6
                have d2 : W6.cell? ⟨w.heap.size, 0, none⟩ = some (.int .u8 (f 0)) := by rw [← hW6, World.cell?_setCell_far _ _ _ _ (by exact fun h => n1 h.symm)]; exact c2
                have d3 : W6.cell? ⟨W2.heap.size, 0, none⟩ = some (.int .u8 (f 0)) := by rw [← hW6, World.cell?_setCell_far _ _ _ _ (by exact fun h => n2 h.symm)]; exact c3
                have HB6 : Hid (Below w.heap.size w W6) := by rw [← hW6]; exact (below_drewN HB5.out _).setCell (p := ⟨W4.heap.size, 0, none⟩) (by show w.heap.size ≤ W4.heap.size; have := HS4.out; omega) _
                have p1 : decide (0 < n) = true := decide_eq_true (by omega)
                have p2 : 0 < n := by omega
                have p3 : (0 : Int) < n := by omega
                clear hW6 c2 c3 c0 c1
                go_quiet (fail)
                go_wp2
                go_ret
                exact ⟨rfl, below_drewN HB6.out _⟩
            · by_cases h0 : n = 0
              · have h0' : decide ((0 : Int) < (n : Int)) = false := decide_eq_false (by omega)
                go_quiet (fail)
                go_wp2
                go_ret
                exact ⟨rfl, below_drewN (below_drewN HB5.out _ |>.setCell (p := ⟨W4.heap.size, 0, none⟩) (by show w.heap.size ≤ W4.heap.size; have := HS4.out; omega) _) _⟩
              · have h0' : decide ((0 : Int) < (n : Int)) = true := decide_eq_true (by omega)
                have c2 := HP5.out 0 (by omega)
                have c3 := HC5.out 0 (by omega)
                generalize hW6 : (W5.drewN q).setCell ⟨W4.heap.size, 0, none⟩ (.int .u8 (bits .xor .u8 (overlaid l f (fun _ => 0) 0) 255)) = W6
                have d2 : W6.cell? ⟨w.heap.size, 0, none⟩ = some (.int .u8 (f 0)) := by rw [← hW6, World.cell?_setCell_far _ _ _ _ (by exact fun h => n1 h.symm)]; exact c2
                have d3 : W6.cell? ⟨W2.heap.size, 0, none⟩ = some (.int .u8 (f 0)) := by rw [← hW6, World.cell?_setCell_far _ _ _ _ (by exact fun h => n2 h.symm)]; exact c3
                have HB6 : Hid (Below w.heap.size w W6) := by rw [← hW6]; exact (below_drewN HB5.out _).setCell (p := ⟨W4.heap.size, 0, none⟩) (by show w.heap.size ≤ W4.heap.size; have := HS4.out; omega) _
                have p1 : decide (0 < n) = true := decide_eq_true (by omega)
                have p2 : 0 < n := by omega
                have p3 : (0 : Int) < n := by omega
                clear hW6 c2 c3 c0 c1
                go_quiet (fail)
                go_wp2
                go_ret
                exact ⟨rfl, below_drewN HB6.out _⟩
            · exfalso
              have h := ‹(((K : Int) != least) = true ∧ ((K : Int) != (e : Int)) = true) ∧ ((K : Int) != H) = true›
              have h4 := k4.out
              simp only [bne_iff_ne] at h
              rcases h4 with h4 | h4 | h4
              · exact h.1.1 h4
              · exact h.1.2 h4
              · exact h.2 h4
            · by_cases h0 : n = 0
              · have h0' : decide ((0 : Int) < (n : Int)) = false := decide_eq_false (by omega)
                go_quiet (fail)
                go_wp2
                go_ret
                exact ⟨rfl, below_drewN (below_drewN HB5.out _ |>.setCell (p := ⟨W4.heap.size, 0, none⟩) (by show w.heap.size ≤ W4.heap.size; have := HS4.out; omega) _) _⟩
              · have h0' : decide ((0 : Int) < (n : Int)) = true := decide_eq_true (by omega)
                have c2 := HP5.out 0 (by omega)
                have c3 := HC5.out 0 (by omega)
                generalize hW6 : (W5.drewN q).setCell ⟨W4.heap.size, 0, none⟩ (.int .u8 (bits .xor .u8 (overlaid l f (fun _ => 0) 0) 255)) = W6
                have d2 : W6.cell? ⟨w.heap.size, 0, none⟩ = some (.int .u8 (f 0)) := by rw [← hW6, World.cell?_setCell_far _ _ _ _ (by exact fun h => n1 h.symm)]; exact c2
                have d3 : W6.cell? ⟨W2.heap.size, 0, none⟩ = some (.int .u8 (f 0)) := by rw [← hW6, World.cell?_setCell_far _ _ _ _ (by exact fun h => n2 h.symm)]; exact c3
                have HB6 : Hid (Below w.heap.size w W6) := by rw [← hW6]; exact (below_drewN HB5.out _).setCell (p := ⟨W4.heap.size, 0, none⟩) (by show w.heap.size ≤ W4.heap.size; have := HS4.out; omega) _
                have p1 : decide (0 < n) = true := decide_eq_true (by omega)
                have p2 : 0 < n := by omega
                have p3 : (0 : Int) < n := by omega
                clear hW6 c2 c3 c0 c1
                go_quiet (fail)
                go_wp2
                go_ret
                exact ⟨rfl, below_drewN HB6.out _⟩
          · go_upto_region 54 with fail
            have k3 : ¬ (K : Int) < 2 * n := by have := HK.out; omega
            have k4 : Hid ((K : Int) = least ∨ (K : Int) = e ∨ (K : Int) = 2 * n) := by have := HK.out; show _ ∨ _ ∨ _; omega
            clear h6
            generalize hH : 2 * (n : Int) = H at k3 k4 ⊢
            clear hH
            go_wp2
            · by_cases h0 : n = 0
              · have h0' : decide ((0 : Int) < (n : Int)) = false := decide_eq_false (by omega)
                go_quiet (fail)
                go_wp2
                go_ret
                exact ⟨rfl, below_drewN (below_drewN HB5.out _ |>.setCell (p := ⟨W4.heap.size, 0, none⟩) (by show w.heap.size ≤ W4.heap.size; have := HS4.out; omega) _) _⟩
              · have h0' : decide ((0 : Int) < (n : Int)) = true := decide_eq_true (by omega)
                have c2 := HP5.out 0 (by omega)
                have c3 := HC5.out 0 (by omega)
                generalize hW6 : (W5.drewN q).setCell ⟨W4.heap.size, 0, none⟩ (.int .u8 (bits .xor .u8 (overlaid l f (fun _ => 0) 0) 255)) = W6
                have d2 : W6.cell? ⟨w.heap.size, 0, none⟩ = some (.int .u8 (f 0)) := by rw [← hW6, World.cell?_setCell_far _ _ _ _ (by exact fun h => n1 h.symm)]; exact c2
                have d3 : W6.cell? ⟨W2.heap.size, 0, none⟩ = some (.int .u8 (f 0)) := by rw [← hW6, World.cell?_setCell_far _ _ _ _ (by exact fun h => n2 h.symm)]; exact c3
                have HB6 : Hid (Below w.heap.size w W6) := by rw [← hW6]; exact (below_drewN HB5.out _).setCell (p := ⟨W4.heap.size, 0, none⟩) (by show w.heap.size ≤ W4.heap.size; have := HS4.out; omega) _
                have p1 : decide (0 < n) = true := decide_eq_true (by omega)
                have p2 : 0 < n := by omega
                have p3 : (0 : Int) < n := by omega
                clear hW6 c2 c3 c0 c1
                go_quiet (fail)
                go_wp2
                go_ret
                exact ⟨rfl, below_drewN HB6.out _⟩
            · by_cases h0 : n = 0
              · have h0' : decide ((0 : Int) < (n : Int)) = false := decide_eq_false (by omega)
                go_quiet (fail)
                go_wp2
                go_ret
                exact ⟨rfl, below_drewN (below_drewN HB5.out _ |>.setCell (p := ⟨W4.heap.size, 0, none⟩) (by show w.heap.size ≤ W4.heap.size; have := HS4.out; omega) _) _⟩
              · have h0' : decide ((0 : Int) < (n : Int)) = true := decide_eq_true (by omega)
                have c2 := HP5.out 0 (by omega)
                have c3 := HC5.out 0 (by omega)
                generalize hW6 : (W5.drewN q).setCell ⟨W4.heap.size, 0, none⟩ (.int .u8 (bits .xor .u8 (overlaid l f (fun _ => 0) 0) 255)) = W6
                have d2 : W6.cell? ⟨w.heap.size, 0, none⟩ = some (.int .u8 (f 0)) := by rw [← hW6, World.cell?_setCell_far _ _ _ _ (by exact fun h => n1 h.symm)]; exact c2
                have d3 : W6.cell? ⟨W2.heap.size, 0, none⟩ = some (.int .u8 (f 0)) := by rw [← hW6, World.cell?_setCell_far _ _ _ _ (by exact fun h => n2 h.symm)]; exact c3
                have HB6 : Hid (Below w.heap.size w W6) := by rw [← hW6]; exact (below_drewN HB5.out _).setCell (p := ⟨W4.heap.size, 0, none⟩) (by show w.heap.size ≤ W4.heap.size; have := HS4.out; omega) _
                have p1 : decide (0 < n) = true := decide_eq_true (by omega)
                have p2 : 0 < n := by omega
                have p3 : (0 : Int) < n := by omega
                clear hW6 c2 c3 c0 c1
                go_quiet (fail)
                go_wp2
                go_ret
                exact ⟨rfl, below_drewN HB6.out _⟩
            · exfalso
              have h := ‹(((K : Int) != least) = true ∧ ((K : Int) != (e : Int)) = true) ∧ ((K : Int) != H) = true›
              have h4 := k4.out
              simp only [bne_iff_ne] at h
              rcases h4 with h4 | h4 | h4
              · exact h.1.1 h4
              · exact h.1.2 h4
              · exact h.2 h4
            · by_cases h0 : n = 0
              · have h0' : decide ((0 : Int) < (n : Int)) = false := decide_eq_false (by omega)
                go_quiet (fail)
                go_wp2
                go_ret
                exact ⟨rfl, below_drewN (below_drewN HB5.out _ |>.setCell (p := ⟨W4.heap.size, 0, none⟩) (by show w.heap.size ≤ W4.heap.size; have := HS4.out; omega) _) _⟩
              · have h0' : decide ((0 : Int) < (n : Int)) = true := decide_eq_true (by omega)
                have c2 := HP5.out 0 (by omega)
                have c3 := HC5.out 0 (by omega)
                generalize hW6 : (W5.drewN q).setCell ⟨W4.heap.size, 0, none⟩ (.int .u8 (bits .xor .u8 (overlaid l f (fun _ => 0) 0) 255)) = W6
                have d2 : W6.cell? ⟨w.heap.size, 0, none⟩ = some (.int .u8 (f 0)) := by rw [← hW6, World.cell?_setCell_far _ _ _ _ (by exact fun h => n1 h.symm)]; exact c2
                have d3 : W6.cell? ⟨W2.heap.size, 0, none⟩ = some (.int .u8 (f 0)) := by rw [← hW6, World.cell?_setCell_far _ _ _ _ (by exact fun h => n2 h.symm)]; exact c3
                have HB6 : Hid (Below w.heap.size w W6) := by rw [← hW6]; exact (below_drewN HB5.out _).setCell (p := ⟨W4.heap.size, 0, none⟩) (by show w.heap.size ≤ W4.heap.size; have := HS4.out; omega) _
                have p1 : decide (0 < n) = true := decide_eq_true (by omega)
                have p2 : 0 < n := by omega
                have p3 : (0 : Int) < n := by omega
                clear hW6 c2 c3 c0 c1
                go_quiet (fail)
                go_wp2
                go_ret
                exact ⟨rfl, below_drewN HB6.out _⟩

end Go.Proofs.Qxb6604082a
