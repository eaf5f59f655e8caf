import Derived.Test.Qxb6604082aBase
namespace Go.Proofs.Qxb6604082a
open Go.ChangeShapes Go.WideShapes Go.ChangeAt Go.RowKit
set_option linter.unusedVariables false

theorem q24 (w : World) (a : Option Addr) (n c n' c' : Nat) : (binOp .neq 24 (.slice a n c) (.slice none n' c')).run Try.prog w = .ok (.bool (!a.isNone)) w := by
  simp only [binOp]
  simp [Op.equal, Op.maxDepth, Lib.run_equalIn_slice_nil w 9999 24 5 a n c n' c' Try.underlying24]

/-- What stands when the two copies are made: 'before' in block P, 'c' in block C. -/
theorem two_copies (x : Option Addr) (n cap : Nat) (f : Nat → Int) (w : World) (hs : Src w x n f) :
    ∃ W2 W4, (Builtin.copy_ #[24, 24] 3 #[.slice (some ⟨w.heap.size, 0, none⟩) n n, .slice x n cap]).run Try.prog (w.alloc (.cells (madeCells #[.int .u8 0] n) 5)) = .ok (.int .i64 (n : Int)) W2 ∧
      (Builtin.copy_ #[24, 24] 3 #[.slice (some ⟨W2.heap.size, 0, none⟩) n n, .slice x n cap]).run Try.prog (W2.alloc (.cells (madeCells #[.int .u8 0] n) 5)) = .ok (.int .i64 (n : Int)) W4 ∧
      W2.heap.size = w.heap.size + 1 ∧ W4.heap.size = w.heap.size + 2 ∧ Below w.heap.size w W2 ∧ Below w.heap.size w W4 ∧
      (∀ j, j < n → W2.cell? ⟨w.heap.size, j, none⟩ = some (.int .u8 (f j))) ∧ (∀ j, j < n → W4.cell? ⟨w.heap.size, j, none⟩ = some (.int .u8 (f j))) ∧
      W4.rowIs W2.heap.size 5 n (fun j => .int .u8 (f j)) := by
  have hba : Below w.heap.size w (w.alloc (.cells (madeCells #[.int .u8 0] n) 5)) := (Below.refl _ _).alloc (Nat.le_refl _) _
  obtain ⟨W2, h2, r2, b2, s2⟩ := copy_row (w.alloc (.cells (madeCells #[.int .u8 0] n) 5)) w.heap.size n n (fun _ => 0) (World.rowIs_made w (.int .u8 0) n 5) x n cap f (hs.below (Nat.le_refl _) hba) (Nat.le_refl _) (Nat.le_refl _)
  have B2 := hba.trans b2
  have S2 : W2.heap.size = w.heap.size + 1 := by rw [s2]; simp
  have hba2 : Below W2.heap.size W2 (W2.alloc (.cells (madeCells #[.int .u8 0] n) 5)) := (Below.refl _ _).alloc (Nat.le_refl _) _
  obtain ⟨W4, h4, r4, b4, s4⟩ := copy_row (W2.alloc (.cells (madeCells #[.int .u8 0] n) 5)) W2.heap.size n n (fun _ => 0) (World.rowIs_made W2 (.int .u8 0) n 5) x n cap f ((hs.below (Nat.le_refl _) B2).below (Nat.le_refl _) hba2) (Nat.le_refl _) (Nat.le_refl _)
  have B4 := hba2.trans b4
  have hP : ∀ j, j < n → W2.cell? ⟨w.heap.size, j, none⟩ = some (.int .u8 (f j)) := fun j hj => by rw [r2.cell hj]; unfold overlaid; rw [if_pos hj]
  refine ⟨W2, W4, h2, h4, S2, by rw [s4]; simp; omega, B2, B2.trans (B4.mono (by omega)), hP, fun j hj => ?_, r4.congr fun j hj => by unfold overlaid; rw [if_pos hj]⟩
  exact (B4.cell (by show w.heap.size < W2.heap.size; omega)).trans (hP j hj)

set_option maxRecDepth 8000 in
set_option maxHeartbeats 2000000 in
theorem law_fits (x : Addr) (n cap l e : Nat) (least : Int) (f : Nat → Int) (w : World) (hn : n ≤ 1048576) (hl : l ≤ n) (he : e ≤ n) (he6 : e ≤ 65536) (hle : least ≤ 65536) (hs : Src w (some x) n f) :
    Calls Try.prog 4 #[.slice (some x) n cap, .int .i64 l, .int .i64 e, .int .i64 least] w fun r w' => r = .returned (.bool true) ∧ Below w.heap.size w w' := by
  have hd : decide (n ≤ 1048576) = true := decide_eq_true hn
  have hm : n ≤ maxLen := by unfold maxLen; omega
  obtain ⟨W2, W4, hcp, hcp2, S2, S4, B2, B4, P2, P4, R4⟩ := two_copies (some x) n cap f w hs
  have hmk := make24 n n n n rfl rfl (Nat.le_refl _) (by omega)
  have q := q24
  have HS2 : Hid (W2.heap.size = w.heap.size + 1) := S2
  have HB4 : Hid (Below w.heap.size w W4) := B4
  have HP4 : Hid (∀ j, j < n → W4.cell? ⟨w.heap.size, j, none⟩ = some (.int .u8 (f j))) := P4
  have HR4 : Hid (W4.rowIs W2.heap.size 5 n (fun j => .int .u8 (f j))) := R4
  clear S2 S4 B2 B4 P2 P4 R4 hs
  go_enter Try.func4, Try.ntmps4
  go_wp2_with (first
    | (go_at_call 7; refine (zzBytes _ _ _ _ _ _ _ hm).mono ?_; rintro r w' ⟨rfl, rfl⟩; rw [hd])
    | (go_at_call 8; refine (zz_fits W2.heap.size l n e least W4 f hl hn he HR4.out).mono ?_; rintro r W5 ⟨rfl, r5, b5, s5⟩))
  have HP5 : Hid (∀ j, j < n → W5.cell? ⟨w.heap.size, j, none⟩ = some (.int .u8 (f j))) := fun j hj => (b5.cell (by show w.heap.size < W2.heap.size; have := HS2.out; omega)).trans (HP4.out j hj)
  have HB5 : Hid (Below w.heap.size w W5) := HB4.out.trans (b5.mono (by have := HS2.out; omega))
  have HR5 : Hid (W5.rowIs W2.heap.size 5 n (fun j => .int .u8 (zeroed l e f j))) := r5
  clear r5 b5 s5 HP4 HB4 HR4 hcp hcp2 hmk q
  go_loop [14] (fun iv => ∃ i : Nat, i ≤ e ∧ iv = .int .i64 i) (fun iv => e - (intOf iv).toNat)
  case atStart => exact ⟨0, Nat.zero_le _, rfl⟩
  case round =>
    obtain ⟨i, hi, rfl⟩ := hrel
    by_cases hlt : i < e
    · have c1 := HP5.out i (by omega)
      have c2 := HR5.out.cell (show i < n by omega)
      by_cases hil : i < l
      · have z : zeroed l e f i = f i := by unfold zeroed; rw [if_neg (by omega)]
        rw [z] at c2
        go_wp2
        go_round
        case rel => exact ⟨i + 1, by omega, by go_num⟩
        case measure => simp [intOf]; omega
      · have z : zeroed l e f i = 0 := by unfold zeroed; rw [if_pos (by omega)]
        rw [z] at c2
        go_wp2
        go_round
        case rel => exact ⟨i + 1, by omega, by go_num⟩
        case measure => simp [intOf]; omega
    · go_wp2
      go_loop [16] (fun iv => ∃ i : Nat, i ≤ n ∧ iv = .int .i64 i) (fun iv => n - (intOf iv).toNat)
      case atStart => exact ⟨0, Nat.zero_le _, rfl⟩
      case round =>
        obtain ⟨k, hk, rfl⟩ := hrel
        by_cases hlt : k < n
        · have c1 := HP5.out k (by omega)
          have c2 := HR5.out.cell (show k < n by omega)
          by_cases hkl : l ≤ k
          · by_cases hke : k < e
            · have z : zeroed l e f k = 0 := by unfold zeroed; rw [if_pos (by omega)]
              rw [z] at c2
              go_wp2
              go_round
              case rel => exact ⟨k + 1, by omega, by go_num⟩
              case measure => simp [intOf]; omega
            · have z : zeroed l e f k = f k := by unfold zeroed; rw [if_neg (by omega)]
              rw [z] at c2
              go_wp2
              go_round
              case rel => exact ⟨k + 1, by omega, by go_num⟩
              case measure => simp [intOf]; omega
          · have z : zeroed l e f k = f k := by unfold zeroed; rw [if_neg (by omega)]
            rw [z] at c2
            go_wp2
            go_round
            case rel => exact ⟨k + 1, by omega, by go_num⟩
            case measure => simp [intOf]; omega
        · by_cases h0 : e = 0
          · subst h0
            go_wp2
            go_ret
            exact ⟨rfl, HB5.out⟩
          · have c1 := HR5.out.cell (show 0 < n by omega)
            have c2 := HR5.out.frozen 0
            go_wp2
            go_quiet (fail)
            go_wp2
            go_ret
            exact ⟨rfl, below_drewN (HB5.out.setCell (p := ⟨W2.heap.size, 0, none⟩) (by show w.heap.size ≤ W2.heap.size; have := HS2.out; omega) _) _⟩
end Go.Proofs.Qxb6604082a
