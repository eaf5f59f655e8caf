import Derived.Test.Qxb6600537aDoorClone
import Derived.Test.Qxb6600537aDoorShelf
import Derived.Test.Qxb6600537aDoorPlain
import Derived.Laws.IdiomStrings
import Derived.Lib.AtoiErrMem
import Derived.Deep.CutBlock
import Derived.Deep.LoopGhost
import Derived.Deep.DeepCutAuto
namespace Go.Proofs.Qxb6600537aDoor
open Go.ChangeShapes Go.WideShapes Go.ChangeAt Go.RowKit
set_option linter.unusedVariables false

theorem parse_ok (s : ByteArray) (hmax : s.size ≤ 9223372036854775806) (u : Nat) (h : Lib.parseUintB 64 s.data.toList = .ok u) (w : World) :
    Calls Tryd.prog 22 #[.string s, .int .i64 10, .int .i64 64] w fun e w' => e = .returned (.tuple #[.int .u64 u, .nilIface]) ∧ Below w.heap.size w w' := by
  refine (Any.strconv_ParseUint_10_at64_ok laysPu14 s hmax u h w).mono ?_
  rintro e w' ⟨rfl, rfl | rfl⟩
  · exact ⟨rfl, Below.refl _ _⟩
  · exact ⟨rfl, Lib.bytesWorld_below _ _ _⟩

/-- What the two variables of the library's hold: an interface value each. -/
def Errs (w : World) : Prop := ∃ t0 p0 t1 p1, w.cell? ⟨1, 0, none⟩ = some (.iface t0 p0) ∧ w.cell? ⟨2, 0, none⟩ = some (.iface t1 p1)
theorem Errs.below {w w' : World} (h : Errs w) (hb : Below w.heap.size w w') : Errs w' := by
  obtain ⟨t0, p0, t1, p1, h0, h1⟩ := h
  exact ⟨t0, p0, t1, p1, cell_later hb h0, cell_later hb h1⟩

theorem parse_empty (w : World) (he : Errs w) :
    Calls Tryd.prog 22 #[.string ⟨#[]⟩, .int .i64 10, .int .i64 64] w fun e w' => ∃ N : Nat, e = .returned (.tuple #[.int .u64 0, .iface 57 (.pointer (some ⟨N, 0, none⟩))]) ∧ Below w.heap.size w w' := by
  obtain ⟨t0, p0, t1, p1, h0, h1⟩ := he
  refine (Any.strconv_ParseUint_10_at64_syntax laysPu14 ⟨#[]⟩ (by decide) rfl _ w h0 (Or.inr ⟨_, _, rfl⟩)).mono ?_
  rintro e w' ⟨N, rfl, -, -, hb⟩
  exact ⟨N, rfl, hb⟩
theorem parse_range (s : ByteArray) (hlim : s.size ≤ 281474976710656) (h : Lib.parseUintB 64 s.data.toList = .range) (w : World) (he : Errs w) :
    Calls Tryd.prog 22 #[.string s, .int .i64 10, .int .i64 64] w fun e w' => ∃ N : Nat, e = .returned (.tuple #[.int .u64 18446744073709551615, .iface 57 (.pointer (some ⟨N, 0, none⟩))]) ∧ Below w.heap.size w w' := by
  obtain ⟨t0, p0, t1, p1, h0, h1⟩ := he
  refine (Any.strconv_ParseUint_10_at64_range laysPu14 s hlim h _ w h1 (Or.inr ⟨_, _, rfl⟩)).mono ?_
  rintro e w' ⟨N, rfl, -, -, hb⟩
  exact ⟨N, rfl, hb⟩

/-- 'string(d)' of a slice of no byte. -/
theorem conv_empty (a : Option Addr) (cap : Nat) (w : World) : (convert 22 9 (.slice a 0 cap)).run Tryd.prog w = .ok (.string ⟨#[]⟩) w := by
  cases a with
  | none =>
    rw [run_convert_bytes_string w 22 9 5 none 0 cap Tryd.underlying22 Tryd.underlying5 Tryd.underlying9]
    rfl
  | some a =>
    exact run_convert_bytes_back w 22 9 5 a cap [] Tryd.underlying22 Tryd.underlying5 Tryd.underlying9 (fun j hj => absurd hj (Nat.not_lt_zero _))

theorem conv_some (b o m cap : Nat) (f : Nat → Int) (i : Nat) (w : World) (hd : ∀ q, q < m → 48 ≤ f (i + q) ∧ f (i + q) ≤ 57)
    (hc : ∀ q, q < m → w.cell? ⟨b, o + q, none⟩ = some (.int .u8 (f (i + q)))) : (convert 22 9 (.slice (some ⟨b, o, none⟩) m cap)).run Tryd.prog w = .ok (.string ⟨(bytesOf f i m).toArray⟩) w := by
  have h := run_convert_bytes_back w 22 9 5 ⟨b, o, none⟩ cap (bytesOf f i m) Tryd.underlying22 Tryd.underlying5 Tryd.underlying9 (fun j hj => by
    have hj' : j < m := by rw [bytesOf_len] at hj; exact hj
    have h2 := hd j hj'
    rw [bytesOf_get f i m j hj (by omega) (by omega)]
    rw [add_plain]; exact hc j hj')
  rw [bytesOf_len] at h
  exact h

set_option maxRecDepth 4000 in
set_option maxHeartbeats 1000000 in
/-- the loop of wholeNumber, and what follows, the digits' end known -/
theorem whole (Sb n cp i j : Nat) (a : Option Addr) (f : Nat → Int) (w : World) (hn : n ≤ 2097152) (hcp : n ≤ cp) (hr : Row w a n f) (hlow : ∀ B, a = some ⟨B, 0, none⟩ → 0 < n → B < Sb) (hS : Sb < w.heap.size) (he : ∀ w', Below Sb w w' → Errs w')
    (h0 : w.cell? ⟨Sb, 0, none⟩ = some (.slice a n cp)) (h1 : w.cell? ⟨Sb, 1, none⟩ = some (.int .i64 i)) (h2 : w.frozen? ⟨Sb, 1, none⟩ = false) (run : IsRun f n i j) :
    Calls Tryd.prog 19 #[.pointer (some ⟨Sb, 0, none⟩)] w fun e w' => e = .returned (.tuple #[.int .u64 (wnN f i j), .bool (wnB f i j)]) ∧ w'.cell? ⟨Sb, 1, none⟩ = some (.int .i64 j) ∧ Below Sb w w' := by
  obtain ⟨hij, hjn, hdig, hstop⟩ := run
  go_enter Tryd.func19, Tryd.ntmps19
  go_upto_block 0 with fail
  go_cut [] (fun wx => wx.cell? ⟨Sb, 0, none⟩ = some (.slice a n cp) ∧ wx.cell? ⟨Sb, 1, none⟩ = some (.int .i64 j) ∧ Below Sb w wx ∧ w.heap.size ≤ wx.heap.size)
  case first =>
    go_wp2_with fail
    go_loopg [] (j - i) (fun k wr => ∃ q : Nat, i ≤ q ∧ q ≤ j ∧ k = j - q ∧ wr.cell? ⟨Sb, 0, none⟩ = some (.slice a n cp) ∧ wr.cell? ⟨Sb, 1, none⟩ = some (.int .i64 q) ∧ wr.frozen? ⟨Sb, 1, none⟩ = false ∧ Below Sb w wr)
    case atStart => exact ⟨i, Nat.le_refl _, hij, rfl, h0, h1, h2, Below.refl _ _⟩
    case round =>
      obtain ⟨q, hiq, hqj, hgk, c0, c1, c2, hB⟩ := hrel
      have hr' : Row wr a n f ∧ (0 < n → ∃ B, a = some ⟨B, 0, none⟩ ∧ ∀ j, j < n → wr.cell? ⟨B, j, none⟩ = some (.int .u8 (f j))) := by
        rcases hr with h | ⟨B, h3, h4, h5⟩
        · exact ⟨.inl h, fun h' => by omega⟩
        · by_cases hn0 : n = 0
          · exact ⟨.inl hn0, fun h' => by omega⟩
          · have hB2 := hlow B h3 (by omega)
            have hc5 : ∀ j, j < n → wr.cell? ⟨B, j, none⟩ = some (.int .u8 (f j)) := fun j hj => (hB.cell (by exact hB2)).trans (h5 j hj)
            exact ⟨.inr ⟨B, h3, Nat.lt_of_lt_of_le h4 hB.size, hc5⟩, fun _ => ⟨B, h3, hc5⟩⟩
      obtain ⟨hrow, hsome⟩ := hr'
      have HS : Hid (0 < n → ∃ B, a = some ⟨B, 0, none⟩ ∧ ∀ j, j < n → wr.cell? ⟨B, j, none⟩ = some (.int .u8 (f j))) := hsome
      have HD : Hid (∀ q, i ≤ q → q < j → 48 ≤ f q ∧ f q ≤ 57) := hdig
      have HT : Hid (j < n → ¬ (48 ≤ f j ∧ f j ≤ 57)) := hstop
      have HE : Hid (∀ w', Below Sb w w' → Errs w') := he
      have HG : Hid (gk = j - q) := hgk
      clear hsome hdig hstop hlow he hr h0 h1 h2 hgk hrow
      by_cases hlt : q < j
      · have d1 := (HD.out q hiq hlt).1
        have d2 := (HD.out q hiq hlt).2
        have hqn : (q : Int) < (n : Int) := by omega
        have hqn' : (q : Int) ≤ 2097152 := by omega
        obtain ⟨B0, hB0, g4⟩ := HS.out (by omega)
        have c4 := g4 q (by omega)
        subst hB0
        clear g4
        go_wp2
        go_quiet (fail)
        go_wp2
        go_roundg (j - (q + 1))
        case measure => have := HG.out; omega
        case rel => 
          refine ⟨q + 1, by omega, by omega, rfl, ?_, ?_, ?_, ?_⟩
          · rw [World.cell?_setCell_other _ _ _ _ (by simp)]; exact c0
          · exact (World.cell?_setCell_same _ _ _ (u := .int .i64 q) c1).trans (by simp)
          · rw [World.frozen?_setCell]; exact c2
          · exact (below_drewN hB _).setCell (Nat.le_refl _) _
      · have hqe : q = j := by omega
        subst hqe
        by_cases hjn2 : q < n
        · have hqn : (q : Int) < (n : Int) := by omega
          obtain ⟨B0, hB0, g4⟩ := HS.out (by omega)
          have c4 := g4 q (by omega)
          subst hB0
          clear g4
          have hnd := HT.out hjn2
          by_cases d1 : 48 ≤ f q
          · have d2 : decide (f q ≤ 57) = false := decide_eq_false (fun h => hnd ⟨d1, h⟩)
            clear hnd
            go_wp2
            go_quiet (fail)
            go_wp2
            go_meet
            case rel => exact ⟨c0, c1, below_drewN hB _, hB.size⟩
          · have d2 : decide (48 ≤ f q) = false := decide_eq_false d1
            clear hnd d1
            go_wp2
            go_quiet (fail)
            go_wp2
            go_meet
            case rel => exact ⟨c0, c1, below_drewN hB _, hB.size⟩
        · have d2 : decide ((q : Int) < (n : Int)) = false := decide_eq_false (by omega)
          go_wp2
          go_quiet (fail)
          go_wp2
          go_meet
          case rel => exact ⟨c0, c1, below_drewN hB _, hB.size⟩
  case rest =>
    obtain ⟨c0, c1, hB, hsz⟩ := hcut
    have hrow : n = 0 ∨ ∃ B, a = some ⟨B, 0, none⟩ ∧ ∀ j, j < n → wc.cell? ⟨B, j, none⟩ = some (.int .u8 (f j)) := by
      rcases hr with h | ⟨B, h3, h4, h5⟩
      · exact .inl h
      · by_cases hn0 : n = 0
        · exact .inl hn0
        · have hB2 := hlow B h3 (by omega)
          exact .inr ⟨B, h3, fun j hj => (hB.cell (by exact hB2)).trans (h5 j hj)⟩
    have HE : Hid (∀ w', Below Sb w w' → Errs w') := he
    have HD : Hid (∀ q, i ≤ q → q < j → 48 ≤ f q ∧ f q ≤ 57) := hdig
    have hSc : Sb < wc.heap.size := Nat.lt_of_lt_of_le hS hsz
    clear hr hlow he hdig hstop h0 h1 h2
    by_cases hm : j = i
    · subst hm
      have eN : wnN f j j = 0 := by simp [wnN]
      have eB : wnB f j j = false := by simp [wnB]
      have hcv := conv_empty
      have d1 : decide ((1 : Int) < 0) = false := by decide
      rcases hrow with hn0 | ⟨B0, hB0, g4⟩
      · subst hn0
        have hj0 : j = 0 := by omega
        subst hj0
        go_wp2
        go_quiet (fail)
        go_wp2_with fail
        refine (parse_empty _ (HE.out _ (below_drewN hB _))).mono ?_
        rintro e wd ⟨N, rfl, hb⟩
        have c1' := (hb.cell (p := ⟨Sb, 1, none⟩) (by exact hSc)).trans c1
        have hB' := (below_drewN hB nq).trans (hb.mono (Nat.le_of_lt hSc))
        clear c1
        go_wp2
        go_quiet (fail)
        go_wp2
        go_ret2
        exact ⟨by rw [eN, eB]; rfl, c1', below_drewN hB' _⟩
      · subst hB0
        clear g4
        go_wp2
        go_quiet (fail)
        go_wp2_with fail
        all_goals
          refine (parse_empty _ (HE.out _ (below_drewN hB _))).mono ?_
          rintro e wd ⟨N, rfl, hb⟩
          have c1' := (hb.cell (p := ⟨Sb, 1, none⟩) (by exact hSc)).trans c1
          have hB' := (below_drewN hB nq).trans (hb.mono (Nat.le_of_lt hSc))
          clear c1
          go_wp2
          go_quiet (fail)
          go_wp2
          go_ret2
          exact ⟨by rw [eN, eB]; rfl, c1', below_drewN hB' _⟩
    · rcases hrow with hn0 | ⟨B0, hB0, g4⟩
      · omega
      subst hB0
      have hd : ∀ q, q < j - i → 48 ≤ f (i + q) ∧ f (i + q) ≤ 57 := fun q hq => HD.out (i + q) (by omega) (by omega)
      have c4 := g4 i (by omega)
      have hcv : ∀ k, (convert 22 9 (.slice (some ⟨B0, i, none⟩) (j - i) (cp - i))).run Tryd.prog (wc.drewN k) = .ok (.string ⟨(bytesOf f i (j - i)).toArray⟩) (wc.drewN k) := fun k =>
        conv_some B0 i (j - i) (cp - i) f i _ hd (fun q hq => g4 (i + q) (by omega))
      have hpar := parseB_digits f i (j - i) (by omega) hd
      have hlen : (bytesOf f i (j - i)).length ≤ 2097152 := by rw [bytesOf_len]; omega
      have hji : (i : Int) < (j : Int) := by omega
      have hcpi : ¬ cp = i := by omega
      clear g4 hd
      by_cases hz : 1 < j - i ∧ f i = 48
      · have eN : wnN f i j = 0 := by rw [wnN, if_neg hm, if_pos hz]
        have eB : wnB f i j = false := by rw [wnB, if_neg hm, if_pos hz]
        obtain ⟨hz1, hz2⟩ := hz
        rw [hz2] at c4
        clear hpar hz2
        go_wp2
        go_quiet (fail)
        go_wp2_with fail
        go_ret2
        exact ⟨by rw [eN, eB]; rfl, c1, below_drewN hB _⟩
      · have hz' : ¬ (1 < j - i) ∨ (f i == 48) = false := by
          by_cases h1 : 1 < j - i
          · exact .inr (by simpa using fun h => hz ⟨h1, h⟩)
          · exact .inl h1
        have hsz1 : (⟨(bytesOf f i (j - i)).toArray⟩ : ByteArray).size ≤ 2097152 := by rw [size_of_list]; exact hlen
        by_cases hfit : V (dg f i) (j - i) ≤ 18446744073709551615
        · have eN : wnN f i j = (V (dg f i) (j - i) : Int) := by rw [wnN, if_neg hm, if_neg hz, if_pos hfit]
          have eB : wnB f i j = true := by rw [wnB, if_neg hm, if_neg hz, if_pos hfit]
          rw [if_pos hfit] at hpar
          have HP : Hid (Lib.parseUintB 64 (bytesOf f i (j - i)) = .ok (V (dg f i) (j - i))) := hpar
          clear hpar hz
          rcases hz' with hz | hz
          all_goals
            go_wp2
            go_quiet (fail)
            go_wp2_with fail
          all_goals
            refine (parse_ok ⟨(bytesOf f i (j - i)).toArray⟩ (by omega) (V (dg f i) (j - i)) HP.out _).mono ?_
            rintro e wd ⟨rfl, hb⟩
            have c1' := (hb.cell (p := ⟨Sb, 1, none⟩) (by exact hSc)).trans c1
            have hB' := (below_drewN hB nq).trans (hb.mono (Nat.le_of_lt hSc))
            clear c1
            go_wp2
            go_quiet (fail)
            go_wp2
            go_ret2
            exact ⟨by rw [eN, eB]; rfl, c1', below_drewN hB' _⟩
        · have eN : wnN f i j = 18446744073709551615 := by rw [wnN, if_neg hm, if_neg hz, if_neg hfit]
          have eB : wnB f i j = false := by rw [wnB, if_neg hm, if_neg hz, if_neg hfit]
          rw [if_neg hfit] at hpar
          have HP : Hid (Lib.parseUintB 64 (bytesOf f i (j - i)) = .range) := hpar
          clear hpar hz
          rcases hz' with hz | hz
          all_goals
            go_wp2
            go_quiet (fail)
            go_wp2_with fail
          all_goals
            refine (parse_range ⟨(bytesOf f i (j - i)).toArray⟩ (by omega) HP.out _ (HE.out _ (below_drewN hB _))).mono ?_
            rintro e wd ⟨N, rfl, hb⟩
            have c1' := (hb.cell (p := ⟨Sb, 1, none⟩) (by exact hSc)).trans c1
            have hB' := (below_drewN hB nq).trans (hb.mono (Nat.le_of_lt hSc))
            clear c1
            go_wp2
            go_quiet (fail)
            go_wp2
            go_ret2
            exact ⟨by rw [eN, eB]; rfl, c1', below_drewN hB' _⟩
end Go.Proofs.Qxb6600537aDoor
