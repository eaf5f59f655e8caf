import Derived.Test.Qxb6600567aLru2
import Derived.Deep.LoopGhost
namespace Go.Proofs.Qxb6600567a
open Go.ChangeShapes Go.WideShapes Go.ChangeAt Go.RowKit
set_option linter.unusedVariables false

def z64 : Array Value := Array.replicate 64 (.int .i64 0)
theorem zero41 (w : World) : (zeroValue 41).run Try.prog w = .ok (.agg z64) w := by kernel_rfl
/-- The model's array: the first c steps seen. -/
def seenRow (c : Nat) (sn : Nat → Nat) (a : Nat) : Value := .int .i64 (if a < c then (sn a : Int) else 0)
theorem seen_start (w : World) (sn : Nat → Nat) : (w.alloc (.cells z64 41)).rowIs w.heap.size 41 64 (seenRow 0 sn) := by
  have h := World.rowIs_alloc w (Array.replicate 64 (.int .i64 0)) 41 (seenRow 0 sn) (fun i hi => by
    have hi' : i < 64 := by simpa using hi
    unfold seenRow
    rw [if_neg (by omega)]
    simp [hi'])
  rwa [Array.size_replicate] at h

/-- do steps i and j bear one key? -/
def sameB (f g : Nat → Int) (i j : Nat) : Bool := decide (f i = f j ∧ g i = g j)
theorem sameB_iff (f g : Nat → Int) (i j : Nat) : sameB f g i j = true ↔ same f g i j := by simp [sameB, same]
theorem sameB_iff' (f g : Nat → Int) (i j : Nat) : sameB f g i j = false ↔ ¬ same f g i j := by simp [sameB, same]
theorem Scan.skip {f g : Nat → Int} {t s c : Nat} {sn : Nat → Nat} (h : Scan f g t (s + 1) c sn) (hst : s < t) (hn : ¬ same f g s t) (he : ∃ a, a < c ∧ same f g s (sn a)) : Scan f g t s c sn :=
  ⟨fun a ha => by have := h.lo a ha; omega, h.hi, h.last, fun j h1 h2 => by
    by_cases e : j = s
    · subst e; exact he
    · exact h.all j (by omega) h2, h.dec, fun j h1 h2 => by
    by_cases e : j = s
    · subst e; exact hn
    · exact h.no j (by omega) h2⟩
theorem Scan.add {f g : Nat → Int} {t s c : Nat} {sn : Nat → Nat} (h : Scan f g t (s + 1) c sn) (hst : s < t) (hn : ¬ same f g s t) (he : ∀ a, a < c → ¬ same f g s (sn a)) : Scan f g t s (c + 1) (fun a => if a = c then s else sn a) := by
  have e1 : ∀ a, a < c → (if a = c then s else sn a) = sn a := fun a ha => if_neg (by omega)
  have e2 : (if c = c then s else sn c) = s := if_pos rfl
  refine ⟨fun a ha => ?_, fun a ha => ?_, fun a ha j h1 h2 => ?_, fun j h1 h2 => ?_, fun a b h1 h2 => ?_, fun j h1 h2 => ?_⟩
  · show s ≤ if a = c then s else sn a
    by_cases e : a = c
    · rw [if_pos e]; omega
    · rw [if_neg e]; have := h.lo a (by omega); omega
  · show (if a = c then s else sn a) < t
    by_cases e : a = c
    · rw [if_pos e]; exact hst
    · rw [if_neg e]; exact h.hi a (by omega)
  · have h1' : (if a = c then s else sn a) < j := h1
    show ¬ same f g j (if a = c then s else sn a)
    by_cases e : a = c
    · rw [if_pos e] at h1' ⊢
      intro hs
      obtain ⟨b, hb, hbs⟩ := h.all j (by omega) h2
      exact he b hb (hs.symm.trans hbs)
    · rw [if_neg e] at h1' ⊢
      exact h.last a (by omega) j h1' h2
  · by_cases e : j = s
    · subst e; exact ⟨c, by omega, by show same f g j (if c = c then j else sn c); rw [if_pos rfl]; exact ⟨rfl, rfl⟩⟩
    · obtain ⟨b, hb, hbs⟩ := h.all j (by omega) h2
      exact ⟨b, by omega, by show same f g j (if b = c then s else sn b); rw [e1 b hb]; exact hbs⟩
  · show (if b = c then s else sn b) < (if a = c then s else sn a)
    rw [e1 a (by omega)]
    by_cases e : b = c
    · rw [if_pos e]; have := h.lo a (by omega); omega
    · rw [if_neg e]; exact h.dec a b h1 (by omega)
  · by_cases e : j = s
    · subst e; exact hn
    · exact h.no j (by omega) h2
theorem Scan.start (f g : Nat → Int) (t : Nat) (sn : Nat → Nat) : Scan f g t t 0 sn :=
  ⟨fun a h => by omega, fun a h => by omega, fun a h => by omega, fun j h1 h2 => by omega, fun a b h1 h2 => by omega, fun j h1 h2 => by omega⟩
theorem seen_store {w : World} {B c s : Nat} {sn : Nat → Nat} (h : w.rowIs B 41 64 (seenRow c sn)) : (w.setCell ⟨B, c, none⟩ (.int .i64 s)).rowIs B 41 64 (seenRow (c + 1) (fun a => if a = c then s else sn a)) := by
  refine (h.set c _).congr (fun k hk => ?_)
  unfold seenRow
  dsimp only
  by_cases e : k = c
  · subst e; rw [if_pos rfl, if_pos (by omega), if_pos rfl]
  · rw [if_neg e]
    by_cases e2 : k < c
    · rw [if_pos e2, if_pos (by omega), if_neg e]
    · rw [if_neg e2, if_neg (by omega)]

def ModelRet (f g nums : Nat → Int) (t ms : Nat) (w : World) (e : Ending) (w' : World) : Prop :=
  ∃ (want : Int) (wd : Bool), e = .returned (.tuple #[.int .i64 want, .bool wd]) ∧ ModelPost f g nums t ms want wd ∧ Below w.heap.size w w'
theorem modelRet_mk {f g nums : Nat → Int} {t ms : Nat} {w : World} {e : Ending} {w' : World} (want : Int) (wd : Bool) (h1 : e = .returned (.tuple #[.int .i64 want, .bool wd])) (h2 : ModelPost f g nums t ms want wd) (h3 : Below w.heap.size w w') : ModelRet f g nums t ms w e w' := ⟨want, wd, h1, h2, h3⟩

set_option maxRecDepth 8000 in
set_option maxHeartbeats 2000000 in
theorem model (Bf Bg Bn n t ms : Nat) (f g nums : Nat → Int) (w : World) (ht : t < n) (hn : n ≤ 4096) (hms : ms ≤ 4096) (zf : Bf < w.heap.size) (zg : Bg < w.heap.size) (zn : Bn < w.heap.size)
    (hf : ∀ j, j < n → w.cell? ⟨Bf, j, none⟩ = some (.int .i64 (f j))) (hg : ∀ j, j < n → w.cell? ⟨Bg, j, none⟩ = some (.int .u64 (g j))) (hnm : ∀ j, j < n → w.cell? ⟨Bn, j, none⟩ = some (.int .i64 (nums j))) :
    Calls Try.prog 8 #[.slice (some ⟨Bf, 0, none⟩) n n, .slice (some ⟨Bg, 0, none⟩) n n, .slice (some ⟨Bn, 0, none⟩) n n, .int .i64 ms, .int .i64 t] w fun e w' => ModelRet f g nums t ms w e w' := by
  have q41 := zero41
  have HF : Hid (∀ j, j < n → w.cell? ⟨Bf, j, none⟩ = some (.int .i64 (f j))) := hf
  have HG : Hid (∀ j, j < n → w.cell? ⟨Bg, j, none⟩ = some (.int .u64 (g j))) := hg
  have HM : Hid (∀ j, j < n → w.cell? ⟨Bn, j, none⟩ = some (.int .i64 (nums j))) := hnm
  clear hf hg hnm
  have htn : (t : Int) < (n : Int) := by omega
  have hms' : (ms : Int) ≤ 4096 := by omega
  go_enter Try.func8, Try.ntmps8
  go_upto_block 0 with fail
  have hstart := seen_start w (fun _ => 0)
  have hB1 : Below w.heap.size w (w.alloc (.cells z64 41)) := (Below.refl _ _).alloc (Nat.le_refl _) _
  have hsz1 : (w.alloc (.cells z64 41)).heap.size = w.heap.size + 1 := World.size_alloc _ _
  clear q41
  go_cut [13] (fun cv wr => ∃ (c : Nat) (sn : Nat → Nat), cv = .int .i64 c ∧ c ≤ 64 ∧ ((c = 64 ∧ Scan f g t (sn 63) 64 sn) ∨ (c < 64 ∧ Scan f g t 0 c sn)) ∧ Below w.heap.size w wr ∧ wr.rowIs w.heap.size 41 64 (seenRow c sn))
  case first =>
    go_wp2_with fail
    go_loopg [13, 14] t (fun k cv jv wr => ∃ (r c : Nat) (sn : Nat → Nat), k = r ∧ r ≤ t ∧ c < 64 ∧ cv = .int .i64 c ∧ jv = .int .i64 ((r : Int) - 1) ∧ Scan f g t r c sn ∧ Below w.heap.size w wr ∧ wr.heap.size = w.heap.size + 1 ∧ wr.rowIs w.heap.size 41 64 (seenRow c sn))
    case atStart => exact ⟨t, 0, fun _ => 0, rfl, Nat.le_refl _, by omega, rfl, rfl, Scan.start f g t _, hB1, hsz1, hstart⟩
    case round =>
      obtain ⟨r, c, sn, hgk, hr, hc, rfl, rfl, hsc, hB, hsz, hrow⟩ := hrel
      have HS : Hid (Scan f g t r c sn) := hsc
      have HW : Hid (wr.rowIs w.heap.size 41 64 (seenRow c sn)) := hrow
      have HK : Hid (gk = r) := hgk
      clear hsc hrow hgk hstart hB1 hsz1
      cases r with
      | zero =>
        go_wp2
        go_meet
        case rel => exact ⟨c, sn, rfl, by omega, .inr ⟨hc, HS.out⟩, hB, HW.out⟩
      | succ s =>
        have e : (((s + 1 : Nat) : Int) - 1) = (s : Int) := by omega
        rw [e]
        clear e
        have cfs := (hB.cell (p := ⟨Bf, s, none⟩) zf).trans (HF.out s (by omega))
        have cft := (hB.cell (p := ⟨Bf, t, none⟩) zf).trans (HF.out t ht)
        have cgs := (hB.cell (p := ⟨Bg, s, none⟩) zg).trans (HG.out s (by omega))
        have cgt := (hB.cell (p := ⟨Bg, t, none⟩) zg).trans (HG.out t ht)
        have cns := (hB.cell (p := ⟨Bn, s, none⟩) zn).trans (HM.out s (by omega))
        have hsn : (s : Int) < (n : Int) := by omega
        have hs0 : (0 : Int) ≤ (s : Int) := by omega
        go_upto_region 6 with fail
        go_cut [42] (fun v wx => ∃ q, v = .bool (sameB f g s t) ∧ wx = wr.drewN q)
        case first =>
          by_cases e1 : f s = f t
          · have e1' : (f s == f t) = true := by simpa using e1
            by_cases e2 : g s = g t
            · have e2' : (g s == g t) = true := by simpa using e2
              have es : sameB f g s t = true := (sameB_iff f g s t).2 ⟨e1, e2⟩
              clear e1 e2
              go_quiet (fail)
              go_wp2_with fail
              go_meet
              exact ⟨_, by rw [es], rfl⟩
            · have e2' : (g s == g t) = false := by simpa using e2
              have es : sameB f g s t = false := (sameB_iff' f g s t).2 (fun h => e2 h.2)
              clear e1 e2
              go_quiet (fail)
              go_wp2_with fail
              go_meet
              exact ⟨_, by rw [es], rfl⟩
          · have e1' : (f s == f t) = false := by simpa using e1
            have es : sameB f g s t = false := (sameB_iff' f g s t).2 (fun h => e1 h.1)
            clear e1
            go_quiet (fail)
            go_wp2_with fail
            go_meet
            exact ⟨_, by rw [es], rfl⟩
        case rest =>
          obtain ⟨q, rfl, hwx⟩ := hcut
          subst hwx
          by_cases hsame : sameB f g s t = true
          · have HSm : Hid (same f g s t) := (sameB_iff f g s t).1 hsame
            rw [hsame]
            clear hsame
            go_wp2
            go_ret2
            exact modelRet_mk _ true rfl (.inl ⟨s, c, sn, by omega, hc, HS.out, HSm.out, rfl, rfl⟩) (below_drewN hB _)
          · have hsame' : sameB f g s t = false := by simpa using hsame
            have HSm : Hid (¬ same f g s t) := (sameB_iff' f g s t).1 hsame'
            rw [hsame']
            clear hsame hsame'
            go_upto_block 2 with fail
            go_cut [15] (fun fv wx => ∃ (b : Bool) (q2 : Nat), fv = .bool b ∧ wx = wr.drewN q2 ∧ ((b = true ∧ ∀ a, a < c → ¬ same f g s (sn a)) ∨ (b = false ∧ ∃ a, a < c ∧ same f g s (sn a))))
            case first =>
              go_wp2_with fail
              go_loopw [15, 16] (fun fv av wx => ∃ (a q2 : Nat), a ≤ c ∧ fv = .bool true ∧ av = .int .i64 a ∧ wx = wr.drewN q2 ∧ ∀ b, b < a → ¬ same f g s (sn b)) (fun _ av _ => c - (intOf av).toNat)
              case atStart => exact ⟨0, q, Nat.zero_le _, rfl, rfl, rfl, fun b hb => by omega⟩
              case round =>
                obtain ⟨a, q2, ha, rfl, rfl, rfl, hno⟩ := hrel
                have HNO : Hid (∀ b, b < a → ¬ same f g s (sn b)) := hno
                clear hno
                by_cases hac : a < c
                · have hac' : (a : Int) < (c : Int) := by omega
                  have ha64 : (a : Int) < 64 := by omega
                  obtain ⟨sa, hsa⟩ : ∃ x, x = sn a := ⟨_, rfl⟩
                  have hsan : sa < t := by rw [hsa]; exact HS.out.hi a hac
                  have c1 : wr.cell? ⟨w.heap.size, a, none⟩ = some (.int .i64 sa) := by
                    rw [HW.out.cell (i := a) (by omega)]
                    unfold seenRow
                    rw [if_pos hac, hsa]
                  have c2 := (hB.cell (p := ⟨Bf, sa, none⟩) zf).trans (HF.out sa (by omega))
                  have c3 := (hB.cell (p := ⟨Bg, sa, none⟩) zg).trans (HG.out sa (by omega))
                  have hsa' : (sa : Int) < (n : Int) := by omega
                  have HA : Hid (sa = sn a) := hsa
                  clear hsa
                  by_cases e1 : f sa = f s
                  · have e1' : (f sa == f s) = true := by simpa using e1
                    by_cases e2 : g sa = g s
                    · have e2' : (g sa == g s) = true := by simpa using e2
                      have HQ : Hid (∃ a, a < c ∧ same f g s (sn a)) := ⟨a, hac, by rw [← HA.out]; exact ⟨e1.symm, e2.symm⟩⟩
                      clear e1 e2
                      go_wp2
                      go_quiet (fail)
                      go_wp2
                      go_meet
                      case rel => exact ⟨false, _, rfl, World.drewN_drewN _ _ _, .inr ⟨rfl, HQ.out⟩⟩
                    · have e2' : (g sa == g s) = false := by simpa using e2
                      have HQ : Hid (∀ b, b < a + 1 → ¬ same f g s (sn b)) := fun b hb => by
                        by_cases e : b = a
                        · subst e; rw [← HA.out]; exact fun h => e2 h.2.symm
                        · exact HNO.out b (by omega)
                      clear e1 e2
                      go_wp2
                      go_quiet (fail)
                      go_wp2
                      go_roundw
                      case rel => exact ⟨a + 1, _, by omega, rfl, by go_num, rfl, HQ.out⟩
                      case measure => simp [intOf]; omega
                  · have e1' : (f sa == f s) = false := by simpa using e1
                    have HQ : Hid (∀ b, b < a + 1 → ¬ same f g s (sn b)) := fun b hb => by
                      by_cases e : b = a
                      · subst e; rw [← HA.out]; exact fun h => e1 h.1.symm
                      · exact HNO.out b (by omega)
                    clear e1
                    go_wp2
                    go_quiet (fail)
                    go_wp2
                    go_roundw
                    case rel => exact ⟨a + 1, _, by omega, rfl, by go_num, rfl, HQ.out⟩
                    case measure => simp [intOf]; omega
                · have HQ : Hid (∀ b, b < c → ¬ same f g s (sn b)) := fun b hb => HNO.out b (by omega)
                  go_wp2
                  go_meet
                  case rel => exact ⟨true, _, rfl, rfl, .inl ⟨rfl, HQ.out⟩⟩
            case rest =>
              obtain ⟨b, q2, rfl, hwx, hb⟩ := hcut
              subst hwx
              rcases hb with ⟨rfl, hfr⟩ | ⟨rfl, hfr⟩
              · have HA : Hid (Scan f g t s (c + 1) (fun a => if a = c then s else sn a)) := HS.out.add (by omega) HSm.out hfr
                have c1 := HW.out.cell (i := c) hc
                have c2 := HW.out.frozen c
                have hc64 : (c : Int) < 64 := by omega
                have HR : Hid ((wr.setCell ⟨w.heap.size, c, none⟩ (.int .i64 s)).rowIs w.heap.size 41 64 (seenRow (c + 1) (fun a => if a = c then s else sn a))) := seen_store HW.out
                have hB2 : Below w.heap.size w (wr.setCell ⟨w.heap.size, c, none⟩ (.int .i64 s)) := hB.setCell (Nat.le_refl _) _
                clear hfr
                by_cases h63 : c = 63
                · have h63' : ((c : Int) + 1 == 64) = true := by simp; omega
                  have HC : Hid (c = 63) := h63
                  clear h63
                  go_wp2
                  go_meet
                  case rel => exact ⟨c + 1, _, by go_num, by omega, .inl ⟨by have := HC.out; omega, by
                    have e := HA.out
                    have e63 := HC.out
                    subst e63
                    exact e⟩, below_drewN hB2 q2, HR.out⟩
                · have h63' : ((c : Int) + 1 == 64) = false := by simp; omega
                  clear h63
                  go_wp2
                  go_roundg s
                  case measure => have := HK.out; omega
                  case rel => exact ⟨s, c + 1, _, rfl, by omega, by simp at h63'; omega, by go_num, by go_num, HA.out, below_drewN hB2 q2, by simpa [World.setCell] using hsz, HR.out⟩
              · have HA : Hid (Scan f g t s c sn) := HS.out.skip (by omega) HSm.out hfr
                clear hfr
                go_wp2
                go_roundg s
                case measure => have := HK.out; omega
                case rel => exact ⟨s, c, sn, rfl, by omega, hc, rfl, by go_num, HA.out, below_drewN hB q2, hsz, HW.out⟩
  case rest =>
    obtain ⟨c, sn, rfl, hc, hcase, hB, hrow⟩ := hcut
    have HW : Hid (wc.rowIs w.heap.size 41 64 (seenRow c sn)) := hrow
    clear hrow hstart hB1 hsz1
    by_cases hm : ms < 64
    · have hm' : (ms : Int) < 64 := by omega
      have HP : Hid (ModelPost f g nums t ms ((ms : Int) + 1) false) := by
        rcases hcase with ⟨_, h⟩ | ⟨h1, h⟩
        · exact .inr (.inl ⟨sn, h, rfl, by rw [if_pos hm]⟩)
        · exact .inr (.inr ⟨c, sn, h1, h, rfl, by rw [if_pos hm]⟩)
      clear hcase
      go_wp2
      go_ret2
      exact modelRet_mk _ false rfl HP.out hB
    · have hm' : ¬ (ms : Int) < 64 := by omega
      rcases hcase with ⟨rfl, h⟩ | ⟨h1, h⟩
      · have HP : Hid (ModelPost f g nums t ms (nums (sn 63)) false) := .inr (.inl ⟨sn, h, rfl, by rw [if_neg hm]⟩)
        have hsl := h.hi 63 (by omega)
        obtain ⟨sa, hsa⟩ : ∃ x, x = sn 63 := ⟨_, rfl⟩
        rw [← hsa] at HP hsl
        have c1 : wc.cell? ⟨w.heap.size, 63, none⟩ = some (.int .i64 sa) := by
          rw [HW.out.cell (i := 63) (by omega)]
          unfold seenRow
          rw [if_pos (by omega), hsa]
        have c2 := (hB.cell (p := ⟨Bn, sa, none⟩) zn).trans (HM.out sa (by omega))
        have hsa' : (sa : Int) < (n : Int) := by omega
        clear hsa h
        go_wp2
        go_ret2
        exact modelRet_mk _ false rfl HP.out hB
      · have HP : Hid (ModelPost f g nums t ms 0 false) := .inr (.inr ⟨c, sn, h1, h, rfl, by rw [if_neg hm]⟩)
        have h1' : (c : Int) < 64 := by omega
        clear h
        go_wp2
        go_ret2
        exact modelRet_mk _ false rfl HP.out hB
end Go.Proofs.Qxb6600567a
