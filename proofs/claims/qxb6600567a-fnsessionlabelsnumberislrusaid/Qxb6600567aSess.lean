import Derived.Test.Qxb6600567aCopy
import Derived.Laws.StructEq
import Derived.Laws.OwnMore
import Derived.RegionTactic
import Derived.BigRegion
import Derived.Deep.RegionLaw
import Derived.Deep.CutBlock
import Derived.Deep.DeepCutAuto
namespace Go.Proofs.Qxb6600567a
open Go.ChangeShapes Go.WideShapes Go.ChangeAt Go.RowKit
set_option linter.unusedVariables false

/-- The cells of the slots: of each its key's size, its key's sum, its last use. -/
def cellF (L : Nat → Int × Int × Int) (j : Nat) : Value :=
  if j % 3 = 0 then .int .i64 (L (j / 3)).1 else if j % 3 = 1 then .int .u64 (L (j / 3)).2.1 else .int .i64 (L (j / 3)).2.2
def cellsL (L : Nat → Int × Int × Int) (m : Nat) : List Value := (List.range (m * 3)).map (cellF L)
/-- A session in memory: its struct in block Sb, its slots in a row of the call's own from N0 on. -/
structure Sess (w : World) (Sb N0 : Nat) (L : Nat → Int × Int × Int) (m : Nat) (u : Int) : Prop where
  slots : ∃ v, w.cell? ⟨Sb, 0, none⟩ = some v ∧ w.ownsRow N0 44 3 v m (cellsL L m)
  uses : w.cell? ⟨Sb, 1, none⟩ = some (.int .i64 u)
  f0 : w.frozen? ⟨Sb, 0, none⟩ = false
  f1 : w.frozen? ⟨Sb, 1, none⟩ = false
  lt : Sb < N0
  le : N0 ≤ w.heap.size
/-- All blocks below N0 but Sb are as they were. -/
structure Kept (N0 Sb : Nat) (w w' : World) : Prop where
  os : w'.os = w.os
  tape : w'.tape = w.tape
  output : w'.output = w.output
  size : w.heap.size ≤ w'.heap.size
  block : ∀ k, k < N0 → k ≠ Sb → w'.heap[k]? = w.heap[k]?
/-- the first least of the last uses of the first i slots -/
def lst (L : Nat → Int × Int × Int) : Nat → Nat
  | 0 => 0
  | i + 1 => if (L i).2.2 < (L (lst L i)).2.2 then i else lst L i


theorem lst_lt (L : Nat → Int × Int × Int) : ∀ i, 0 < i → lst L i < i
  | 0, h => by omega
  | i + 1, _ => by
    unfold lst
    split
    · omega
    · by_cases h : i = 0
      · subst h; simp [lst]
      · have := lst_lt L i (by omega); omega
theorem lst_lt' (L : Nat → Int × Int × Int) (i m : Nat) (h : i < m) : lst L i < m := by
  by_cases h0 : i = 0
  · subst h0; simp [lst]; omega
  · have := lst_lt L i (by omega); omega
theorem cell_new {w : World} {N : Nat} (h : N = w.heap.size) (c : Array Value) (t : TypeId) (i : Nat) (v : Value) (hi : c[i]? = some v) : (w.alloc (.cells c t)).cell? ⟨N, i, none⟩ = some v := by
  subst h
  rw [World.cell?_alloc_at _ _ _ _ rfl]
  exact hi
theorem cellsL_get (L : Nat → Int × Int × Int) (m j : Nat) (h : j < m * 3) : (cellsL L m)[j]? = some (cellF L j) := by
  unfold cellsL
  rw [List.getElem?_map, List.getElem?_range h]
  rfl
theorem cellF0 (L : Nat → Int × Int × Int) (q : Nat) : cellF L (q * 3) = .int .i64 (L q).1 := by
  unfold cellF
  rw [if_pos (by omega), show q * 3 / 3 = q by omega]
theorem cellF1 (L : Nat → Int × Int × Int) (q : Nat) : cellF L (q * 3 + 1) = .int .u64 (L q).2.1 := by
  unfold cellF
  rw [if_neg (by omega), if_pos (by omega), show (q * 3 + 1) / 3 = q by omega]
theorem cellF2 (L : Nat → Int × Int × Int) (q : Nat) : cellF L (q * 3 + 2) = .int .i64 (L q).2.2 := by
  unfold cellF
  rw [if_neg (by omega), if_neg (by omega), show (q * 3 + 2) / 3 = q by omega]
/-- What the row of the slots gives: where there is a slot, the block, its cells, no mark. -/
theorem own_at {w : World} {N0 m cap : Nat} {ao : Option Addr} {L : Nat → Int × Int × Int} (h : w.ownsRow N0 44 3 (.slice ao m cap) m (cellsL L m)) (hm : 0 < m) :
    ∃ g, ao = some ⟨g, 0, none⟩ ∧ N0 ≤ g ∧ g < w.heap.size ∧ (∀ j, w.frozen? ⟨g, j, none⟩ = false) ∧ ∀ j, j < m * 3 → w.cell? ⟨g, j, none⟩ = some (cellF L j) := by
  rcases h.2 with ⟨h1, h2⟩ | ⟨g, cap', cur, hv, hg, hh, hn, hc, hsz, htk⟩
  · omega
  · simp only [Value.slice.injEq] at hv
    refine ⟨g, hv.1, hg, ?_, fun j => by simp [World.frozen?, hh], fun j hj => ?_⟩
    · obtain ⟨hlt, _⟩ := Array.getElem?_eq_some_iff.1 hh
      exact hlt
    · have h3 := cellsL_get L m j hj
      rw [← htk] at h3
      rw [List.getElem?_take_of_lt hj] at h3
      simp [World.cell?, hh]
      simpa using h3

def updT (L : Nat → Int × Int × Int) (i : Nat) (t : Int) : Nat → Int × Int × Int := fun q => if q = i then ((L i).1, (L i).2.1, t) else L q
def updS (L : Nat → Int × Int × Int) (i : Nat) (x : Int × Int × Int) : Nat → Int × Int × Int := fun q => if q = i then x else L q

theorem own_of_block {w w' : World} {N0 m : Nat} {v : Value} {xs : List Value} (h : w.ownsRow N0 44 3 v m xs) (e : ∀ g, N0 ≤ g → g < w.heap.size → w'.heap[g]? = w.heap[g]?) : w'.ownsRow N0 44 3 v m xs := by
  refine ⟨h.1, ?_⟩
  rcases h.2 with h2 | ⟨g, cap, cur, hv, hg, hh, r⟩
  · exact .inl h2
  · have hlt : g < w.heap.size := (Array.getElem?_eq_some_iff.1 hh).1
    exact .inr ⟨g, cap, cur, hv, hg, by rw [e g hg hlt]; exact hh, r⟩
theorem own_store {w : World} {N0 m cap g j : Nat} {x : Value} {L L' : Nat → Int × Int × Int} (h : w.ownsRow N0 44 3 (.slice (some ⟨g, 0, none⟩) m cap) m (cellsL L m)) (hj : j < m * 3)
    (hx : ∀ k, k < m * 3 → cellF L' k = if k = j then x else cellF L k) : (w.setCell ⟨g, j, none⟩ x).ownsRow N0 44 3 (.slice (some ⟨g, 0, none⟩) m cap) m (cellsL L' m) := by
  have h1 := h.stored j x
  have e : (cellsL L m).set j x = cellsL L' m := by
    apply List.ext_getElem?
    intro k
    rw [List.getElem?_set]
    by_cases hk : k < m * 3
    · rw [cellsL_get L m k hk, cellsL_get L' m k hk, hx k hk]
      by_cases e : j = k
      · subst e
        rw [if_pos rfl, if_pos (by simpa [cellsL] using hj), if_pos rfl]
      · rw [if_neg e, if_neg (fun h => e h.symm)]
    · rw [if_neg (by omega), List.getElem?_eq_none (by simp [cellsL]; omega), List.getElem?_eq_none (by simp [cellsL]; omega)]
  rw [e] at h1
  exact h1.1

/-- Behind the store of one slot's last use. -/
theorem own_updT {w : World} {N0 m cap g i : Nat} {t : Int} {L : Nat → Int × Int × Int} (h : w.ownsRow N0 44 3 (.slice (some ⟨g, 0, none⟩) m cap) m (cellsL L m)) (hi : i < m) :
    (w.setCell ⟨g, i * 3 + 2, none⟩ (.int .i64 t)).ownsRow N0 44 3 (.slice (some ⟨g, 0, none⟩) m cap) m (cellsL (updT L i t) m) := by
  refine own_store h (by omega) (fun k hk => ?_)
  unfold cellF updT
  by_cases e : k = i * 3 + 2
  · subst e
    rw [if_pos rfl, if_neg (by omega), if_neg (by omega), show (i * 3 + 2) / 3 = i by omega, if_pos rfl]
  · rw [if_neg e]
    by_cases e3 : k / 3 = i
    · rw [if_pos e3, e3]
      by_cases e0 : k % 3 = 0
      · rw [if_pos e0, if_pos e0]
      · rw [if_neg e0, if_neg e0, if_pos (by omega), if_pos (by omega)]
    · rw [if_neg e3]
/-- Behind the store of one whole slot. -/
theorem own_updS {w : World} {N0 m cap g i : Nat} {a b t : Int} {L : Nat → Int × Int × Int} (h : w.ownsRow N0 44 3 (.slice (some ⟨g, 0, none⟩) m cap) m (cellsL L m)) (hi : i < m) :
    (((w.setCell ⟨g, i * 3, none⟩ (.int .i64 a)).setCell ⟨g, i * 3 + 1, none⟩ (.int .u64 b)).setCell ⟨g, i * 3 + 2, none⟩ (.int .i64 t)).ownsRow N0 44 3 (.slice (some ⟨g, 0, none⟩) m cap) m (cellsL (updS L i (a, b, t)) m) := by
  have h1 := own_store (L' := updS L i (a, (L i).2.1, (L i).2.2)) (x := .int .i64 a) (j := i * 3) h (by omega) (fun k hk => by
    unfold cellF updS
    by_cases e : k = i * 3
    · subst e
      rw [if_pos rfl, if_pos (by omega), show i * 3 / 3 = i by omega, if_pos rfl]
    · rw [if_neg e]
      by_cases e3 : k / 3 = i
      · have e0 : ¬ k % 3 = 0 := by omega
        rw [if_pos e3, e3, if_neg e0, if_neg e0]
      · rw [if_neg e3])
  have h2 := own_store (L' := updS L i (a, b, (L i).2.2)) (x := .int .u64 b) (j := i * 3 + 1) h1 (by omega) (fun k hk => by
    unfold cellF updS
    by_cases e : k = i * 3 + 1
    · subst e
      rw [if_pos rfl, if_neg (by omega), if_pos (by omega), show (i * 3 + 1) / 3 = i by omega, if_pos rfl]
    · rw [if_neg e]
      by_cases e3 : k / 3 = i
      · rw [if_pos e3, if_pos e3]
        by_cases e0 : k % 3 = 0
        · rw [if_pos e0, if_pos e0]
        · rw [if_neg e0, if_neg e0, if_neg (by omega), if_neg (by omega)]
      · rw [if_neg e3, if_neg e3])
  exact own_store (L' := updS L i (a, b, t)) (x := .int .i64 t) (j := i * 3 + 2) h2 (by omega) (fun k hk => by
    unfold cellF updS
    by_cases e : k = i * 3 + 2
    · subst e
      rw [if_pos rfl, if_neg (by omega), if_neg (by omega), show (i * 3 + 2) / 3 = i by omega, if_pos rfl]
    · rw [if_neg e]
      by_cases e3 : k / 3 = i
      · rw [if_pos e3, if_pos e3]
        by_cases e0 : k % 3 = 0
        · rw [if_pos e0, if_pos e0]
        · rw [if_neg e0, if_neg e0, if_pos (by omega), if_pos (by omega)]
      · rw [if_neg e3, if_neg e3])
/-- Behind an append of one slot. -/
theorem cellsL_app (L : Nat → Int × Int × Int) (m : Nat) (a b t : Int) : cellsL L m ++ [.int .i64 a, .int .u64 b, .int .i64 t] = cellsL (updS L m (a, b, t)) (m + 1) := by
  have e : (m + 1) * 3 = m * 3 + 1 + 1 + 1 := by omega
  unfold cellsL
  rw [e, List.range_succ, List.range_succ, List.range_succ]
  simp only [List.map_append, List.map_cons, List.map_nil, List.append_assoc, List.cons_append, List.nil_append]
  rw [show m * 3 + 1 + 1 = m * 3 + 2 by omega, cellF0, cellF1, cellF2]
  have hu : updS L m (a, b, t) m = (a, b, t) := if_pos rfl
  rw [hu]
  congr 1
  apply List.map_congr_left
  intro k hk
  have hk' : k < m * 3 := List.mem_range.1 hk
  unfold cellF updS
  rw [if_neg (show ¬ k / 3 = m by omega)]


namespace Kept
variable {N0 Sb : Nat} {w w1 w2 : World}
theorem refl (N0 Sb : Nat) (w : World) : Kept N0 Sb w w := ⟨rfl, rfl, rfl, Nat.le_refl _, fun _ _ _ => rfl⟩
theorem trans (h : Kept N0 Sb w w1) (k : Kept N0 Sb w1 w2) : Kept N0 Sb w w2 :=
  ⟨k.os.trans h.os, k.tape.trans h.tape, k.output.trans h.output, Nat.le_trans h.size k.size, fun i h1 h2 => (k.block i h1 h2).trans (h.block i h1 h2)⟩
theorem setCell (h : Kept N0 Sb w w1) {p : Addr} (hp : p.block = Sb ∨ N0 ≤ p.block) (u : Value) : Kept N0 Sb w (w1.setCell p u) :=
  h.trans ⟨rfl, rfl, rfl, by simp [World.setCell], fun k h1 h2 => Below.heap_setCell _ _ _ _ (by rcases hp with e | e <;> omega)⟩
theorem alloc (h : Kept N0 Sb w w1) (hN : N0 ≤ w1.heap.size) (o : Obj) : Kept N0 Sb w (w1.alloc o) :=
  h.trans ⟨rfl, rfl, rfl, by simp, fun k h1 h2 => Below.heap_alloc _ _ _ (by omega)⟩
theorem drewN (h : Kept N0 Sb w w1) (n : Nat) : Kept N0 Sb w (w1.drewN n) := h.trans ⟨rfl, rfl, rfl, Nat.le_refl _, fun _ _ _ => rfl⟩
theorem below (h : Kept N0 Sb w w1) {B : Nat} (hb : Below B w1 w2) (hN : N0 ≤ B) : Kept N0 Sb w w2 :=
  h.trans ⟨hb.os, hb.tape, hb.output, hb.size, fun k h1 h2 => hb.block k (by omega)⟩
theorem grown (h : Kept N0 Sb w w1) {row : Option Nat} (hg : w1.grownBy w2 row) (hN : N0 ≤ w1.heap.size) (hr : ∀ k, row = some k → N0 ≤ k) : Kept N0 Sb w w2 :=
  h.trans ⟨hg.os, hg.tape, hg.output, hg.size, fun k h1 h2 => hg.block k (by omega) (fun e => by have := hr k e.symm; omega)⟩
theorem cell (h : Kept N0 Sb w w1) {p : Addr} (hp : p.block < N0) (hs : p.block ≠ Sb) : w1.cell? p = w.cell? p := World.cell?_of_block (w := w) (h.block _ hp hs)
theorem frozen (h : Kept N0 Sb w w1) {p : Addr} (hp : p.block < N0) (hs : p.block ≠ Sb) : w1.frozen? p = w.frozen? p := World.frozen?_of_block (w := w) (h.block _ hp hs)
end Kept

theorem Sess.alloc {w : World} {Sb N0 m : Nat} {L : Nat → Int × Int × Int} {u : Int} (h : Sess w Sb N0 L m u) (o : Obj) : Sess (w.alloc o) Sb N0 L m u := by
  obtain ⟨⟨v, h1, h2⟩, h3, h4, h5, h6, h7⟩ := h
  have hlt : Sb < w.heap.size := by omega
  refine ⟨⟨v, by rw [World.cell?_alloc_past _ _ _ hlt]; exact h1, h2.alloc o⟩, by rw [World.cell?_alloc_past _ _ _ hlt]; exact h3, by rw [World.frozen?_alloc_past _ _ _ hlt]; exact h4, by rw [World.frozen?_alloc_past _ _ _ hlt]; exact h5, h6, ?_⟩
  rw [World.size_alloc]
  omega
theorem Sess.drewN {w : World} {Sb N0 m : Nat} {L : Nat → Int × Int × Int} {u : Int} (h : Sess w Sb N0 L m u) (n : Nat) : Sess (w.drewN n) Sb N0 L m u := ⟨h.slots, h.uses, h.f0, h.f1, h.lt, h.le⟩
theorem Sess.drew {w : World} {Sb N0 m : Nat} {L : Nat → Int × Int × Int} {u : Int} (h : Sess w Sb N0 L m u) : Sess w.drew Sb N0 L m u := ⟨h.slots, h.uses, h.f0, h.f1, h.lt, h.le⟩

/-- append onto a row of the call's own, as one step of a region that draws. -/
theorem step_append_own {P : Program} {ops : Array Oper} {o : Oper} {a : Act} {w : World} {K : Act → World → Prop} {Q : Exit → Act → World → Prop} {E : Prop}
    (hg : o.guard = none) (s x : Operand) (t : TypeId) (hop : o.op = Op.call { callee := Callee.builtin Builtin.append, args := #[s, x], argTypes := #[t, t] })
    (base : Nat) (e : TypeId) (i : TypeInfo) (z : Value) (size bytes : Nat) (h1 : P.underlying t = some (.slice e)) (h2 : P.info? e = some i) (h3 : i.zero = some z) (h4 : i.size = size) (h5 : i.bytes = bytes) (h6 : z.cells.size = size) (h7 : 0 < size)
    (v : Value) (n : Nat) (xs : List Value) (hs : a.eval s = v) (hown : w.ownsRow base e size v n xs)
    (ad : Addr) (m c : Nat) (news : List Value) (hx : a.eval x = .slice (some ad) m c) (hn : news.length = m * size) (hc : ∀ j u, news[j]? = some u → w.cell? (ad.add j) = some u) (h1c : ∀ u ∈ news, u.oneCell' = true)
    (b1 : n + m ≤ maxLen) (b2 : (n + m) * bytes ≤ 140737488355328) (hbase : base ≤ w.heap.size)
    (hK : ∀ v' w', w'.ownsRow base e size v' (n + m) (xs ++ news) → w.grownBy w' v.ownBlock → K (a.put o.dst v') w') :
    if Region.wanted o (yielded ops a.tmps) = true then Oper.wp P o a w K Q else E := by
  have hw : Region.wanted o (yielded ops a.tmps) = true := by simp [Region.wanted, hg]
  rw [if_pos hw]
  obtain ⟨v', w', hrun, r1, r2, _⟩ := run_append_own (P := P) w base t o.type e i z size bytes h1 h2 h3 h4 h5 h6 h7 v n xs hown ad m c news hn hc h1c b1 b2 hbase
  unfold Oper.wp
  simp [execOp, hop, resolve, invoke, builtin, hs, hx, hrun, Result.andThen]
  exact hK v' w' r1 r2

end Go.Proofs.Qxb6600567a
