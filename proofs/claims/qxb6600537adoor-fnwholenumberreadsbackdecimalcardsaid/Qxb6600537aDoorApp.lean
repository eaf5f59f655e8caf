import Derived.Test.Qxb6600537aDoorClone
import Derived.Deep.AppendSrc
import Derived.Lib.LazyBuf
namespace Go.Proofs.Qxb6600537aDoor
open Go.ChangeShapes Go.WideShapes Go.ChangeAt Go.RowKit
set_option linter.unusedVariables false

/-- The cells that a row of m bytes holds. -/
def cellsOf8 (G : Nat → Int) (m : Nat) : List Value := (List.range m).map fun j => Value.int .u8 (G j)
theorem cellsOf8_len (G : Nat → Int) (m : Nat) : (cellsOf8 G m).length = m := by simp [cellsOf8]
theorem cellsOf8_get (G : Nat → Int) (m j : Nat) : (cellsOf8 G m)[j]? = if j < m then some (Value.int .u8 (G j)) else none := by
  unfold cellsOf8
  rw [List.getElem?_map]
  by_cases h : j < m
  · rw [if_pos h, List.getElem?_range h]; rfl
  · rw [if_neg h, List.getElem?_eq_none (by simpa using h)]; rfl

/-- What an append reads: no element, whatever the address; or the cells behind an address. -/
def SrcRow (w : World) (a : Option Addr) (m : Nat) (G : Nat → Int) : Prop :=
  m = 0 ∨ ∃ ad : Addr, a = some ad ∧ ∀ j, j < m → w.cell? (ad.add j) = some (.int .u8 (G j))
theorem Row.src {w : World} {a : Option Addr} {n : Nat} {f : Nat → Int} (h : Row w a n f) : SrcRow w a n f := by
  rcases h with h | ⟨B, h1, h2, h3⟩
  · exact .inl h
  · exact .inr ⟨_, h1, fun j hj => by rw [add_plain, Nat.zero_add]; exact h3 j hj⟩
theorem SrcRow.mk {w : World} {a : Option Addr} {m c : Nat} {G : Nat → Int} (h : SrcRow w a m G) : Src Tryd.prog 1 22 (.slice a m c) m (cellsOf8 G m) w := by
  have one : ∀ u ∈ cellsOf8 G m, u.oneCell' = true := by
    intro u hu
    obtain ⟨_, _, rfl⟩ := List.mem_map.1 hu
    rfl
  cases a with
  | none =>
    rcases h with h | ⟨ad, h1, _⟩
    · subst h; exact Src.ofNil w Tryd.underlying22 c
    · cases h1
  | some ad =>
    refine Src.ofSlice w Tryd.underlying22 ad m c _ (by rw [cellsOf8_len, Nat.mul_one]) (fun j u hj => ?_) one
    rw [cellsOf8_get] at hj
    by_cases hjm : j < m
    · rw [if_pos hjm] at hj
      cases hj
      rcases h with h | ⟨ad', h1, h2⟩
      · omega
      · cases h1; exact h2 j hjm
    · rw [if_neg hjm] at hj; cases hj

theorem size_setCells (b : Nat) : ∀ (vs : List Value) (o : Nat) (w : World), (w.setCells b o vs).heap.size = w.heap.size
  | [], _, _ => rfl
  | v :: r, o, w => by
    show ((w.setCell ⟨b, o, none⟩ v).setCells b (o + 1) r).heap.size = _
    rw [size_setCells b r]
    simp [World.setCell]

/-- 'append' where there is room, onto a row of the call's own. -/
theorem wpList_append_row {ops : Array Oper} {rest : List Oper} {o : Oper} {a : Act} {w : World} {Q : Exit → Act → World → Prop} (hgd : o.guard = none) (s x : Operand)
    (ho : o.op = .call { callee := .builtin .append, args := #[s, x], argTypes := #[22, 22] })
    (g n cap : Nat) (F : Nat → Int) (hs : a.eval s = .slice (some ⟨g, 0, none⟩) n cap) (hrow : w.rowIs g 5 cap (fun j => .int .u8 (F j)))
    (ax : Option Addr) (m c : Nat) (G : Nat → Int) (hx : a.eval x = .slice ax m c) (hsrc : SrcRow w ax m G) (hroom : n + m ≤ cap)
    (h : ∀ w', w'.rowIs g 5 cap (fun j => .int .u8 (if n ≤ j ∧ j < n + m then G (j - n) else F j)) → Below g w w' → w'.heap.size = w.heap.size →
      wpList Tryd.prog ops Q rest (a.put o.dst (.slice (some ⟨g, 0, none⟩) (n + m) cap)) w') : wpList Tryd.prog ops Q (o :: rest) a w := by
  obtain ⟨i, hi, hzz⟩ := Option.map_eq_some_iff.1 info5
  simp only [Prod.mk.injEq] at hzz
  obtain ⟨hz, hsz, hb⟩ := hzz
  have hr := run_append_room_src (P := Tryd.prog) w 22 22 o.type 5 i Tryd.underlying22 hi g 0 n cap (.slice ax m c) m (cellsOf8 G m) (by rw [hsz]; exact hsrc.mk) hroom
    (fun j hj => by
      rw [cellsOf8_len] at hj
      rw [hsz, Nat.mul_one, Nat.zero_add, hrow.cell (by omega)]; rfl)
    (fun j hj => by rw [hsz, Nat.mul_one, Nat.zero_add]; exact hrow.frozen _)
  rw [hsz, Nat.mul_one, Nat.zero_add] at hr
  refine wpList_plain hgd fun K hK => ?_
  unfold Oper.wp execOp
  simp only [ho, resolve, invoke, builtin, Sem.run_bind, Sem.run_pure, Result.andThen_ok, List.map_toArray, List.map_cons, List.map_nil, hs, hx, hr]
  refine hK _ _ (h _ ?_ (below_setCells (Nat.le_refl _) _ _ _ (Below.refl _ _)) (size_setCells _ _ _ _))
  refine (rowIs_setCells (cellsOf8 G m) n w _ hrow).congr (fun j hj => ?_)
  rw [cellsOf8_len]
  by_cases h1 : n ≤ j ∧ j < n + m
  · rw [if_pos h1, if_pos h1, cellsOf8_get, if_pos (by omega)]; rfl
  · rw [if_neg h1, if_neg h1]
end Go.Proofs.Qxb6600537aDoor
