/- The walk through the law FnReadPalette. -/
import Derived.Test.YtiiipmcjbibgoaaDoorWPalKind
import Derived.LoopTactic
namespace Go.Proofs.YtiiipmcjbibgoaaDoor
open Go.ChangeShapes Go.WideShapes Go.ChangeAt Go.RowKit Go.IntWalk

theorem setCells_nothing (w : World) (b j : Nat) : w.setCells b j [] = w := by simp [World.setCells]
/-- No byte is appended to four that fill their block. -/
theorem wpList_append_zero {w : World} {ops : Array Oper} {rest : List Oper} {o : Oper} {a : Act} {Q : Exit → Act → World → Prop} (hgd : o.guard = none) (s x : Operand)
    (ho : o.op = .call { callee := .builtin .append, args := #[s, x], argTypes := #[22, 22] }) (g : Nat) (hs : a.eval s = .slice (some ⟨g, 0, none⟩) 4 4)
    (ad : Option Addr) (c : Nat) (hx : a.eval x = .slice ad 0 c)
    (h : wpList Tryd.prog ops Q rest (a.put o.dst (.slice (some ⟨g, 0, none⟩) 4 4)) w) : wpList Tryd.prog ops Q (o :: rest) a w := by
  obtain ⟨i0, hi, hz0, hz1, hz2⟩ := info_parts info_byte
  refine wpList_plain hgd fun K hK => ?_
  have hrun : (Builtin.append_ #[22, 22] o.type #[.slice (some ⟨g, 0, none⟩) 4 4, .slice ad 0 c]).run Tryd.prog w = .ok (.slice (some ⟨g, 0, none⟩) 4 4) w := by
    cases ad with
    | some p =>
      have := run_append_room_cells (P := Tryd.prog) w 22 o.type 5 i0 Tryd.underlying22 hi g 0 4 4 p 0 c [] (by simp) (by simp) (by simp) (by omega) (by simp) (by simp)
      rw [setCells_nothing] at this
      exact this
    | none => simp [Builtin.append_, run_underlying Tryd.underlying22, sizeOf, typeInfo, hi, Builtin.lenOf, Builtin.firstCells, loadCells, storeCells]
  unfold Oper.wp
  simp [execOp, ho, resolve, invoke, builtin, hs, hx, hrun, Result.andThen]
  exact hK _ _ h
/-- Bytes, perhaps none, are appended to a name. -/
theorem wpList_append_name {w : World} {ops : Array Oper} {rest : List Oper} {o : Oper} {a : Act} {Q : Exit → Act → World → Prop} (hgd : o.guard = none) (s x : Operand)
    (ho : o.op = .call { callee := .builtin .append, args := #[s, x], argTypes := #[22, 22] }) (g : Nat) (name l : List UInt8) (hs : a.eval s = .slice (some ⟨g, 0, none⟩) 4 4)
    (hname : name.length = 4) (hrn : RB w (some ⟨g, 0, none⟩) name) (ad : Option Addr) (m c : Nat) (hx : a.eval x = .slice ad m c) (hm : l.length = m) (hr : RB w ad l) (hb : m ≤ 1000000)
    (h : ∀ ad' c' w', RB w' ad' (name ++ l) → Below w.heap.size w w' → wpList Tryd.prog ops Q rest (a.put o.dst (.slice ad' (m + 4) c')) w') : wpList Tryd.prog ops Q (o :: rest) a w := by
  by_cases h0 : m = 0
  · subst h0
    have e : l = [] := List.eq_nil_of_length_eq_zero hm
    subst e
    exact wpList_append_zero hgd s x ho g hs ad c hx (h _ 4 w (by rw [List.append_nil]; exact hrn) (Below.refl _ _))
  · refine wpList_append_named hgd s x ho g name l hs hname hrn ad m c hx hm hr (by omega) hb ?_
    intro v' w' ho' hb'
    obtain ⟨a2, n2, c2, rfl, hm2, hr2, -, -, -, -⟩ := ho'.shapeN
    obtain rfl : n2 = m + 4 := by have h1 := hm2.out; rw [List.length_append, hname, hm] at h1; omega
    exact h a2 c2 w' hr2 hb'
/-- What a call owns of such colors: a slice that reads as they do. -/
theorem shades_shape {w : World} {base n : Nat} {v : Value} {SS : List Sh} (h : w.ownsRow base 29 4 v n (shAll SS)) (hn : n ≠ 0) :
    ∃ g cap, v = .slice (some ⟨g, 0, none⟩) n cap ∧ g < w.heap.size ∧ ∀ j u, (shAll SS)[j]? = some u → w.cell? ⟨g, j, none⟩ = some u := by
  rcases h.2 with ⟨-, h2⟩ | ⟨g, cap, cur, rfl, hb, hg, r⟩
  · exact absurd h2 hn
  · refine ⟨g, cap, rfl, ?_, fun j u hj => ?_⟩
    · rcases Nat.lt_or_ge g w.heap.size with h' | h'
      · exact h'
      · simp [Array.getElem?_eq_none h'] at hg
    · have := World.ownsRow.cells (w := w) h (g := g) rfl j u hj
      rwa [show ((⟨g, 0, none⟩ : Addr).add j) = ⟨g, j, none⟩ by rw [Addr.add_lit, Nat.zero_add]] at this
theorem shAll_at (SS : List Sh) (t : Nat) (s : Sh) (h : SS[t]? = some s) (j : Nat) (hj : j < 4) : (shAll SS)[4 * t + j]? = (shC s)[j]? := by
  have e : SS = SS.take t ++ s :: SS.drop (t + 1) := by
    obtain ⟨h1, h2⟩ := List.getElem?_eq_some_iff.1 h
    rw [← h2, List.getElem_cons_drop, List.take_append_drop]
  have hl : (shAll (SS.take t)).length = 4 * t := by
    rw [shAll_len, List.length_take]
    have := (List.getElem?_eq_some_iff.1 h).1
    omega
  have e2 : shAll SS = shAll (SS.take t) ++ (shC s ++ shAll (SS.drop (t + 1))) := by
    rw [congrArg shAll e]
    simp [shAll]
  rw [e2, List.getElem?_append_right (by omega), hl, Nat.add_sub_cancel_left, List.getElem?_append_left (by rw [shC_len]; exact hj)]
end Go.Proofs.YtiiipmcjbibgoaaDoor
