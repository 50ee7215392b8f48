/- Slices of integers and of pixels that a call owns: their cells, and appending to them. No function of the program in sight. -/
import Derived.Test.YtkiibhpmembcgaaDoorGBase
import Derived.Test.YtkiibhpmembcgaaDoorSh
import Derived.Test.YtkiibhpmembcgaaDoorGMath
import Derived.Laws.AppendOwnNone
import Derived.Deep.RegionLaw
namespace Go.Proofs.YtkiibhpmembcgaaDoor
open Go.ChangeShapes Go.WideShapes Go.ChangeAt Go.RowKit Go.IntWalk

def nvals (l : List Nat) : List Value := l.map fun (v : Nat) => Value.int .i64 (v : Int)
theorem nvals_len (l : List Nat) : (nvals l).length = l.length := by simp [nvals]
theorem nvals_app (l m : List Nat) : nvals (l ++ m) = nvals l ++ nvals m := by simp [nvals]
/-- The call's own slice of these integers. -/
def OwnI (w : World) (base : Nat) (v : Value) (l : List Nat) : Prop := w.ownsRow base 3 1 v l.length (nvals l)
theorem OwnI.nil (w : World) (base : Nat) : OwnI w base (.slice none 0 0) [] := World.ownsRow_nil _ _ _ _
theorem OwnI.empty (w : World) (base : Nat) (hb : base ≤ w.heap.size) : OwnI (w.alloc (.cells #[] 3)) base (.slice (some ⟨w.heap.size, 0, none⟩) 0 0) [] :=
  World.ownsRow_lit w #[] 0 hb (by unfold maxLen; omega) rfl
theorem OwnI.below {w w' : World} {base : Nat} {v : Value} {l : List Nat} (h : OwnI w base v l) (hb : Below w.heap.size w w') : OwnI w' base v l := ownsRow_below h hb
theorem OwnI.mono {w : World} {base base' : Nat} {v : Value} {l : List Nat} (h : OwnI w base v l) (hb : base' ≤ base) : OwnI w base' v l := ownsRow_mono h hb
theorem OwnI.alloc {w : World} {base : Nat} {v : Value} {l : List Nat} (h : OwnI w base v l) (o : Obj) : OwnI (w.alloc o) base v l := World.ownsRow.alloc h o
/-- Its shape: a slice of that length that reads as the integers. -/
theorem OwnI.shape {w : World} {base : Nat} {v : Value} {l : List Nat} (h : OwnI w base v l) :
    ∃ ad cap, v = .slice ad l.length cap ∧ (∀ p, ad = some p → ∀ j u, (nvals l)[j]? = some u → w.cell? (p.add j) = some u) ∧ l.length ≤ cap ∧ (ad = none → l.length = 0 ∧ cap = 0) ∧ (∀ a, ad = some a → base ≤ a.block ∧ a.block < w.heap.size ∧ a.off = 0 ∧ a.spot = none) := by
  rcases h.2 with ⟨rfl, hl⟩ | ⟨g, cap, cur, rfl, hb, hg, hnc, hcm, hcs, htake⟩
  · exact ⟨none, 0, by rw [hl], (fun p e => by cases e), by omega, fun _ => ⟨hl, rfl⟩, (fun a h => by cases h)⟩
  · refine ⟨some ⟨g, 0, none⟩, cap, rfl, fun p e j u hj => ?_, hnc, (fun h => by cases h), fun a ha => ?_⟩
    · simp only [Option.some.injEq] at e
      subst e
      have hjl : j < l.length := by
        rcases Nat.lt_or_ge j l.length with h' | h'
        · exact h'
        · rw [List.getElem?_eq_none (by rw [nvals_len]; exact h')] at hj; simp at hj
      have hc := World.ownsRow.cellAt (w := w) h j (by omega)
      rw [Addr.add_lit, Nat.zero_add, hc, hj]
    · simp only [Option.some.injEq] at ha
      subst ha
      refine ⟨hb, ?_, rfl, rfl⟩
      rcases Nat.lt_or_ge g w.heap.size with h' | h'
      · exact h'
      · simp [Array.getElem?_eq_none h'] at hg
/-- One of the integers. -/
theorem OwnI.at {w : World} {base g o n cap : Nat} {l : List Nat} (h : OwnI w base (.slice (some ⟨g, o, none⟩) n cap) l) (j : Nat) (hj : j < l.length) :
    w.cell? ⟨g, o + j, none⟩ = some (.int .i64 (l.getD j 0 : Nat)) := by
  obtain ⟨ad, cap', e, hc, -, -, ho⟩ := h.shape
  simp only [Value.slice.injEq] at e
  obtain ⟨rfl, -, -⟩ := e
  have h0 := (ho _ rfl).2.2.1
  simp only at h0
  subst h0
  have := hc _ rfl j (.int .i64 (l.getD j 0 : Nat)) (by simp [nvals, List.getD, hj])
  rw [Addr.add_lit] at this
  exact this
theorem info_int : (Tryd.prog.info? 3).map (fun i => (i.zero, i.size, i.bytes)) = some (some (.int .i64 0), 1, 8) := by kernel_rfl
theorem oneCell_ints (l : List Nat) : ∀ u ∈ nvals l, u.oneCell' = true := by
  intro u hu
  obtain ⟨b, _, rfl⟩ := List.mem_map.1 hu
  rfl
/-- 'append(out, x...)' of integers, 'out' the call's own. -/
theorem wpList_append_ints {w : World} {ops : Array Oper} {rest : List Oper} {o : Oper} {a : Act} {Q : Exit → Act → World → Prop} (hgd : o.guard = none) (s x : Operand)
    (ho : o.op = .call { callee := .builtin .append, args := #[s, x], argTypes := #[31, 31] })
    (base : Nat) (v : Value) (l news : List Nat) (hs : a.eval s = v) (hown : OwnI w base v l) (ad : Option Addr) (m c : Nat) (hx : a.eval x = .slice ad m c)
    (hm : news.length = m) (hr : ∀ p, ad = some p → ∀ j u, (nvals news)[j]? = some u → w.cell? (p.add j) = some u) (hn : ad = none → m = 0 ∧ c = 0) (hb : l.length + m ≤ 10000000) (hbase : base ≤ w.heap.size)
    (h : ∀ v' w', OwnI w' base v' (l ++ news) → Below base w w' → w.grownBy w' v.ownBlock → wpList Tryd.prog ops Q rest (a.put o.dst v') w') : wpList Tryd.prog ops Q (o :: rest) a w := by
  obtain ⟨i0, hi, hz0, hz1, hz2⟩ := info_parts info_int
  cases ad with
  | none =>
    obtain ⟨rfl, rfl⟩ := hn rfl
    obtain rfl : news = [] := List.eq_nil_of_length_eq_zero hm
    refine wpList_append_own_none hgd s x 31 ho base 3 i0 1 Tryd.underlying31 hi v _ _ hs hown hx ?_
    exact h v w (by simpa using hown) (Below.refl _ _) (World.grownBy.refl _ _)
  | some p =>
    refine wpList_append_own w hgd s x 31 ho base 3 i0 (.int .i64 0) 1 8 Tryd.underlying31 hi hz0 hz1 hz2 rfl (by decide) v _ _ hs hown p m c (nvals news) hx (by rw [nvals_len, hm, Nat.mul_one]) (hr p rfl) (oneCell_ints _) (by unfold maxLen; omega) (by omega) hbase ?_
    intro v' w' ho' hg hnil
    refine h v' w' ?_ ((Below.refl _ _).grown hg hbase (fun k hk => (World.ownsRow.lt hown k hk).1)) hg
    unfold OwnI
    rw [List.length_append, nvals_app, hm]
    exact ho'

/-- The same at a step of a region that draws its order. -/
theorem step_append_ints {w : World} {ops : Array Oper} {o : Oper} {a : Act} {K : Act → World → Prop} {Q : Exit → Act → World → Prop} {E : Prop} (hgd : o.guard = none) (s x : Operand)
    (ho : o.op = .call { callee := .builtin .append, args := #[s, x], argTypes := #[31, 31] })
    (base : Nat) (v : Value) (l news : List Nat) (hs : a.eval s = v) (hown : OwnI w base v l) (p : Addr) (m c : Nat) (hx : a.eval x = .slice (some p) m c)
    (hm : news.length = m) (hr : ∀ j u, (nvals news)[j]? = some u → w.cell? (p.add j) = some u) (hb : l.length + m ≤ 10000000) (hbase : base ≤ w.heap.size)
    (h : ∀ v' w', OwnI w' base v' (l ++ news) → Below base w w' → w.grownBy w' v.ownBlock → K (a.put o.dst v') w') : if Region.wanted o (yielded ops a.tmps) = true then Oper.wp Tryd.prog o a w K Q else E := by
  have hw : Region.wanted o (yielded ops a.tmps) = true := by simp [Region.wanted, hgd]
  rw [if_pos hw]
  obtain ⟨i0, hi, hz0, hz1, hz2⟩ := info_parts info_int
  refine wp_append_own w s x 31 ho base 3 i0 (.int .i64 0) 1 8 Tryd.underlying31 hi hz0 hz1 hz2 rfl (by decide) v _ _ hs hown p m c (nvals news) hx (by rw [nvals_len, hm, Nat.mul_one]) hr (oneCell_ints _) (by unfold maxLen; omega) (by omega) hbase ?_
  intro v' w' ho' hg hnil
  refine h v' w' ?_ ((Below.refl _ _).grown hg hbase (fun k hk => (World.ownsRow.lt hown k hk).1)) hg
  unfold OwnI
  rw [List.length_append, nvals_app, hm]
  exact ho'

theorem RB.kept {w w' : World} {ad : Option Addr} {l : List UInt8} (h : RB w ad l) (hk : ∀ p, ad = some p → w'.heap[p.block]? = w.heap[p.block]?) : RB w' ad l := by
  intro hl
  obtain ⟨b, off, e, hc⟩ := h hl
  refine ⟨b, off, e, fun j hj => ?_⟩
  exact (World.cell?_of_block (w := w) (show w'.heap[b]? = w.heap[b]? from hk _ e)).trans (hc j hj)
end Go.Proofs.YtkiibhpmembcgaaDoor
