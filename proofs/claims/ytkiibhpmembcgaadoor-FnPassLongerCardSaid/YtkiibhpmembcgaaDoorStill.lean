/- A drawing region whose operations but the last leave the world as it is: laws for walking it operation by operation, the goal kept shut (a 'refine' brings an open goal to its head form and so runs into the semantics). No function of the program in sight. -/
import Derived.Test.YtkiibhpmembcgaaDoorGBase
import Derived.StillTail
namespace Go.Proofs.YtkiibhpmembcgaaDoor
open Go.ChangeShapes Go.WideShapes Go.ChangeAt Go.RowKit Go.IntWalk

section
variable {P : Program} {ops : Array Oper} {w : World}
theorem wanted_free {o : Oper} {y : Nat → Option Bool} (h : o.guard = none) : Region.wanted o y = true := by simp [Region.wanted, h]
structure SW (P : Program) (ops : Array Oper) (w : World) (Q : Act → Prop) (l : List Oper) (a : Act) : Prop where
  out : wpStill P ops w Q l a
structure LW (P : Program) (ops : Array Oper) (Q : Exit → Act → World → Prop) (l : List Oper) (a : Act) (w : World) : Prop where
  out : wpList P ops Q l a w
structure RunIs (r r' : Result Next) : Prop where
  out : r = r'
theorem still_at (d : Option Tmp) {Q : Act → Prop} {o : Oper} {rest : List Oper} {a : Act} {v : Value} (hd : o.dst = d) (hg : o.guard = none)
    (hr : RunIs ((execOp a.eval o).run P w) (.ok (.value v) w)) (h : SW P ops w Q rest (a.put d v)) : SW P ops w Q (o :: rest) a := by
  subst hd
  constructor
  have hw := wanted_free (y := yielded ops a.tmps) hg
  simp only [wpStill, hw, if_true, Oper.still, hr.out, Oper.stillUpon_value]
  exact h.out
theorem wpStill_mono' {K K' : Act → Prop} (h : ∀ a, K a → K' a) : ∀ (l : List Oper) (a : Act), wpStill P ops w K l a → wpStill P ops w K' l a
  | [], a, hh => h a hh
  | o :: l, a, hh => by
    simp only [wpStill] at hh ⊢
    split
    · rename_i hw
      rw [if_pos hw] at hh
      exact Oper.still_mono (wpStill_mono' h l) hh
    · rename_i hw
      rw [if_neg hw] at hh
      exact wpStill_mono' h l _ hh
theorem still_nil {Q : Act → Prop} {a : Act} (h : Q a) : SW P ops w Q [] a := ⟨h⟩
theorem list_value (d : Option Tmp) {Q : Exit → Act → World → Prop} {o : Oper} {rest : List Oper} {a : Act} {w w' : World} {v : Value} (hd : o.dst = d) (hg : o.guard = none)
    (hr : RunIs ((execOp a.eval o).run P w) (.ok (.value v) w')) (h : LW P ops Q rest (a.put d v) w') : LW P ops Q (o :: rest) a w := by
  subst hd
  constructor
  have hw := wanted_free (y := yielded ops a.tmps) hg
  simp only [wpList, hw, if_true, Oper.wp, hr.out, Oper.upon]
  exact .inl h.out
theorem list_skip {Q : Exit → Act → World → Prop} {o : Oper} {rest : List Oper} {a : Act} {w w' : World} (hd : o.dst = none) (hg : o.guard = none)
    (hr : RunIs ((execOp a.eval o).run P w) (.ok .skip w')) (h : LW P ops Q rest a w') : LW P ops Q (o :: rest) a w := by
  constructor
  have hw := wanted_free (y := yielded ops a.tmps) hg
  simp only [wpList, hw, if_true, Oper.wp, hr.out, Oper.upon]
  refine .inl ?_
  rw [hd]
  exact h.out
/-- A call as the list's next operation. -/
theorem list_call (d : Option Tmp) {Q : Exit → Act → World → Prop} {o : Oper} {rest : List Oper} {a : Act} {w : World} {f : FuncId} {args : Array Value} (hd : o.dst = d) (hg : o.guard = none)
    (hr : RunIs ((execOp a.eval o).run P w) (.ok (.enter f args) w)) (h : Calls P f args w (fun e w'' => ∃ v, e = .returned v ∧ LW P ops Q rest (a.put d v) w'')) : LW P ops Q (o :: rest) a w := by
  subst hd
  constructor
  have hw := wanted_free (y := yielded ops a.tmps) hg
  simp only [wpList, hw, if_true, Oper.wp, hr.out, Oper.upon_enter]
  refine .inl (h.mono ?_)
  rintro e w' ⟨v, rfl, h2⟩
  exact h2.out
theorem list_row (d : Option Tmp) {Q : Exit → Act → World → Prop} {o : Oper} {rest : List Oper} {a : Act} {w : World} {f : String} {args : Array Value} (hd : o.dst = d) (hg : o.guard = none)
    (hr : RunIs ((execOp a.eval o).run P w) (.ok (.row f args) w)) (h : Rows P f args w (fun v w'' => LW P ops Q rest (a.put d v) w'')) : LW P ops Q (o :: rest) a w := by
  subst hd
  constructor
  have hw := wanted_free (y := yielded ops a.tmps) hg
  simp only [wpList, hw, if_true, Oper.wp, hr.out, Oper.upon_row]
  exact .inl (fun c cs => let ⟨v, w', r, s⟩ := h c cs; ⟨v, w', r.out, s⟩)
theorem list_nil {Q : Exit → Act → World → Prop} {a : Act} {w : World} (h : Q .normal a w) : LW P ops Q [] a w := ⟨h⟩
theorem region_still_tail {id : Nat} {Q : Exit → Act → World → Prop} {a : Act} {w : World} {l : List Oper} (n : Nat) (hm : P.follows .mixedOrders = true) (hB : Region.lexTailB .any l.toArray n = true)
    (h : ∀ wd, wd = w.drew → SW P l.toArray wd (fun a' => LW P l.toArray Q (l.drop n) a' wd) (l.take n) a) : (Code.region id l.toArray true).wp P Q a w := by
  have h2 := (h _ rfl).out
  refine wp_region_still_tail n hm hB ?_
  exact wpStill_mono' (fun a h => h.out) _ _ h2
theorem region_still_all {id : Nat} {Q : Exit → Act → World → Prop} {a : Act} {w : World} {l : List Oper} (hm : P.follows .mixedOrders = true) (hB : Region.lexB .any l.toArray = true)
    (h : ∀ wd, wd = w.drew → SW P l.toArray wd (fun a' => Q .normal a' wd) l a) : (Code.region id l.toArray true).wp P Q a w :=
  wp_region_still_lit hm hB (h _ rfl).out
end
theorem gd_ne (t : Array Value) (i j : Nat) (v d : Value) (h : (i == j) = false) : (t.setIfInBounds i v).getD j d = t.getD j d := by
  have : i ≠ j := by simpa using h
  simp [Array.getD_eq_getD_getElem?, Array.getElem?_setIfInBounds_ne this]
theorem gd_eq (t : Array Value) (i : Nat) (v d : Value) (h : i < t.size) : (t.setIfInBounds i v).getD i d = v := by
  simp [h]
theorem abs_frame {P : Program} {c : Code} {Q : Exit → Act → World → Prop} {w : World} (a : Act) (h : ∀ A, A = a → c.wp P Q A w) : c.wp P Q a w := h a rfl
theorem seg_at {w : World} {b o : Nat} {pre post : List Value} {l : List UInt8} (h : Seg w b pre post l) (ho : pre.length = o) (j : Nat) (hj : j < l.length) :
    ∃ x : UInt8, x = l.getD j 0 ∧ w.cell? ⟨b, o + j, none⟩ = some (.int .u8 (x.toNat : Int)) := ⟨_, rfl, h.cellAt ho hj⟩
theorem rb_at {w : World} {b off : Nat} {l : List UInt8} (h : RB w (some ⟨b, off, none⟩) l) (j : Nat) (hj : j < l.length) :
    ∃ x : UInt8, x = l.getD j 0 ∧ w.cell? ⟨b, off + j, none⟩ = some (.int .u8 (x.toNat : Int)) := by
  obtain ⟨b', off', e, hc⟩ := h (by intro e; simp [e] at hj)
  simp only [Option.some.injEq, Addr.mk.injEq, and_true] at e
  obtain ⟨rfl, rfl⟩ := e
  exact ⟨_, rfl, hc j hj⟩
theorem cell_drew {w wd : World} {p : Addr} {v : Value} (h : wd = w.drew) (hx : w.cell? p = some v) : wd.cell? p = some v := by rw [h]; exact hx
theorem froz_drew {w wd : World} {p : Addr} {v : Bool} (h : wd = w.drew) (hx : w.frozen? p = v) : wd.frozen? p = v := by rw [h]; exact hx
theorem lt_drew {w wd : World} {b : Nat} (h : wd = w.drew) (hx : b < w.heap.size) : b < wd.heap.size := by rw [h]; exact hx
end Go.Proofs.YtkiibhpmembcgaaDoor
