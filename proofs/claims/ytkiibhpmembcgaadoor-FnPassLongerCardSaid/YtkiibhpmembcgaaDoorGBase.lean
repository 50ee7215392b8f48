/- Slices of bytes in memory: what it means that a slice reads as a list of bytes, and how that is kept. No function of the program in sight. A stretch of bytes inside one block of memory that is written in place: what it holds, what a store does to it, and that nothing else turns. No function of the program in sight. The contract of slices.Clone at bytes: a new slice of the same bytes. What every law's frame uses: the named variables read again where old memory stands; a slice of bytes that came in reads as a list of bytes. Small facts on memory. No function of the program in sight. Plain mathematics of bytes and of the Paeth predictor: no program in sight. The contract of abs of the package. -/
import Derived.Test.YtkiibhpmembcgaaDoorRows
import Derived.WalkKit
import Derived.ProofKit
import Derived.OpenShut
import Derived.Below
import Derived.Lib.Hide
import Derived.Lib.SliceRun
import Derived.Laws.AppendOwnNone
import Derived.WalkSmall
import Derived.Lib.BufferWrite
import Derived.ChangeBears2
import Derived.ChangeOld
import Derived.Carry
import Derived.Deep.RegionHeld3
import Derived.Laws.Rows
import Derived.Laws.BitsAllLaws
import Derived.IntWalk
namespace Go.Proofs.YtkiibhpmembcgaaDoor
open Go.ChangeShapes Go.WideShapes Go.ChangeAt Go.RowKit

theorem ret_int {k : IntKind} {a b : Int} (h : a = b) : Ending.returned (.int k a) = .returned (.int k b) := by rw [h]

/-- A byte as a value. -/
abbrev bval (v : UInt8) : Value := .int .u8 (v.toNat : Int)
/-- A slice at this address reads as these bytes. -/
def RB (w : World) (ad : Option Addr) (l : List UInt8) : Prop :=
  l ≠ [] → ∃ b off, ad = some ⟨b, off, none⟩ ∧ ∀ j, j < l.length → w.cell? ⟨b, off + j, none⟩ = some (.int .u8 ((l.getD j 0).toNat : Int))
theorem RB.nil (w : World) (ad : Option Addr) : RB w ad [] := fun h => absurd rfl h
theorem RB.lt {w : World} {b off : Nat} {l : List UInt8} (h : RB w (some ⟨b, off, none⟩) l) (hl : l ≠ []) : b < w.heap.size := by
  obtain ⟨b', off', e, hc⟩ := h hl
  simp only [Option.some.injEq, Addr.mk.injEq, and_true] at e
  obtain ⟨rfl, rfl⟩ := e
  exact World.block_lt_of_cell? w _ (hc 0 (List.length_pos_iff.2 hl))
theorem RB.below {w w' : World} {ad : Option Addr} {l : List UInt8} (h : RB w ad l) (hb : Below w.heap.size w w') : RB w' ad l := by
  intro hl
  obtain ⟨b, off, e, hc⟩ := h hl
  refine ⟨b, off, e, fun j hj => ?_⟩
  rw [hb.cell (p := ⟨b, off + j, none⟩) (World.block_lt_of_cell? w _ (hc j hj))]
  exact hc j hj
/-- One byte of it, under a name of its own. -/
theorem RB.at {w : World} {b off : Nat} {l : List UInt8} (h : RB w (some ⟨b, off, none⟩) l) (j : Nat) (hj : j < l.length) :
    ∃ x : UInt8, Hid (l[j]? = some x) ∧ w.cell? ⟨b, off + j, none⟩ = some (.int .u8 (x.toNat : Int)) := by
  obtain ⟨b', off', e, hc⟩ := h (by intro e; simp [e] at hj)
  simp only [Option.some.injEq, Addr.mk.injEq, and_true] at e
  obtain ⟨rfl, rfl⟩ := e
  refine ⟨l.getD j 0, Lib.hid ?_, hc j hj⟩
  simp [List.getD, List.getElem?_eq_getElem hj]
/-- A new block of one byte, as the text 'append(out, v)' lays it. -/
theorem RB.one (w : World) (v : UInt8) (t : TypeId) : RB (w.alloc (.cells #[.int .u8 (v.toNat : Int)] t)) (some ⟨w.heap.size, 0, none⟩) [v] := by
  intro _
  refine ⟨w.heap.size, 0, rfl, fun j hj => ?_⟩
  obtain rfl : j = 0 := by simpa using hj
  simp

/-- The call's own slice (blocks from 'base' on) of these bytes. -/
def OwnB (w : World) (base : Nat) (v : Value) (l : List UInt8) : Prop := w.ownsRow base 5 1 v l.length (l.map fun b => .int .u8 (b.toNat : Int))
theorem OwnB.nil (w : World) (base : Nat) : OwnB w base (.slice none 0 0) [] := World.ownsRow_nil _ _ _ _
theorem OwnB.alloc {w : World} {base : Nat} {v : Value} {l : List UInt8} (h : OwnB w base v l) (o : Obj) : OwnB (w.alloc o) base v l := World.ownsRow.alloc h o
theorem OwnB.drew {w : World} {base : Nat} {v : Value} {l : List UInt8} (h : OwnB w base v l) : OwnB w.drew base v l := h
theorem OwnB.empty (w : World) (base : Nat) (hb : base ≤ w.heap.size) : OwnB (w.alloc (.cells #[] 5)) base (.slice (some ⟨w.heap.size, 0, none⟩) 0 0) [] :=
  World.ownsRow_lit w #[] 0 hb (by unfold maxLen; omega) rfl
/-- Its shape: a slice of that length that reads as the bytes. -/
theorem OwnB.shape {w : World} {base : Nat} {v : Value} {l : List UInt8} (h : OwnB w base v l) :
    ∃ ad cap, v = .slice ad l.length cap ∧ RB w ad l ∧ l.length ≤ cap ∧ cap ≤ maxLen ∧ (ad = none → l.length = 0 ∧ cap = 0) ∧ (∀ a, ad = some a → base ≤ a.block ∧ a.block < w.heap.size ∧ a.off = 0 ∧ a.spot = none) := by
  rcases h.2 with ⟨rfl, hl⟩ | ⟨g, cap, cur, rfl, hb, hg, hnc, hcm, hcs, htake⟩
  · have e : l = [] := List.eq_nil_of_length_eq_zero hl
    subst e
    exact ⟨none, 0, rfl, RB.nil _ _, Nat.le_refl _, by unfold maxLen; omega, fun _ => ⟨rfl, rfl⟩, (fun a h => by cases h)⟩
  · refine ⟨some ⟨g, 0, none⟩, cap, rfl, fun _ => ⟨g, 0, rfl, fun j hj => ?_⟩, hnc, hcm, (fun h => by cases h), fun a ha => ?_⟩
    · have hc := World.ownsRow.cellAt (w := w) h j (by simpa using hj)
      simpa [List.getD, List.getElem?_eq_getElem hj] using hc
    · simp only [Option.some.injEq] at ha
      subst ha
      refine ⟨hb, ?_, rfl, rfl⟩
      rcases Nat.lt_or_ge g w.heap.size with h' | h'
      · exact h'
      · simp [Array.getElem?_eq_none h'] at hg
/-- The same, its length under a name of its own. -/
theorem OwnB.shapeN {w : World} {base : Nat} {v : Value} {l : List UInt8} (h : OwnB w base v l) :
    ∃ ad n cap, v = .slice ad n cap ∧ Hid (l.length = n) ∧ RB w ad l ∧ n ≤ cap ∧ cap ≤ maxLen ∧ (ad = none → n = 0 ∧ cap = 0) ∧ (∀ a, ad = some a → base ≤ a.block ∧ a.block < w.heap.size ∧ a.off = 0 ∧ a.spot = none) := by
  obtain ⟨ad, cap, h1, h2, h3, h4, h5, h6⟩ := h.shape
  exact ⟨ad, _, cap, h1, Lib.hid rfl, h2, h3, h4, h5, h6⟩
theorem OwnB.below {w w' : World} {base : Nat} {v : Value} {l : List UInt8} (h : OwnB w base v l) (hb : Below w.heap.size w w') : OwnB w' base v l := by
  refine ⟨h.1, ?_⟩
  rcases h.2 with h2 | ⟨g, cap, cur, hv, hg, hh, r⟩
  · exact Or.inl h2
  · refine Or.inr ⟨g, cap, cur, hv, hg, ?_, r⟩
    rw [hb.block g ?_]
    · exact hh
    · rcases Nat.lt_or_ge g w.heap.size with h' | h'
      · exact h'
      · simp [Array.getElem?_eq_none h'] at hh
/-- What the call owns from 'base' on it owns from a smaller number on. -/
theorem OwnB.mono {w : World} {base base' : Nat} {v : Value} {l : List UInt8} (h : OwnB w base v l) (hb : base' ≤ base) : OwnB w base' v l := by
  refine ⟨h.1, ?_⟩
  rcases h.2 with h2 | ⟨g, cap, cur, hv, hg, r⟩
  · exact Or.inl h2
  · exact Or.inr ⟨g, cap, cur, hv, by omega, r⟩
theorem ownBlock_ge {w : World} {base : Nat} {v : Value} {l : List UInt8} (h : OwnB w base v l) : ∀ k, v.ownBlock = some k → base ≤ k := fun k hk => (World.ownsRow.lt h k hk).1

theorem info_byte : (Tryd.prog.info? 5).map (fun i => (i.zero, i.size, i.bytes)) = some (some (.int .u8 0), 1, 1) := by kernel_rfl
theorem oneCell_bytes (l : List UInt8) : ∀ u ∈ l.map (fun b => Value.int .u8 (b.toNat : Int)), u.oneCell' = true := by
  intro u hu
  obtain ⟨b, _, rfl⟩ := List.mem_map.1 hu
  rfl
/-- 'append(out, x...)' of bytes, 'out' the call's own. -/
theorem wpList_append_bytes {w : World} {ops : Array Oper} {rest : List Oper} {o : Oper} {a : Act} {Q : Exit → Act → World → Prop} (hgd : o.guard = none) (s x : Operand)
    (ho : o.op = .call { callee := .builtin .append, args := #[s, x], argTypes := #[23, 23] })
    (base : Nat) (v : Value) (l news : List UInt8) (hs : a.eval s = v) (hown : OwnB w base v l) (ad : Option Addr) (m c : Nat) (hx : a.eval x = .slice ad m c)
    (hm : news.length = m) (hr : RB w ad news) (hn : ad = none → m = 0 ∧ c = 0) (hb : l.length + m ≤ 140737488355328) (hbase : base ≤ w.heap.size)
    (h : ∀ v' w', OwnB w' base v' (l ++ news) → w.grownBy w' v.ownBlock → Below base w w' → (v' = .slice none 0 0 ↔ v = .slice none 0 0 ∧ m = 0) → wpList Tryd.prog ops Q rest (a.put o.dst v') w') : wpList Tryd.prog ops Q (o :: rest) a w := by
  obtain ⟨i0, hi, hz0, hz1, hz2⟩ := info_parts info_byte
  cases ad with
  | none =>
    obtain ⟨rfl, rfl⟩ := hn rfl
    obtain rfl : news = [] := List.eq_nil_of_length_eq_zero hm
    refine wpList_append_own_none hgd s x 23 ho base 5 i0 1 Tryd.underlying23 hi v _ _ hs hown hx ?_
    exact h v w (by simpa using hown) (World.grownBy.refl _ _) (Below.refl _ _) (by simp)
  | some p =>
    refine wpList_append_own w hgd s x 23 ho base 5 i0 (.int .u8 0) 1 1 Tryd.underlying23 hi hz0 hz1 hz2 rfl (by decide) v _ _ hs hown p m c (news.map fun b => .int .u8 (b.toNat : Int)) hx (by simp [hm]) ?_ (oneCell_bytes _) (by unfold maxLen; omega) (by omega) hbase ?_
    · intro j u hj
      have hjl : j < news.length := by
        rcases Nat.lt_or_ge j news.length with h' | h'
        · exact h'
        · simp [List.getElem?_eq_none h'] at hj
      obtain ⟨b, off, e, hc⟩ := hr (by intro e; simp [e] at hjl)
      simp only [Option.some.injEq] at e
      subst e
      have := hc j hjl
      simp [List.getElem?_eq_getElem hjl] at hj this
      rw [← hj, ← this]
      unfold Addr.add
      split
      · rename_i h0; subst h0; rfl
      · rfl
    · intro v' w' ho' hg hnil
      refine h v' w' ?_ hg ((Below.refl _ _).grown hg hbase (ownBlock_ge hown)) hnil
      unfold OwnB
      rw [List.length_append, List.map_append, hm]
      exact ho'
theorem OwnB.of_append {w : World} {base n : Nat} {v : Value} {l : List UInt8} {b : UInt8} (h : w.ownsRow base 5 1 v n (l.map (fun b => Value.int .u8 (b.toNat : Int)) ++ [.int .u8 (b.toNat : Int)])) (hn : n = l.length + 1) : OwnB w base v (l ++ [b]) := by
  unfold OwnB
  rw [List.length_append, List.map_append, List.length_singleton, ← hn]
  exact h
theorem set_mid (pre xs : List UInt8) (k : Nat) (v : UInt8) : (pre ++ xs).set (pre.length + k) v = pre ++ xs.set k v := by
  induction pre with
  | nil => simp
  | cons a pre ih => simp [Nat.succ_add, ih]
theorem at_mid (pre xs : List UInt8) (k : Nat) : (pre ++ xs)[pre.length + k]? = xs[k]? := by
  rw [List.getElem?_append_right (by omega)]; congr 1; omega
theorem OwnB.stored {w : World} {base g n cap : Nat} {l : List UInt8} (h : OwnB w base (.slice (some ⟨g, 0, none⟩) n cap) l) (hn : l.length = n) (j : Nat) (x : UInt8) :
    OwnB (w.setCell ⟨g, j, none⟩ (.int .u8 (x.toNat : Int))) base (.slice (some ⟨g, 0, none⟩) n cap) (l.set j x) := by
  subst hn
  have := (World.ownsRow.stored h j (.int .u8 (x.toNat : Int))).1
  unfold OwnB
  rw [List.length_set, List.map_set]
  exact this
theorem RB.setOther {w : World} {b o g j : Nat} {u : Value} {l : List UInt8} (h : RB w (some ⟨b, o, none⟩) l) (hne : b ≠ g) : RB (w.setCell ⟨g, j, none⟩ u) (some ⟨b, o, none⟩) l := by
  intro hl
  obtain ⟨b', o', e, hc⟩ := h hl
  simp only [Option.some.injEq, Addr.mk.injEq, and_true] at e
  obtain ⟨rfl, rfl⟩ := e
  refine ⟨b, o, rfl, fun i hi => ?_⟩
  rw [World.cell?_of_block (w := w) (Below.heap_setCell _ _ _ _ hne)]
  exact hc i hi
theorem isNought (v : UInt8) : (v == 0) = ((v.toNat : Int) == 0) := by
  rw [Bool.eq_iff_iff, beq_iff_eq, beq_iff_eq]
  constructor
  · intro h; subst h; rfl
  · intro h; exact UInt8.toNat_inj.1 (by show v.toNat = 0; omega)
/-- The bytes of integers. -/
def ofInts (zs : List Int) : List UInt8 := zs.map fun z => UInt8.ofNat z.toNat
theorem toNat_ofInts {z : Int} (h : (Lit.int .u8 z).wf = true) : ((UInt8.ofNat z.toNat).toNat : Int) = z := by
  have := bounds_u8 h
  simp; omega
end Go.Proofs.YtkiibhpmembcgaaDoor
namespace Go.Proofs.YtkiibhpmembcgaaDoor
open Go.ChangeShapes Go.WideShapes Go.ChangeAt Go.RowKit

theorem u8lt (v : UInt8) : v.toNat < 256 := v.toNat_lt
/-- Nothing but block b has turned. -/
structure Only (b : Nat) (w w' : World) : Prop where
  os : w'.os = w.os
  tape : w'.tape = w.tape
  output : w'.output = w.output
  size : w'.heap.size = w.heap.size
  block : ∀ k, k ≠ b → w'.heap[k]? = w.heap[k]?
theorem Only.refl (b : Nat) (w : World) : Only b w w := ⟨rfl, rfl, rfl, rfl, fun _ _ => rfl⟩
theorem Only.trans {b : Nat} {u v w : World} (h : Only b u v) (k : Only b v w) : Only b u w :=
  ⟨k.os.trans h.os, k.tape.trans h.tape, k.output.trans h.output, k.size.trans h.size, fun i hi => (k.block i hi).trans (h.block i hi)⟩
theorem Only.drewN {b : Nat} {u w : World} (h : Only b u w) (n : Nat) : Only b u (w.drewN n) := ⟨h.os, h.tape, h.output, h.size, h.block⟩
theorem Only.drew {b : Nat} {u w : World} (h : Only b u w) : Only b u w.drew := ⟨h.os, h.tape, h.output, h.size, h.block⟩
theorem Only.setCell {b : Nat} {u w : World} (h : Only b u w) (i : Nat) (v : Value) : Only b u (w.setCell ⟨b, i, none⟩ v) :=
  h.trans ⟨rfl, rfl, rfl, by simp [World.setCell], fun k hk => Below.heap_setCell _ _ _ _ hk⟩
theorem Only.below {b B : Nat} {w w' : World} (h : Only b w w') (hB : B ≤ b) : Below B w w' :=
  ⟨h.os, h.tape, h.output, by rw [h.size]; exact Nat.le_refl _, fun k hk => h.block k (by omega)⟩
theorem Only.cell {b : Nat} {w w' : World} (h : Only b w w') {p : Addr} (hp : p.block ≠ b) : w'.cell? p = w.cell? p := World.cell?_of_block (w := w) (h.block _ hp)
theorem RB.only {w w' : World} {b c o : Nat} {l : List UInt8} (h : RB w (some ⟨c, o, none⟩) l) (k : Only b w w') (hne : c ≠ b) : RB w' (some ⟨c, o, none⟩) l := by
  intro hl
  obtain ⟨b', o', e, hc⟩ := h hl
  simp only [Option.some.injEq, Addr.mk.injEq, and_true] at e
  obtain ⟨rfl, rfl⟩ := e
  exact ⟨c, o, rfl, fun i hi => by rw [k.cell (p := ⟨c, o + i, none⟩) hne]; exact hc i hi⟩

/-- In block b, behind the cells 'pre' and ahead of the cells 'post', stand the bytes l; the block is of bytes and may be written. -/
def Seg (w : World) (b : Nat) (pre post : List Value) (l : List UInt8) : Prop :=
  w.heap[b]? = some (.cells (pre ++ l.map (fun v => Value.int .u8 (v.toNat : Int)) ++ post).toArray 5 (0, 0))
theorem Seg.lt {w : World} {b : Nat} {pre post : List Value} {l : List UInt8} (h : Seg w b pre post l) : b < w.heap.size := by
  rcases Nat.lt_or_ge b w.heap.size with h' | h'
  · exact h'
  · unfold Seg at h; simp [Array.getElem?_eq_none h'] at h
theorem Seg.frozen {w : World} {b : Nat} {pre post : List Value} {l : List UInt8} (h : Seg w b pre post l) (k : Nat) : w.frozen? ⟨b, k, none⟩ = false := frozen_of_row w b k _ _ h
theorem Seg.cellAt {w : World} {b o : Nat} {pre post : List Value} {l : List UInt8} (h : Seg w b pre post l) (ho : pre.length = o) {j : Nat} (hj : j < l.length) : w.cell? ⟨b, o + j, none⟩ = some (.int .u8 ((l.getD j 0).toNat : Int)) := by
  rw [cell_of_row w b _ _ _ _ h, ← ho]
  simp [List.getElem?_append, List.getD, hj]
theorem Seg.rb {w : World} {b o : Nat} {pre post : List Value} {l : List UInt8} (h : Seg w b pre post l) (ho : pre.length = o) : RB w (some ⟨b, o, none⟩) l :=
  fun _ => ⟨b, o, rfl, fun _ hj => h.cellAt ho hj⟩
theorem Seg.at {w : World} {b o : Nat} {pre post : List Value} {l : List UInt8} (h : Seg w b pre post l) (ho : pre.length = o) (j : Nat) (hj : j < l.length) :
    ∃ x : UInt8, Hid (l[j]? = some x) ∧ w.cell? ⟨b, o + j, none⟩ = some (.int .u8 (x.toNat : Int)) := (h.rb ho).at j hj
theorem Seg.store {w : World} {b o : Nat} {pre post : List Value} {l : List UInt8} (h : Seg w b pre post l) (ho : pre.length = o) {j : Nat} (hj : j < l.length) (x : UInt8) :
    Seg (w.setCell ⟨b, o + j, none⟩ (.int .u8 (x.toNat : Int))) b pre post (l.set j x) := by
  have h1 := heap_setCell_same w b (o + j) _ _ (.int .u8 (x.toNat : Int)) h
  unfold Seg
  rw [h1]
  congr 2
  rw [← ho]
  apply Array.toList_inj.1
  simp only [Array.toList_setIfInBounds, List.append_assoc]
  rw [List.set_append_right _ _ (by omega), Nat.add_sub_cancel_left, List.set_append_left _ _ (by simpa using hj), List.map_set]
theorem Seg.only {w w' : World} {b c : Nat} {pre post : List Value} {l : List UInt8} (h : Seg w b pre post l) (k : Only c w w') (hne : b ≠ c) : Seg w' b pre post l := (k.block b hne).trans h
theorem Seg.below {w w' : World} {b B : Nat} {pre post : List Value} {l : List UInt8} (h : Seg w b pre post l) (k : Below B w w') (hne : b < B) : Seg w' b pre post l := (k.block b hne).trans h
theorem Seg.drewN {w : World} {b : Nat} {pre post : List Value} {l : List UInt8} (h : Seg w b pre post l) (n : Nat) : Seg (w.drewN n) b pre post l := h

/-- The call's own slice as such a stretch, and back. -/
theorem OwnB.seg {w : World} {base : Nat} {v : Value} {l : List UInt8} (h : OwnB w base v l) (hl : l ≠ []) :
    ∃ g n cap post, v = .slice (some ⟨g, 0, none⟩) n cap ∧ Hid (l.length = n) ∧ base ≤ g ∧ n ≤ cap ∧ cap ≤ maxLen ∧ Seg w g [] post l ∧
      ∀ (w' : World) (l' : List UInt8), l'.length = l.length → Seg w' g [] post l' → OwnB w' base (.slice (some ⟨g, 0, none⟩) n cap) l' := by
  rcases h.2 with ⟨_, h0⟩ | ⟨g, cap, cur, hv, hb, hg, hnc, hcm, hcs, htake⟩
  · exact absurd (List.eq_nil_of_length_eq_zero h0) hl
  · refine ⟨g, _, cap, cur.toList.drop l.length, hv, Lib.hid rfl, hb, hnc, hcm, ?_, fun w' l' hl' hs => ⟨by simp, .inr ⟨g, cap, _, ?_, hb, hs, by omega, hcm, ?_, ?_⟩⟩⟩
    · unfold Seg
      rw [hg]
      congr 2
      apply Array.toList_inj.1
      simp only [List.nil_append]
      rw [← htake, Nat.mul_one, List.take_append_drop]
    · rw [hl']
    · simp [hl']
      omega
    · simp
end Go.Proofs.YtkiibhpmembcgaaDoor
namespace Go.Proofs.YtkiibhpmembcgaaDoor
open Go.ChangeShapes Go.WideShapes Go.ChangeAt Go.RowKit Go.IntWalk

set_option maxHeartbeats 400000 in
theorem clone_any (ad : Option Addr) (len cap : Nat) (l : List UInt8) (hl : Hid (l.length = len)) (w : World)
    (hm : len ≤ 140737488355328) (hr : RB w ad l) (hn : ad = none → len = 0 ∧ cap = 0) :
    Calls Tryd.prog 20 #[.slice ad len cap] w fun e w' => ∃ v, e = .returned v ∧ OwnB w' w.heap.size v l ∧ Below w.heap.size w w' ∧ (v = .slice none 0 0 ↔ ad = none) := by
  cases ad with
  | none =>
    obtain ⟨rfl, rfl⟩ := hn rfl
    have e : l = [] := List.eq_nil_of_length_eq_zero hl.out
    subst e
    have h1 := Lib.run_eql_slice_nil (P := Tryd.prog) w 23 5 none 0 0 0 0 Tryd.underlying23
    go_enter Tryd.func20, Tryd.ntmps20
    go_wp2
    go_ret
    exact ⟨_, rfl, OwnB.nil _ _, Below.refl _ _, by simp⟩
  | some p =>
    have h1 := Lib.run_eql_slice_nil (P := Tryd.prog) w 23 5 (some p) len cap 0 0 Tryd.underlying23
    go_enter Tryd.func20, Tryd.ntmps20
    go_wp2_with (at_builtin; refine wpList_append_bytes rfl (.tmp 5) (.tmp 6) rfl w.heap.size (.slice (some ⟨w.heap.size, 0, none⟩) 0 0) [] l rfl (OwnB.empty w w.heap.size (Nat.le_refl _)) (some p) len cap rfl hl.out (hr.below ((Below.refl _ _).alloc (Nat.le_refl _) _)) (by intro h; cases h) (by simpa using hm) (by simp) ?_; intro v' w' ho hg hb hnil)
    go_ret
    exact ⟨_, rfl, ho, ((Below.refl _ _).alloc (Nat.le_refl _) _).trans hb, by simp [hnil]⟩
end Go.Proofs.YtkiibhpmembcgaaDoor
namespace Go.Proofs.YtkiibhpmembcgaaDoor
open Go.ChangeShapes Go.WideShapes Go.ChangeAt Go.RowKit

theorem own : ownKnob Tryd.prog.godebug = none := by kernel_rfl
theorem laidOut : laidOutB Tryd.prog = true := by kernel_rfl

/-- Each named variable's type reads as data. -/
def varsReadable (P : Program) (ns : List String) : Bool := ns.all fun n => match P.globalNamed n with
  | some g => match (P.globals[g]?).map (·.type) with
    | some t => P.readableRec t
    | none => false
  | none => false
theorem var_lt {P : Program} {w : World} {n : String} {g : Nat} {cs : Array Value} (hg : P.globalNamed n = some g) (h : w.var? P n = some cs) : g < w.heap.size := by
  unfold World.var? at h
  rw [hg] at h
  simp only [Option.bind_some] at h
  rcases Nat.lt_or_ge g w.heap.size with h' | h'
  · exact h'
  · simp [Array.getElem?_eq_none h'] at h
theorem vars_below {H : Type} {enc : TypeId × Value → H} {P : Program} (hl : laidOutB P = true) {W W' : World} (hb : Below W.heap.size W W') :
    ∀ {ns : List String} {gs : List (DataW H)} {ps : List MemPlace}, varsReadable P ns = true → DataW.TrodVars enc P W (fun _ => true) ns gs ps → DataW.TrodVars enc P W' (fun b => decide (b < W.heap.size)) ns gs ps
  | [], [], _, _, h => h
  | [], _ :: _, _, _, h => h
  | _ :: _, [], _, _, h => h
  | n :: ns, d :: ds, ps, hr, h => by
    obtain ⟨g, t, cs, fuel, p, q, h1, h2, h3, h4, hs, e⟩ := h
    simp only [varsReadable, List.all_cons, Bool.and_eq_true] at hr
    rw [h1] at hr
    simp only [h2] at hr
    have hp : ∀ x ∈ p, x.block < W.heap.size := DataW.trod_lt fuel _ _ _ h4
    refine ⟨g, t, cs, fuel, p, q, h1, h2, var?_below hb h1 (var_lt h1 h3) h3, ?_, vars_below hl hb hr.2 hs, e⟩
    exact DataW.trod_stays (kids_book hl hr.1) (book_sized hr.1) (fun h => by cases h) ⟨global_row hl h2, book_self t⟩ h4 (fun x hx => hb.same (hp x hx)) (fun x hx => by simpa using hp x hx)

theorem trodVars_len {H : Type} {enc : TypeId × Value → H} {P : Program} {W : World} {sp : Nat → Bool} : ∀ {ns : List String} {gs : List (DataW H)} {ps : List MemPlace}, DataW.TrodVars enc P W sp ns gs ps → gs.length = ns.length
  | [], [], _, _ => rfl
  | [], _ :: _, _, h => by simp [DataW.TrodVars] at h
  | _ :: _, [], _, h => by simp [DataW.TrodVars] at h
  | _ :: _, _ :: _, _, h => by
    obtain ⟨_, _, _, _, _, _, _, _, _, _, hs, _⟩ := h
    simp [trodVars_len hs]
/-- What the walk is told of a slice of bytes that came in: nil, or it leads to a row of 'cap' cells; its first 'len' are the bytes l. -/
structure InB (w : World) (a : Option Addr) (len cap : Nat) (l : List UInt8) : Prop where
  hlen : Hid (l.length = len)
  rb : RB w a l
  hnil : a = none → len = 0 ∧ cap = 0
  hcap : len ≤ cap
  most : cap ≤ 9223372036854775807

theorem inB_of_rows {W : World} {a : Option Addr} {len cap : Nat} {zs : List Int}
    (h : (a = none ∧ len = 0 ∧ cap = 0 ∧ zs = []) ∨ ∃ x, a = some x ∧ len ≤ cap ∧ cap ≤ maxLen ∧ zs.length = cap ∧ (∀ i, i < zs.length → W.cell? (x.add i) = some (.int .u8 (zs.getD i 0))) ∧ ∀ n ∈ zs, (Lit.int .u8 n).wf = true) : ∃ l, InB W a len cap l := by
  rcases h with ⟨rfl, rfl, rfl, rfl⟩ | ⟨x, rfl, hl, hm, hz', hcell, hwz⟩
  · exact ⟨[], Lib.hid rfl, RB.nil _ _, fun _ => ⟨rfl, rfl⟩, Nat.le_refl _, by omega⟩
  · refine ⟨(zs.take len).map (fun z => UInt8.ofNat z.toNat), Lib.hid (by simp; omega), fun hne => ?_, (fun h => by cases h), hl, by simpa [maxLen] using hm⟩
    have hpos : 0 < len := by
      rcases Nat.eq_zero_or_pos len with h0 | h0
      · subst h0; simp at hne
      · exact h0
    obtain ⟨b, off, spot⟩ := x
    have hc := hcell 0 (by omega)
    have hspot : spot = none := by simpa [Addr.add] using World.cell?_spot hc
    subst hspot
    refine ⟨b, off, rfl, fun j hj => ?_⟩
    have hj' : j < len := by simp at hj; omega
    have := hcell j (by omega)
    have e : (⟨b, off, none⟩ : Addr).add j = ⟨b, off + j, none⟩ := by
      unfold Addr.add
      split
      · rename_i h; subst h; rfl
      · rfl
    rw [e] at this
    rw [this]
    have hjz : j < zs.length := by omega
    have hw := hwz (zs.getD j 0) (by simp [List.getD, List.getElem?_eq_getElem hjz])
    congr 2
    rw [← toNat_ofInts hw]
    simp [List.getD, List.getElem?_eq_getElem hjz, hj']
theorem inB_of {H : Type} {enc : TypeId × Value → H} {W : World} {base : Nat} {held : Bool} {a : Option Addr} {len cap : Nat} {d : DataW H} {ps : List MemPlace}
    (h : DataW.Trod enc Tryd.prog W base (fun _ => true) held 23 (.slice a len cap) d ps) : ∃ l, InB W a len cap l := by
  obtain ⟨fuel, hf⟩ := h
  rcases open_ints Tryd.underlying23 Tryd.underlying5 (by kernel_rfl) hf with ⟨hcs, _⟩ | ⟨x, l, c, zs, hcs, _, hl, hm, hz, _, hcell, hwz⟩
  · simp [Value.cells] at hcs
    obtain ⟨rfl, rfl, rfl⟩ := hcs
    exact inB_of_rows (zs := []) (.inl ⟨rfl, rfl, rfl, rfl⟩)
  · simp [Value.cells] at hcs
    obtain ⟨rfl, rfl, rfl⟩ := hcs
    exact inB_of_rows (.inr ⟨x, rfl, hl, hm, by simpa using hz, hcell, hwz⟩)
end Go.Proofs.YtkiibhpmembcgaaDoor
namespace Go.Proofs.YtkiibhpmembcgaaDoor
open Go.ChangeShapes Go.WideShapes Go.ChangeAt Go.RowKit Go.IntWalk

theorem size_alloc (w : World) (o : Obj) : (w.alloc o).heap.size = w.heap.size + 1 := by simp
theorem size_set (w : World) (a : Addr) (v : Value) : (w.setCell a v).heap.size = w.heap.size := by simp [World.setCell]
theorem alloc_at (w : World) (o : Obj) : (w.alloc o).heap[w.heap.size]? = some o := Array.getElem?_push_size
theorem undrew {B : Nat} {w w' : World} (h : Below B w.drew w') : Below B w w' := ⟨h.os, h.tape, h.output, h.size, h.block⟩
theorem bdrew {B : Nat} {a w : World} (h : Below B a w) : Below B a w.drew := ⟨h.os, h.tape, h.output, h.size, h.block⟩
theorem bdrewN {B : Nat} {a w : World} (h : Below B a w) (n : Nat) : Below B a (w.drewN n) := ⟨h.os, h.tape, h.output, h.size, h.block⟩
/-- A store to another block leaves a slice of the call's own as it is. -/
theorem OwnB.set_ne {w : World} {base b : Nat} {v : Value} {l : List UInt8} (h : OwnB w base v l) (j : Nat) (u : Value) (hne : ∀ g, v.ownBlock = some g → g ≠ b) : OwnB (w.setCell ⟨b, j, none⟩ u) base v l := by
  refine ⟨h.1, ?_⟩
  rcases h.2 with h2 | ⟨g, cap, cur, hv, hg, hh, r⟩
  · exact Or.inl h2
  · refine Or.inr ⟨g, cap, cur, hv, hg, ?_, r⟩
    rw [Below.heap_setCell _ _ _ _ (hne g (by rw [hv]; rfl))]
    exact hh
theorem ownsRow_slice {w : World} {base n size : Nat} {e : TypeId} {v : Value} {xs : List Value} (h : w.ownsRow base e size v n xs) : ∃ a c, v = .slice a n c := by
  rcases h.2 with ⟨rfl, hn⟩ | ⟨g, cap, cur, hv, -⟩
  · have : n = 0 := by omega
    subst this
    exact ⟨none, 0, rfl⟩
  · exact ⟨_, _, hv⟩
theorem ownsRow_only {w w' : World} {base n size b : Nat} {e : TypeId} {v : Value} {xs : List Value} (h : w.ownsRow base e size v n xs) (k : Only b w w') (hne : ∀ g, v.ownBlock = some g → g ≠ b) : w'.ownsRow base e size v n xs := by
  refine ⟨h.1, ?_⟩
  rcases h.2 with h2 | ⟨g, cap, cur, hv, hg, hh, r⟩
  · exact Or.inl h2
  · exact Or.inr ⟨g, cap, cur, hv, hg, (k.block g (hne g (by rw [hv]; rfl))).trans hh, r⟩
theorem ownsRow_mono {w : World} {base base' n size : Nat} {e : TypeId} {v : Value} {xs : List Value} (h : w.ownsRow base e size v n xs) (hb : base' ≤ base) : w.ownsRow base' e size v n xs := by
  refine ⟨h.1, ?_⟩
  rcases h.2 with h2 | ⟨g, cap, cur, hv, hg, r⟩
  · exact Or.inl h2
  · exact Or.inr ⟨g, cap, cur, hv, by omega, r⟩
/-- The kit's wpAnyH_take, the slot that is written told by its number. -/
theorem take_at {P : Program} {md : Region.Mode} {ops : Array Oper} {Q : Exit → Act → World → Prop} {S : World → Prop} (i : Nat) (d : Option Tmp) {oi : Oper} {v : Value} {fuel : Nat} {listed : Array Bool} {a : Act} {w : World} (hi : ops[i]? = some oi) (hd : oi.dst = d)
    (hs : Region.noSelect ops = true) (hf : Region.free md ops listed i = true) (hr : (Region.ready md ops listed).contains i = true)
    (hQ : ∀ c a w, Q (.panic c) (a.put d v) w → Q (.panic c) a w) (hy : YieldsIf P ops S oi v a) (hS : S w)
    (h : wpAnyH P md ops Q S fuel (listed.setIfInBounds i true) (a.put d v) w) : wpAnyH P md ops Q S (fuel + 1) listed a w := by
  subst hd
  exact wpAnyH_take hi hs hf hr hQ hy hS h
/-- A picture in memory: its bytes, how far rows lie apart, its corners. -/
def imgC (v : Value) (W H S : Nat) : List Value := [v, .int .i64 (S : Int), .int .i64 0, .int .i64 0, .int .i64 (W : Int), .int .i64 (H : Int)]
/-- Four integers in a block: a rectangle. -/
structure RcAt (N W H : Nat) (w : World) : Prop where
  c0 : w.cell? ⟨N, 0, none⟩ = some (.int .i64 0)
  c1 : w.cell? ⟨N, 1, none⟩ = some (.int .i64 0)
  c2 : w.cell? ⟨N, 2, none⟩ = some (.int .i64 (W : Int))
  c3 : w.cell? ⟨N, 3, none⟩ = some (.int .i64 (H : Int))
theorem RcAt.of_row {N W H : Nat} {w : World} {T : TypeId} (h : w.heap[N]? = some (.cells #[.int .i64 0, .int .i64 0, .int .i64 (W : Int), .int .i64 (H : Int)] T (0, 0))) : RcAt N W H w :=
  ⟨(cell_of_row w N 0 _ _ _ h).trans rfl, (cell_of_row w N 1 _ _ _ h).trans rfl, (cell_of_row w N 2 _ _ _ h).trans rfl, (cell_of_row w N 3 _ _ _ h).trans rfl⟩
theorem RcAt.kept {N W H : Nat} {w w' : World} (h : RcAt N W H w) (hk : w'.heap[N]? = w.heap[N]?) : RcAt N W H w' :=
  ⟨(World.cell?_of_block (w := w) hk).trans h.c0, (World.cell?_of_block (w := w) hk).trans h.c1, (World.cell?_of_block (w := w) hk).trans h.c2, (World.cell?_of_block (w := w) hk).trans h.c3⟩
end Go.Proofs.YtkiibhpmembcgaaDoor
namespace Go.Proofs.YtkiibhpmembcgaaDoor
open Go.IntWalk Go.RowKit
/-- How far a number is from nought. -/
def absI (x : Int) : Int := (x.natAbs : Int)
theorem absI_nonneg (x : Int) : 0 ≤ absI x := by unfold absI; omega
theorem absI_le (x k : Int) (h1 : -k ≤ x) (h2 : x ≤ k) : absI x ≤ k := by unfold absI; omega
theorem xor_zero (x : Int) (h1 : 0 ≤ x) (h2 : x < 9223372036854775808) : bits .xor .i64 x 0 = x := by
  obtain ⟨a, rfl⟩ := Int.eq_ofNat_of_zero_le h1
  show IntKind.i64.wrap ((BitVec.ofInt 64 (a : Int) ^^^ BitVec.ofInt 64 0).toNat : Int) = _
  have e : BitVec.ofInt 64 0 = 0#64 := by decide
  rw [e, BitVec.xor_zero, ofInt_u64 a (by omega)]
  simp [IntKind.wrap, IntKind.bits, IntKind.signed]
  omega
theorem xor_neg (x : Int) (h1 : -9223372036854775808 ≤ x) (h2 : x < 0) : bits .xor .i64 x (-1) = -1 - x := by
  obtain ⟨a, ha⟩ := Int.eq_ofNat_of_zero_le (a := -1 - x) (by omega)
  obtain rfl : x = -1 - (a : Int) := by omega
  show IntKind.i64.wrap ((BitVec.ofInt 64 (-1 - (a : Int)) ^^^ BitVec.ofInt 64 (-1)).toNat : Int) = _
  have e : BitVec.ofInt 64 (-1) = BitVec.allOnes 64 := by decide
  have e2 : BitVec.ofInt 64 (-1 - (a : Int)) = ~~~ (BitVec.ofInt 64 (a : Int)) := by
    have e3 : BitVec.ofInt 64 (-1) = -1#64 := by decide
    rw [BitVec.not_eq_neg_add, Int.sub_eq_add_neg, BitVec.ofInt_add, BitVec.ofInt_neg (n := (a : Int)), e3, BitVec.add_comm, ← BitVec.sub_eq_add_neg]
  rw [e, BitVec.xor_allOnes, e2, BitVec.not_not, ofInt_u64 a (by omega)]
  simp [IntKind.wrap, IntKind.bits, IntKind.signed]
  omega
theorem abs_walk (x : Int) (h1 : -9223372036854775808 < x) (h2 : x < 9223372036854775808) :
    wrap64 (bits BinOp.xor IntKind.i64 x (x / 9223372036854775808) - x / 9223372036854775808) = absI x := by
  by_cases h : 0 ≤ x
  · have e : x / 9223372036854775808 = 0 := by omega
    rw [e, xor_zero x h h2]
    unfold wrap64 absI; omega
  · have e : x / 9223372036854775808 = -1 := by omega
    rw [e, xor_neg x (by omega) (by omega)]
    unfold wrap64 absI; omega
/-- The Paeth predictor of left a, above b, above left c. -/
def paethI (a b c : Int) : Int :=
  if absI (b - c) ≤ absI (a - c) ∧ absI (b - c) ≤ absI (b - c + (a - c)) then a else if absI (a - c) ≤ absI (b - c + (a - c)) then b else c
theorem paethI_range (a b c : Int) (ha : 0 ≤ a ∧ a ≤ 255) (hb : 0 ≤ b ∧ b ≤ 255) (hc : 0 ≤ c ∧ c ≤ 255) : 0 ≤ paethI a b c ∧ paethI a b c ≤ 255 := by
  unfold paethI; split <;> (try split) <;> omega
theorem paethI_a {a b c : Int} (h1 : absI (b - c) ≤ absI (a - c)) (h2 : absI (b - c) ≤ absI (b - c + (a - c))) : paethI a b c = a := by
  unfold paethI; rw [if_pos ⟨h1, h2⟩]
theorem paethI_b {a b c : Int} (h1 : ¬ (absI (b - c) ≤ absI (a - c) ∧ absI (b - c) ≤ absI (b - c + (a - c)))) (h2 : absI (a - c) ≤ absI (b - c + (a - c))) : paethI a b c = b := by
  unfold paethI; rw [if_neg h1, if_pos h2]
theorem paethI_c {a b c : Int} (h1 : ¬ (absI (b - c) ≤ absI (a - c) ∧ absI (b - c) ≤ absI (b - c + (a - c)))) (h2 : ¬ absI (a - c) ≤ absI (b - c + (a - c))) : paethI a b c = c := by
  unfold paethI; rw [if_neg h1, if_neg h2]
theorem paethI_near (a b c : Int) : (a + b - c - paethI a b c).natAbs ≤ (a + b - c - a).natAbs ∧ (a + b - c - paethI a b c).natAbs ≤ (a + b - c - b).natAbs ∧ (a + b - c - paethI a b c).natAbs ≤ (a + b - c - c).natAbs := by
  have e1 : a + b - c - a = b - c := by omega
  have e2 : a + b - c - b = a - c := by omega
  have e3 : a + b - c - c = b - c + (a - c) := by omega
  unfold paethI absI
  split
  · rw [e1, e2, e3]; omega
  · split
    · rw [e1, e2, e3]; omega
    · rw [e1, e2, e3]; omega
theorem paethI_of (a b c : Int) : paethI a b c = a ∨ paethI a b c = b ∨ paethI a b c = c := by
  unfold paethI; split <;> (try split) <;> simp
end Go.Proofs.YtkiibhpmembcgaaDoor
namespace Go.Proofs.YtkiibhpmembcgaaDoor
open Go.ChangeShapes Go.WideShapes Go.ChangeAt Go.RowKit

theorem ret_eq {k : IntKind} {a b : Int} (h : a = b) : Ending.returned (.int k a) = .returned (.int k b) := by rw [h]

theorem abs_any (x : Int) (w : World) (h1 : -1000 ≤ x) (h2 : x ≤ 1000) :
    Calls Tryd.prog 51 #[.int .i64 x] w fun e w' => e = .returned (.int .i64 (absI x)) ∧ w = w' := by
  go_enter Tryd.func51, Tryd.ntmps51
  go_wp2
  go_ret
  exact ⟨ret_eq (abs_walk x (by omega) (by omega)), rfl⟩
end Go.Proofs.YtkiibhpmembcgaaDoor
