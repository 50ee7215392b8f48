/- Slices of bytes in memory: what it means that a slice reads as a list of bytes, and how that is kept. No function of the program in sight. -/
import Derived.Test.YtcfafomnoejemaaDoorRows
import Derived.WalkKit
import Derived.ProofKit
import Derived.OpenShut
import Derived.Below
import Derived.Lib.Hide
import Derived.Lib.SliceRun
import Derived.Laws.AppendOwnNone
import Derived.WalkSmall
namespace Go.Proofs.YtcfafomnoejemaaDoor
open Go.ChangeShapes Go.WideShapes Go.ChangeAt Go.RowKit

theorem ret_int {k : IntKind} {a b : Int} (h : a = b) : Ending.returned (.int k a) = .returned (.int k b) := by rw [h]

/-- A byte as a value. -/
abbrev bval (v : UInt8) : Value := .int .u8 (v.toNat : Int)
/-- A slice at this address reads as these bytes. -/
def RB (w : World) (ad : Option Addr) (l : List UInt8) : Prop :=
  l ≠ [] → ∃ b off, ad = some ⟨b, off, none⟩ ∧ ∀ j, j < l.length → w.cell? ⟨b, off + j, none⟩ = some (.int .u8 ((l.getD j 0).toNat : Int))
theorem RB.nil (w : World) (ad : Option Addr) : RB w ad [] := fun h => absurd rfl h
theorem RB.lt {w : World} {b off : Nat} {l : List UInt8} (h : RB w (some ⟨b, off, none⟩) l) (hl : l ≠ []) : b < w.heap.size := by
  obtain ⟨b', off', e, hc⟩ := h hl
  simp only [Option.some.injEq, Addr.mk.injEq, and_true] at e
  obtain ⟨rfl, rfl⟩ := e
  exact World.block_lt_of_cell? w _ (hc 0 (List.length_pos_iff.2 hl))
theorem RB.below {w w' : World} {ad : Option Addr} {l : List UInt8} (h : RB w ad l) (hb : Below w.heap.size w w') : RB w' ad l := by
  intro hl
  obtain ⟨b, off, e, hc⟩ := h hl
  refine ⟨b, off, e, fun j hj => ?_⟩
  rw [hb.cell (p := ⟨b, off + j, none⟩) (World.block_lt_of_cell? w _ (hc j hj))]
  exact hc j hj
/-- One byte of it, under a name of its own. -/
theorem RB.at {w : World} {b off : Nat} {l : List UInt8} (h : RB w (some ⟨b, off, none⟩) l) (j : Nat) (hj : j < l.length) :
    ∃ x : UInt8, Hid (l[j]? = some x) ∧ w.cell? ⟨b, off + j, none⟩ = some (.int .u8 (x.toNat : Int)) := by
  obtain ⟨b', off', e, hc⟩ := h (by intro e; simp [e] at hj)
  simp only [Option.some.injEq, Addr.mk.injEq, and_true] at e
  obtain ⟨rfl, rfl⟩ := e
  refine ⟨l.getD j 0, Lib.hid ?_, hc j hj⟩
  simp [List.getD, List.getElem?_eq_getElem hj]
/-- A new block of one byte, as the text 'append(out, v)' lays it. -/
theorem RB.one (w : World) (v : UInt8) (t : TypeId) : RB (w.alloc (.cells #[.int .u8 (v.toNat : Int)] t)) (some ⟨w.heap.size, 0, none⟩) [v] := by
  intro _
  refine ⟨w.heap.size, 0, rfl, fun j hj => ?_⟩
  obtain rfl : j = 0 := by simpa using hj
  simp

/-- The call's own slice (blocks from 'base' on) of these bytes. -/
def OwnB (w : World) (base : Nat) (v : Value) (l : List UInt8) : Prop := w.ownsRow base 5 1 v l.length (l.map fun b => .int .u8 (b.toNat : Int))
theorem OwnB.nil (w : World) (base : Nat) : OwnB w base (.slice none 0 0) [] := World.ownsRow_nil _ _ _ _
theorem OwnB.alloc {w : World} {base : Nat} {v : Value} {l : List UInt8} (h : OwnB w base v l) (o : Obj) : OwnB (w.alloc o) base v l := World.ownsRow.alloc h o
theorem OwnB.drew {w : World} {base : Nat} {v : Value} {l : List UInt8} (h : OwnB w base v l) : OwnB w.drew base v l := h
theorem OwnB.empty (w : World) (base : Nat) (hb : base ≤ w.heap.size) : OwnB (w.alloc (.cells #[] 5)) base (.slice (some ⟨w.heap.size, 0, none⟩) 0 0) [] :=
  World.ownsRow_lit w #[] 0 hb (by unfold maxLen; omega) rfl
/-- Its shape: a slice of that length that reads as the bytes. -/
theorem OwnB.shape {w : World} {base : Nat} {v : Value} {l : List UInt8} (h : OwnB w base v l) :
    ∃ ad cap, v = .slice ad l.length cap ∧ RB w ad l ∧ l.length ≤ cap ∧ cap ≤ maxLen ∧ (ad = none → l.length = 0 ∧ cap = 0) ∧ (∀ a, ad = some a → base ≤ a.block ∧ a.block < w.heap.size ∧ a.off = 0 ∧ a.spot = none) := by
  rcases h.2 with ⟨rfl, hl⟩ | ⟨g, cap, cur, rfl, hb, hg, hnc, hcm, hcs, htake⟩
  · have e : l = [] := List.eq_nil_of_length_eq_zero hl
    subst e
    exact ⟨none, 0, rfl, RB.nil _ _, Nat.le_refl _, by unfold maxLen; omega, fun _ => ⟨rfl, rfl⟩, (fun a h => by cases h)⟩
  · refine ⟨some ⟨g, 0, none⟩, cap, rfl, fun _ => ⟨g, 0, rfl, fun j hj => ?_⟩, hnc, hcm, (fun h => by cases h), fun a ha => ?_⟩
    · have hc := World.ownsRow.cellAt (w := w) h j (by simpa using hj)
      simpa [List.getD, List.getElem?_eq_getElem hj] using hc
    · simp only [Option.some.injEq] at ha
      subst ha
      refine ⟨hb, ?_, rfl, rfl⟩
      rcases Nat.lt_or_ge g w.heap.size with h' | h'
      · exact h'
      · simp [Array.getElem?_eq_none h'] at hg
/-- The same, its length under a name of its own. -/
theorem OwnB.shapeN {w : World} {base : Nat} {v : Value} {l : List UInt8} (h : OwnB w base v l) :
    ∃ ad n cap, v = .slice ad n cap ∧ Hid (l.length = n) ∧ RB w ad l ∧ n ≤ cap ∧ cap ≤ maxLen ∧ (ad = none → n = 0 ∧ cap = 0) ∧ (∀ a, ad = some a → base ≤ a.block ∧ a.block < w.heap.size ∧ a.off = 0 ∧ a.spot = none) := by
  obtain ⟨ad, cap, h1, h2, h3, h4, h5, h6⟩ := h.shape
  exact ⟨ad, _, cap, h1, Lib.hid rfl, h2, h3, h4, h5, h6⟩
theorem OwnB.below {w w' : World} {base : Nat} {v : Value} {l : List UInt8} (h : OwnB w base v l) (hb : Below w.heap.size w w') : OwnB w' base v l := by
  refine ⟨h.1, ?_⟩
  rcases h.2 with h2 | ⟨g, cap, cur, hv, hg, hh, r⟩
  · exact Or.inl h2
  · refine Or.inr ⟨g, cap, cur, hv, hg, ?_, r⟩
    rw [hb.block g ?_]
    · exact hh
    · rcases Nat.lt_or_ge g w.heap.size with h' | h'
      · exact h'
      · simp [Array.getElem?_eq_none h'] at hh
/-- What the call owns from 'base' on it owns from a smaller number on. -/
theorem OwnB.mono {w : World} {base base' : Nat} {v : Value} {l : List UInt8} (h : OwnB w base v l) (hb : base' ≤ base) : OwnB w base' v l := by
  refine ⟨h.1, ?_⟩
  rcases h.2 with h2 | ⟨g, cap, cur, hv, hg, r⟩
  · exact Or.inl h2
  · exact Or.inr ⟨g, cap, cur, hv, by omega, r⟩
theorem ownBlock_ge {w : World} {base : Nat} {v : Value} {l : List UInt8} (h : OwnB w base v l) : ∀ k, v.ownBlock = some k → base ≤ k := fun k hk => (World.ownsRow.lt h k hk).1

theorem info_byte : (Tryd.prog.info? 5).map (fun i => (i.zero, i.size, i.bytes)) = some (some (.int .u8 0), 1, 1) := by kernel_rfl
theorem oneCell_bytes (l : List UInt8) : ∀ u ∈ l.map (fun b => Value.int .u8 (b.toNat : Int)), u.oneCell' = true := by
  intro u hu
  obtain ⟨b, _, rfl⟩ := List.mem_map.1 hu
  rfl
/-- 'append(out, x...)' of bytes, 'out' the call's own. -/
theorem wpList_append_bytes {w : World} {ops : Array Oper} {rest : List Oper} {o : Oper} {a : Act} {Q : Exit → Act → World → Prop} (hgd : o.guard = none) (s x : Operand)
    (ho : o.op = .call { callee := .builtin .append, args := #[s, x], argTypes := #[22, 22] })
    (base : Nat) (v : Value) (l news : List UInt8) (hs : a.eval s = v) (hown : OwnB w base v l) (ad : Option Addr) (m c : Nat) (hx : a.eval x = .slice ad m c)
    (hm : news.length = m) (hr : RB w ad news) (hn : ad = none → m = 0 ∧ c = 0) (hb : l.length + m ≤ 140737488355328) (hbase : base ≤ w.heap.size)
    (h : ∀ v' w', OwnB w' base v' (l ++ news) → w.grownBy w' v.ownBlock → Below base w w' → (v' = .slice none 0 0 ↔ v = .slice none 0 0 ∧ m = 0) → wpList Tryd.prog ops Q rest (a.put o.dst v') w') : wpList Tryd.prog ops Q (o :: rest) a w := by
  obtain ⟨i0, hi, hz0, hz1, hz2⟩ := info_parts info_byte
  cases ad with
  | none =>
    obtain ⟨rfl, rfl⟩ := hn rfl
    obtain rfl : news = [] := List.eq_nil_of_length_eq_zero hm
    refine wpList_append_own_none hgd s x 22 ho base 5 i0 1 Tryd.underlying22 hi v _ _ hs hown hx ?_
    exact h v w (by simpa using hown) (World.grownBy.refl _ _) (Below.refl _ _) (by simp)
  | some p =>
    refine wpList_append_own w hgd s x 22 ho base 5 i0 (.int .u8 0) 1 1 Tryd.underlying22 hi hz0 hz1 hz2 rfl (by decide) v _ _ hs hown p m c (news.map fun b => .int .u8 (b.toNat : Int)) hx (by simp [hm]) ?_ (oneCell_bytes _) (by unfold maxLen; omega) (by omega) hbase ?_
    · intro j u hj
      have hjl : j < news.length := by
        rcases Nat.lt_or_ge j news.length with h' | h'
        · exact h'
        · simp [List.getElem?_eq_none h'] at hj
      obtain ⟨b, off, e, hc⟩ := hr (by intro e; simp [e] at hjl)
      simp only [Option.some.injEq] at e
      subst e
      have := hc j hjl
      simp [List.getElem?_eq_getElem hjl] at hj this
      rw [← hj, ← this]
      unfold Addr.add
      split
      · rename_i h0; subst h0; rfl
      · rfl
    · intro v' w' ho' hg hnil
      refine h v' w' ?_ hg ((Below.refl _ _).grown hg hbase (ownBlock_ge hown)) hnil
      unfold OwnB
      rw [List.length_append, List.map_append, hm]
      exact ho'
theorem OwnB.of_append {w : World} {base n : Nat} {v : Value} {l : List UInt8} {b : UInt8} (h : w.ownsRow base 5 1 v n (l.map (fun b => Value.int .u8 (b.toNat : Int)) ++ [.int .u8 (b.toNat : Int)])) (hn : n = l.length + 1) : OwnB w base v (l ++ [b]) := by
  unfold OwnB
  rw [List.length_append, List.map_append, List.length_singleton, ← hn]
  exact h
theorem set_mid (pre xs : List UInt8) (k : Nat) (v : UInt8) : (pre ++ xs).set (pre.length + k) v = pre ++ xs.set k v := by
  induction pre with
  | nil => simp
  | cons a pre ih => simp [Nat.succ_add, ih]
theorem at_mid (pre xs : List UInt8) (k : Nat) : (pre ++ xs)[pre.length + k]? = xs[k]? := by
  rw [List.getElem?_append_right (by omega)]; congr 1; omega
theorem OwnB.stored {w : World} {base g n cap : Nat} {l : List UInt8} (h : OwnB w base (.slice (some ⟨g, 0, none⟩) n cap) l) (hn : l.length = n) (j : Nat) (x : UInt8) :
    OwnB (w.setCell ⟨g, j, none⟩ (.int .u8 (x.toNat : Int))) base (.slice (some ⟨g, 0, none⟩) n cap) (l.set j x) := by
  subst hn
  have := (World.ownsRow.stored h j (.int .u8 (x.toNat : Int))).1
  unfold OwnB
  rw [List.length_set, List.map_set]
  exact this
theorem RB.setOther {w : World} {b o g j : Nat} {u : Value} {l : List UInt8} (h : RB w (some ⟨b, o, none⟩) l) (hne : b ≠ g) : RB (w.setCell ⟨g, j, none⟩ u) (some ⟨b, o, none⟩) l := by
  intro hl
  obtain ⟨b', o', e, hc⟩ := h hl
  simp only [Option.some.injEq, Addr.mk.injEq, and_true] at e
  obtain ⟨rfl, rfl⟩ := e
  refine ⟨b, o, rfl, fun i hi => ?_⟩
  rw [World.cell?_of_block (w := w) (Below.heap_setCell _ _ _ _ hne)]
  exact hc i hi
theorem isNought (v : UInt8) : (v == 0) = ((v.toNat : Int) == 0) := by
  rw [Bool.eq_iff_iff, beq_iff_eq, beq_iff_eq]
  constructor
  · intro h; subst h; rfl
  · intro h; exact UInt8.toNat_inj.1 (by show v.toNat = 0; omega)
/-- The bytes of integers. -/
def ofInts (zs : List Int) : List UInt8 := zs.map fun z => UInt8.ofNat z.toNat
theorem toNat_ofInts {z : Int} (h : (Lit.int .u8 z).wf = true) : ((UInt8.ofNat z.toNat).toNat : Int) = z := by
  have := bounds_u8 h
  simp; omega
end Go.Proofs.YtcfafomnoejemaaDoor
