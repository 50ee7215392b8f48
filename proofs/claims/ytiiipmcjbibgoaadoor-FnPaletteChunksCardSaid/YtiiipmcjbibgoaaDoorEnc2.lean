/- The encoder's own block of memory, and what its writeChunk starts from. -/
import Derived.Test.YtiiipmcjbibgoaaDoorEnc
namespace Go.Proofs.YtiiipmcjbibgoaaDoor
open Go.ChangeShapes Go.WideShapes Go.ChangeAt Go.RowKit Go.IntWalk

/-- The encoder's fields. -/
structure EncV where
  enc : Value
  bp : Value
  m : Value
  cb : Value
  err : Value
  la : List UInt8
  nm : List UInt8
  ft : List UInt8
  tmp : List UInt8
  rest : List Value
def EncV.hd (d : EncV) : List Value := [d.enc, d.bp, d.m, d.cb, d.err]
def EncV.cells (d : EncV) : List Value := d.hd ++ (cellsB d.la ++ (cellsB d.nm ++ (cellsB d.ft ++ (cellsB d.tmp ++ d.rest))))
/-- In block b lies an encoder. -/
structure Enc (w : World) (b : Nat) (d : EncV) : Prop where
  row : w.heap[b]? = some (.cells d.cells.toArray 111 (0, 0))
  ll : d.la.length = 4
  nl : d.nm.length = 4
  fl : d.ft.length = 4
  tl : d.tmp.length = 1024
theorem Enc.hd_cell {w : World} {b : Nat} {d : EncV} (h : Enc w b d) (i : Nat) {v : Value} (hi : d.hd[i]? = some v) : w.cell? ⟨b, i, none⟩ = some v := by
  obtain ⟨hlt, -⟩ := List.getElem?_eq_some_iff.1 hi
  rw [cell_of_row w b i _ _ _ h.row]
  simp only [EncV.cells, List.getElem?_toArray]
  rw [List.getElem?_append_left hlt]
  exact hi
theorem Enc.frozen {w : World} {b : Nat} {d : EncV} (h : Enc w b d) (i : Nat) : w.frozen? ⟨b, i, none⟩ = false := frozen_of_row w b i _ _ h.row
theorem Enc.same {w w' : World} {b : Nat} {d : EncV} (h : Enc w b d) (k : w'.heap[b]? = w.heap[b]?) : Enc w' b d := ⟨k.trans h.row, h.ll, h.nl, h.fl, h.tl⟩
theorem Enc.setErr {w : World} {b : Nat} {d : EncV} (h : Enc w b d) (v : Value) : Enc (w.setCell ⟨b, 4, none⟩ v) b { d with err := v } := by
  refine ⟨?_, h.ll, h.nl, h.fl, h.tl⟩
  rw [heap_setCell_same w b 4 _ _ v h.row]
  congr 2
/-- The stretches of bytes in it. -/
theorem Enc.segL {w : World} {b : Nat} {d : EncV} (h : Enc w b d) : SegT 111 w b d.hd (cellsB d.nm ++ (cellsB d.ft ++ (cellsB d.tmp ++ d.rest))) d.la := h.row
theorem Enc.ofL {w w' : World} {b : Nat} {d : EncV} (h : Enc w b d) (l : List UInt8) (hl : l.length = 4) (k : SegT 111 w' b d.hd (cellsB d.nm ++ (cellsB d.ft ++ (cellsB d.tmp ++ d.rest))) l) : Enc w' b { d with la := l } := ⟨k, hl, h.nl, h.fl, h.tl⟩
theorem Enc.segN {w : World} {b : Nat} {d : EncV} (h : Enc w b d) : SegT 111 w b (d.hd ++ cellsB d.la) (cellsB d.ft ++ (cellsB d.tmp ++ d.rest)) d.nm := by
  unfold SegT
  rw [h.row]
  simp [EncV.cells]
theorem Enc.ofN {w w' : World} {b : Nat} {d : EncV} (h : Enc w b d) (l : List UInt8) (hl : l.length = 4) (k : SegT 111 w' b (d.hd ++ cellsB d.la) (cellsB d.ft ++ (cellsB d.tmp ++ d.rest)) l) : Enc w' b { d with nm := l } := by
  refine ⟨?_, h.ll, hl, h.fl, h.tl⟩
  unfold SegT at k
  rw [k]
  simp [EncV.cells, EncV.hd]
theorem Enc.segF {w : World} {b : Nat} {d : EncV} (h : Enc w b d) : SegT 111 w b (d.hd ++ (cellsB d.la ++ cellsB d.nm)) (cellsB d.tmp ++ d.rest) d.ft := by
  unfold SegT
  rw [h.row]
  simp [EncV.cells]
theorem Enc.ofF {w w' : World} {b : Nat} {d : EncV} (h : Enc w b d) (l : List UInt8) (hl : l.length = 4) (k : SegT 111 w' b (d.hd ++ (cellsB d.la ++ cellsB d.nm)) (cellsB d.tmp ++ d.rest) l) : Enc w' b { d with ft := l } := by
  refine ⟨?_, h.ll, h.nl, hl, h.tl⟩
  unfold SegT at k
  rw [k]
  simp [EncV.cells, EncV.hd]
theorem Enc.segT {w : World} {b : Nat} {d : EncV} (h : Enc w b d) : SegT 111 w b (d.hd ++ (cellsB d.la ++ (cellsB d.nm ++ cellsB d.ft))) d.rest d.tmp := by
  unfold SegT
  rw [h.row]
  simp [EncV.cells]
theorem Enc.ofT {w w' : World} {b : Nat} {d : EncV} (h : Enc w b d) (l : List UInt8) (hl : l.length = 1024) (k : SegT 111 w' b (d.hd ++ (cellsB d.la ++ (cellsB d.nm ++ cellsB d.ft))) d.rest l) : Enc w' b { d with tmp := l } := by
  refine ⟨?_, h.ll, h.nl, h.fl, hl⟩
  unfold SegT at k
  rw [k]
  simp [EncV.cells, EncV.hd]
theorem EncV.hdl (d : EncV) : d.hd.length = 5 := rfl
theorem Enc.preN {w : World} {b : Nat} {d : EncV} (h : Enc w b d) : (d.hd ++ cellsB d.la).length = 9 := by rw [List.length_append, cellsB_length, h.ll, d.hdl]
theorem Enc.preF {w : World} {b : Nat} {d : EncV} (h : Enc w b d) : (d.hd ++ (cellsB d.la ++ cellsB d.nm)).length = 13 := by rw [List.length_append, List.length_append, cellsB_length, cellsB_length, h.ll, h.nl, d.hdl]
theorem Enc.preT {w : World} {b : Nat} {d : EncV} (h : Enc w b d) : (d.hd ++ (cellsB d.la ++ (cellsB d.nm ++ cellsB d.ft))).length = 17 := by rw [List.length_append, List.length_append, List.length_append, cellsB_length, cellsB_length, cellsB_length, h.ll, h.nl, h.fl, d.hdl]
theorem Enc.rbHead {w : World} {b : Nat} {d : EncV} (h : Enc w b d) : RB w (some ⟨b, 5, none⟩) (d.la ++ d.nm) := by
  have k : SegT 111 w b d.hd (cellsB d.ft ++ (cellsB d.tmp ++ d.rest)) (d.la ++ d.nm) := by
    unfold SegT
    rw [h.row]
    simp [EncV.cells, cellsB]
  exact k.rb d.hdl
theorem Enc.rbTmp {w : World} {b : Nat} {d : EncV} (h : Enc w b d) : RB w (some ⟨b, 17, none⟩) d.tmp := h.segT.rb h.preT

/-- Where the data of a chunk lie: below the call's own blocks, or in the encoder's own bytes. -/
def Src (B b : Nat) (tmp : List UInt8) (ad : Option Addr) (l : List UInt8) (w : World) : Prop :=
  ((∀ a, ad = some a → a.block < B) ∧ RB w ad l) ∨ ∃ o, ad = some ⟨b, 17 + o, none⟩ ∧ l = (tmp.drop o).take l.length
/-- What the encoder's writing starts from. -/
structure Wst (B b bb : Nat) (ad : Option Addr) (l : List UInt8) (d : EncV) (s : List UInt8) (w : World) : Prop where
  enc : Enc w b d
  buf : Buf B bb s w
  tab : Tab w
  src : Src B b d.tmp ad l w
  hb : B ≤ b
  hbb : B ≤ bb
  ne : b ≠ bb
  ht : 0 < B
theorem Wst.rb {B b bb : Nat} {ad : Option Addr} {l s : List UInt8} {d : EncV} {w : World} (h : Wst B b bb ad l d s w) : RB w ad l := by
  rcases h.src with ⟨-, h1⟩ | ⟨o, rfl, e⟩
  · exact h1
  · have := (h.enc.rbTmp.drop o).take l.length
    rw [← e] at this
    exact this
theorem Wst.apart {B b bb : Nat} {ad : Option Addr} {l s : List UInt8} {d : EncV} {w : World} (h : Wst B b bb ad l d s w) : ∀ a, ad = some a → a.block ≠ bb := by
  intro a ha
  rcases h.src with ⟨h1, -⟩ | ⟨o, e, -⟩
  · have := h1 a ha
    have := h.hbb
    omega
  · rw [e] at ha
    cases ha
    exact h.ne
theorem Wst.lt {B b bb : Nat} {ad : Option Addr} {l s : List UInt8} {d : EncV} {w : World} (h : Wst B b bb ad l d s w) : b < w.heap.size := by
  rcases Nat.lt_or_ge b w.heap.size with h' | h'
  · exact h'
  · have := h.enc.row
    simp [Array.getElem?_eq_none h'] at this
theorem Src.below {B b : Nat} {tmp : List UInt8} {ad : Option Addr} {l : List UInt8} {w w' : World} (h : Src B b tmp ad l w) (k : Below B w w') : Src B b tmp ad l w' := by
  rcases h with ⟨h1, h2⟩ | h3
  · refine .inl ⟨h1, fun hl => ?_⟩
    obtain ⟨c, o, e, hc⟩ := h2 hl
    refine ⟨c, o, e, fun j hj => ?_⟩
    have hcB : c < B := h1 ⟨c, o, none⟩ e
    rw [World.cell?_of_block (w := w) (k.block c hcB)]
    exact hc j hj
  · exact .inr h3
theorem Tab.belowB {B : Nat} {w w' : World} (h : Tab w) (k : Below B w w') (hB : 0 < B) : Tab w' := by
  intro i hi
  rw [World.cell?_of_block (w := w) (k.block _ hB)]
  exact h i hi
/-- The encoder's block alone has turned. -/
theorem Wst.turn {B b bb : Nat} {ad : Option Addr} {l s : List UInt8} {d d' : EncV} {w w' : World} (h : Wst B b bb ad l d s w) (k : Only b w w') (he : Enc w' b d') (ht : d'.tmp = d.tmp) : Wst B b bb ad l d' s w' :=
  ⟨he, h.buf.only k h.ne h.enc.row (by decide), h.tab.belowB (k.below h.hb) h.ht, by rw [ht]; exact h.src.below (k.below h.hb), h.hb, h.hbb, h.ne, h.ht⟩
theorem Wst.drew {B b bb : Nat} {ad : Option Addr} {l s : List UInt8} {d : EncV} {w : World} (h : Wst B b bb ad l d s w) : Wst B b bb ad l d s w.drew :=
  ⟨⟨h.enc.row, h.enc.ll, h.enc.nl, h.enc.fl, h.enc.tl⟩, h.buf, h.tab, h.src, h.hb, h.hbb, h.ne, h.ht⟩
theorem Wst.drewN {B b bb : Nat} {ad : Option Addr} {l s : List UInt8} {d : EncV} {w : World} (h : Wst B b bb ad l d s w) (n : Nat) : Wst B b bb ad l d s (w.drewN n) :=
  ⟨⟨h.enc.row, h.enc.ll, h.enc.nl, h.enc.fl, h.enc.tl⟩, h.buf, h.tab, h.src, h.hb, h.hbb, h.ne, h.ht⟩
/-- New memory alone. -/
theorem Wst.grow {B b bb : Nat} {ad : Option Addr} {l s : List UInt8} {d : EncV} {w w' : World} (h : Wst B b bb ad l d s w) (k : Below w.heap.size w w') : Wst B b bb ad l d s w' := by
  have hk : Below B w w' := k.mono (by have := h.hb; have := h.lt; omega)
  exact ⟨h.enc.same (k.block b h.lt), h.buf.below k, h.tab.belowB hk h.ht, h.src.below hk, h.hb, h.hbb, h.ne, h.ht⟩
/-- Another block alone has turned, that is no row of bytes. -/
theorem Wst.other {B b bb C : Nat} {ad : Option Addr} {l s : List UInt8} {d : EncV} {w w' : World} {cs : Array Value} {T : TypeId} {fz : Nat × Nat} (h : Wst B b bb ad l d s w) (k : Only C w w') (h1 : C ≠ b) (h2 : C ≠ bb) (h3 : B ≤ C) (hrow : w.heap[C]? = some (.cells cs T fz)) (hT : T ≠ 5) : Wst B b bb ad l d s w' :=
  ⟨h.enc.same (k.block b (Ne.symm h1)), h.buf.only k h2 hrow hT, h.tab.belowB (k.below h3) h.ht, h.src.below (k.below h3), h.hb, h.hbb, h.ne, h.ht⟩
/-- Bytes have been written to the buffer. -/
theorem Wst.wrote {B b bb : Nat} {ad : Option Addr} {l s p : List UInt8} {d : EncV} {w w' : World} (h : Wst B b bb ad l d s w) (k1 : Buf B bb (s ++ p) w') (k2 : Below B w w') (k3 : Lib.OthersKept 5 (some bb) w w') : Wst B b bb ad l d (s ++ p) w' := by
  have e : w'.heap[b]? = w.heap[b]? := by
    rw [h.enc.row]
    exact k3 b _ h.enc.row (by intro e; exact h.ne (Option.some.inj e)) (by intro c fz e; cases e)
  exact ⟨h.enc.same e, k1, h.tab.belowB k2 h.ht, h.src.below k2, h.hb, h.hbb, h.ne, h.ht⟩
end Go.Proofs.YtiiipmcjbibgoaaDoor
