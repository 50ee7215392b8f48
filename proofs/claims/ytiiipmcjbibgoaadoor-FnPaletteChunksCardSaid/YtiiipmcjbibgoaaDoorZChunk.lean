/- The contracts of ZZChunk and of the thin package's Chunk. -/
import Derived.Test.YtiiipmcjbibgoaaDoorEnc3
import Derived.Test.YtiiipmcjbibgoaaDoorClone
import Derived.KernelRfl
import Derived.Deep.DeepCutAuto
import Derived.Deep.CutBlock
import Derived.LoopTactic
namespace Go.Proofs.YtiiipmcjbibgoaaDoor
open Go.ChangeShapes Go.WideShapes Go.ChangeAt Go.RowKit Go.IntWalk

/-- The encoder as the text lays it. -/
def e0 (bb : Nat) (m cb : Value) : EncV :=
  { enc := .pointer none, bp := .pointer (some ⟨bb, 0, none⟩), m := m, cb := cb, err := .nilIface, la := List.replicate 4 0, nm := List.replicate 4 0, ft := List.replicate 4 0, tmp := List.replicate 1024 0, rest := List.replicate 6 (.slice none 0 0) }
def eC (bb : Nat) (m cb : Value) : Array Value := (e0 bb m cb).cells.toArray
theorem eC_walk (bb : Nat) : Tryd.zeroCells111.setIfInBounds 1 (.pointer (some ⟨bb, 0, none⟩)) = eC bb .nilIface (.int .i64 0) := by kernel_rfl
theorem start_enc (bb b : Nat) (m cb : Value) (w : World) (h : w.heap[b]? = some (.cells (eC bb m cb) 111 (0, 0))) : Enc w b (e0 bb m cb) := ⟨h, rfl, rfl, rfl, List.length_replicate⟩
/-- The world behind the encoder's making, and what its writing starts from. -/
def begunE (w : World) (m cb : Value) : World := (w.alloc (.cells #[.slice none 0 0, .int .i64 0, .int .i8 0] 102)).alloc (.cells (eC w.heap.size m cb) 111)
theorem begun_wst (w : World) (m cb : Value) (ad : Option Addr) (l : List UInt8) (ht : Tab w) (hs : Src w.heap.size (w.heap.size + 1) (List.replicate 1024 0) ad l w) :
    Wst w.heap.size (w.heap.size + 1) w.heap.size ad l (e0 w.heap.size m cb) [] (begunE w m cb) ∧ Below w.heap.size w (begunE w m cb) := by
  have hb1 : Below w.heap.size w (w.alloc (.cells #[.slice none 0 0, .int .i64 0, .int .i8 0] 102)) := (Below.refl _ _).alloc (Nat.le_refl _) _
  have hb : Below w.heap.size w (begunE w m cb) := hb1.alloc (by rw [size_alloc]; omega) _
  refine ⟨⟨start_enc _ _ _ _ _ ?_, ?_, ht.below hb, hs.below hb, Nat.le_succ _, Nat.le_refl _, by omega, ht.lt⟩, hb⟩
  · have := heap_alloc_new (w.alloc (.cells #[.slice none 0 0, .int .i64 0, .int .i8 0] 102)) (.cells (eC w.heap.size m cb) 111)
    rw [size_alloc] at this
    exact this
  · exact (Lib.fresh_isBuffer 102 5 w).alloc _

def ZChEnd (nm l : List UInt8) (w : World) (e : Ending) (w' : World) : Prop :=
  ∃ v, e = .returned (.tuple #[v, .nilIface]) ∧ OwnB w' w.heap.size v (chunk nm l) ∧ Below w.heap.size w w'

set_option maxHeartbeats 3200000 in
set_option maxRecDepth 100000 in
theorem zzChunk_any (n cap : Nat) (ad : Option Addr) (l : List UInt8) (x0 x1 x2 x3 : UInt8) (w : World) (hl : Hid (l.length = n)) (hr : RB w ad l) (hlt : ∀ a, ad = some a → a.block < w.heap.size) (hnil : ad = none → n = 0 ∧ cap = 0) (hn : n ≤ 1000000) (ht : Tab w) :
    Calls Tryd.prog 33 #[.slice ad n cap, .string ⟨#[x0, x1, x2, x3]⟩] w (ZChEnd [x0, x1, x2, x3] l w) := by
  obtain ⟨H, hb0⟩ := begun_wst w .nilIface (.int .i64 0) ad l ht (.inl ⟨hlt, hr⟩)
  have HB0 := Lib.hid hb0
  clear hb0 hlt hr ht
  go_enter Tryd.func33, Tryd.ntmps33
  go_upto_region 3 with fail
  rw [eC_walk]
  change Code.wp _ _ _ _ (begunE w .nilIface (.int .i64 0))
  obtain ⟨w1, hw1⟩ : ∃ q, q = begunE w .nilIface (.int .i64 0) := ⟨_, rfl⟩
  rw [← hw1] at H HB0 ⊢
  clear hw1
  generalize hG : w.heap.size = G at H HB0 ⊢
  have HG := Lib.hid hG
  clear hG
  go_wp2_with fail
  refine (writeChunk_any G (G + 1) G n cap ad l [] _ x0 x1 x2 x3 w1 H hl hnil hn (by simp) rfl rfl).mono ?_
  rintro e w2 ⟨rfl, d', htmp, hhd, henc, hbuf, htab, hbel⟩
  have HB2 : Hid (Below G w w2) := Lib.hid (HB0.out.trans hbel)
  have k4 := henc.hd_cell 4 (v := .nilIface) (by rw [hhd]; rfl)
  rw [List.nil_append] at hbuf
  have HBF : Buf G G (chunk [x0, x1, x2, x3] l) w2.drew := hbuf.drew
  clear H HB0 hbel hbuf htab henc htmp hhd
  go_wp2_with fail
  go_region_with ((go_at_call 43; refine (Tryd.Buffer_Bytes G G _ w2.drew HBF).mono ?_; rintro e w3 ⟨v, rfl, hown, q, rfl⟩))
  all_goals
    have hown2 : OwnB (w2.drew.drewN q) w.heap.size v (chunk [x0, x1, x2, x3] l) := by
      unfold OwnB
      rw [cellsB_length] at hown
      rw [HG.out]
      exact hown
    have hb3 : Below w.heap.size w (w2.drew.drewN q) := by
      have := HB2.out
      rw [HG.out]
      exact ⟨this.os, this.tape, this.output, this.size, this.block⟩
    have HO := Lib.hid hown2
    have HB3 := Lib.hid hb3
    clear hown hown2 hb3 HBF
    go_wp2_with fail
    go_ret2
    exact ⟨v, rfl, HO.out, ⟨HB3.out.os, HB3.out.tape, HB3.out.output, HB3.out.size, HB3.out.block⟩⟩

/-- What the thin package's Chunk hands back. -/
def IChEnd (nm l : List UInt8) (w : World) (e : Ending) (w' : World) : Prop :=
  ∃ v, e = .returned (.tuple #[v, .bool true]) ∧ OwnB w' w.heap.size v (chunk nm l) ∧ Below w.heap.size w w'
theorem chunk_length (nm l : List UInt8) (h : nm.length = 4) : (chunk nm l).length = l.length + 12 := by
  unfold chunk
  rw [List.length_append, List.length_append, List.length_append, four_len, four_len, h]
  omega

set_option maxHeartbeats 1600000 in
set_option maxRecDepth 100000 in
theorem implChunk_any (n cap : Nat) (ad : Option Addr) (l : List UInt8) (x0 x1 x2 x3 : UInt8) (w : World) (hl : Hid (l.length = n)) (hr : RB w ad l) (hnil : ad = none → n = 0 ∧ cap = 0) (hn : n ≤ 1000000) (ht : Tab w) :
    Calls Tryd.prog 21 #[.slice ad n cap, .string ⟨#[x0, x1, x2, x3]⟩] w (IChEnd [x0, x1, x2, x3] l w) := by
  go_enter Tryd.func21, Tryd.ntmps21
  go_wp2_with fail
  refine (clone_any ad n cap l hl w (by omega) hr hnil).mono ?_
  rintro e w1 ⟨v1, rfl, ho1, hb1, -⟩
  have HB1 := Lib.hid hb1
  have ht1 := ht.below hb1
  obtain ⟨a1, n1, c1, rfl, hm1, hr1, -, -, hnl1, hlt1⟩ := ho1.shapeN
  obtain rfl : n1 = n := by have h1 := hm1.out; have h2 := hl.out; omega
  clear hb1 ho1 ht hr hnil hl
  go_wp2_with fail
  refine (zzChunk_any n1 c1 a1 l x0 x1 x2 x3 w1 hm1 hr1 (fun a ha => (hlt1 a ha).2.1) hnl1 hn ht1).mono ?_
  rintro e w2 ⟨v2, rfl, ho2, hb2⟩
  have HB2 : Hid (Below w.heap.size w w2) := Lib.hid (HB1.out.trans (hb2.mono HB1.out.size))
  obtain ⟨a2, n2, c2, rfl, hm2, hr2, -, -, hnl2, -⟩ := ho2.shapeN
  have hn2 : n2 ≤ 1000012 := by have h1 := hm2.out; rw [chunk_length _ _ rfl, hm1.out] at h1; omega
  clear hb2 ho2 ht1 hr1 hlt1 hnl1
  go_wp2_with fail
  refine (clone_any a2 n2 c2 _ hm2 w2 (by omega) hr2 hnl2).mono ?_
  rintro e w3 ⟨v3, rfl, ho3, hb3, -⟩
  have HB3 : Hid (Below w.heap.size w w3) := Lib.hid (HB2.out.trans (hb3.mono HB2.out.size))
  have HO3 := Lib.hid (ho3.mono HB2.out.size)
  clear hb3 ho3 hr2 hnl2
  go_wp2_with fail
  go_ret2
  exact ⟨v3, rfl, HO3.out, HB3.out⟩
end Go.Proofs.YtiiipmcjbibgoaaDoor
