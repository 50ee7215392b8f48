/- The decoder's own block of memory: its fields, the buffer among them; what its reading of some bytes, its sum and the comparison with the sum that was read do. -/
import Derived.Test.YtiiipmcjbibgoaaDoorRead
import Derived.Test.YtiiipmcjbibgoaaDoorCrc
namespace Go.Proofs.YtiiipmcjbibgoaaDoor
open Go.ChangeShapes Go.WideShapes Go.ChangeAt Go.RowKit Go.IntWalk

/-- The decoder's fields. -/
structure DecV where
  r : Value
  img : Value
  crc : Value
  wd : Value
  ht : Value
  dp : Value
  pal : Value
  cb : Value
  st : Value
  ln : Value
  tmp : List UInt8
  lace : Value
  ut : Value
  tr : List UInt8
def DecV.pre (d : DecV) : List Value := [d.r, d.img, d.crc, d.wd, d.ht, d.dp, d.pal, d.cb, d.st, d.ln]
def DecV.post (d : DecV) : List Value := d.lace :: d.ut :: cellsB d.tr
def DecV.cells (d : DecV) : List Value := d.pre ++ (cellsB d.tmp ++ d.post)
theorem DecV.pre_length (d : DecV) : d.pre.length = 10 := rfl
/-- In block b lies a decoder. -/
structure Dec (w : World) (b : Nat) (d : DecV) : Prop where
  row : w.heap[b]? = some (.cells d.cells.toArray 90 (0, 0))
  tl : d.tmp.length = 768
  trl : d.tr.length = 6
theorem Dec.pre_cell {w : World} {b : Nat} {d : DecV} (h : Dec w b d) (i : Nat) {v : Value} (hi : d.pre[i]? = some v) : w.cell? ⟨b, i, none⟩ = some v := by
  obtain ⟨hlt, -⟩ := List.getElem?_eq_some_iff.1 hi
  rw [cell_of_row w b i _ _ _ h.row]
  simp only [DecV.cells, List.getElem?_toArray]
  rw [List.getElem?_append_left hlt]
  exact hi
theorem Dec.frozen {w : World} {b : Nat} {d : DecV} (h : Dec w b d) (i : Nat) : w.frozen? ⟨b, i, none⟩ = false := frozen_of_row w b i _ _ h.row
theorem Dec.set {w : World} {b : Nat} {d : DecV} (h : Dec w b d) (i : Nat) (v : Value) (d' : DecV) (hi : i < 10) (h1 : d'.pre = d.pre.set i v) (h2 : d'.tmp = d.tmp) (h3 : d'.post = d.post) (h4 : d'.tr.length = 6) : Dec (w.setCell ⟨b, i, none⟩ v) b d' := by
  refine ⟨?_, by rw [h2]; exact h.tl, h4⟩
  rw [heap_setCell_same w b i _ _ v h.row]
  congr 2
  apply Array.toList_inj.1
  simp only [Array.toList_setIfInBounds, DecV.cells, h1, h2, h3]
  rw [List.set_append_left _ _ (by rw [d.pre_length]; exact hi)]
theorem Dec.same {w w' : World} {b : Nat} {d : DecV} (h : Dec w b d) (k : w'.heap[b]? = w.heap[b]?) : Dec w' b d := ⟨k.trans h.row, h.tl, h.trl⟩
theorem Dec.below {w w' : World} {b B : Nat} {d : DecV} (h : Dec w b d) (k : Below B w w') (hb : b < B) : Dec w' b d := h.same (k.block b hb)
theorem Dec.only {w w' : World} {b c : Nat} {d : DecV} (h : Dec w b d) (k : Only c w w') (hb : b ≠ c) : Dec w' b d := h.same (k.block b hb)
theorem Dec.tmpAt {w : World} {b : Nat} {d : DecV} (h : Dec w b d) : RB w (some ⟨b, 10, none⟩) d.tmp := by
  intro _
  refine ⟨b, 10, rfl, fun j hj => ?_⟩
  rw [cell_of_row w b _ _ _ _ h.row]
  simp only [DecV.cells, List.getElem?_toArray]
  rw [List.getElem?_append_right (by rw [d.pre_length]; omega), d.pre_length, Nat.add_sub_cancel_left, List.getElem?_append_left (by rw [cellsB_length]; exact hj)]
  simp [cellsB, List.getD, hj]
/-- The buffer with so many bytes laid over its head. -/
def DecV.over (d : DecV) (news : List UInt8) : DecV := { d with tmp := news ++ d.tmp.drop news.length }
theorem over_cells (d : DecV) (news : List UInt8) (h : news.length ≤ d.tmp.length) : splice d.cells 10 (cellsB news) = (d.over news).cells := by
  have e1 : d.cells.take 10 = d.pre := by
    unfold DecV.cells
    rw [List.take_append_of_le_length (by rw [d.pre_length]; omega)]
    exact List.take_of_length_le (by rw [d.pre_length]; omega)
  have e2 : d.cells.drop (10 + (cellsB news).length) = cellsB (d.tmp.drop news.length) ++ d.post := by
    unfold DecV.cells
    rw [List.drop_append, List.drop_of_length_le (by rw [d.pre_length]; omega), d.pre_length, List.nil_append, Nat.add_sub_cancel_left, cellsB_length, List.drop_append_of_le_length (by rw [cellsB_length]; exact h)]
    congr 1
    simp [cellsB]
  unfold splice
  rw [e1, e2]
  unfold DecV.cells DecV.over
  simp [cellsB, DecV.pre, DecV.post]
theorem over_take (d : DecV) (news : List UInt8) : (d.over news).tmp.take news.length = news := by simp [DecV.over]

/-- Where a reading's blocks lie: those of the call's own, and the bytes that are read, from before. -/
structure Pl (base b R C sb : Nat) : Prop where
  b0 : base ≤ b
  r0 : base ≤ R
  c0 : base ≤ C
  bR : b ≠ R
  bC : b ≠ C
  rC : R ≠ C
  s0 : sb < base
  t0 : 0 < base
/-- A reading: the decoder, its reader, its sum, the bytes that are read, the table of the CRC-32. -/
structure Rdg (b R C sb so m mc : Nat) (l : List UInt8) (w : World) (d : DecV) (i c : Nat) : Prop where
  dec : Dec w b d
  er : d.r = .iface 79 (.pointer (some ⟨R, 0, none⟩))
  ec : d.crc = .pointer (some ⟨C, 0, none⟩)
  rd : Rd w R sb so m mc i
  cr : w.heap[C]? = some (.cells #[.int .u32 (c : Int)] 83 (0, 0))
  hc : c < 4294967296
  src : RB w (some ⟨sb, so, none⟩) l
  tab : Tab w
theorem Tab.lt {w : World} (h : Tab w) : 0 < w.heap.size := World.block_lt_of_cell? w _ (h 0 (by omega))
theorem Tab.only2 {w w' : World} {a b : Nat} (h : Tab w) (k : Only2 a b w w') (ha : 0 ≠ a) (hb : 0 ≠ b) : Tab w' := by
  intro i hi
  rw [k.cell (p := ⟨_, i, none⟩) ha hb]
  exact h i hi
theorem Rdg.drewN {b R C sb so m mc : Nat} {l : List UInt8} {w : World} {d : DecV} {i c : Nat} (h : Rdg b R C sb so m mc l w d i c) (n : Nat) : Rdg b R C sb so m mc l (w.drewN n) d i c :=
  ⟨⟨h.dec.row, h.dec.tl, h.dec.trl⟩, h.er, h.ec, h.rd, h.cr, h.hc, h.src, h.tab⟩
theorem Rdg.drew {b R C sb so m mc : Nat} {l : List UInt8} {w : World} {d : DecV} {i c : Nat} (h : Rdg b R C sb so m mc l w d i c) : Rdg b R C sb so m mc l w.drew d i c :=
  ⟨⟨h.dec.row, h.dec.tl, h.dec.trl⟩, h.er, h.ec, h.rd, h.cr, h.hc, h.src, h.tab⟩
/-- A field is set: the reading goes on. -/
theorem Rdg.set {base b R C sb so m mc : Nat} {l : List UInt8} {w : World} {d : DecV} {i c : Nat} (L : Pl base b R C sb) (h : Rdg b R C sb so m mc l w d i c) (k : Nat) (v : Value) (d' : DecV) (hk : k < 10) (h1 : d'.pre = d.pre.set k v) (h2 : d'.tmp = d.tmp) (h3 : d'.post = d.post) (h4 : d'.tr.length = 6) (h5 : d'.r = d.r) (h6 : d'.crc = d.crc) :
    Rdg b R C sb so m mc l (w.setCell ⟨b, k, none⟩ v) d' i c := by
  have O : Only b w (w.setCell ⟨b, k, none⟩ v) := (Only.refl _ _).setCell _ _
  have h0 := L.b0
  have hs := L.s0
  have ht := L.t0
  exact ⟨h.dec.set k v d' hk h1 h2 h3 h4, h5.trans h.er, h6.trans h.ec, h.rd.only O (Ne.symm L.bR), (O.block C (Ne.symm L.bC)).trans h.cr, h.hc, h.src.only O (by omega), h.tab.only2 (O.two1 b) (by omega) (by omega)⟩
/-- New memory, and writes to it: the reading is as it was. -/
theorem Rdg.below {b R C sb so m mc : Nat} {l : List UInt8} {w w' : World} {d : DecV} {i c : Nat} (h : Rdg b R C sb so m mc l w d i c) (k : Below w.heap.size w w') : Rdg b R C sb so m mc l w' d i c := by
  have lt : ∀ {B : Nat} {o : Obj}, w.heap[B]? = some o → B < w.heap.size := fun {B o} hb => by
    rcases Nat.lt_or_ge B w.heap.size with h' | h'
    · exact h'
    · simp [Array.getElem?_eq_none h'] at hb
  obtain ⟨pr, hr⟩ := h.rd
  exact ⟨h.dec.below k (lt h.dec.row), h.er, h.ec, ⟨pr, (k.block R (lt hr)).trans hr⟩, (k.block C (lt h.cr)).trans h.cr, h.hc, h.src.below k, h.tab.below k⟩

/-- Some bytes have been read into the buffer. -/
def TmpEnd (base b R C sb so m mc n : Nat) (l : List UInt8) (d : DecV) (i c : Nat) (w : World) (e : Ending) (w' : World) : Prop :=
  e = .returned (.tuple #[.int .i64 (n : Int), .nilIface]) ∧ Rdg b R C sb so m mc l w' (d.over ((l.drop i).take n)) (i + n) c ∧ Below base w w'
theorem readTmp_any (base b R C sb so m mc n : Nat) (l : List UInt8) (d : DecV) (i c : Nat) (w : World) (L : Pl base b R C sb) (h : Rdg b R C sb so m mc l w d i c)
    (hl : Hid (l.length = m)) (hmc : m ≤ mc) (hpos : 0 < n) (hin : i + n ≤ m) (hn : n ≤ 768) (hm : m ≤ 1000000) :
    Calls Tryd.prog 46 #[.iface 79 (.pointer (some ⟨R, 0, none⟩)), .slice (some ⟨b, 10, none⟩) n 768] w (TmpEnd base b R C sb so m mc n l d i c w) := by
  have h0 := L.b0
  have h1 := L.r0
  have h2 := L.s0
  have h3 := L.t0
  have hlen := hl.out
  refine (readFull_any b 10 n 768 R sb so m mc i l d.cells 90 w h.rd hl h.src hmc h.dec.row L.bR (by omega) hpos hin (by unfold DecV.cells; simp [d.pre_length, cellsB_length, h.dec.tl]; omega) hn hm).mono ?_
  rintro e w' ⟨rfl, hp⟩
  have hnl : ((l.drop i).take n).length = n := by simp; omega
  refine ⟨rfl, ⟨⟨?_, ?_, h.dec.trl⟩, h.er, h.ec, hp.rd, ?_, h.hc, h.src.only2 hp.only (by omega) (by omega), h.tab.only2 hp.only (by omega) (by omega)⟩, hp.only.below h0 h1⟩
  · have := hp.row
    rw [over_cells _ _ (by rw [hnl, h.dec.tl]; exact hn)] at this
    exact this
  · simp [DecV.over, h.dec.tl]; omega
  · exact (hp.only.block C (Ne.symm L.bC) (Ne.symm L.rC)).trans h.cr

/-- The sum over some more bytes. -/
def SumEnd (base b R C sb so m mc n : Nat) (l p : List UInt8) (d : DecV) (i c : Nat) (w : World) (e : Ending) (w' : World) : Prop :=
  e = .returned (.tuple #[.int .i64 (n : Int), .nilIface]) ∧ Rdg b R C sb so m mc l w' d i (crcFrom c p) ∧ Below base w w'
theorem writeSum_any (base b R C sb so m mc : Nat) (l : List UInt8) (d : DecV) (i c : Nat) (ad : Option Addr) (n cap : Nat) (p : List UInt8) (w : World) (L : Pl base b R C sb) (h : Rdg b R C sb so m mc l w d i c)
    (hp : Hid (p.length = n)) (hr : RB w ad p) (hm : n ≤ 1000000) :
    Calls Tryd.prog 38 #[.pointer (some ⟨C, 0, none⟩), .slice ad n cap] w (SumEnd base b R C sb so m mc n l p d i c w) := by
  have h0 := L.c0
  have h2 := L.s0
  have h3 := L.t0
  refine (write_any C 0 c h.hc ad n cap p hp w (by omega) hr h.tab (by rw [cell_of_row w C 0 _ _ _ h.cr]; rfl) (frozen_of_row w C 0 _ _ h.cr)).mono ?_
  rintro e w' ⟨rfl, rfl⟩
  have O : Only C w (w.setCell ⟨C, 0, none⟩ (.int .u32 ((crcFrom c p : Nat) : Int))) := (Only.refl _ _).setCell _ _
  refine ⟨rfl, ⟨h.dec.only O L.bC, h.er, h.ec, h.rd.only O L.rC, ?_, crcFrom_lt _ _ h.hc, h.src.only O (by omega), h.tab.only2 (O.two1 C) (by omega) (by omega)⟩, O.below h0⟩
  rw [heap_setCell_same w C 0 _ _ _ h.cr]
  rfl

/-- Four bytes as a number, the highest first. -/
def be4 (p : List UInt8) : Nat := 16777216 * (p.getD 0 0).toNat + 65536 * (p.getD 1 0).toNat + 256 * (p.getD 2 0).toNat + (p.getD 3 0).toNat
theorem be4_or (a b c d : Nat) (hb : b < 256) (hc : c < 256) (hd : d < 256) : d ||| c * 256 ||| b * 65536 ||| a * 16777216 = 16777216 * a + 65536 * b + 256 * c + d := by
  have key : ∀ (k x y : Nat), y < 2 ^ k → y ||| x * 2 ^ k = x * 2 ^ k + y := fun k x y h => by
    have := Nat.shiftLeft_add_eq_or_of_lt h x
    rw [Nat.shiftLeft_eq] at this
    rw [Nat.or_comm, this]
  have e1 : d ||| c * 256 = c * 256 + d := key 8 c d hd
  have e2 : c * 256 + d ||| b * 65536 = b * 65536 + (c * 256 + d) := key 16 b _ (by omega)
  have e3 : b * 65536 + (c * 256 + d) ||| a * 16777216 = a * 16777216 + (b * 65536 + (c * 256 + d)) := key 24 a _ (by omega)
  rw [e1, e2, e3]; omega
theorem be4_lt (p : List UInt8) : be4 p < 4294967296 := by
  have h0 := byte_lt (p.getD 0 0)
  have h1 := byte_lt (p.getD 1 0)
  have h2 := byte_lt (p.getD 2 0)
  have h3 := byte_lt (p.getD 3 0)
  unfold be4; omega

theorem be4_bits (a b c d : Nat) (ha : a < 256) (hb : b < 256) (hc : c < 256) (hd : d < 256) :
    bits .or .u32 (bits .or .u32 (bits .or .u32 (d : Int) ((c : Int) * 256)) ((b : Int) * 65536)) ((a : Int) * 16777216) = ((16777216 * a + 65536 * b + 256 * c + d : Nat) : Int) := by
  rw [← be4_or a b c d hb hc hd]
  have e1 : (c : Int) * 256 = ((c * 256 : Nat) : Int) := by omega
  have e2 : (b : Int) * 65536 = ((b * 65536 : Nat) : Int) := by omega
  have e3 : (a : Int) * 16777216 = ((a * 16777216 : Nat) : Int) := by omega
  have q1 : d ||| c * 256 < 4294967296 := Nat.or_lt_two_pow (n := 32) (by omega) (by omega)
  have q2 : d ||| c * 256 ||| b * 65536 < 4294967296 := Nat.or_lt_two_pow (n := 32) q1 (by omega)
  rw [e1, e2, e3, u32_or_nat _ _ (by omega) (by omega), u32_or_nat _ _ q1 (by omega), u32_or_nat _ _ q2 (by omega)]

set_option maxHeartbeats 800000 in
theorem beUint32_any (b o n cap : Nat) (p : List UInt8) (w : World) (hp : Hid (p.length = n)) (hr : RB w (some ⟨b, o, none⟩) p) (hn : 4 ≤ n) :
    Calls Tryd.prog 48 #[.slice (some ⟨b, o, none⟩) n cap] w fun e w' => e = .returned (.int .u32 (be4 p : Int)) ∧ ∃ q, w' = w.drewN q := by
  have hl := hp.out
  obtain ⟨x0, HX0, hx0⟩ := hr.at 0 (by omega)
  obtain ⟨x1, HX1, hx1⟩ := hr.at 1 (by omega)
  obtain ⟨x2, HX2, hx2⟩ := hr.at 2 (by omega)
  obtain ⟨x3, HX3, hx3⟩ := hr.at 3 (by omega)
  rw [Nat.add_zero] at hx0
  have l0 := byte_lt x0
  have l1 := byte_lt x1
  have l2 := byte_lt x2
  have l3 := byte_lt x3
  have j0 : (3 : Int) < (n : Int) := by omega
  have j1 : (2 : Int) < (n : Int) := by omega
  have j2 : (1 : Int) < (n : Int) := by omega
  have j3 : (0 : Int) < (n : Int) := by omega
  clear hl hr
  go_enter Tryd.func48, Tryd.ntmps48
  go_wp2_with fail
  go_quiet (fail)
  go_wp2_with fail
  go_ret
  refine ⟨ret_int ?_, _, rfl⟩
  rw [be4_bits _ _ _ _ l0 l1 l2 l3]
  unfold be4
  simp only [List.getD, HX0.out, HX1.out, HX2.out, HX3.out, Option.getD_some]

def badSum : Value := .iface 94 (.string ⟨#[105, 110, 118, 97, 108, 105, 100, 32, 99, 104, 101, 99, 107, 115, 117, 109]⟩)
/-- What is said of a sum that was read. -/
def sumV (c : Nat) (p : List UInt8) : Value := if be4 p = c then .nilIface else badSum
/-- Four bytes more have been read and held against the sum. -/
def VerEnd (base b R C sb so m mc : Nat) (l : List UInt8) (d : DecV) (i c : Nat) (w : World) (e : Ending) (w' : World) : Prop :=
  e = .returned (sumV c ((l.drop i).take 4)) ∧ Rdg b R C sb so m mc l w' (d.over ((l.drop i).take 4)) (i + 4) c ∧ Below base w w'

set_option maxHeartbeats 1600000 in
set_option maxRecDepth 100000 in
theorem verify_any (base b R C sb so m mc : Nat) (l : List UInt8) (d : DecV) (i c : Nat) (w : World) (L : Pl base b R C sb) (h : Rdg b R C sb so m mc l w d i c)
    (hl : Hid (l.length = m)) (hmc : m ≤ mc) (hin : i + 4 ≤ m) (hm : m ≤ 1000000) :
    Calls Tryd.prog 47 #[.pointer (some ⟨b, 0, none⟩)] w (VerEnd base b R C sb so m mc l d i c w) := by
  have k0 : w.cell? ⟨b, 0, none⟩ = some (.iface 79 (.pointer (some ⟨R, 0, none⟩))) := h.dec.pre_cell 0 (by rw [← h.er]; rfl)
  go_enter Tryd.func47, Tryd.ntmps47
  go_wp2_with fail
  have H1 := h.drew
  have hm1 : i + 4 ≤ m := hin
  go_region_with ((go_at_call 46; refine (readTmp_any base b R C sb so m mc 4 l d i c w.drew L H1 hl hmc (by omega) hm1 (by omega) hm).mono ?_; rintro e w2 ⟨rfl, H2, hb2⟩))
  clear k0 h H1
  obtain ⟨p, hp⟩ : ∃ p, p = (l.drop i).take 4 := ⟨_, rfl⟩
  have hp4 : p.length = 4 := by have := hl.out; rw [hp]; simp; omega
  have HP := Lib.hid hp
  rw [← hp] at H2
  clear hp
  have k2 : w2.cell? ⟨b, 2, none⟩ = some (.pointer (some ⟨C, 0, none⟩)) := H2.dec.pre_cell 2 (by rw [← H2.ec]; rfl)
  have hrp : RB w2 (some ⟨b, 10, none⟩) p := by
    have := H2.dec.tmpAt.take 4
    rw [← hp4, over_take] at this
    exact this
  have HP4 := Lib.hid hp4
  have b4 := be4_lt p
  have cc : w2.cell? ⟨C, 0, none⟩ = some (.int .u32 (c : Int)) := by rw [cell_of_row w2 C 0 _ _ _ H2.cr]; rfl
  clear hp4
  go_wp2_with fail
  go_quiet (first | (go_at_call 48; exact Calls.quiet_of (beUint32_any b 10 4 768 p _ HP4 hrp (by omega))) | (go_at_call 51; exact Calls.quiet_of_same (Calls.mono (sum32_any C 0 (.int .u32 (c : Int)) _ (by exact cc)) (fun _ _ h => ⟨h.1, h.2.symm⟩))))
  by_cases hq : be4 p = c
  · have d1 : ((be4 p : Int) != (c : Int)) = false := by rw [hq]; simp
    go_wp2_with fail
    go_ret
    exact ⟨by rw [← HP.out, sumV, if_pos hq]; rfl, by rw [← HP.out]; exact H2.drewN _, ⟨hb2.os, hb2.tape, hb2.output, hb2.size, hb2.block⟩⟩
  · have d1 : ((be4 p : Int) != (c : Int)) = true := by simp; omega
    go_wp2_with fail
    go_ret
    exact ⟨by rw [← HP.out, sumV, if_neg hq]; rfl, by rw [← HP.out]; exact H2.drewN _, ⟨hb2.os, hb2.tape, hb2.output, hb2.size, hb2.block⟩⟩
end Go.Proofs.YtiiipmcjbibgoaaDoor
