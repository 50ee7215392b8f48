/- The decoder's parsetRNS at a palette: the alphas of the first colors are read. -/
import Derived.Test.YtiiipmcjbibgoaaDoorTrns
import Derived.Test.YtiiipmcjbibgoaaDoorShades
namespace Go.Proofs.YtiiipmcjbibgoaaDoor
open Go.ChangeShapes Go.WideShapes Go.ChangeAt Go.RowKit Go.IntWalk

/-- New memory, and writes to one block alone. -/
structure Ex (P : Nat) (w w' : World) : Prop where
  os : w'.os = w.os
  tape : w'.tape = w.tape
  output : w'.output = w.output
  size : w.heap.size ≤ w'.heap.size
  block : ∀ k, k < w.heap.size → k ≠ P → w'.heap[k]? = w.heap[k]?
theorem Ex.refl (P : Nat) (w : World) : Ex P w w := ⟨rfl, rfl, rfl, Nat.le_refl _, fun _ _ _ => rfl⟩
theorem Ex.trans {P : Nat} {u v w : World} (h : Ex P u v) (k : Ex P v w) : Ex P u w :=
  ⟨k.os.trans h.os, k.tape.trans h.tape, k.output.trans h.output, Nat.le_trans h.size k.size, fun i hi hp => (k.block i (Nat.lt_of_lt_of_le hi h.size) hp).trans (h.block i hi hp)⟩
theorem Ex.drew {P : Nat} {u w : World} (h : Ex P u w) : Ex P u w.drew := ⟨h.os, h.tape, h.output, h.size, h.block⟩
theorem Ex.drewN {P : Nat} {u w : World} (h : Ex P u w) (n : Nat) : Ex P u (w.drewN n) := ⟨h.os, h.tape, h.output, h.size, h.block⟩
theorem Ex.alloc {P : Nat} {u w : World} (h : Ex P u w) (o : Obj) : Ex P u (w.alloc o) := by
  have b : Below w.heap.size w (w.alloc o) := (Below.refl _ _).alloc (Nat.le_refl _) o
  exact h.trans ⟨b.os, b.tape, b.output, b.size, fun k hk _ => b.block k hk⟩
theorem Ex.setCell {P : Nat} {u w : World} (h : Ex P u w) (i : Nat) (v : Value) : Ex P u (w.setCell ⟨P, i, none⟩ v) := by
  have o : Only P w (w.setCell ⟨P, i, none⟩ v) := (Only.refl _ _).setCell i v
  exact h.trans ⟨o.os, o.tape, o.output, Nat.le_of_eq o.size.symm, fun k _ hp => o.block k hp⟩
theorem Ex.below {P B : Nat} {w w' : World} (h : Ex P w w') (hP : B ≤ P) (hB : B ≤ w.heap.size) : Below B w w' :=
  ⟨h.os, h.tape, h.output, h.size, fun k hk => h.block k (by omega) (by omega)⟩
theorem RB.ex {w w' : World} {P c o : Nat} {l : List UInt8} (h : RB w (some ⟨c, o, none⟩) l) (k : Ex P w w') (hc : c < w.heap.size) (hne : c ≠ P) : RB w' (some ⟨c, o, none⟩) l := by
  intro hl
  obtain ⟨b', o', e, hcc⟩ := h hl
  simp only [Option.some.injEq, Addr.mk.injEq, and_true] at e
  obtain ⟨rfl, rfl⟩ := e
  exact ⟨c, o, rfl, fun i hi => (World.cell?_of_block (w := w) (k.block c hc hne)).trans (hcc i hi)⟩
theorem row_lt {w : World} {b : Nat} {o : Obj} (h : w.heap[b]? = some o) : b < w.heap.size := by
  rcases Nat.lt_or_ge b w.heap.size with h' | h'
  · exact h'
  · simp [Array.getElem?_eq_none h'] at h
theorem Rdg.ex {base b R C sb so m mc : Nat} {l : List UInt8} {w w' : World} {d : DecV} {i c P : Nat} (L : Pl base b R C sb) (h : Rdg b R C sb so m mc l w d i c) (O : Ex P w w') (hP : base ≤ P) (h1 : P ≠ b) (h2 : P ≠ R) (h3 : P ≠ C) (hs : sb < w.heap.size) : Rdg b R C sb so m mc l w' d i c := by
  have hs0 := L.s0
  have ht := L.t0
  obtain ⟨pr, hr⟩ := h.rd
  exact ⟨h.dec.same (O.block b (row_lt h.dec.row) (Ne.symm h1)), h.er, h.ec, ⟨pr, (O.block R (row_lt hr) (Ne.symm h2)).trans hr⟩, (O.block C (row_lt h.cr) (Ne.symm h3)).trans h.cr, h.hc, h.src.ex O hs (by omega), fun i hi => (World.cell?_of_block (w := w) (O.block _ h.tab.lt (by show 0 ≠ P; omega))).trans (h.tab i hi)⟩

/-- The sum over some more bytes; nothing but the sum has turned. -/
def SumEnd2 (base b R C sb so m mc n : Nat) (l p : List UInt8) (d : DecV) (i c : Nat) (w : World) (e : Ending) (w' : World) : Prop :=
  e = .returned (.tuple #[.int .i64 (n : Int), .nilIface]) ∧ Rdg b R C sb so m mc l w' d i (crcFrom c p) ∧ Below base w w' ∧ Only C w w'
theorem write2_any (base b R C sb so m mc : Nat) (l : List UInt8) (d : DecV) (i c : Nat) (ad : Option Addr) (n cap : Nat) (p : List UInt8) (w : World) (L : Pl base b R C sb) (h : Rdg b R C sb so m mc l w d i c)
    (hp : Hid (p.length = n)) (hr : RB w ad p) (hm : n ≤ 1000000) :
    Calls Tryd.prog 38 #[.pointer (some ⟨C, 0, none⟩), .slice ad n cap] w (SumEnd2 base b R C sb so m mc n l p d i c w) := by
  have h0 := L.c0
  have h2 := L.s0
  have h3 := L.t0
  refine (write_any C 0 c h.hc ad n cap p hp w (by omega) hr h.tab (by rw [cell_of_row w C 0 _ _ _ h.cr]; rfl) (frozen_of_row w C 0 _ _ h.cr)).mono ?_
  rintro e w' ⟨rfl, rfl⟩
  have O : Only C w (w.setCell ⟨C, 0, none⟩ (.int .u32 ((crcFrom c p : Nat) : Int))) := (Only.refl _ _).setCell _ _
  refine ⟨rfl, ⟨h.dec.only O L.bC, h.er, h.ec, h.rd.only O L.rC, ?_, crcFrom_lt _ _ h.hc, h.src.only O (by omega), h.tab.only2 (O.two1 C) (by omega) (by omega)⟩, O.below h0, O⟩
  rw [heap_setCell_same w C 0 _ _ _ h.cr]
  rfl

/-- A color in each of its two forms. -/
def rgV (s : Sh) : Value := .iface 65 (agg4 s)
def nrV (s : Sh) (x : UInt8) : Value := .iface 98 (agg4 { s with a := x })
/-- The first t colors with their alphas. -/
def clrTo (S : List Sh) (p : List UInt8) (t : Nat) : List Value := (List.range S.length).map fun j => if j < t then nrV (S.getD j Sh.no) (p.getD j 0) else rgV (S.getD j Sh.no)
theorem clrTo_length (S : List Sh) (p : List UInt8) (t : Nat) : (clrTo S p t).length = S.length := by simp [clrTo]
theorem clrTo_at (S : List Sh) (p : List UInt8) (t j : Nat) (h : j < S.length) : (clrTo S p t)[j]? = some (if j < t then nrV (S.getD j Sh.no) (p.getD j 0) else rgV (S.getD j Sh.no)) := by simp [clrTo, h]
theorem clrTo_step (S : List Sh) (p : List UInt8) (t : Nat) (h : t < S.length) : (clrTo S p t).set t (nrV (S.getD t Sh.no) (p.getD t 0)) = clrTo S p (t + 1) := by
  apply List.ext_getElem?
  intro j
  rw [List.getElem?_set, clrTo_length]
  by_cases hj : t = j
  · subst hj
    rw [if_pos rfl, if_pos h, clrTo_at _ _ _ _ h, if_pos (by omega)]
  · rw [if_neg hj]
    by_cases hl : j < S.length
    · rw [clrTo_at _ _ _ _ hl, clrTo_at _ _ _ _ hl]
      by_cases h1 : j < t
      · rw [if_pos h1, if_pos (by omega)]
      · rw [if_neg h1, if_neg (by omega)]
    · rw [List.getElem?_eq_none (by rw [clrTo_length]; omega), List.getElem?_eq_none (by rw [clrTo_length]; omega)]
theorem clrTo_zero (S : List Sh) (p : List UInt8) : clrTo S p 0 = S.map rgV := by
  apply List.ext_getElem?
  intro j
  by_cases hl : j < S.length
  · rw [clrTo_at _ _ _ _ hl, if_neg (by omega)]
    simp [hl, List.getD]
  · rw [List.getElem?_eq_none (by rw [clrTo_length]; omega), List.getElem?_eq_none (by simp; omega)]
theorem assert_rg (x : Array Value) (w : World) : (Instr.typeAssert (.iface 65 (.agg x)) 97 65 false).run Tryd.prog w = .ok (.agg x) w := by kernel_rfl

def ClrEnd (base b P m pcap : Nat) (S : List Sh) (rest : List Value) (l : List UInt8) (n c : Nat) (d : DecV) (w : World) (e : Ending) (w' : World) : Prop :=
  e = .returned (sumV (crcFrom c (l.take n)) ((l.drop n).take 4)) ∧ w'.heap[P]? = some (.cells (clrTo S (l.take n) n ++ rest).toArray 97 (0, 0)) ∧
    w'.cell? ⟨b, 6, none⟩ = some (.slice (some ⟨P, 0, none⟩) m pcap) ∧ RB w' (some ⟨b, 780, none⟩) d.tr ∧ w'.cell? ⟨b, 779, none⟩ = some d.ut ∧ Below base w w'

set_option maxHeartbeats 6400000 in
set_option maxRecDepth 100000 in
theorem trns_pal (base b R C sb so mc n c P m pcap : Nat) (S : List Sh) (rest : List Value) (l : List UInt8) (d : DecV) (w : World) (L : Pl base b R C sb) (h : Rdg b R C sb so (n + 4) mc l w d 0 c)
    (hl : Hid (l.length = n + 4)) (hmc : n + 4 ≤ mc) (hn : 0 < n) (hnm : n ≤ m) (hm : m ≤ 256) (hS : Hid (S.length = m)) (hrow : w.heap[P]? = some (.cells (S.map rgV ++ rest).toArray 97 (0, 0)))
    (hP : base ≤ P) (h1 : P ≠ b) (h2 : P ≠ R) (h3 : P ≠ C) (e2 : d.cb = .int .i64 10) (e0 : d.pal = .slice (some ⟨P, 0, none⟩) m pcap) :
    Calls Tryd.prog 40 #[.pointer (some ⟨b, 0, none⟩), .int .u32 (n : Int)] w (ClrEnd base b P m pcap S rest l n c d w) := by
  have k7 : w.cell? ⟨b, 7, none⟩ = some (.int .i64 10) := h.dec.pre_cell 7 (by rw [← e2]; rfl)
  have k0 : w.cell? ⟨b, 0, none⟩ = some (.iface 79 (.pointer (some ⟨R, 0, none⟩))) := h.dec.pre_cell 0 (by rw [← h.er]; rfl)
  have H1 := h.drew
  have E0 := Lib.hid e0
  clear e2 e0
  obtain ⟨p, hp⟩ : ∃ p, p = (l.drop 0).take n := ⟨_, rfl⟩
  have hpl : p.length = n := by have := hl.out; rw [hp]; simp; omega
  have HPN := Lib.hid hpl
  have HP := Lib.hid hp
  clear hpl hp
  have y1 : (n : Int) ≤ 256 := by omega
  have y4 : (n : Int) ≤ 768 := by omega
  have y5 : (0 : Int) ≤ (n : Int) := by omega
  have y6 : (n : Int) ≤ (m : Int) := by omega
  have y7 : decide (m < n) = false := decide_eq_false (by omega)
  have kn : IntKind.i64.wrap (n : Int) = (n : Int) := i64_in _ ⟨by omega, by omega⟩
  have HROW := Lib.hid hrow
  have hPw := row_lt hrow
  have HPW := Lib.hid hPw
  clear hrow hPw
  have hsb : sb < w.heap.size := by have := L.s0; have := L.b0; have := row_lt h.dec.row; omega
  have HSB := Lib.hid hsb
  clear hsb
  go_enter Tryd.func40, Tryd.ntmps40
  go_wp2_with fail
  go_region_with ((go_at_call 46; refine (readTmp2_any base b R C sb so _ mc n l d 0 c w.drew L H1 hl hmc (by omega) (by omega) (by omega) (by omega)).mono ?_; rintro e w2 ⟨rfl, H2, hb2, o2⟩))
  clear k0 k7 h H1
  rw [← HP.out] at H2
  have k2 : w2.cell? ⟨b, 2, none⟩ = some (.pointer (some ⟨C, 0, none⟩)) := H2.dec.pre_cell 2 (by rw [← H2.ec]; rfl)
  go_wp2_with fail
  go_still_tail 9, (by kernel_rfl)
  change wpList _ _ _ _ _ w2.drew
  have H3 := H2.drew
  obtain ⟨w3, hw3⟩ : ∃ w3, w3 = w2.drew := ⟨_, rfl⟩
  have hb3 : Below base w w3 := by rw [hw3]; exact ⟨hb2.os, hb2.tape, hb2.output, hb2.size, hb2.block⟩
  have hq3 : Hid (w3.heap[P]? = some (.cells (S.map rgV ++ rest).toArray 97 (0, 0)) ∧ w3.heap.size = w.heap.size) := Lib.hid (by
    rw [hw3]
    exact ⟨(o2.undrew.block P h1 h2).trans HROW.out, o2.undrew.size⟩)
  rw [← hw3] at H3 ⊢
  clear hw3 k2 H2 hb2 o2
  have hrp : RB w3 (some ⟨b, 10, none⟩) p := by
    have := H3.dec.tmpAt.take p.length
    rw [over_take] at this
    exact this
  go_wp2_with fail
  refine (write2_any base b R C sb so _ mc l (d.over p) _ c (some ⟨b, 10, none⟩) _ 768 p w3 L H3 HPN hrp (by omega)).mono ?_
  rintro e w4 ⟨rfl, H4, hb4, o4⟩
  have HB4 := Lib.hid (hb3.trans (hb4.mono (Nat.le_refl _)))
  have hq4 : Hid (w4.heap[P]? = some (.cells (S.map rgV ++ rest).toArray 97 (0, 0)) ∧ w4.heap.size = w.heap.size) := Lib.hid ⟨(o4.block P h3).trans hq3.out.1, o4.size.trans hq3.out.2⟩
  clear hrp hb3 hb4 H3 hq3 o4
  have q6 := H4.dec.pre_cell 6 (v := .slice (some ⟨P, 0, none⟩) m pcap) (by rw [← E0.out]; rfl)
  go_wp2_with fail
  clear q6
  go_loopw [11] (fun i wr => ∃ t : Nat, t ≤ n ∧ i = .int .i64 (t : Int) ∧ Ex P w4 wr ∧ wr.heap[P]? = some (.cells (clrTo S p t ++ rest).toArray 97 (0, 0))) (fun i _ => n - (intOf i).toNat)
  case atStart => exact ⟨0, Nat.zero_le _, rfl, Ex.refl _ _, by rw [clrTo_zero]; exact hq4.out.1⟩
  case round =>
    obtain ⟨t, ht, rfl, O, hrow⟩ := hrel
    have HR := H4.ex L O hP h1 h2 h3 (by rw [hq4.out.2]; exact HSB.out)
    by_cases hlt : t < n
    · have i0 : (0 : Int) ≤ (t : Int) := by omega
      have i1 : (t : Int) < (n : Int) := by omega
      have i2 : (t : Int) < (m : Int) := by omega
      have i3 : (t : Int) < 768 := by omega
      have w3 : IntKind.i64.wrap (t : Int) = (t : Int) := i64_in _ ⟨by omega, by omega⟩
      obtain ⟨s, hs⟩ : ∃ s, s = S.getD t Sh.no := ⟨_, rfl⟩
      have hct : wr.cell? ⟨P, t, none⟩ = some (rgV s) := by
        rw [cell_of_row wr P t _ _ _ hrow, List.getElem?_toArray, List.getElem?_append_left (by rw [clrTo_length, hS.out]; omega), clrTo_at _ _ _ _ (by rw [hS.out]; omega), if_neg (by omega), hs]
      have HS := Lib.hid hs
      obtain ⟨x0, hx0, m0, c0⟩ := HR.dec.byte t (10 + t) (by omega) rfl
      have k6 : wr.cell? ⟨b, 6, none⟩ = some (.slice (some ⟨P, 0, none⟩) m pcap) := HR.dec.pre_cell 6 (by rw [← E0.out]; rfl)
      have a3 := assert_rg
      have hPlt : P < wr.heap.size := row_lt hrow
      have hblt : b < wr.heap.size := row_lt HR.dec.row
      unfold rgV agg4 at hct
      clear HR hs
      have HROW2 := Lib.hid hrow
      have HEX := Lib.hid O
      clear hrow O
      go_upto_region 49 with fail
      obtain ⟨w5, hw5⟩ : ∃ w5, w5 = wr.alloc (.cells #[.int .u8 (s.r.toNat : Int), .int .u8 (s.g.toNat : Int), .int .u8 (s.b.toNat : Int), .int .u8 (s.a.toNat : Int)] 65) := ⟨_, rfl⟩
      have HB : Below wr.heap.size wr w5 := by rw [hw5]; exact (Below.refl _ _).alloc (Nat.le_refl _) _
      have hnew : w5.heap[wr.heap.size]? = some (.cells #[.int .u8 (s.r.toNat : Int), .int .u8 (s.g.toNat : Int), .int .u8 (s.b.toNat : Int), .int .u8 (s.a.toNat : Int)] 65 (0, 0)) := by rw [hw5]; exact heap_alloc_new wr _
      have k6' : w5.cell? ⟨b, 6, none⟩ = some (.slice (some ⟨P, 0, none⟩) m pcap) := (World.cell?_of_block (w := wr) (HB.block b hblt)).trans k6
      have c0' : w5.cell? ⟨b, 10 + t, none⟩ = some (.int .u8 (x0 : Int)) := (World.cell?_of_block (w := wr) (HB.block b hblt)).trans c0
      have HROW5 : Hid (w5.heap[P]? = some (.cells (clrTo S p t ++ rest).toArray 97 (0, 0))) := Lib.hid ((HB.block P hPlt).trans HROW2.out)
      have HEX5 : Hid (Ex P w4 w5) := Lib.hid (by rw [hw5]; exact HEX.out.alloc _)
      obtain ⟨g, hg⟩ : ∃ g, g = wr.heap.size := ⟨_, rfl⟩
      rw [← hg] at hnew
      have g0 : w5.cell? ⟨g, 0, none⟩ = some (.int .u8 (s.r.toNat : Int)) := by rw [cell_of_row w5 g 0 _ _ _ hnew]; rfl
      have g1 : w5.cell? ⟨g, 1, none⟩ = some (.int .u8 (s.g.toNat : Int)) := by rw [cell_of_row w5 g 1 _ _ _ hnew]; rfl
      have g2 : w5.cell? ⟨g, 2, none⟩ = some (.int .u8 (s.b.toNat : Int)) := by rw [cell_of_row w5 g 2 _ _ _ hnew]; rfl
      rw [← hw5, ← hg]
      clear hw5 HB k6 c0 HROW2 HEX hnew hct hPlt hblt hg
      go_still_tail 20, (by kernel_rfl)
      change wpList _ _ _ _ _ w5.drew
      have hrow6 : w5.drew.heap[P]? = some (.cells (clrTo S p t ++ rest).toArray 97 (0, 0)) := HROW5.out
      have HE6 : Ex P w4 w5.drew := HEX5.out.drew
      obtain ⟨w6, hw6⟩ : ∃ w6, w6 = w5.drew := ⟨_, rfl⟩
      rw [← hw6] at hrow6 HE6 ⊢
      clear hw6 HROW5 HEX5 k6' c0' g0 g1 g2
      have kt : w6.cell? ⟨P, t, none⟩ = some (rgV s) := by
        rw [cell_of_row w6 P t _ _ _ hrow6, List.getElem?_toArray, List.getElem?_append_left (by rw [clrTo_length, hS.out]; omega), clrTo_at _ _ _ _ (by rw [hS.out]; omega), if_neg (by omega), HS.out]
      have ft := frozen_of_row w6 P t _ _ hrow6
      have HE7 := Lib.hid (HE6.setCell t (Value.iface 98 (.agg #[.int .u8 (s.r.toNat : Int), .int .u8 (s.g.toNat : Int), .int .u8 (s.b.toNat : Int), .int .u8 (x0 : Int)])))
      have hrow7 := Lib.hid (heap_setCell_same w6 P t _ _ (Value.iface 98 (.agg #[.int .u8 (s.r.toNat : Int), .int .u8 (s.g.toNat : Int), .int .u8 (s.b.toNat : Int), .int .u8 (x0 : Int)])) hrow6)
      clear hrow6 HE6
      go_wp2_with fail
      go_round
      case rel =>
        refine ⟨t + 1, by omega, by go_num, HE7.out, ?_⟩
        refine hrow7.out.trans ?_
        congr 2
        apply Array.toList_inj.1
        rw [Array.toList_setIfInBounds]
        have e : Value.iface 98 (.agg #[.int .u8 (s.r.toNat : Int), .int .u8 (s.g.toNat : Int), .int .u8 (s.b.toNat : Int), .int .u8 (x0 : Int)]) = nrV (S.getD t Sh.no) (p.getD t 0) := by
          have hx := hx0.out
          change x0 = ((p ++ d.tmp.drop p.length).getD t 0).toNat at hx
          have : (p ++ d.tmp.drop p.length).getD t 0 = p.getD t 0 := by
            simp only [List.getD]
            rw [List.getElem?_append_left (by rw [HPN.out]; exact hlt)]
          rw [this] at hx
          rw [hx, HS.out]
          rfl
        rw [e]
        show (clrTo S p t ++ rest).set t _ = _
        rw [List.set_append_left _ _ (by rw [clrTo_length, hS.out]; omega), clrTo_step _ _ _ (by rw [hS.out]; omega)]
      case measure => simp [intOf]; omega
    · obtain rfl : n = t := by omega
      have HB9 : Hid (Below base w wr) := Lib.hid (HB4.out.trans (O.below hP (by have := HB4.out.size; have := HPW.out; omega)))
      have HO := Lib.hid hrow
      clear hrow O
      go_wp2_with fail
      refine (verify2_any base b R C sb so (n + 4) mc l _ (0 + n) (crcFrom c p) _ L HR hl hmc (by omega) (by omega)).mono ?_
      rintro e w8 ⟨rfl, H8, hb8, o8⟩
      go_wp2_with fail
      go_ret
      have e : p = l.take n := by rw [HP.out, List.drop_zero]
      refine ⟨?_, ?_, H8.dec.pre_cell 6 (by rw [← E0.out]; rfl), H8.dec.trAt, H8.dec.utAt, HB9.out.trans (hb8.mono (Nat.le_refl _))⟩
      · rw [← e] <;> rfl
      · rw [o8.block P h1 h2, ← e]
        exact HO.out
end Go.Proofs.YtiiipmcjbibgoaaDoor
