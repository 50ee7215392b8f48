/- The contract of the encoder's writeIHDR. -/
import Derived.Test.YtiiipmcjbibgoaaDoorZChunk
import Derived.Test.YtiiipmcjbibgoaaDoorHeadLaw
import Derived.Outline
namespace Go.Proofs.YtiiipmcjbibgoaaDoor
open Go.ChangeShapes Go.WideShapes Go.ChangeAt Go.RowKit Go.IntWalk

/-- A rectangle from the origin on. -/
def rectV (wd ht : Nat) : Value := .agg #[.int .i64 0, .int .i64 0, .int .i64 (wd : Int), .int .i64 (ht : Int)]
theorem nilAhead_bounds (x : Array Value) (w : World) : (nilAhead 285 118 (.agg x) "Bounds").run Tryd.prog w = .ok (some false) w := by kernel_rfl
theorem method_bounds (x : Array Value) (w : World) : (method 285 118 (.agg x) "Bounds").run Tryd.prog w = .ok (106, .agg x) w := by kernel_rfl
theorem row_lt' {w : World} {b : Nat} {o : Obj} (h : w.heap[b]? = some o) : b < w.heap.size := by
  rcases Nat.lt_or_ge b w.heap.size with h' | h'
  · exact h'
  · simp [Array.getElem?_eq_none h'] at h
theorem bounds_any (a b c d : Int) (w : World) : Calls Tryd.prog 106 #[.agg #[.int .i64 a, .int .i64 b, .int .i64 c, .int .i64 d]] w fun e w' => e = .returned (.agg #[.int .i64 a, .int .i64 b, .int .i64 c, .int .i64 d]) ∧ Below w.heap.size w w' := by
  go_enter Tryd.func106, Tryd.ntmps106
  go_wp2_with fail
  exact bodyPost_ret (v := .agg #[.int .i64 a, .int .i64 b, .int .i64 c, .int .i64 d]) (by simp [results, Tryd.results106, go_sem]) rfl ⟨rfl, ((Below.refl _ _).alloc (Nat.le_refl _) _).alloc (by rw [size_alloc]; omega) _⟩
theorem dx_any (wd ht : Nat) (hw : wd ≤ 4294967296) (w : World) : Calls Tryd.prog 54 #[.agg #[.int .i64 0, .int .i64 0, .int .i64 (wd : Int), .int .i64 (ht : Int)]] w fun e w' => e = .returned (.int .i64 (wd : Int)) ∧ Below w.heap.size w w' := by
  have y : IntKind.i64.wrap (wd : Int) = (wd : Int) := i64_in _ ⟨by omega, by omega⟩
  go_enter Tryd.func54, Tryd.ntmps54
  go_wp2_with fail
  go_ret
  exact ⟨rfl, (Below.refl _ _).alloc (Nat.le_refl _) _⟩
theorem dy_any (wd ht : Nat) (hw : ht ≤ 4294967296) (w : World) : Calls Tryd.prog 55 #[.agg #[.int .i64 0, .int .i64 0, .int .i64 (wd : Int), .int .i64 (ht : Int)]] w fun e w' => e = .returned (.int .i64 (ht : Int)) ∧ Below w.heap.size w w' := by
  have y : IntKind.i64.wrap (ht : Int) = (ht : Int) := i64_in _ ⟨by omega, by omega⟩
  go_enter Tryd.func55, Tryd.ntmps55
  go_wp2_with fail
  go_ret
  exact ⟨rfl, (Below.refl _ _).alloc (Nat.le_refl _) _⟩

/-- The encoder's own bytes are turned, nothing of the data in sight. -/
theorem Wst.turnT {B b bb : Nat} {s : List UInt8} {d d' : EncV} {w w' : World} (h : Wst B b bb none [] d s w) (k : Only b w w') (he : Enc w' b d') : Wst B b bb none [] d' s w' :=
  ⟨he, h.buf.only k h.ne h.enc.row (by decide), h.tab.belowB (k.below h.hb) h.ht, .inl ⟨(fun _ h => by cases h), RB.nil _ _⟩, h.hb, h.hbb, h.ne, h.ht⟩
theorem Wst.ofTmp {B b bb : Nat} {s : List UInt8} {d : EncV} {w : World} (h : Wst B b bb none [] d s w) (o : Nat) (l : List UInt8) (hl : l = (d.tmp.drop o).take l.length) : Wst B b bb (some ⟨b, 17 + o, none⟩) l d s w :=
  ⟨h.enc, h.buf, h.tab, .inr ⟨o, rfl, hl⟩, h.hb, h.hbb, h.ne, h.ht⟩
/-- Four of the encoder's own bytes, as a stretch. -/
theorem Enc.segQ {w : World} {b : Nat} {d : EncV} (h : Enc w b d) (p q r : List UInt8) (e : d.tmp = p ++ (q ++ r)) : SegT 111 w b (d.hd ++ (cellsB d.la ++ (cellsB d.nm ++ (cellsB d.ft ++ cellsB p)))) (cellsB r ++ d.rest) q := by
  unfold SegT
  rw [h.row]
  simp [EncV.cells, e, cellsB]
theorem Enc.ofQ {w w' : World} {b : Nat} {d : EncV} (h : Enc w b d) (p q r q' : List UInt8) (e : d.tmp = p ++ (q ++ r)) (hq : q'.length = q.length) (k : SegT 111 w' b (d.hd ++ (cellsB d.la ++ (cellsB d.nm ++ (cellsB d.ft ++ cellsB p)))) (cellsB r ++ d.rest) q') : Enc w' b { d with tmp := p ++ (q' ++ r) } := by
  refine ⟨?_, h.ll, h.nl, h.fl, ?_⟩
  · unfold SegT at k
    rw [k]
    simp [EncV.cells, EncV.hd, cellsB]
  · have := h.tl
    rw [e] at this
    simp only [List.length_append] at this ⊢
    omega
theorem Enc.preQ {w : World} {b : Nat} {d : EncV} (h : Enc w b d) (p : List UInt8) : (d.hd ++ (cellsB d.la ++ (cellsB d.nm ++ (cellsB d.ft ++ cellsB p)))).length = 17 + p.length := by
  simp only [List.length_append, cellsB_length, h.ll, h.nl, h.fl, d.hdl]
  omega

/-- The last five of a first chunk's bytes are put in place. -/
theorem Wst.five {B b bb : Nat} {s : List UInt8} {d : EncV} {w : World} (h : Wst B b bb none [] d s w) (p q r : List UInt8) (e : d.tmp = p ++ (q ++ r)) (hp : p.length = 8) (hq : q.length = 5) (v8 v9 : UInt8) (z8 z9 : Int) (h8 : z8 = (v8.toNat : Int)) (h9 : z9 = (v9.toNat : Int)) :
    Wst B b bb none [] { d with tmp := p ++ ([v8, v9, 0, 0, 0] ++ r) } s (((((w.setCell ⟨b, 25, none⟩ (.int .u8 z8)).setCell ⟨b, 26, none⟩ (.int .u8 z9)).setCell ⟨b, 27, none⟩ (.int .u8 0)).setCell ⟨b, 28, none⟩ (.int .u8 0)).setCell ⟨b, 29, none⟩ (.int .u8 0)) ∧
      Only b w (((((w.setCell ⟨b, 25, none⟩ (.int .u8 z8)).setCell ⟨b, 26, none⟩ (.int .u8 z9)).setCell ⟨b, 27, none⟩ (.int .u8 0)).setCell ⟨b, 28, none⟩ (.int .u8 0)).setCell ⟨b, 29, none⟩ (.int .u8 0)) := by
  subst h8 h9
  have sg := h.enc.segQ p q r e
  have ho := h.enc.preQ p
  rw [hp] at ho
  have s0 := sg.store ho (j := 0) (by omega) v8
  have s1 := s0.store ho (j := 1) (by simp; omega) v9
  have s2 := s1.store ho (j := 2) (by simp; omega) 0
  have s3 := s2.store ho (j := 3) (by simp; omega) 0
  have s4 := s3.store ho (j := 4) (by simp; omega) 0
  have el : ((((q.set 0 v8).set 1 v9).set 2 0).set 3 0).set 4 0 = [v8, v9, 0, 0, 0] := by
    match q, hq with
    | [_, _, _, _, _], _ => rfl
  rw [el] at s4
  have on : Only b w (((((w.setCell ⟨b, 25, none⟩ (.int .u8 (v8.toNat : Int))).setCell ⟨b, 26, none⟩ (.int .u8 (v9.toNat : Int))).setCell ⟨b, 27, none⟩ (.int .u8 0)).setCell ⟨b, 28, none⟩ (.int .u8 0)).setCell ⟨b, 29, none⟩ (.int .u8 0)) := (((((Only.refl _ _).setCell _ _).setCell _ _).setCell _ _).setCell _ _).setCell _ _
  exact ⟨h.turnT on (h.enc.ofQ p q r [v8, v9, 0, 0, 0] e (by rw [hq]; rfl) s4), on⟩

/-- The bits and the colour type of a first chunk by the package's kind. -/
def kDp (k : Nat) : Nat := if k = 4 then 8 else if k = 6 then 8 else if k = 10 then 8 else if k = 9 then 4 else if k = 8 then 2 else if k = 7 then 1 else if k = 11 then 8 else 16
def kCt (k : Nat) : Nat := if k = 4 then 0 else if k = 6 then 2 else if k = 10 then 3 else if k = 9 then 3 else if k = 8 then 3 else if k = 7 then 3 else if k = 11 then 6 else if k = 12 then 0 else if k = 14 then 2 else 6
def wKind (k : Nat) : Prop := k = 4 ∨ k = 6 ∨ k = 10 ∨ k = 9 ∨ k = 8 ∨ k = 7 ∨ k = 11 ∨ k = 12 ∨ k = 14 ∨ k = 15
def IhEnd (B b bb k wd ht : Nat) (s : List UInt8) (d : EncV) (w : World) (e : Ending) (w' : World) : Prop :=
  e = .returned (.tuple #[]) ∧ ∃ d' : EncV, d'.hd = d.hd ∧ Enc w' b d' ∧ Buf B bb (s ++ chunk ihdrName (headBytes wd ht (UInt8.ofNat (kDp k)) (UInt8.ofNat (kCt k)) 0 0 0)) w' ∧ Tab w' ∧ Below B w w'

set_option maxHeartbeats 6400000 in
set_option maxRecDepth 100000 in
theorem writeIHDR_any (B b bb k wd ht : Nat) (s : List UInt8) (d : EncV) (w : World) (H : Wst B b bb none [] d s w) (hs : s.length ≤ 1000000) (hk : wKind k) (hw : wd < 2147483648) (hh : ht < 2147483648)
    (ew : d.bp = .pointer (some ⟨bb, 0, none⟩)) (ee : d.err = .nilIface) (em : d.m = .iface 118 (rectV wd ht)) (ec : d.cb = .int .i64 (k : Int)) :
    Calls Tryd.prog 45 #[.pointer (some ⟨b, 0, none⟩)] w (IhEnd B b bb k wd ht s d w) := by
  have hna := nilAhead_bounds
  have hme := method_bounds
  have y1 : IntKind.u32.wrap (wd : Int) = (wd : Int) := by rw [IntKind.wrap_u32]; omega
  have y2 : IntKind.u32.wrap (ht : Int) = (ht : Int) := by rw [IntKind.wrap_u32]; omega
  have k2 : w.cell? ⟨b, 2, none⟩ = some (.iface 118 (rectV wd ht)) := H.enc.hd_cell 2 (by rw [← em]; rfl)
  unfold rectV at k2
  have HBB := Lib.hid H.hb
  have HEE := Lib.hid ee
  have HEW := Lib.hid ew
  have HEC := Lib.hid ec
  clear ee ew em ec
  go_enter Tryd.func45, Tryd.ntmps45
  go_wp2_with (go_at_call 106; refine (bounds_any 0 0 (wd : Int) (ht : Int) w).mono ?_; rintro e w1 ⟨rfl, hb1⟩)
  obtain ⟨R, hR⟩ : ∃ R, R = w1.heap.size := ⟨_, rfl⟩
  obtain ⟨w2, hw2⟩ : ∃ q, q = w1.alloc (.cells #[.int .i64 0, .int .i64 0, .int .i64 (wd : Int), .int .i64 (ht : Int)] 118) := ⟨_, rfl⟩
  have hb2 : Below w.heap.size w w2 := by rw [hw2]; exact hb1.alloc hb1.size _
  have hrow2 : w2.drew.heap[R]? = some (.cells #[.int .i64 0, .int .i64 0, .int .i64 (wd : Int), .int .i64 (ht : Int)] 118 (0, 0)) := by rw [hw2, hR]; exact heap_alloc_new w1 _
  have hBw : B ≤ w.heap.size := by have := H.hb; have := H.lt; omega
  have H2 := (H.grow hb2).drew
  have hRb : R ≠ b := by
    have := H.lt
    have := hb1.size
    omega
  have HB2 : Hid (Below B w w2.drew) := Lib.hid (hb2.mono hBw).drew
  have HBW : Hid (B ≤ w.heap.size ∧ R ≠ b) := Lib.hid ⟨hBw, hRb⟩
  rw [← hw2, ← hR]
  clear hw2 hR hb1 hb2 H k2 hBw hRb
  obtain ⟨q1, q2, q3, r, hq, l1, l2, l3⟩ : ∃ q1 q2 q3 r : List UInt8, d.tmp = q1 ++ (q2 ++ (q3 ++ r)) ∧ q1.length = 4 ∧ q2.length = 4 ∧ q3.length = 5 := by
    have := H2.enc.tl
    refine ⟨d.tmp.take 4, (d.tmp.drop 4).take 4, ((d.tmp.drop 4).drop 4).take 5, ((d.tmp.drop 4).drop 4).drop 5, ?_, by simp; omega, by simp; omega, by simp; omega⟩
    rw [List.take_append_drop, List.take_append_drop, List.take_append_drop]
  have HQ := Lib.hid hq
  have HL1 := Lib.hid l1
  have HL2 := Lib.hid l2
  have HL3 := Lib.hid l3
  clear hq l1 l2 l3
  have g0 : w2.cell? ⟨R, 0, none⟩ = some (.int .i64 0) := by rw [cell_of_row w2 R 0 _ _ _ hrow2]; rfl
  have g1 : w2.cell? ⟨R, 1, none⟩ = some (.int .i64 0) := by rw [cell_of_row w2 R 1 _ _ _ hrow2]; rfl
  have g2 : w2.cell? ⟨R, 2, none⟩ = some (.int .i64 (wd : Int)) := by rw [cell_of_row w2 R 2 _ _ _ hrow2]; rfl
  have g3 : w2.cell? ⟨R, 3, none⟩ = some (.int .i64 (ht : Int)) := by rw [cell_of_row w2 R 3 _ _ _ hrow2]; rfl
  go_region_with (first
    | (go_at_call 54; refine (dx_any wd ht (by omega) w2.drew).mono ?_; rintro e w3 ⟨rfl, hb3⟩; have H3 := H2.grow hb3)
    | (go_at_call 50; refine (bePut_any _ b 17 4 1024 wd _ _ q1 w3 (H3.enc.segQ [] q1 (q2 ++ (q3 ++ r)) HQ.out) (Lib.hid (H3.enc.preQ [])) HL1 (by omega) (by omega)).mono ?_; rintro e w4 ⟨rfl, hseg, hon⟩))
  have H4 := H3.turnT hon (H3.enc.ofQ [] q1 (q2 ++ (q3 ++ r)) (four wd) HQ.out (by rw [four_len, HL1.out]) hseg)
  have hrow4 := (hon.block R HBW.out.2).trans ((hb3.block R (row_lt' hrow2)).trans hrow2)
  have HB4 : Hid (Below B w w4) := Lib.hid ((HB2.out.trans (hb3.mono (Nat.le_trans HBW.out.1 HB2.out.size))).trans (hon.below HBB.out))
  obtain ⟨d4, hd4⟩ : ∃ d4 : EncV, d4 = { d with tmp := four wd ++ (q2 ++ (q3 ++ r)) } := ⟨_, rfl⟩
  change Wst B b bb none [] { d with tmp := four wd ++ (q2 ++ (q3 ++ r)) } s w4 at H4
  rw [← hd4] at H4
  have HD4 : Hid (d4.tmp = four wd ++ (q2 ++ (q3 ++ r)) ∧ d4.hd = d.hd) := Lib.hid (by subst hd4; exact ⟨rfl, rfl⟩)
  clear hd4 hseg hon hb3 H2 H3 hrow2 g0 g1 g2 g3 HB2 HQ HL1
  go_wp2_with fail
  have H5 := H4.drew
  have hrow5 : w4.drew.heap[R]? = some (.cells #[.int .i64 0, .int .i64 0, .int .i64 (wd : Int), .int .i64 (ht : Int)] 118 (0, 0)) := hrow4
  have HB5 : Hid (Below B w w4.drew) := Lib.hid HB4.out.drew
  have g0 : w4.cell? ⟨R, 0, none⟩ = some (.int .i64 0) := by rw [cell_of_row w4 R 0 _ _ _ hrow4]; rfl
  have g1 : w4.cell? ⟨R, 1, none⟩ = some (.int .i64 0) := by rw [cell_of_row w4 R 1 _ _ _ hrow4]; rfl
  have g2 : w4.cell? ⟨R, 2, none⟩ = some (.int .i64 (wd : Int)) := by rw [cell_of_row w4 R 2 _ _ _ hrow4]; rfl
  have g3 : w4.cell? ⟨R, 3, none⟩ = some (.int .i64 (ht : Int)) := by rw [cell_of_row w4 R 3 _ _ _ hrow4]; rfl
  clear hrow4 H4 HB4
  go_region_with (first
    | (go_at_call 55; refine (dy_any wd ht (by omega) w4.drew).mono ?_; rintro e w6 ⟨rfl, hb6⟩; have H6 := H5.grow hb6)
    | (go_at_call 50; refine (bePut_any _ b 21 4 1020 ht _ _ q2 w6 (H6.enc.segQ (four wd) q2 (q3 ++ r) HD4.out.1) (Lib.hid (H6.enc.preQ (four wd))) HL2 (by omega) (by omega)).mono ?_; rintro e w7 ⟨rfl, hseg, hon⟩))
  have H7 := H6.turnT hon (H6.enc.ofQ (four wd) q2 (q3 ++ r) (four ht) HD4.out.1 (by rw [four_len, HL2.out]) hseg)
  have HB7 : Hid (Below B w w7) := Lib.hid ((HB5.out.trans (hb6.mono (Nat.le_trans HBW.out.1 HB5.out.size))).trans (hon.below HBB.out))
  obtain ⟨d7, hd7⟩ : ∃ d7 : EncV, d7 = { d4 with tmp := four wd ++ (four ht ++ (q3 ++ r)) } := ⟨_, rfl⟩
  change Wst B b bb none [] { d4 with tmp := four wd ++ (four ht ++ (q3 ++ r)) } s w7 at H7
  rw [← hd7] at H7
  have HD7 : Hid (d7.tmp = (four wd ++ four ht) ++ (q3 ++ r) ∧ d7.hd = d.hd) := Lib.hid (by
    subst hd7
    exact ⟨by rw [List.append_assoc], HD4.out.2⟩)
  clear hd7 hseg hon hb6 H5 H6 hrow5 g0 g1 g2 g3 HB5 HL2 HD4
  have k3 : w7.cell? ⟨b, 3, none⟩ = some (.int .i64 (k : Int)) := H7.enc.hd_cell 3 (by rw [HD7.out.2, ← HEC.out]; rfl)
  have sg := H7.enc.segQ (four wd ++ four ht) q3 r HD7.out.1
  have hp8 := H7.enc.preQ (four wd ++ four ht)
  rw [show (four wd ++ four ht).length = 8 from rfl] at hp8
  have c8 := sg.cellAt hp8 (j := 0) (by have := HL3.out; omega)
  have c9 := sg.cellAt hp8 (j := 1) (by have := HL3.out; omega)
  have c10 := sg.cellAt hp8 (j := 2) (by have := HL3.out; omega)
  have c11 := sg.cellAt hp8 (j := 3) (by have := HL3.out; omega)
  have c12 := sg.cellAt hp8 (j := 4) (by have := HL3.out; omega)
  have f8 := sg.frozen 25
  have f9 := sg.frozen 26
  have f10 := sg.frozen 27
  have f11 := sg.frozen 28
  have f12 := sg.frozen 29
  have HSG := Lib.hid sg
  have HP8 := Lib.hid hp8
  have H8 := Lib.hid H7
  clear sg hp8 H7 hna hme y1 y2
  have HBP : Hid (d7.bp = d.bp) := Lib.hid (by
    have := congrArg (fun x : List Value => x[1]?) HD7.out.2
    simpa [EncV.hd] using this)
  have HER : Hid (d7.err = d.err) := Lib.hid (by
    have := congrArg (fun x : List Value => x[4]?) HD7.out.2
    simpa [EncV.hd] using this)
  rcases hk with rfl | rfl | rfl | rfl | rfl | rfl | rfl | rfl | rfl | rfl
  all_goals
    go_wp2_with fail
  · obtain ⟨H9, on9⟩ := H8.out.five (four wd ++ four ht) q3 r HD7.out.1 rfl HL3.out 8 0 8 0 rfl rfl
    have HL : (headBytes wd ht 8 0 0 0 0).length = 13 := rfl
    have H10 := H9.ofTmp 0 (headBytes wd ht 8 0 0 0 0) rfl
    have HB9 : Hid (Below B w _) := Lib.hid (HB7.out.trans (on9.below HBB.out))
    refine (writeChunk_any B b bb 13 1024 _ (headBytes wd ht 8 0 0 0 0) s _ 73 72 68 82 _ H10 (Lib.hid HL) (by intro h; cases h) (by omega) (by omega) ?_ ?_).mono ?_
    · exact HBP.out.trans HEW.out
    · exact HER.out.trans HEE.out
    rintro e w9 ⟨rfl, d9, -, hhd, henc, hbuf, htab, hbel⟩
    have HX : Hid (∃ d' : EncV, d'.hd = d.hd ∧ Enc w9 b d' ∧ Buf B bb (s ++ chunk ihdrName (headBytes wd ht (UInt8.ofNat (kDp 4)) (UInt8.ofNat (kCt 4)) 0 0 0)) w9 ∧ Tab w9 ∧ Below B w w9) :=
      Lib.hid ⟨d9, hhd.trans HD7.out.2, henc, hbuf, htab, HB9.out.trans hbel⟩
    clear hhd henc hbuf htab hbel H9 H10 on9 HB9
    go_wp2_with fail
    go_end0
    exact ⟨rfl, HX.out⟩
  · obtain ⟨H9, on9⟩ := H8.out.five (four wd ++ four ht) q3 r HD7.out.1 rfl HL3.out 8 2 8 2 rfl rfl
    have HL : (headBytes wd ht 8 2 0 0 0).length = 13 := rfl
    have H10 := H9.ofTmp 0 (headBytes wd ht 8 2 0 0 0) rfl
    have HB9 : Hid (Below B w _) := Lib.hid (HB7.out.trans (on9.below HBB.out))
    refine (writeChunk_any B b bb 13 1024 _ (headBytes wd ht 8 2 0 0 0) s _ 73 72 68 82 _ H10 (Lib.hid HL) (by intro h; cases h) (by omega) (by omega) ?_ ?_).mono ?_
    · exact HBP.out.trans HEW.out
    · exact HER.out.trans HEE.out
    rintro e w9 ⟨rfl, d9, -, hhd, henc, hbuf, htab, hbel⟩
    have HX : Hid (∃ d' : EncV, d'.hd = d.hd ∧ Enc w9 b d' ∧ Buf B bb (s ++ chunk ihdrName (headBytes wd ht (UInt8.ofNat (kDp 6)) (UInt8.ofNat (kCt 6)) 0 0 0)) w9 ∧ Tab w9 ∧ Below B w w9) :=
      Lib.hid ⟨d9, hhd.trans HD7.out.2, henc, hbuf, htab, HB9.out.trans hbel⟩
    clear hhd henc hbuf htab hbel H9 H10 on9 HB9
    go_wp2_with fail
    go_end0
    exact ⟨rfl, HX.out⟩
  · obtain ⟨H9, on9⟩ := H8.out.five (four wd ++ four ht) q3 r HD7.out.1 rfl HL3.out 8 3 8 3 rfl rfl
    have HL : (headBytes wd ht 8 3 0 0 0).length = 13 := rfl
    have H10 := H9.ofTmp 0 (headBytes wd ht 8 3 0 0 0) rfl
    have HB9 : Hid (Below B w _) := Lib.hid (HB7.out.trans (on9.below HBB.out))
    refine (writeChunk_any B b bb 13 1024 _ (headBytes wd ht 8 3 0 0 0) s _ 73 72 68 82 _ H10 (Lib.hid HL) (by intro h; cases h) (by omega) (by omega) ?_ ?_).mono ?_
    · exact HBP.out.trans HEW.out
    · exact HER.out.trans HEE.out
    rintro e w9 ⟨rfl, d9, -, hhd, henc, hbuf, htab, hbel⟩
    have HX : Hid (∃ d' : EncV, d'.hd = d.hd ∧ Enc w9 b d' ∧ Buf B bb (s ++ chunk ihdrName (headBytes wd ht (UInt8.ofNat (kDp 10)) (UInt8.ofNat (kCt 10)) 0 0 0)) w9 ∧ Tab w9 ∧ Below B w w9) :=
      Lib.hid ⟨d9, hhd.trans HD7.out.2, henc, hbuf, htab, HB9.out.trans hbel⟩
    clear hhd henc hbuf htab hbel H9 H10 on9 HB9
    go_wp2_with fail
    go_end0
    exact ⟨rfl, HX.out⟩
  · obtain ⟨H9, on9⟩ := H8.out.five (four wd ++ four ht) q3 r HD7.out.1 rfl HL3.out 4 3 4 3 rfl rfl
    have HL : (headBytes wd ht 4 3 0 0 0).length = 13 := rfl
    have H10 := H9.ofTmp 0 (headBytes wd ht 4 3 0 0 0) rfl
    have HB9 : Hid (Below B w _) := Lib.hid (HB7.out.trans (on9.below HBB.out))
    refine (writeChunk_any B b bb 13 1024 _ (headBytes wd ht 4 3 0 0 0) s _ 73 72 68 82 _ H10 (Lib.hid HL) (by intro h; cases h) (by omega) (by omega) ?_ ?_).mono ?_
    · exact HBP.out.trans HEW.out
    · exact HER.out.trans HEE.out
    rintro e w9 ⟨rfl, d9, -, hhd, henc, hbuf, htab, hbel⟩
    have HX : Hid (∃ d' : EncV, d'.hd = d.hd ∧ Enc w9 b d' ∧ Buf B bb (s ++ chunk ihdrName (headBytes wd ht (UInt8.ofNat (kDp 9)) (UInt8.ofNat (kCt 9)) 0 0 0)) w9 ∧ Tab w9 ∧ Below B w w9) :=
      Lib.hid ⟨d9, hhd.trans HD7.out.2, henc, hbuf, htab, HB9.out.trans hbel⟩
    clear hhd henc hbuf htab hbel H9 H10 on9 HB9
    go_wp2_with fail
    go_end0
    exact ⟨rfl, HX.out⟩
  · obtain ⟨H9, on9⟩ := H8.out.five (four wd ++ four ht) q3 r HD7.out.1 rfl HL3.out 2 3 2 3 rfl rfl
    have HL : (headBytes wd ht 2 3 0 0 0).length = 13 := rfl
    have H10 := H9.ofTmp 0 (headBytes wd ht 2 3 0 0 0) rfl
    have HB9 : Hid (Below B w _) := Lib.hid (HB7.out.trans (on9.below HBB.out))
    refine (writeChunk_any B b bb 13 1024 _ (headBytes wd ht 2 3 0 0 0) s _ 73 72 68 82 _ H10 (Lib.hid HL) (by intro h; cases h) (by omega) (by omega) ?_ ?_).mono ?_
    · exact HBP.out.trans HEW.out
    · exact HER.out.trans HEE.out
    rintro e w9 ⟨rfl, d9, -, hhd, henc, hbuf, htab, hbel⟩
    have HX : Hid (∃ d' : EncV, d'.hd = d.hd ∧ Enc w9 b d' ∧ Buf B bb (s ++ chunk ihdrName (headBytes wd ht (UInt8.ofNat (kDp 8)) (UInt8.ofNat (kCt 8)) 0 0 0)) w9 ∧ Tab w9 ∧ Below B w w9) :=
      Lib.hid ⟨d9, hhd.trans HD7.out.2, henc, hbuf, htab, HB9.out.trans hbel⟩
    clear hhd henc hbuf htab hbel H9 H10 on9 HB9
    go_wp2_with fail
    go_end0
    exact ⟨rfl, HX.out⟩
  · obtain ⟨H9, on9⟩ := H8.out.five (four wd ++ four ht) q3 r HD7.out.1 rfl HL3.out 1 3 1 3 rfl rfl
    have HL : (headBytes wd ht 1 3 0 0 0).length = 13 := rfl
    have H10 := H9.ofTmp 0 (headBytes wd ht 1 3 0 0 0) rfl
    have HB9 : Hid (Below B w _) := Lib.hid (HB7.out.trans (on9.below HBB.out))
    refine (writeChunk_any B b bb 13 1024 _ (headBytes wd ht 1 3 0 0 0) s _ 73 72 68 82 _ H10 (Lib.hid HL) (by intro h; cases h) (by omega) (by omega) ?_ ?_).mono ?_
    · exact HBP.out.trans HEW.out
    · exact HER.out.trans HEE.out
    rintro e w9 ⟨rfl, d9, -, hhd, henc, hbuf, htab, hbel⟩
    have HX : Hid (∃ d' : EncV, d'.hd = d.hd ∧ Enc w9 b d' ∧ Buf B bb (s ++ chunk ihdrName (headBytes wd ht (UInt8.ofNat (kDp 7)) (UInt8.ofNat (kCt 7)) 0 0 0)) w9 ∧ Tab w9 ∧ Below B w w9) :=
      Lib.hid ⟨d9, hhd.trans HD7.out.2, henc, hbuf, htab, HB9.out.trans hbel⟩
    clear hhd henc hbuf htab hbel H9 H10 on9 HB9
    go_wp2_with fail
    go_end0
    exact ⟨rfl, HX.out⟩
  · obtain ⟨H9, on9⟩ := H8.out.five (four wd ++ four ht) q3 r HD7.out.1 rfl HL3.out 8 6 8 6 rfl rfl
    have HL : (headBytes wd ht 8 6 0 0 0).length = 13 := rfl
    have H10 := H9.ofTmp 0 (headBytes wd ht 8 6 0 0 0) rfl
    have HB9 : Hid (Below B w _) := Lib.hid (HB7.out.trans (on9.below HBB.out))
    refine (writeChunk_any B b bb 13 1024 _ (headBytes wd ht 8 6 0 0 0) s _ 73 72 68 82 _ H10 (Lib.hid HL) (by intro h; cases h) (by omega) (by omega) ?_ ?_).mono ?_
    · exact HBP.out.trans HEW.out
    · exact HER.out.trans HEE.out
    rintro e w9 ⟨rfl, d9, -, hhd, henc, hbuf, htab, hbel⟩
    have HX : Hid (∃ d' : EncV, d'.hd = d.hd ∧ Enc w9 b d' ∧ Buf B bb (s ++ chunk ihdrName (headBytes wd ht (UInt8.ofNat (kDp 11)) (UInt8.ofNat (kCt 11)) 0 0 0)) w9 ∧ Tab w9 ∧ Below B w w9) :=
      Lib.hid ⟨d9, hhd.trans HD7.out.2, henc, hbuf, htab, HB9.out.trans hbel⟩
    clear hhd henc hbuf htab hbel H9 H10 on9 HB9
    go_wp2_with fail
    go_end0
    exact ⟨rfl, HX.out⟩
  · obtain ⟨H9, on9⟩ := H8.out.five (four wd ++ four ht) q3 r HD7.out.1 rfl HL3.out 16 0 16 0 rfl rfl
    have HL : (headBytes wd ht 16 0 0 0 0).length = 13 := rfl
    have H10 := H9.ofTmp 0 (headBytes wd ht 16 0 0 0 0) rfl
    have HB9 : Hid (Below B w _) := Lib.hid (HB7.out.trans (on9.below HBB.out))
    refine (writeChunk_any B b bb 13 1024 _ (headBytes wd ht 16 0 0 0 0) s _ 73 72 68 82 _ H10 (Lib.hid HL) (by intro h; cases h) (by omega) (by omega) ?_ ?_).mono ?_
    · exact HBP.out.trans HEW.out
    · exact HER.out.trans HEE.out
    rintro e w9 ⟨rfl, d9, -, hhd, henc, hbuf, htab, hbel⟩
    have HX : Hid (∃ d' : EncV, d'.hd = d.hd ∧ Enc w9 b d' ∧ Buf B bb (s ++ chunk ihdrName (headBytes wd ht (UInt8.ofNat (kDp 12)) (UInt8.ofNat (kCt 12)) 0 0 0)) w9 ∧ Tab w9 ∧ Below B w w9) :=
      Lib.hid ⟨d9, hhd.trans HD7.out.2, henc, hbuf, htab, HB9.out.trans hbel⟩
    clear hhd henc hbuf htab hbel H9 H10 on9 HB9
    go_wp2_with fail
    go_end0
    exact ⟨rfl, HX.out⟩
  · obtain ⟨H9, on9⟩ := H8.out.five (four wd ++ four ht) q3 r HD7.out.1 rfl HL3.out 16 2 16 2 rfl rfl
    have HL : (headBytes wd ht 16 2 0 0 0).length = 13 := rfl
    have H10 := H9.ofTmp 0 (headBytes wd ht 16 2 0 0 0) rfl
    have HB9 : Hid (Below B w _) := Lib.hid (HB7.out.trans (on9.below HBB.out))
    refine (writeChunk_any B b bb 13 1024 _ (headBytes wd ht 16 2 0 0 0) s _ 73 72 68 82 _ H10 (Lib.hid HL) (by intro h; cases h) (by omega) (by omega) ?_ ?_).mono ?_
    · exact HBP.out.trans HEW.out
    · exact HER.out.trans HEE.out
    rintro e w9 ⟨rfl, d9, -, hhd, henc, hbuf, htab, hbel⟩
    have HX : Hid (∃ d' : EncV, d'.hd = d.hd ∧ Enc w9 b d' ∧ Buf B bb (s ++ chunk ihdrName (headBytes wd ht (UInt8.ofNat (kDp 14)) (UInt8.ofNat (kCt 14)) 0 0 0)) w9 ∧ Tab w9 ∧ Below B w w9) :=
      Lib.hid ⟨d9, hhd.trans HD7.out.2, henc, hbuf, htab, HB9.out.trans hbel⟩
    clear hhd henc hbuf htab hbel H9 H10 on9 HB9
    go_wp2_with fail
    go_end0
    exact ⟨rfl, HX.out⟩
  · obtain ⟨H9, on9⟩ := H8.out.five (four wd ++ four ht) q3 r HD7.out.1 rfl HL3.out 16 6 16 6 rfl rfl
    have HL : (headBytes wd ht 16 6 0 0 0).length = 13 := rfl
    have H10 := H9.ofTmp 0 (headBytes wd ht 16 6 0 0 0) rfl
    have HB9 : Hid (Below B w _) := Lib.hid (HB7.out.trans (on9.below HBB.out))
    refine (writeChunk_any B b bb 13 1024 _ (headBytes wd ht 16 6 0 0 0) s _ 73 72 68 82 _ H10 (Lib.hid HL) (by intro h; cases h) (by omega) (by omega) ?_ ?_).mono ?_
    · exact HBP.out.trans HEW.out
    · exact HER.out.trans HEE.out
    rintro e w9 ⟨rfl, d9, -, hhd, henc, hbuf, htab, hbel⟩
    have HX : Hid (∃ d' : EncV, d'.hd = d.hd ∧ Enc w9 b d' ∧ Buf B bb (s ++ chunk ihdrName (headBytes wd ht (UInt8.ofNat (kDp 15)) (UInt8.ofNat (kCt 15)) 0 0 0)) w9 ∧ Tab w9 ∧ Below B w w9) :=
      Lib.hid ⟨d9, hhd.trans HD7.out.2, henc, hbuf, htab, HB9.out.trans hbel⟩
    clear hhd henc hbuf htab hbel H9 H10 on9 HB9
    go_wp2_with fail
    go_end0
    exact ⟨rfl, HX.out⟩
end Go.Proofs.YtiiipmcjbibgoaaDoor
