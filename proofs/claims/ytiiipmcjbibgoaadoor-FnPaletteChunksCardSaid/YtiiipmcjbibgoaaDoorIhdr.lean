/- The contract of the decoder's parseIHDR over a reading of seventeen bytes. -/
import Derived.Test.YtiiipmcjbibgoaaDoorStart
import Derived.Deep.DeepCutAuto
import Derived.Deep.CutBlock
import Derived.Outline
namespace Go.Proofs.YtiiipmcjbibgoaaDoor
open Go.ChangeShapes Go.WideShapes Go.ChangeAt Go.RowKit Go.IntWalk

theorem Rdg.setLace {base b R C sb so m mc : Nat} {l : List UInt8} {w : World} {d : DecV} {i c : Nat} (L : Pl base b R C sb) (h : Rdg b R C sb so m mc l w d i c) (v : Value) :
    Rdg b R C sb so m mc l (w.setCell ⟨b, 778, none⟩ v) { d with lace := v } i c := by
  have O : Only b w (w.setCell ⟨b, 778, none⟩ v) := (Only.refl _ _).setCell _ _
  have h0 := L.b0
  have hs := L.s0
  have ht := L.t0
  refine ⟨⟨?_, h.dec.tl, h.dec.trl⟩, h.er, h.ec, h.rd.only O (Ne.symm L.bR), (O.block C (Ne.symm L.bC)).trans h.cr, h.hc, h.src.only O (by omega), h.tab.only2 (O.two1 b) (by omega) (by omega)⟩
  rw [heap_setCell_same w b 778 _ _ v h.dec.row]
  congr 2
  apply Array.toList_inj.1
  simp only [Array.toList_setIfInBounds, DecV.cells]
  rw [List.set_append_right _ _ (by rw [d.pre_length]; omega), d.pre_length, List.set_append_right _ _ (by rw [cellsB_length, h.dec.tl]; omega), cellsB_length, h.dec.tl]
  rfl
theorem Dec.laceAt {w : World} {b : Nat} {d : DecV} (h : Dec w b d) : w.cell? ⟨b, 778, none⟩ = some d.lace := by
  rw [cell_of_row w b _ _ _ _ h.row]
  simp only [DecV.cells, List.getElem?_toArray]
  rw [List.getElem?_append_right (by rw [d.pre_length]; omega), d.pre_length, List.getElem?_append_right (by rw [cellsB_length, h.tl]; omega), cellsB_length, h.tl]
  rfl
/-- A byte of the buffer, under a name of its own. -/
theorem Dec.byte {w : World} {b : Nat} {d : DecV} (h : Dec w b d) (j o : Nat) (hj : j < 768) (ho : o = 10 + j) : ∃ n : Nat, Hid (n = (d.tmp.getD j 0).toNat) ∧ n < 256 ∧ w.cell? ⟨b, o, none⟩ = some (.int .u8 (n : Int)) := by
  obtain ⟨b', o', e, hc⟩ := h.tmpAt (by intro e; have := h.tl; rw [e] at this; simp at this)
  simp only [Option.some.injEq, Addr.mk.injEq, and_true] at e
  obtain ⟨rfl, rfl⟩ := e
  refine ⟨_, Lib.hid rfl, byte_lt _, ?_⟩
  rw [ho]
  exact hc j (by rw [h.tl]; exact hj)

theorem over_byte (d : DecV) (l : List UInt8) (i n j : Nat) (h : i + n ≤ l.length) (hj : j < n) : (d.over ((l.drop i).take n)).tmp.getD j 0 = l.getD (i + j) 0 := by
  have h1 : ((l.drop i).take n).length = n := by simp; omega
  unfold DecV.over
  simp only [List.getD]
  rw [List.getElem?_append_left (by rw [h1]; exact hj), List.getElem?_take, if_pos hj, List.getElem?_drop]
theorem be4_congr {p q : List UInt8} (h : ∀ j, j < 4 → p.getD j 0 = q.getD j 0) : be4 p = be4 q := by
  unfold be4
  rw [h 0 (by omega), h 1 (by omega), h 2 (by omega), h 3 (by omega)]
theorem i32_of (W : Nat) (h : W < 4294967296) : (W < 2147483648 ∧ IntKind.i32.wrap (W : Int) = (W : Int)) ∨ (2147483648 ≤ W ∧ W < 4294967296 ∧ IntKind.i32.wrap (W : Int) = (W : Int) - 4294967296) := by
  rw [IntKind.wrap_i32]
  omega
theorem cell?_setCell_off (w : World) (b i j : Nat) (v : Value) (h : j ≠ i) : (w.setCell ⟨b, i, none⟩ v).cell? ⟨b, j, none⟩ = w.cell? ⟨b, j, none⟩ :=
  World.cell?_setCell_other w _ _ v (fun e => h (Eq.symm (by injection e)))
/-- The package's number of a colour type with so many bits a sample; nought where there is none. -/
def cbOf (dp ct : Nat) : Nat :=
  if dp = 1 then (if ct = 0 then 1 else if ct = 3 then 7 else 0)
  else if dp = 2 then (if ct = 0 then 2 else if ct = 3 then 8 else 0)
  else if dp = 4 then (if ct = 0 then 3 else if ct = 3 then 9 else 0)
  else if dp = 8 then (if ct = 0 then 4 else if ct = 2 then 6 else if ct = 3 then 10 else if ct = 4 then 5 else if ct = 6 then 11 else 0)
  else if dp = 16 then (if ct = 0 then 12 else if ct = 2 then 14 else if ct = 4 then 13 else if ct = 6 then 15 else 0)
  else 0
/-- What a first chunk tells: seventeen bytes, the sum among them. -/
structure GoodH (l : List UInt8) (c : Nat) : Prop where
  pk : (l.getD 10 0).toNat = 0
  ft : (l.getD 11 0).toNat = 0
  il : (l.getD 12 0).toNat ≤ 1
  w0 : 0 < be4 l
  w1 : be4 l < 2147483648
  h0 : 0 < be4 (l.drop 4)
  h1 : be4 (l.drop 4) < 2147483648
  cb : cbOf (l.getD 8 0).toNat (l.getD 9 0).toNat ≠ 0
  sum : be4 (l.drop 13) = crcFrom c (l.take 13)
/-- An error of one of the package's two kinds. -/
def ErrV (v : Value) : Prop := ∃ s : ByteArray, v = .iface 94 (.string s) ∨ v = .iface 95 (.string s)
/-- What parseIHDR leaves. -/
def IhdrEnd (base b : Nat) (l : List UInt8) (c : Nat) (w : World) (e : Ending) (w' : World) : Prop :=
  ∃ (wd ht k dp il : Nat) (v : Value), e = .returned v ∧ w'.cell? ⟨b, 3, none⟩ = some (.int .i64 (wd : Int)) ∧ w'.cell? ⟨b, 4, none⟩ = some (.int .i64 (ht : Int)) ∧ w'.cell? ⟨b, 7, none⟩ = some (.int .i64 (k : Int)) ∧
    w'.cell? ⟨b, 5, none⟩ = some (.int .i64 (dp : Int)) ∧ w'.cell? ⟨b, 778, none⟩ = some (.int .i64 (il : Int)) ∧ k ≤ 15 ∧ Below base w w' ∧
    ((v = .nilIface ∧ GoodH l c ∧ wd = be4 l ∧ ht = be4 (l.drop 4) ∧ k = cbOf (l.getD 8 0).toNat (l.getD 9 0).toNat ∧ dp = (l.getD 8 0).toNat ∧ il = (l.getD 12 0).toNat) ∨ (ErrV v ∧ ¬ GoodH l c))
theorem ihdr_bad {base b R C sb so m mc : Nat} {l : List UInt8} {c i c' : Nat} {w w' : World} {d : DecV} {v : Value} (h : Rdg b R C sb so m mc l w' d i c') (wd ht k dp il : Nat) (h1 : d.wd = .int .i64 (wd : Int)) (h2 : d.ht = .int .i64 (ht : Int)) (h3 : d.cb = .int .i64 (k : Int)) (h4 : d.dp = .int .i64 (dp : Int)) (h5 : d.lace = .int .i64 (il : Int)) (hk : k ≤ 15)
    (hb : Below base w w') (hv : ErrV v) (hg : ¬ GoodH l c) : IhdrEnd base b l c w (.returned v) w' :=
  ⟨wd, ht, k, dp, il, v, rfl, h.dec.pre_cell 3 (by rw [← h1]; rfl), h.dec.pre_cell 4 (by rw [← h2]; rfl), h.dec.pre_cell 7 (by rw [← h3]; rfl), h.dec.pre_cell 5 (by rw [← h4]; rfl), by rw [← h5]; exact h.dec.laceAt, hk, hb, .inr ⟨hv, hg⟩⟩

theorem cbOf_le (dp ct : Nat) : cbOf dp ct ≤ 15 := by
  unfold cbOf
  repeat' split
  all_goals omega
theorem ihdr_end {base b R C sb so m mc : Nat} {l p : List UInt8} {c i c' : Nat} {w w' : World} {d : DecV} (h : Rdg b R C sb so m mc l w' d i c') (wd ht k dp il : Nat) (h1 : d.wd = .int .i64 (wd : Int)) (h2 : d.ht = .int .i64 (ht : Int)) (h3 : d.cb = .int .i64 (k : Int)) (h4 : d.dp = .int .i64 (dp : Int)) (h5 : d.lace = .int .i64 (il : Int)) (hk : k ≤ 15)
    (hb : Below base w w') (hl : l.length = 17) (m10 : 0 = (l.getD 10 0).toNat) (m11 : 0 = (l.getD 11 0).toNat) (m12 : il = (l.getD 12 0).toNat) (z12 : il ≤ 1) (hW : wd = be4 l) (gW0 : 0 < wd) (gW1 : wd < 2147483648) (hH : ht = be4 (l.drop 4)) (gH0 : 0 < ht) (gH1 : ht < 2147483648)
    {n8 n9 : Nat} (hK : k = cbOf n8 n9) (hz : k ≠ 0) (m8 : n8 = (l.getD 8 0).toNat) (m9 : n9 = (l.getD 9 0).toNat) (hp : p = (l.drop 0).take 13) (hdp : dp = n8 := by rfl) : IhdrEnd base b l c w (.returned (sumV (crcFrom c p) ((l.drop (0 + 13)).take 4))) w' := by
  subst hdp
  have e4 : (l.drop (0 + 13)).take 4 = l.drop 13 := by
    rw [Nat.zero_add]
    exact List.take_of_length_le (by simp; omega)
  have ep : p = l.take 13 := by rw [hp]; rfl
  rw [e4, ep]
  refine ⟨wd, ht, k, dp, il, _, rfl, h.dec.pre_cell 3 (by rw [← h1]; rfl), h.dec.pre_cell 4 (by rw [← h2]; rfl), h.dec.pre_cell 7 (by rw [← h3]; rfl), h.dec.pre_cell 5 (by rw [← h4]; rfl), by rw [← h5]; exact h.dec.laceAt, hk, hb, ?_⟩
  by_cases hs : be4 (l.drop 13) = crcFrom c (l.take 13)
  · refine .inl ⟨by rw [sumV, if_pos hs], ⟨m10.symm, m11.symm, by omega, by omega, by omega, by omega, by omega, ?_, hs⟩, hW, hH, by rw [hK, m8, m9], m8, m12⟩
    rw [← m8, ← m9, ← hK]
    exact hz
  · exact .inr ⟨⟨_, .inl (by rw [sumV, if_neg hs]; rfl)⟩, fun g => hs g.sum⟩

set_option maxHeartbeats 6400000 in
set_option maxRecDepth 100000 in
theorem parseIHDR_any (base b R C sb so mc : Nat) (l : List UInt8) (d : DecV) (c : Nat) (w : World) (L : Pl base b R C sb) (h : Rdg b R C sb so 17 mc l w d 0 c)
    (hl : Hid (l.length = 17)) (hmc : 17 ≤ mc) (e1 : d.wd = .int .i64 0) (e2 : d.ht = .int .i64 0) (e3 : d.cb = .int .i64 0) (e4 : d.dp = .int .i64 0) (e5 : d.lace = .int .i64 0)
    (hbig : Hid (0 < be4 l → 0 < be4 (l.drop 4) → be4 l * be4 (l.drop 4) ≤ 1125899906842624)) :
    Calls Tryd.prog 41 #[.pointer (some ⟨b, 0, none⟩), .int .u32 13] w (IhdrEnd base b l c w) := by
  have k0 : w.cell? ⟨b, 0, none⟩ = some (.iface 79 (.pointer (some ⟨R, 0, none⟩))) := h.dec.pre_cell 0 (by rw [← h.er]; rfl)
  have H1 := h.drew
  have E1 := Lib.hid e1
  have E2 := Lib.hid e2
  have E3 := Lib.hid e3
  have E4 := Lib.hid e4
  have E5 := Lib.hid e5
  clear e1 e2 e3 e4 e5
  go_enter Tryd.func41, Tryd.ntmps41
  go_wp2_with fail
  go_region_with ((go_at_call 46; refine (readTmp_any base b R C sb so 17 mc 13 l d 0 c w.drew L H1 hl hmc (by omega) (by omega) (by omega) (by omega)).mono ?_; rintro e w2 ⟨rfl, H2, hb2⟩))
  clear k0 h H1
  obtain ⟨p, hp⟩ : ∃ p, p = (l.drop 0).take 13 := ⟨_, rfl⟩
  have HP := Lib.hid hp
  have hp13 : p.length = 13 := by have := hl.out; rw [hp]; simp; omega
  rw [← hp] at H2
  clear hp
  have HP13 := Lib.hid hp13
  have k2 : w2.cell? ⟨b, 2, none⟩ = some (.pointer (some ⟨C, 0, none⟩)) := H2.dec.pre_cell 2 (by rw [← H2.ec]; rfl)
  clear hp13
  go_wp2_with fail
  go_still_tail 8, (by kernel_rfl)
  change wpList _ _ _ _ _ w2.drew
  have H3 := H2.drew
  obtain ⟨w3, hw3⟩ : ∃ w3, w3 = w2.drew := ⟨_, rfl⟩
  have hb3 : Below base w w3 := by rw [hw3]; exact ⟨hb2.os, hb2.tape, hb2.output, hb2.size, hb2.block⟩
  rw [← hw3] at H3 ⊢
  clear hw3 k2 H2 hb2
  have hrp : RB w3 (some ⟨b, 10, none⟩) p := by
    have := H3.dec.tmpAt.take 13
    rw [← HP13.out, over_take] at this
    exact this
  go_wp2_with fail
  refine (writeSum_any base b R C sb so 17 mc l (d.over p) (0 + 13) c (some ⟨b, 10, none⟩) 13 768 p w3 L H3 HP13 hrp (by omega)).mono ?_
  rintro e w4 ⟨rfl, H4, hb4⟩
  have hb5 : Below base w w4 := hb3.trans (hb4.mono (Nat.le_refl _))
  clear hrp hb3 hb4 H3
  have hll : 0 + 13 ≤ l.length := by have := hl.out; omega
  obtain ⟨n10, N10, b10, q10⟩ := H4.dec.byte 10 20 (by omega) rfl
  obtain ⟨n11, N11, b11, q11⟩ := H4.dec.byte 11 21 (by omega) rfl
  obtain ⟨n12, N12, b12, q12⟩ := H4.dec.byte 12 22 (by omega) rfl
  have M10 : Hid (n10 = (l.getD 10 0).toNat) := Lib.hid (by rw [N10.out, HP.out, over_byte d l 0 13 10 hll (by omega)])
  have M11 : Hid (n11 = (l.getD 11 0).toNat) := Lib.hid (by rw [N11.out, HP.out, over_byte d l 0 13 11 hll (by omega)])
  have M12 : Hid (n12 = (l.getD 12 0).toNat) := Lib.hid (by rw [N12.out, HP.out, over_byte d l 0 13 12 hll (by omega)])
  clear N10 N11 N12
  have HLL := Lib.hid hll
  clear hll
  have HB := Lib.hid hb5
  clear hb5
  by_cases z10 : n10 = 0
  case neg =>
    have y10 : ((n10 : Int) != 0) = true := by simp; omega
    go_wp2_with fail
    go_ret
    exact ihdr_bad H4 0 0 0 0 0 E1.out E2.out E3.out E4.out E5.out (by omega) HB.out ⟨_, .inr rfl⟩ (fun g => z10 (M10.out.trans g.pk))
  obtain rfl := z10
  by_cases z11 : n11 = 0
  case neg =>
    have y11 : ((n11 : Int) != 0) = true := by simp; omega
    go_wp2_with fail
    go_ret
    exact ihdr_bad H4 0 0 0 0 0 E1.out E2.out E3.out E4.out E5.out (by omega) HB.out ⟨_, .inr rfl⟩ (fun g => z11 (M11.out.trans g.ft))
  obtain rfl := z11
  by_cases z12 : n12 ≤ 1
  case neg =>
    have y12 : ((n12 : Int) != 0) = true := by simp; omega
    have y13 : ((n12 : Int) != 1) = true := by simp; omega
    go_wp2_with fail
    go_ret
    exact ihdr_bad H4 0 0 0 0 0 E1.out E2.out E3.out E4.out E5.out (by omega) HB.out ⟨_, .inl rfl⟩ (fun g => z12 (by rw [M12.out]; exact g.il))
  go_upto_region 11 with fail
  go_cut [65] from 52 to 65 (fun c wx => c = .bool false ∧ wx = w4)
  case first =>
    by_cases z : n12 = 0
    · obtain rfl := z
      go_wp2_with fail
      go_meet
      case rel => exact ⟨rfl, rfl⟩
    · have y12 : ((n12 : Int) != 0) = true := by simp; omega
      have y13 : ((n12 : Int) != 1) = false := by simp; omega
      go_wp2_with fail
      go_meet
      case rel => exact ⟨rfl, rfl⟩
  case rest =>
    obtain ⟨rfl, rfl⟩ := hcut
    have q778 : wc.cell? ⟨b, 778, none⟩ = some (.int .i64 0) := by rw [← E5.out]; exact H4.dec.laceAt
    have f778 := H4.dec.frozen 778
    go_wp2_with fail
    have H5 := H4.setLace L (.int .i64 (n12 : Int))
    obtain ⟨w5, hw5⟩ : ∃ w5, w5 = wc.setCell ⟨b, 778, none⟩ (.int .i64 (n12 : Int)) := ⟨_, rfl⟩
    have HB5 : Hid (Below base w w5) := Lib.hid (by rw [hw5]; exact HB.out.setCell (p := ⟨b, 778, none⟩) L.b0 _)
    rw [← hw5] at H5 ⊢
    clear hw5 q778 f778 q10 q11 q12 H4 HB
    obtain ⟨n8, N8, b8, q8⟩ := H5.dec.byte 8 18 (by omega) rfl
    obtain ⟨n9, N9, b9, q9⟩ := H5.dec.byte 9 19 (by omega) rfl
    have M8 : Hid (n8 = (l.getD 8 0).toNat) := Lib.hid (by rw [N8.out, HP.out]; exact congrArg _ (over_byte d l 0 13 8 HLL.out (by omega)))
    have M9 : Hid (n9 = (l.getD 9 0).toNat) := Lib.hid (by rw [N9.out, HP.out]; exact congrArg _ (over_byte d l 0 13 9 HLL.out (by omega)))
    obtain ⟨W, hW⟩ : ∃ W, W = be4 l := ⟨_, rfl⟩
    obtain ⟨Hh, hH⟩ : ∃ Hh, Hh = be4 (l.drop 4) := ⟨_, rfl⟩
    have hr1 : RB w5 (some ⟨b, 10, none⟩) ((d.over p).tmp.take 4) := H5.dec.tmpAt.take 4
    have hr2 : RB w5 (some ⟨b, 14, none⟩) (((d.over p).tmp.drop 4).take 4) := (H5.dec.tmpAt.drop 4).take 4
    have t1 : be4 ((d.over p).tmp.take 4) = W := by
      rw [hW]
      refine be4_congr fun j hj => ?_
      rw [show ((d.over p).tmp.take 4).getD j 0 = (d.over p).tmp.getD j 0 by simp [List.getD, hj], HP.out, over_byte d l 0 13 j HLL.out (by omega), Nat.zero_add]
    have t2 : be4 (((d.over p).tmp.drop 4).take 4) = Hh := by
      rw [hH]
      refine be4_congr fun j hj => ?_
      rw [show (((d.over p).tmp.drop 4).take 4).getD j 0 = (d.over p).tmp.getD (4 + j) 0 by simp [List.getD, hj], HP.out, over_byte d l 0 13 (4 + j) HLL.out (by omega), Nat.zero_add]
      simp [List.getD]
    have l1 : Hid (((d.over p).tmp.take 4).length = 4) := Lib.hid (by have := H5.dec.tl; simp at this; simp [this])
    have l2 : Hid ((((d.over p).tmp.drop 4).take 4).length = 4) := Lib.hid (by have := H5.dec.tl; simp at this; simp [this])
    have lW : W < 4294967296 := by rw [hW]; exact be4_lt _
    have lH : Hh < 4294967296 := by rw [hH]; exact be4_lt _
    have HW := Lib.hid hW
    have HH := Lib.hid hH
    have T1 := Lib.hid t1
    have T2 := Lib.hid t2
    clear hW hH t1 t2
    refine (beUint32_any b 10 4 768 _ w5 l1 hr1 (by omega)).mono ?_
    rw [T1.out]
    rintro e w6 ⟨rfl, q1, rfl⟩
    have iW := i32_of W lW
    clear lW
    obtain ⟨zW, hzW⟩ : ∃ z, IntKind.i32.wrap (W : Int) = z := ⟨_, rfl⟩
    obtain ⟨zH, hzH⟩ : ∃ z, IntKind.i32.wrap (Hh : Int) = z := ⟨_, rfl⟩
    have iH := i32_of Hh lH
    clear lH
    rw [hzW] at iW
    rw [hzH] at iH
    have IW := Lib.hid iW
    have IH := Lib.hid iH
    clear iW iH
    go_wp2_with fail
    refine (beUint32_any b 14 4 764 _ (w5.drewN q1) l2 hr2 (by omega)).mono ?_
    rw [T2.out]
    rintro e w6 ⟨rfl, q2, rfl⟩
    go_upto_region 16 with fail
    have H6 : Rdg b R C sb so 17 mc l ((w5.drewN q1).drewN q2) { d.over p with lace := .int .i64 (n12 : Int) } (0 + 13) (crcFrom c p) := (H5.drewN q1).drewN q2
    have HB6 : Hid (Below base w ((w5.drewN q1).drewN q2)) := Lib.hid ⟨HB5.out.os, HB5.out.tape, HB5.out.output, HB5.out.size, HB5.out.block⟩
    obtain ⟨w6, hw6⟩ : ∃ w6, w6 = (w5.drewN q1).drewN q2 := ⟨_, rfl⟩
    rw [← hw6] at H6 HB6
    first | rw [← hw6] | (rw [World.drewN_drewN] at hw6; rw [← hw6])
    have p8 : w6.cell? ⟨b, 18, none⟩ = some (.int .u8 (n8 : Int)) := by rw [hw6]; exact q8
    have p9 : w6.cell? ⟨b, 19, none⟩ = some (.int .u8 (n9 : Int)) := by rw [hw6]; exact q9
    clear hw6 q8 q9 H5 HB5 hr1 hr2 hzW hzH
    by_cases gW : 0 < W ∧ W < 2147483648
    case neg =>
      have y : zW ≤ 0 := by have := IW.out; omega
      go_wp2_with fail
      go_ret
      exact ihdr_bad H6 0 0 0 0 n12 E1.out E2.out E3.out E4.out rfl (by omega) HB6.out ⟨_, .inl rfl⟩ (fun g => gW ⟨by rw [HW.out]; exact g.w0, by rw [HW.out]; exact g.w1⟩)
    obtain rfl : zW = (W : Int) := by have := IW.out; omega
    obtain ⟨gW0, gW1⟩ := gW
    by_cases gH : 0 < Hh ∧ Hh < 2147483648
    case neg =>
      have y : zH ≤ 0 := by have := IH.out; omega
      have y2 : (0 : Int) < (W : Int) := by omega
      go_wp2_with fail
      go_ret
      exact ihdr_bad H6 0 0 0 0 n12 E1.out E2.out E3.out E4.out rfl (by omega) HB6.out ⟨_, .inl rfl⟩ (fun g => gH ⟨by rw [HH.out]; exact g.h0, by rw [HH.out]; exact g.h1⟩)
    obtain rfl : zH = (Hh : Int) := by have := IH.out; omega
    obtain ⟨gH0, gH1⟩ := gH
    clear IW IH
    have y1 : (0 : Int) < (W : Int) := by omega
    have y2 : (0 : Int) < (Hh : Int) := by omega
    have dW : decide (W = 0) = false := by simp; omega
    have dH : decide (Hh = 0) = false := by simp; omega
    have hpr : W * Hh ≤ 1125899906842624 := by rw [HW.out, HH.out]; exact hbig.out (by rw [← HW.out]; exact gW0) (by rw [← HH.out]; exact gH0)
    obtain ⟨P, hP⟩ : ∃ P : Nat, P = W * Hh := ⟨_, rfl⟩
    rw [← hP] at hpr
    have eP : (W : Int) * (Hh : Int) = (P : Int) := by rw [hP]; simp
    clear hP
    have k1 : IntKind.i64.wrap ((P : Int) * 8) = (P : Int) * 8 := by rw [IntKind.wrap_i64]; omega
    have y3 : (0 : Int) ≤ (P : Int) := by omega
    have q3 := H6.dec.pre_cell 3 (v := .int .i64 0) (by rw [← E1.out]; rfl)
    have q4 := H6.dec.pre_cell 4 (v := .int .i64 0) (by rw [← E2.out]; rfl)
    have q7 := H6.dec.pre_cell 7 (v := .int .i64 0) (by rw [← E3.out]; rfl)
    have q5 := H6.dec.pre_cell 5 (v := .int .i64 0) (by rw [← E4.out]; rfl)
    have f3 := H6.dec.frozen 3
    have f4 := H6.dec.frozen 4
    have f5 := H6.dec.frozen 5
    have f7 := H6.dec.frozen 7
    go_upto_region 26 with fail
    have H7 : Rdg b R C sb so 17 mc l ((w6.setCell ⟨b, 7, none⟩ (.int .i64 0)).setCell ⟨b, 5, none⟩ (.int .i64 (n8 : Int))) { d.over p with lace := .int .i64 (n12 : Int), cb := .int .i64 0, dp := .int .i64 (n8 : Int) } (0 + 13) (crcFrom c p) :=
      (H6.set L 7 (.int .i64 0) { d.over p with lace := .int .i64 (n12 : Int), cb := .int .i64 0 } (by omega) rfl rfl rfl H6.dec.trl rfl rfl).set L 5 (.int .i64 (n8 : Int)) _ (by omega) rfl rfl rfl H6.dec.trl rfl rfl
    have HB7 : Hid (Below base w ((w6.setCell ⟨b, 7, none⟩ (.int .i64 0)).setCell ⟨b, 5, none⟩ (.int .i64 (n8 : Int)))) := Lib.hid ((HB6.out.setCell (p := ⟨b, 7, none⟩) L.b0 _).setCell (p := ⟨b, 5, none⟩) L.b0 _)
    obtain ⟨w7, hw7⟩ : ∃ w7, w7 = (w6.setCell ⟨b, 7, none⟩ (.int .i64 0)).setCell ⟨b, 5, none⟩ (.int .i64 (n8 : Int)) := ⟨_, rfl⟩
    have r9 : w7.cell? ⟨b, 19, none⟩ = some (.int .u8 (n9 : Int)) := by rw [hw7]; exact (cell?_setCell_off _ _ _ _ _ (by omega)).trans ((cell?_setCell_off _ _ _ _ _ (by omega)).trans p9)
    rw [← hw7] at H7 HB7 ⊢
    clear hw7 H6 HB6 p8 p9 q3 q4 q5 q7 f3 f4 f5 f7 eP k1 y3 hpr
    have q5 := H7.dec.pre_cell 5 (v := .int .i64 (n8 : Int)) rfl
    have q7 := H7.dec.pre_cell 7 (v := .int .i64 0) rfl
    have f7 := H7.dec.frozen 7
    go_upto_block 0 with fail
    go_cut [] from 111 to 236 (fun wx => (cbOf n8 n9 = 0 ∧ wx = w7) ∨ (cbOf n8 n9 ≠ 0 ∧ wx = w7.setCell ⟨b, 7, none⟩ (.int .i64 (cbOf n8 n9 : Int))))
    case first =>
      by_cases z1 : n8 = 1
      · obtain rfl := z1
        by_cases x0 : n9 = 0
        · obtain rfl := x0
          go_wp2_with fail
          go_meet
          case rel => exact .inr ⟨by decide, rfl⟩
        by_cases x3 : n9 = 3
        · obtain rfl := x3
          go_wp2_with fail
          go_meet
          case rel => exact .inr ⟨by decide, rfl⟩
        have v0 : ((n9 : Int) == 0) = false := by simp; omega
        have v3 : ((n9 : Int) == 3) = false := by simp; omega
        go_wp2_with fail
        go_meet
        case rel => exact .inl ⟨by simp [cbOf, x0, x3], rfl⟩
      by_cases z2 : n8 = 2
      · obtain rfl := z2
        by_cases x0 : n9 = 0
        · obtain rfl := x0
          go_wp2_with fail
          go_meet
          case rel => exact .inr ⟨by decide, rfl⟩
        by_cases x3 : n9 = 3
        · obtain rfl := x3
          go_wp2_with fail
          go_meet
          case rel => exact .inr ⟨by decide, rfl⟩
        have v0 : ((n9 : Int) == 0) = false := by simp; omega
        have v3 : ((n9 : Int) == 3) = false := by simp; omega
        go_wp2_with fail
        go_meet
        case rel => exact .inl ⟨by simp [cbOf, x0, x3], rfl⟩
      by_cases z4 : n8 = 4
      · obtain rfl := z4
        by_cases x0 : n9 = 0
        · obtain rfl := x0
          go_wp2_with fail
          go_meet
          case rel => exact .inr ⟨by decide, rfl⟩
        by_cases x3 : n9 = 3
        · obtain rfl := x3
          go_wp2_with fail
          go_meet
          case rel => exact .inr ⟨by decide, rfl⟩
        have v0 : ((n9 : Int) == 0) = false := by simp; omega
        have v3 : ((n9 : Int) == 3) = false := by simp; omega
        go_wp2_with fail
        go_meet
        case rel => exact .inl ⟨by simp [cbOf, x0, x3], rfl⟩
      by_cases z8 : n8 = 8
      · obtain rfl := z8
        by_cases x0 : n9 = 0
        · obtain rfl := x0
          go_wp2_with fail
          go_meet
          case rel => exact .inr ⟨by decide, rfl⟩
        by_cases x2 : n9 = 2
        · obtain rfl := x2
          go_wp2_with fail
          go_meet
          case rel => exact .inr ⟨by decide, rfl⟩
        by_cases x3 : n9 = 3
        · obtain rfl := x3
          go_wp2_with fail
          go_meet
          case rel => exact .inr ⟨by decide, rfl⟩
        by_cases x4 : n9 = 4
        · obtain rfl := x4
          go_wp2_with fail
          go_meet
          case rel => exact .inr ⟨by decide, rfl⟩
        by_cases x6 : n9 = 6
        · obtain rfl := x6
          go_wp2_with fail
          go_meet
          case rel => exact .inr ⟨by decide, rfl⟩
        have v0 : ((n9 : Int) == 0) = false := by simp; omega
        have v2 : ((n9 : Int) == 2) = false := by simp; omega
        have v3 : ((n9 : Int) == 3) = false := by simp; omega
        have v4 : ((n9 : Int) == 4) = false := by simp; omega
        have v6 : ((n9 : Int) == 6) = false := by simp; omega
        go_wp2_with fail
        go_meet
        case rel => exact .inl ⟨by simp [cbOf, x0, x2, x3, x4, x6], rfl⟩
      by_cases z16 : n8 = 16
      · obtain rfl := z16
        by_cases x0 : n9 = 0
        · obtain rfl := x0
          go_wp2_with fail
          go_meet
          case rel => exact .inr ⟨by decide, rfl⟩
        by_cases x2 : n9 = 2
        · obtain rfl := x2
          go_wp2_with fail
          go_meet
          case rel => exact .inr ⟨by decide, rfl⟩
        by_cases x4 : n9 = 4
        · obtain rfl := x4
          go_wp2_with fail
          go_meet
          case rel => exact .inr ⟨by decide, rfl⟩
        by_cases x6 : n9 = 6
        · obtain rfl := x6
          go_wp2_with fail
          go_meet
          case rel => exact .inr ⟨by decide, rfl⟩
        have v0 : ((n9 : Int) == 0) = false := by simp; omega
        have v2 : ((n9 : Int) == 2) = false := by simp; omega
        have v4 : ((n9 : Int) == 4) = false := by simp; omega
        have v6 : ((n9 : Int) == 6) = false := by simp; omega
        go_wp2_with fail
        go_meet
        case rel => exact .inl ⟨by simp [cbOf, x0, x2, x4, x6], rfl⟩
      have v1 : ((n8 : Int) == 1) = false := by simp; omega
      have v2 : ((n8 : Int) == 2) = false := by simp; omega
      have v4 : ((n8 : Int) == 4) = false := by simp; omega
      have v8 : ((n8 : Int) == 8) = false := by simp; omega
      have v16 : ((n8 : Int) == 16) = false := by simp; omega
      go_wp2_with fail
      go_meet
      case rel => exact .inl ⟨by simp [cbOf, z1, z2, z4, z8, z16], rfl⟩
    case rest =>
      rcases hcut with ⟨hz, rfl⟩ | ⟨hz, rfl⟩
      · go_wp2_with fail
        go_ret
        exact ihdr_bad H7 0 0 0 n8 n12 E1.out E2.out rfl rfl rfl (by omega) HB7.out ⟨_, .inr rfl⟩ (fun g => g.cb (by rw [← M8.out, ← M9.out]; exact hz))
      · have H8 : Rdg b R C sb so 17 mc l (w7.setCell ⟨b, 7, none⟩ (.int .i64 (cbOf n8 n9 : Int))) { d.over p with lace := .int .i64 (n12 : Int), cb := .int .i64 (cbOf n8 n9 : Int), dp := .int .i64 (n8 : Int) } (0 + 13) (crcFrom c p) :=
          H7.set L 7 (.int .i64 (cbOf n8 n9 : Int)) _ (by omega) rfl rfl rfl H7.dec.trl rfl rfl
        have HB8 : Hid (Below base w (w7.setCell ⟨b, 7, none⟩ (.int .i64 (cbOf n8 n9 : Int)))) := Lib.hid (HB7.out.setCell (p := ⟨b, 7, none⟩) L.b0 _)
        obtain ⟨k, hk⟩ : ∃ k, k = cbOf n8 n9 := ⟨_, rfl⟩
        rw [← hk] at H8 HB8 hz ⊢
        obtain ⟨w8, hw8⟩ : ∃ w8, w8 = w7.setCell ⟨b, 7, none⟩ (.int .i64 (k : Int)) := ⟨_, rfl⟩
        rw [← hw8] at H8 HB8 ⊢
        have HK := Lib.hid hk
        clear hw8 H7 HB7 q5 q7 f7 r9 hk
        have kz : ((k : Int) == 0) = false := by simp; omega
        have q7 := H8.dec.pre_cell 7 (v := .int .i64 (k : Int)) rfl
        have q3 := H8.dec.pre_cell 3 (v := .int .i64 0) (by rw [← E1.out]; rfl)
        have q4 := H8.dec.pre_cell 4 (v := .int .i64 0) (by rw [← E2.out]; rfl)
        have f3 := H8.dec.frozen 3
        have f4 := H8.dec.frozen 4
        have x1 : IntKind.i64.wrap (W : Int) = (W : Int) := i64_in _ ⟨by omega, by omega⟩
        have x2 : IntKind.i64.wrap (Hh : Int) = (Hh : Int) := i64_in _ ⟨by omega, by omega⟩
        go_wp2_with fail
        have H9 : Rdg b R C sb so 17 mc l ((w8.setCell ⟨b, 3, none⟩ (.int .i64 (W : Int))).setCell ⟨b, 4, none⟩ (.int .i64 (Hh : Int))) { d.over p with lace := .int .i64 (n12 : Int), cb := .int .i64 (k : Int), dp := .int .i64 (n8 : Int), wd := .int .i64 (W : Int), ht := .int .i64 (Hh : Int) } (0 + 13) (crcFrom c p) :=
          (H8.set L 3 (.int .i64 (W : Int)) { d.over p with lace := .int .i64 (n12 : Int), cb := .int .i64 (k : Int), dp := .int .i64 (n8 : Int), wd := .int .i64 (W : Int) } (by omega) rfl rfl rfl H8.dec.trl rfl rfl).set L 4 (.int .i64 (Hh : Int)) _ (by omega) rfl rfl rfl H8.dec.trl rfl rfl
        have HB9 : Hid (Below base w ((w8.setCell ⟨b, 3, none⟩ (.int .i64 (W : Int))).setCell ⟨b, 4, none⟩ (.int .i64 (Hh : Int)))) := Lib.hid ((HB8.out.setCell (p := ⟨b, 3, none⟩) L.b0 _).setCell (p := ⟨b, 4, none⟩) L.b0 _)
        clear q3 q4 q7 f3 f4 H8 HB8 x1 x2 kz
        refine (verify_any base b R C sb so 17 mc l _ (0 + 13) _ _ L H9 hl hmc (by omega) (by omega)).mono ?_
        rintro e w9 ⟨rfl, H10, hb10⟩
        have HB10 : Hid (Below base w w9) := Lib.hid (HB9.out.trans (hb10.mono (Nat.le_refl _)))
        clear hb10 H9 HB9
        go_wp2_with fail
        go_ret
        exact ihdr_end H10 W Hh k n8 n12 rfl rfl rfl rfl rfl (by rw [HK.out]; exact cbOf_le _ _) HB10.out hl.out M10.out M11.out M12.out z12 HW.out gW0 gW1 HH.out gH0 gH1 HK.out hz M8.out M9.out HP.out
end Go.Proofs.YtiiipmcjbibgoaaDoor
