/- From bytes to colors: one row of readImagePass. Printed by gen/ripconv.py. -/
import Derived.Test.YtkiibhpmembcgaaDoorRipCode
import Derived.Test.YtkiibhpmembcgaaDoorSetPix
import Derived.Test.YtkiibhpmembcgaaDoorGFew
import Derived.StillTailTactics
import Derived.Deep.QuietTactic
import Derived.BigQuiet
import Derived.Deep.DeepCutAuto
import Derived.Deep.CutBlock
import Derived.LoopTactic
import Derived.Outline
namespace Go.Proofs.YtkiibhpmembcgaaDoor
open Go.ChangeShapes Go.WideShapes Go.ChangeAt Go.RowKit Go.IntWalk

set_option maxRecDepth 1000000 in
set_option maxHeartbeats 12800000 in
theorem conv_TC8 (V : LV) (bc bp y po g bx L S : Nat) (row p : List UInt8) (pre : Value) (a : Act) (w0 : World) (Q : Exit → Act → World → Prop) (hk : a.tmps.getD 452 undef = .int .i64 6) (hut : w0.cell? ⟨V.b, 779, none⟩ = some (.bool false)) (hi : V.i13 = .pointer (some ⟨g, 0, none⟩))
    (h : CIn V bc bp y po 2 8 [] row g bx L S p pre a w0) (hpo : po = y * S)
    (hQ : ∀ a' w', COut V bc bp y (po + S) 2 8 [] row bx S p w0 a' w' → Q .normal a' w') : convB.wp Tryd.prog Q a w0 := by
  obtain ⟨hlive, hseg, hlen, him, hpix, hplen, hnb, hng, hnd, hdlt, hy, hW, hW1, hH, hS, hL, hn⟩ := h
  obtain ⟨b, r, i12, i13, i14, i15, i16, i17, i18, img, W, H, st, n⟩ := V
  simp only at hlen hy hW hW1 hH hS hL hn hi him hnd hdlt
  simp only at hut
  subst hi
  obtain ⟨gg, rfl⟩ := hlive.lit452 hk
  clear hlive hk
  have hok : OkCD 2 8 := by unfold OkCD; omega
  have hn2 : n = 3 * W := by rw [hn]; simp [rbN, chN]; omega
  have hS2 : S = 4 * W := by rw [hS]; simp [kindN, nK]; omega
  have hyS : y * S + S ≤ L := by rw [hL, ← Nat.succ_mul]; exact Nat.mul_le_mul_right _ hy
  have hyS2 : y * S ≤ 40 * 320 := Nat.mul_le_mul (by omega) (by omega)
  have hL2 : L ≤ 40 * 320 := by rw [hL]; exact Nat.mul_le_mul hH (by omega)
  have HSEG := Lib.hid hseg
  have HIM := Lib.hid him
  have HL := Lib.hid hlen
  have HPL := Lib.hid hplen
  have HOK := Lib.hid hok
  have HS2 := Lib.hid hS2
  have HN2 := Lib.hid hn2
  have HYS := Lib.hid hyS
  have HYS2 := Lib.hid hyS2
  have HL2 := Lib.hid hL2
  clear hseg him hlen hplen hok hS2 hn2 hyS hyS2 hL2 hS hL hn
  conv => arg 2; whnf
  have HPO := Lib.hid hpo
  clear hpo
  obtain ⟨him0, c0, c1, c2, c3, c4, c5⟩ := HIM.out
  go_upto_region 233 with fail
  go_loopw [82, 83, 84] (fun iv jv xv wr' => ∃ t o q0 : Nat, t ≤ W ∧ Hid (o = y * S + 4 * t) ∧ Hid (q0 = 3 * t) ∧ iv = .int .i64 (o : Int) ∧ jv = .int .i64 (q0 : Int) ∧ xv = .int .i64 (t : Int) ∧ Chg (· = bx) w0 wr' ∧ Seg wr' bx [] [] (putAt p (y * S) (rowTo 2 8 [] row t))) (fun _ _ xv _ => W - (intOf xv).toNat)
  case atStart => exact ⟨0, po, 0, Nat.zero_le _, Lib.hid (by rw [HPO.out]; rfl), Lib.hid rfl, rfl, rfl, rfl, Chg.refl _ _, hpix⟩
  case round =>
  obtain ⟨t, o, q0, ht, HO, HQ, rfl, rfl, rfl, hch, hsg⟩ := hrel
  by_cases hlt : t < W
  · have hn2 := HN2.out
    have hS2 := HS2.out
    have hyS := HYS.out
    have hyS2 := HYS2.out
    have hL2 := HL2.out
    have ho := HO.out
    have hq := HQ.out
    have hrow := HSEG.out.chg hch (fun e => hnb e.symm)
    have hll := HL.out
    have hpl : (putAt p (y * S) (rowTo 2 8 [] row t)).length = L := by rw [putAt_len, HPL.out]
    obtain ⟨pp, hpp⟩ : ∃ pp, pp = putAt p (y * S) (rowTo 2 8 [] row t) := ⟨_, rfl⟩
    rw [← hpp] at hpl hsg
    have HPP := Lib.hid hpp
    have HPLL := Lib.hid hpl
    clear hpp hpl
    have i1 : (t : Int) < (W : Int) := by omega
    have ho4 : o = y * S + t * nK (kindN 2 8 (!([] : List Nat).isEmpty)) := by rw [ho]; simp [kindN, nK]; omega
    have HO4 := Lib.hid ho4
    clear ho4
    have oa : (0 : Int) ≤ (o : Int) := by omega
    have ob : (o : Int) < (L : Int) := by omega
    have ow : IntKind.i64.wrap (o : Int) = (o : Int) := i64_in _ ⟨by omega, by omega⟩
    obtain ⟨x0, hx0, hc0⟩ := seg_at (o := 1) hrow rfl q0 (by omega)
    have j0 : (q0 : Int) < (n : Int) := by omega
    have l0 : (0 : Int) ≤ (q0 : Int) := by omega
    have rx0 := u8lt x0
    have w_0 : IntKind.i64.wrap (q0 : Int) = (q0 : Int) := i64_in _ ⟨by omega, by omega⟩
    have HX0 : Hid (x0 = row.getD (3 * t) 0) := Lib.hid (by rw [hx0, hq])
    obtain ⟨q1, hq1⟩ : ∃ q, q = q0 + 1 := ⟨_, rfl⟩
    have mq1 : (q0 : Int) + 1 = (q1 : Int) := by omega
    obtain ⟨x1, hx1, hc1⟩ := seg_at (o := 1) hrow rfl q1 (by omega)
    have j1 : (q1 : Int) < (n : Int) := by omega
    have l1 : (0 : Int) ≤ (q1 : Int) := by omega
    have rx1 := u8lt x1
    have w_1 : IntKind.i64.wrap (q1 : Int) = (q1 : Int) := i64_in _ ⟨by omega, by omega⟩
    have HX1 : Hid (x1 = row.getD (3 * t + 1) 0) := Lib.hid (by rw [hx1, hq1, hq])
    obtain ⟨q2, hq2⟩ : ∃ q, q = q0 + 2 := ⟨_, rfl⟩
    have mq2 : (q0 : Int) + 2 = (q2 : Int) := by omega
    obtain ⟨x2, hx2, hc2⟩ := seg_at (o := 1) hrow rfl q2 (by omega)
    have j2 : (q2 : Int) < (n : Int) := by omega
    have l2 : (0 : Int) ≤ (q2 : Int) := by omega
    have rx2 := u8lt x2
    have w_2 : IntKind.i64.wrap (q2 : Int) = (q2 : Int) := i64_in _ ⟨by omega, by omega⟩
    have HX2 : Hid (x2 = row.getD (3 * t + 2) 0) := Lib.hid (by rw [hx2, hq2, hq])
    obtain ⟨o1, ho1⟩ : ∃ q, q = o + 1 := ⟨_, rfl⟩
    have mo1 : (o : Int) + 1 = (o1 : Int) := by omega
    have oa1 : (0 : Int) ≤ (o1 : Int) := by omega
    have ob1 : (o1 : Int) < (L : Int) := by omega
    have ow1 : IntKind.i64.wrap (o1 : Int) = (o1 : Int) := i64_in _ ⟨by omega, by omega⟩
    have HO1 := Lib.hid ho1
    obtain ⟨o2, ho2⟩ : ∃ q, q = o + 2 := ⟨_, rfl⟩
    have mo2 : (o : Int) + 2 = (o2 : Int) := by omega
    have oa2 : (0 : Int) ≤ (o2 : Int) := by omega
    have ob2 : (o2 : Int) < (L : Int) := by omega
    have ow2 : IntKind.i64.wrap (o2 : Int) = (o2 : Int) := i64_in _ ⟨by omega, by omega⟩
    have HO2 := Lib.hid ho2
    obtain ⟨o3, ho3⟩ : ∃ q, q = o + 3 := ⟨_, rfl⟩
    have mo3 : (o : Int) + 3 = (o3 : Int) := by omega
    have oa3 : (0 : Int) ≤ (o3 : Int) := by omega
    have ob3 : (o3 : Int) < (L : Int) := by omega
    have ow3 : IntKind.i64.wrap (o3 : Int) = (o3 : Int) := i64_in _ ⟨by omega, by omega⟩
    have HO3 := Lib.hid ho3
    obtain ⟨o4, ho4⟩ : ∃ q, q = o + 4 := ⟨_, rfl⟩
    have mo4 : (o : Int) + 4 = (o4 : Int) := by omega
    have ow4 : IntKind.i64.wrap (o4 : Int) = (o4 : Int) := i64_in _ ⟨by omega, by omega⟩
    obtain ⟨q3, hq3⟩ : ∃ q, q = q0 + 3 := ⟨_, rfl⟩
    have mq3 : (q0 : Int) + 3 = (q3 : Int) := by omega
    have w_3 : IntKind.i64.wrap (q3 : Int) = (q3 : Int) := i64_in _ ⟨by omega, by omega⟩
    have HN4 : Hid (o4 = y * S + 4 * (t + 1)) := Lib.hid (by omega)
    have HN3 : Hid (q3 = 3 * (t + 1)) := Lib.hid (by omega)
    have HROW := Lib.hid hrow
    have HCH := Lib.hid hch
    have HLT := Lib.hid (show o + 4 ≤ L by omega)
    clear ho4 hq3 hyS hyS2 hS2 hll hn2 ho hq hq1 hq2 hx0 hx1 hx2 ho1 ho2 ho3 hrow hch
    have HSG0 := Lib.hid hsg
    clear hsg
    have f0 := HSG0.out.frozen o
    have k0 := HSG0.out.cellAt (o := 0) rfl (j := o) (by have := HO1.out; have := HO2.out; have := HO3.out; have := HLT.out; have := HPLL.out; omega)
    simp only [Nat.zero_add] at k0
    have lb0 := HSG0.out.lt
    go_upto_region 236 with fail
    obtain ⟨w1, hw1⟩ : ∃ w', w' = wr.setCell ⟨bx, o, none⟩ (.int .u8 (x0.toNat : Int)) := ⟨_, rfl⟩
    have HSG1 := Lib.hid (HSG0.out.put1 (o := o) (by have := HO1.out; have := HO2.out; have := HO3.out; have := HLT.out; have := HPLL.out; omega) x0)
    rw [← hw1]
    rw [← hw1] at HSG1
    have HCH1 : Hid (Chg (· = bx) wr w1) := Lib.hid (hw1 ▸ (Chg.refl (· = bx) _).setCell bx (fun _ => rfl) _ _)
    clear hw1 f0 k0 hc0
    have hc1' : w1.cell? ⟨bc, 1 + q1, none⟩ = some (.int .u8 (x1.toNat : Int)) := (HCH1.out.cell (World.block_lt_of_cell? _ _ hc1) (fun e => hnb e.symm)).trans hc1
    clear hc1
    rename _ => hc1
    have hc2' : w1.cell? ⟨bc, 1 + q2, none⟩ = some (.int .u8 (x2.toNat : Int)) := (HCH1.out.cell (World.block_lt_of_cell? _ _ hc2) (fun e => hnb e.symm)).trans hc2
    clear hc2
    rename _ => hc2
    have f1 := HSG1.out.frozen o1
    have k1 := HSG1.out.cellAt (o := 0) rfl (j := o1) (by have := HO1.out; have := HO2.out; have := HO3.out; have := HLT.out; have := HPLL.out; simp only [List.length_set]; omega)
    simp only [Nat.zero_add] at k1
    have lb1 := HSG1.out.lt
    go_upto_region 237 with fail
    obtain ⟨w2, hw2⟩ : ∃ w', w' = w1.setCell ⟨bx, o1, none⟩ (.int .u8 (x1.toNat : Int)) := ⟨_, rfl⟩
    have HSG2 := Lib.hid (HSG1.out.put1 (o := o1) (by have := HO1.out; have := HO2.out; have := HO3.out; have := HLT.out; have := HPLL.out; simp only [List.length_set]; omega) x1)
    rw [← hw2]
    rw [← hw2] at HSG2
    have HCH2 : Hid (Chg (· = bx) w1 w2) := Lib.hid (hw2 ▸ (Chg.refl (· = bx) _).setCell bx (fun _ => rfl) _ _)
    clear hw2 f1 k1 hc1
    have hc2' : w2.cell? ⟨bc, 1 + q2, none⟩ = some (.int .u8 (x2.toNat : Int)) := (HCH2.out.cell (World.block_lt_of_cell? _ _ hc2) (fun e => hnb e.symm)).trans hc2
    clear hc2
    rename _ => hc2
    have f2 := HSG2.out.frozen o2
    have k2 := HSG2.out.cellAt (o := 0) rfl (j := o2) (by have := HO1.out; have := HO2.out; have := HO3.out; have := HLT.out; have := HPLL.out; simp only [List.length_set]; omega)
    simp only [Nat.zero_add] at k2
    have lb2 := HSG2.out.lt
    go_upto_region 238 with fail
    obtain ⟨w3, hw3⟩ : ∃ w', w' = w2.setCell ⟨bx, o2, none⟩ (.int .u8 (x2.toNat : Int)) := ⟨_, rfl⟩
    have HSG3 := Lib.hid (HSG2.out.put1 (o := o2) (by have := HO1.out; have := HO2.out; have := HO3.out; have := HLT.out; have := HPLL.out; simp only [List.length_set]; omega) x2)
    rw [← hw3]
    rw [← hw3] at HSG3
    have HCH3 : Hid (Chg (· = bx) w2 w3) := Lib.hid (hw3 ▸ (Chg.refl (· = bx) _).setCell bx (fun _ => rfl) _ _)
    clear hw3 f2 k2 hc2
    have f3 := HSG3.out.frozen o3
    have k3 := HSG3.out.cellAt (o := 0) rfl (j := o3) (by have := HO1.out; have := HO2.out; have := HO3.out; have := HLT.out; have := HPLL.out; simp only [List.length_set]; omega)
    simp only [Nat.zero_add] at k3
    have lb3 := HSG3.out.lt
    go_upto_region 239 with fail
    obtain ⟨w4, hw4⟩ : ∃ w', w' = w3.setCell ⟨bx, o3, none⟩ (.int .u8 255) := ⟨_, rfl⟩
    have HSG4 := Lib.hid (HSG3.out.put1 (o := o3) (by have := HO1.out; have := HO2.out; have := HO3.out; have := HLT.out; have := HPLL.out; simp only [List.length_set]; omega) 255)
    rw [u8_255] at HSG4
    rw [← hw4]
    rw [← hw4] at HSG4
    have HCH4 : Hid (Chg (· = bx) w3 w4) := Lib.hid (hw4 ▸ (Chg.refl (· = bx) _).setCell bx (fun _ => rfl) _ _)
    clear hw4 f3 k3
    have hpx : pixA 2 8 [] row t = [x0, x1, x2, 255] := pxTC8 HX0.out HX1.out HX2.out
    have hfin := HSG4.out
    rw [HO1.out, HO2.out, HO3.out] at hfin
    have hfin2 : Seg w4 bx [] [] (putAt p (y * S) (rowTo 2 8 [] row (t + 1))) := by
      rw [← put_next HOK.out, ← HPP.out, ← HO4.out, hpx]
      exact hfin
    have HF := Lib.hid hfin2
    have HC4 := Lib.hid ((((HCH.out.trans HCH1.out).trans HCH2.out).trans HCH3.out).trans HCH4.out)
    clear hfin hfin2 hpx
    go_wp2_with fail
    go_roundw
    case rel => exact ⟨t + 1, o4, q3, by omega, HN4, HN3, by go_num, by go_num, by go_num, HC4.out, HF.out⟩
    case measure => simp [intOf]; omega
  · obtain rfl : W = t := by omega
    have c1 := (HIM.out.chg hch (fun e => hng e.symm)).c1
    have p2 : IntKind.i64.wrap ((po : Int) + (S : Int)) = (po : Int) + (S : Int) := i64_in _ ⟨by omega, by have := HYS2.out; have := HYS.out; have := HL2.out; rw [HPO.out]; omega⟩
    have hlt9 := (HIM.out.chg hch (fun e => hng e.symm)).lt
    have HCH := Lib.hid hch
    have HSG := Lib.hid hsg
    clear hch hsg
    go_wp2_with fail
    exact ⟨⟨rfl, rfl, rfl, rfl, rfl, rfl, rfl, rfl, rfl, rfl, rfl, rfl, rfl, rfl, rfl, rfl, rfl, rfl, rfl, rfl, rfl⟩, HCH.out, HSG.out⟩
end Go.Proofs.YtkiibhpmembcgaaDoor
