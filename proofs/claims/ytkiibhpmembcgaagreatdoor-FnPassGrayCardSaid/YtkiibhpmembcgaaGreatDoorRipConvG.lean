/- From bytes to colors: one row of readImagePass. Printed by gen/ripconv.py. -/
import Derived.Test.YtkiibhpmembcgaaGreatDoorRipCode
import Derived.Test.YtkiibhpmembcgaaGreatDoorGMath
import Derived.Test.YtkiibhpmembcgaaGreatDoorSetPix
import Derived.Test.YtkiibhpmembcgaaGreatDoorGFew
import Derived.StillTailTactics
import Derived.Deep.QuietTactic
import Derived.BigQuiet
import Derived.Deep.DeepCutAuto
import Derived.Deep.CutBlock
import Derived.LoopTactic
import Derived.Outline
namespace Go.Proofs.YtkiibhpmembcgaaGreatDoor
open Go.ChangeShapes Go.WideShapes Go.ChangeAt Go.RowKit Go.IntWalk

set_option maxRecDepth 1000000 in
set_option maxHeartbeats 6400000 in
theorem conv_G8t (V : LV) (cv : Nat) (bc bp y po g bx L S : Nat) (row p : List UInt8) (pre : Value) (a : Act) (w0 : World) (Q : Exit → Act → World → Prop) (hk : a.tmps.getD 452 undef = .int .i64 4) (hut : w0.cell? ⟨V.b, 779, none⟩ = some (.bool true)) (htr : w0.cell? ⟨V.b, 781, none⟩ = some (.int .u8 (cv : Int))) (hi : V.i15 = .pointer (some ⟨g, 0, none⟩))
    (h : CIn V bc bp y po 0 8 [cv] row g bx L S p pre a w0)
    (hQ : ∀ a' w', COut V bc bp y po 0 8 [cv] row bx S p w0 a' w' → Q .normal a' w') : convB.wp Tryz.prog Q a w0 := by
  obtain ⟨hlive, hseg, hlen, him, hpix, hplen, hnb, hng, hnd, hdlt, hy, hW, hW1, hH, hS, hL, hn⟩ := h
  obtain ⟨b, r, i12, i13, i14, i15, i16, i17, i18, img, W, H, st, n⟩ := V
  simp only at hlen hy hW hW1 hH hS hL hn hi him hnd hdlt
  simp only at hut htr
  subst hi
  obtain ⟨gg, rfl⟩ := hlive.lit452 hk
  clear hlive hk
  have hok : OkCD 0 8 := by unfold OkCD; omega
  have hn2 : n = 1 * W := by rw [hn]; simp [rbN, chN]; omega
  have hS2 : S = 4 * W := by rw [hS]; simp [kindN, nK]; omega
  have hyS : y * S + S ≤ L := by rw [hL, ← Nat.succ_mul]; exact Nat.mul_le_mul_right _ hy
  have hyS2 : y * S ≤ 40 * 320 := Nat.mul_le_mul (by omega) (by omega)
  have hL2 : L ≤ 40 * 320 := by rw [hL]; exact Nat.mul_le_mul hH (by omega)
  have HSEG := Lib.hid hseg
  have HIM := Lib.hid him
  have HL := Lib.hid hlen
  have HPL := Lib.hid hplen
  have HOK := Lib.hid hok
  have HS2 := Lib.hid hS2
  have HN2 := Lib.hid hn2
  have HYS := Lib.hid hyS
  have HYS2 := Lib.hid hyS2
  have HL2 := Lib.hid hL2
  clear hseg him hlen hplen hok hS2 hn2 hyS hyS2 hL2 hS hL hn
  conv => arg 2; whnf
  go_upto_region 196 with fail
  go_loopw [65] (fun iv wr' => ∃ t : Nat, t ≤ W ∧ iv = .int .i64 (t : Int) ∧ Chg (· = bx) w0 wr' ∧ Seg wr' bx [] [] (putAt p (y * S) (rowTo 0 8 [cv] row t))) (fun iv _ => W - (intOf iv).toNat)
  case atStart => exact ⟨0, Nat.zero_le _, rfl, Chg.refl _ _, hpix⟩
  case round =>
  obtain ⟨t, ht, rfl, hch, hsg⟩ := hrel
  by_cases hlt : t < W
  · have hn2 := HN2.out
    have hS2 := HS2.out
    have hyS := HYS.out
    have hyS2 := HYS2.out
    have hL2 := HL2.out
    have hrow := HSEG.out.chg hch (fun e => hnb e.symm)
    have him := HIM.out.chg hch (fun e => hng e.symm)
    have hll := HL.out
    have hpl : Hid ((putAt p (y * S) (rowTo 0 8 [cv] row t)).length = L) := Lib.hid (by rw [putAt_len, HPL.out])
    obtain ⟨o, ho⟩ : ∃ o, o = y * S + 4 * t := ⟨_, rfl⟩
    have HO := Lib.hid ho
    have i0 : (0 : Int) ≤ (t : Int) := by omega
    have i1 : (t : Int) < (W : Int) := by omega
    obtain ⟨q0, hq0⟩ : ∃ q, q = 1 * t + 0 := ⟨_, rfl⟩
    obtain ⟨x0, hx0, hc0⟩ := seg_at (o := 1) hrow rfl q0 (by omega)
    have j0 : (q0 : Int) < (n : Int) := by omega
    have l0 : (0 : Int) ≤ (q0 : Int) := by omega
    have rx0 := u8lt x0
    have vq0 : IntKind.i64.wrap (q0 : Int) = (q0 : Int) := i64_in _ ⟨by omega, by omega⟩
    have e0 : t = q0 := by omega
    subst e0
    have ho3 : o + 4 ≤ L := by omega
    have ho4 : o = y * S + t * nK (kindN 0 8 (!([cv] : List Nat).isEmpty)) := by rw [ho]; simp [kindN, nK]; omega
    have HO4 := Lib.hid ho4
    clear ho ho4 hyS hyS2 hS2 hll hn2 hrow
    have HSG := Lib.hid hsg
    have HIMW := Lib.hid him
    have HCH := Lib.hid hch
    have HX := Lib.hid hx0
    have hy2 : y < H := hy
    clear hsg him hch hx0 hq0
    by_cases hct : x0.toNat = cv
    · have hpx : pixA 0 8 [cv] row t = [x0, x0, x0, 0] := by
        have h1 := HX.out
        have h3 : UInt8.ofNat x0.toNat = x0 := UInt8.ofNat_toNat
        simp only [pixA, sampA, mulD, ← h1]
        simp [← hct, h3]
      have HPX := Lib.hid hpx
      have hci : ((x0.toNat : Int) == (cv : Int)) = true := by simp; omega
      clear hpx hct
      have hset := set_NRGBA g bx L L S W H t y o x0 x0 x0 0 _ wr HIMW.out HSG.out hpl HO hlt hy2 (by omega) (by omega) (by have := HS2.out; omega) ho3 (Nat.le_refl _) (by omega)
      rw [u8_0] at hset
      have HSET := Lib.hid hset
      clear hset
      go_wp2_with (go_at_call 49; refine HSET.out.mono ?_; rintro e w' ⟨rfl, hch2, hsg2⟩)
      rw [HO4.out, ← HPX.out, put_next HOK.out] at hsg2
      go_roundw
      case rel => first | exact ⟨t + 1, by omega, by go_num, HCH.out.trans hch2, hsg2⟩ | exact ⟨_, t + 1, by omega, by go_num, HCH.out.trans hch2, hsg2⟩ | (trace_state; fail)
      case measure => simp [intOf]; omega
    · have hpx : pixA 0 8 [cv] row t = [x0, x0, x0, 255] := by
        have h1 := HX.out
        have h3 : UInt8.ofNat x0.toNat = x0 := UInt8.ofNat_toNat
        simp only [pixA, sampA, mulD, ← h1]
        simp [hct, h3]
      have HPX := Lib.hid hpx
      have hci : ((x0.toNat : Int) == (cv : Int)) = false := by simp; omega
      clear hpx hct
      have hset := set_NRGBA g bx L L S W H t y o x0 x0 x0 255 _ wr HIMW.out HSG.out hpl HO hlt hy2 (by omega) (by omega) (by have := HS2.out; omega) ho3 (Nat.le_refl _) (by omega)
      rw [u8_255] at hset
      have HSET := Lib.hid hset
      clear hset
      go_wp2_with (go_at_call 49; refine HSET.out.mono ?_; rintro e w' ⟨rfl, hch2, hsg2⟩)
      rw [HO4.out, ← HPX.out, put_next HOK.out] at hsg2
      go_roundw
      case rel => first | exact ⟨t + 1, by omega, by go_num, HCH.out.trans hch2, hsg2⟩ | exact ⟨_, t + 1, by omega, by go_num, HCH.out.trans hch2, hsg2⟩ | (trace_state; fail)
      case measure => simp [intOf]; omega
  · obtain rfl : W = t := by omega
    go_wp2_with fail
    exact ⟨⟨rfl, rfl, rfl, rfl, rfl, rfl, rfl, rfl, rfl, rfl, rfl, rfl, rfl, rfl, rfl, rfl, rfl, rfl, rfl, rfl, rfl⟩, hch, hsg⟩
end Go.Proofs.YtkiibhpmembcgaaGreatDoor
