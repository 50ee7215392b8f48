/- From bytes to colors: one row of readImagePass, samples of few bits. Printed by gen/ripfew.py. -/
import Derived.Test.YtkiibhpmembcgaaDoorGFew
import Derived.Test.YtkiibhpmembcgaaDoorSetPix
import Derived.StillTailTactics
import Derived.Deep.QuietTactic
import Derived.BigQuiet
import Derived.Deep.DeepCutAuto
import Derived.Deep.CutBlock
import Derived.LoopTactic
import Derived.Outline
namespace Go.Proofs.YtkiibhpmembcgaaDoor
open Go.ChangeShapes Go.WideShapes Go.ChangeAt Go.RowKit Go.IntWalk

set_option maxRecDepth 1000000 in
set_option maxHeartbeats 6400000 in
theorem conv_P4 (V : LV) (bc bp y po g bx L S : Nat) (row p : List UInt8) (pre : Value) (a : Act) (w0 : World) (Q : Exit → Act → World → Prop) (hk : a.tmps.getD 452 undef = .int .i64 9) (pa : Option Addr) (pc : Nat) (hpal : w0.cell? ⟨g, 6, none⟩ = some (.slice pa 16 pc)) (hi : V.i14 = .pointer (some ⟨g, 0, none⟩))
    (h : CIn V bc bp y po 3 4 [] row g bx L S p pre a w0)
    (hQ : ∀ a' w', COut V bc bp y po 3 4 [] row bx S p w0 a' w' → Q .normal a' w') : convB.wp Tryd.prog Q a w0 := by
  obtain ⟨hlive, hseg, hlen, him, hpix, hplen, hnb, hng, hnd, hdlt, hy, hW, hW1, hH, hS, hL, hn⟩ := h
  obtain ⟨b, r, i12, i13, i14, i15, i16, i17, i18, img, W, H, st, n⟩ := V
  simp only at hlen hy hW hW1 hH hS hL hn hi him hnd hdlt
  subst hi
  obtain ⟨gg, rfl⟩ := hlive.lit452 hk
  clear hlive hk
  have hok : OkCD 3 4 := by unfold OkCD; omega
  have hn2 : n = (4 * W + 7) / 8 := by rw [hn]; simp [rbN, chN] <;> omega
  have hS2 : S = W := by rw [hS]; simp [kindN, nK]
  have hyS : y * S + S ≤ L := by rw [hL, ← Nat.succ_mul]; exact Nat.mul_le_mul_right _ hy
  have hyS2 : y * S ≤ 40 * 320 := Nat.mul_le_mul (by omega) (by omega)
  have hL2 : L ≤ 40 * 320 := by rw [hL]; exact Nat.mul_le_mul hH (by omega)
  have HSEG := Lib.hid hseg
  have HIM := Lib.hid him
  have HL := Lib.hid hlen
  have HPL := Lib.hid hplen
  have HOK := Lib.hid hok
  have HS2 := Lib.hid hS2
  have HN2 := Lib.hid hn2
  have HYS := Lib.hid hyS
  have HYS2 := Lib.hid hyS2
  have HL2 := Lib.hid hL2
  have HPAL := Lib.hid hpal
  clear hpal
  clear hseg him hlen hplen hok hS2 hn2 hyS hyS2 hL2 hS hL hn
  conv => arg 2; whnf
  go_upto_region 270 with fail
  go_loopw [93] (fun iv wr' => ∃ u X : Nat, Hid (X = 2 * u) ∧ X ≤ W + 1 ∧ iv = .int .i64 (X : Int) ∧ Chg (· = bx) w0 wr' ∧ Seg wr' bx [] [] (putAt p (y * S) (rowTo 3 4 [] row (min X W)))) (fun iv _ => W + 2 - (intOf iv).toNat)
  case atStart => exact ⟨0, 0, Lib.hid rfl, Nat.zero_le _, rfl, Chg.refl _ _, by rw [Nat.zero_min]; exact hpix⟩
  case round =>
  obtain ⟨u, X, HX, hXW, rfl, hch, hsg⟩ := hrel
  obtain ⟨wo, rfl⟩ : ∃ wo, wo = wr := ⟨_, rfl⟩
  by_cases hlt : X < W
  · have hrow := HSEG.out.chg hch (fun e => hnb e.symm)
    have hun : u < n := by have := HX.out; have := HN2.out; omega
    obtain ⟨x0, hx0, hc0⟩ := seg_at (o := 1) hrow rfl u (by rw [HL.out]; exact hun)
    have HX0 := Lib.hid hx0
    have i0 : (0 : Int) ≤ (u : Int) := by omega
    have i1 : (u : Int) < (n : Int) := by omega
    have hu : u = X / 2 := by have := HX.out; omega
    have d1 : (X : Int).tdiv 2 = (u : Int) := by rw [hu]; rfl
    have d2 : (X : Int) / 2 = (u : Int) := by rw [hu]; rfl
    have d3 : IntKind.i64.wrap (u : Int) = (u : Int) := i64_in _ ⟨by omega, by omega⟩
    have i2 : (X : Int) < (W : Int) := by omega
    have rx0 := u8lt x0
    rw [Nat.min_eq_left (Nat.le_of_lt hlt)] at hsg
    have HSG0 := Lib.hid hsg
    have HCH0 := Lib.hid hch
    clear hx0 hrow hsg hch hpix hu
    go_upto_region 274 with fail
    go_loopw [94, 95] (fun bv tv wi => ∃ t : Nat, t ≤ 2 ∧ X + t ≤ W ∧ tv = .int .i64 (t : Int) ∧ bv = .int .u8 ((shB 4 x0 t).toNat : Int) ∧ Chg (· = bx) w0 wi ∧ Seg wi bx [] [] (putAt p (y * S) (rowTo 3 4 [] row (X + t)))) (fun _ tv _ => 2 - (intOf tv).toNat)
    case atStart => exact ⟨0, Nat.zero_le _, by omega, rfl, by rw [shB_zero], HCH0.out, HSG0.out⟩
    case round =>
    obtain ⟨t, htK, htW, rfl, rfl, hch, hsg⟩ := hrel
    obtain ⟨bt, hbt⟩ : ∃ bt, bt = shB 4 x0 t := ⟨_, rfl⟩
    obtain ⟨bt2, hbt2⟩ : ∃ bt2, bt2 = shB 4 x0 (t + 1) := ⟨_, rfl⟩
    have s5 : IntKind.u8.wrap ((bt.toNat : Int) * 16) = (bt2.toNat : Int) := by rw [hbt, hbt2]; exact shB_next4 x0 t
    obtain ⟨P, hP⟩ : ∃ P, P = X + t := ⟨_, rfl⟩
    have p1 : (X : Int) + (t : Int) = (P : Int) := by omega
    have p2 : IntKind.i64.wrap (P : Int) = (P : Int) := i64_in _ ⟨by omega, by omega⟩
    have HBT2 := Lib.hid hbt2
    have HP := Lib.hid hP
    rw [← hbt]
    have him := HIM.out.chg hch (fun e => hng e.symm)
    by_cases hgo : t < 2 ∧ P < W
    · obtain ⟨ht8, hPW⟩ := hgo
      have q1 : (t : Int) < 2 := by omega
      have q2 : (P : Int) < (W : Int) := by omega
      obtain ⟨rv, hrv⟩ : ∃ rv, rv = UInt8.ofNat (sampA 4 row P * 1) := ⟨_, rfl⟩
      have hsam : sampA 4 row P = bt.toNat / 16 := by rw [hP, HX.out, hbt, HX0.out]; exact samp_few4 row u t ht8
      have hb256 := u8lt bt
      have hrvn : rv.toNat = bt.toNat / 16 * 1 := by
        rw [hrv, hsam, UInt8.toNat_ofNat', Nat.mod_eq_of_lt (by omega)]
      have rrv := u8lt rv
      have s1 : (bt.toNat : Int) / 16 = (rv.toNat : Int) := by omega
      have s2 : ¬ (16 : Int) ≤ (rv.toNat : Int) := by omega
      have s3 : IntKind.u8.wrap (rv.toNat : Int) = (rv.toNat : Int) := by rw [IntKind.wrap_u8']; omega
      have s4 : IntKind.i64.wrap (rv.toNat : Int) = (rv.toNat : Int) := i64_in _ ⟨by omega, by omega⟩
      have s6 : ¬ 16 ≤ rv.toNat := by omega
      have c6 := (hch.cell (World.block_lt_of_cell? w0 _ HPAL.out) (fun e => hng e.symm)).trans HPAL.out
      have hpx : pixA 3 4 [] row P = [rv] := by
        rw [hrv]
        simp [pixA]
      have HPX := Lib.hid hpx
      obtain ⟨o, ho⟩ : ∃ o, o = y * S + 1 * P := ⟨_, rfl⟩
      have HO := Lib.hid ho
      have ho3 : o + 1 ≤ L := by have := HYS.out; have := HS2.out; omega
      have ho4 : o = y * S + P * nK (kindN 3 4 (!([] : List Nat).isEmpty)) := by rw [ho]; simp [kindN, nK]
      have HO4 := Lib.hid ho4
      have hpl : Hid ((putAt p (y * S) (rowTo 3 4 [] row P)).length = L) := Lib.hid (by rw [putAt_len, HPL.out])
      rw [← hP] at hsg
      have HSG := Lib.hid hsg
      have HIMW := Lib.hid him
      have HCH := Lib.hid hch
      have hy2 : y < H := hy
      have hL2 := HL2.out
      clear hsg him hch ho ho4 hpx hrv hsam hrvn hbt hbt2 hP hc0
      go_wp2_with (go_at_call 43; refine (set_Paletted g bx L L S W H P y o rv _ wr HIMW.out HSG.out hpl HO hPW hy2 (by omega) (by omega) (by have := HS2.out; omega) ho3 (Nat.le_refl _) (by omega)).mono ?_; rintro e w' ⟨rfl, hch2, hsg2⟩)
      rw [HO4.out, ← HPX.out, put_next HOK.out, HP.out, Nat.add_assoc] at hsg2
      go_roundw
      case rel => exact ⟨t + 1, by omega, by have := HP.out; omega, by go_num, by rw [← HBT2.out], HCH.out.trans hch2, hsg2⟩
      case measure => simp [intOf]; omega
    · have hend : X + t = W ∨ t = 2 := by omega
      have hmin : min (X + 2) W = X + t := by omega
      have HMIN := Lib.hid hmin
      obtain ⟨X2, hX2⟩ : ∃ X2, X2 = X + 2 := ⟨_, rfl⟩
      have m1 : (X : Int) + 2 = (X2 : Int) := by omega
      have m2 : IntKind.i64.wrap (X2 : Int) = (X2 : Int) := i64_in _ ⟨by omega, by omega⟩
      have HX2 : Hid (X2 = 2 * (u + 1) ∧ X2 = X + 2) := Lib.hid ⟨by have := HX.out; omega, hX2⟩
      have HSG := Lib.hid hsg
      have HCH := Lib.hid hch
      clear hsg him hch hbt hbt2 hP hc0 hmin hX2
      by_cases ht8 : t < 2
      · have q1 : (t : Int) < 2 := by omega
        have q2 : ¬ (P : Int) < (W : Int) := by have := HP.out; omega
        have q3 : ¬ P < W := by omega
        clear hgo hend
        go_wp2_with fail
        go_roundw
        case rel => exact ⟨u + 1, X2, Lib.hid HX2.out.1, by have := HX2.out; omega, by go_num, HCH.out, by rw [HX2.out.2, HMIN.out]; exact HSG.out⟩
        case measure => have := HX2.out; simp [intOf]; omega
      · have q1 : ¬ (t : Int) < 2 := by omega
        clear hgo hend
        go_wp2_with fail
        go_roundw
        case rel => exact ⟨u + 1, X2, Lib.hid HX2.out.1, by have := HX2.out; omega, by go_num, HCH.out, by rw [HX2.out.2, HMIN.out]; exact HSG.out⟩
        case measure => have := HX2.out; simp [intOf]; omega
  · have q1 : ¬ (X : Int) < (W : Int) := by omega
    rw [Nat.min_eq_right (by omega)] at hsg
    have HSG := Lib.hid hsg
    have HCH := Lib.hid hch
    clear hsg hch
    go_wp2_with fail
    exact ⟨⟨rfl, rfl, rfl, rfl, rfl, rfl, rfl, rfl, rfl, rfl, rfl, rfl, rfl, rfl, rfl, rfl, rfl, rfl, rfl, rfl, rfl⟩, HCH.out, HSG.out⟩
end Go.Proofs.YtkiibhpmembcgaaDoor
