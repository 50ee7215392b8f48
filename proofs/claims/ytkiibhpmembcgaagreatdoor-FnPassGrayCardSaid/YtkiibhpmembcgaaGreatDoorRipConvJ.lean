/- From bytes to colors: one row of readImagePass. Printed by gen/ripconv.py. -/
import Derived.Test.YtkiibhpmembcgaaGreatDoorRipCode
import Derived.Test.YtkiibhpmembcgaaGreatDoorSetPix
import Derived.Test.YtkiibhpmembcgaaGreatDoorGFew
import Derived.StillTailTactics
import Derived.Deep.QuietTactic
import Derived.BigQuiet
import Derived.Deep.DeepCutAuto
import Derived.Deep.CutBlock
import Derived.LoopTactic
import Derived.Outline
namespace Go.Proofs.YtkiibhpmembcgaaGreatDoor
open Go.ChangeShapes Go.WideShapes Go.ChangeAt Go.RowKit Go.IntWalk

set_option maxRecDepth 1000000 in
set_option maxHeartbeats 12800000 in
theorem conv_G16t (V : LV) (z0 z1 : UInt8) (bc bp y po g bx L S : Nat) (row p : List UInt8) (pre : Value) (a : Act) (w0 : World) (Q : Exit → Act → World → Prop) (hk : a.tmps.getD 452 undef = .int .i64 12) (hut : w0.cell? ⟨V.b, 779, none⟩ = some (.bool true)) (ht0 : w0.cell? ⟨V.b, 780, none⟩ = some (.int .u8 (z0.toNat : Int))) (ht1 : w0.cell? ⟨V.b, 781, none⟩ = some (.int .u8 (z1.toNat : Int))) (hi : V.i18 = .pointer (some ⟨g, 0, none⟩))
    (h : CIn V bc bp y po 0 16 [z0.toNat * 256 + z1.toNat] row g bx L S p pre a w0)
    (hQ : ∀ a' w', COut V bc bp y po 0 16 [z0.toNat * 256 + z1.toNat] row bx S p w0 a' w' → Q .normal a' w') : convB.wp Tryz.prog Q a w0 := by
  obtain ⟨hlive, hseg, hlen, him, hpix, hplen, hnb, hng, hnd, hdlt, hy, hW, hW1, hH, hS, hL, hn⟩ := h
  obtain ⟨b, r, i12, i13, i14, i15, i16, i17, i18, img, W, H, st, n⟩ := V
  simp only at hlen hy hW hW1 hH hS hL hn hi him hnd hdlt
  simp only at hut ht0 ht1
  subst hi
  obtain ⟨gg, rfl⟩ := hlive.lit452 hk
  clear hlive hk
  have hok : OkCD 0 16 := by unfold OkCD; omega
  have hn2 : n = 2 * W := by rw [hn]; simp [rbN, chN]; omega
  have hS2 : S = 8 * W := by rw [hS]; simp [kindN, nK]; omega
  have hyS : y * S + S ≤ L := by rw [hL, ← Nat.succ_mul]; exact Nat.mul_le_mul_right _ hy
  have hyS2 : y * S ≤ 40 * 320 := Nat.mul_le_mul (by omega) (by omega)
  have hL2 : L ≤ 40 * 320 := by rw [hL]; exact Nat.mul_le_mul hH (by omega)
  have HSEG := Lib.hid hseg
  have HIM := Lib.hid him
  have HL := Lib.hid hlen
  have HPL := Lib.hid hplen
  have HOK := Lib.hid hok
  have HS2 := Lib.hid hS2
  have HN2 := Lib.hid hn2
  have HYS := Lib.hid hyS
  have HYS2 := Lib.hid hyS2
  have HL2 := Lib.hid hL2
  have HT0 := Lib.hid ht0
  have rz0 := u8lt z0
  have HT1 := Lib.hid ht1
  have rz1 := u8lt z1
  clear ht0 ht1
  clear hseg him hlen hplen hok hS2 hn2 hyS hyS2 hL2 hS hL hn
  conv => arg 2; whnf
  obtain ⟨v0, hv0⟩ : ∃ v, v = z0.toNat * 256 + z1.toNat := ⟨_, rfl⟩
  have zv0 : bits .or .u16 ((z0.toNat : Int) * 256) (z1.toNat : Int) = (v0 : Int) := by rw [or16, hv0]; rfl
  have HV0 := Lib.hid hv0
  have bd0 : w0.heap.size = w0.heap.size := rfl
  clear hv0 bd0
  go_upto_region 295 with fail
  refine abs_frame _ (fun A hA => ?_)
  have hsz : A.tmps.size = 1540 := by rw [hA]; kernel_rfl
  have h0 : A.tmps.getD 0 undef = .pointer (some ⟨b, 0, none⟩) := by rw [hA]; rfl
  have HA := Lib.hid hA
  clear hA
  have gne := @gd_ne
  have geq := @gd_eq
  refine region_still_all (by kernel_rfl) (by kernel_rfl) (fun wd hwd => ?_)
  have hz0' := cell_drew (w := w0) hwd HT0.out
  have hz1' := cell_drew (w := w0) hwd HT1.out
  have HWD := Lib.hid hwd
  clear hwd
  refine still_at (some 1151) (v := ?_) rfl rfl ?_ ?_
  rotate_left
  · refine ⟨?_⟩
    go_simp
    first | done | with_reducible rfl
  refine still_at (some 1152) (v := ?_) rfl rfl ?_ ?_
  rotate_left
  · refine ⟨?_⟩
    go_simp
    first | done | with_reducible rfl
  refine still_at (some 1153) (v := ?_) rfl rfl ?_ ?_
  rotate_left
  · refine ⟨?_⟩
    go_simp
    first | done | with_reducible rfl
  refine still_at (some 1154) (v := ?_) rfl rfl ?_ ?_
  rotate_left
  · refine ⟨?_⟩
    go_simp
    first | done | with_reducible rfl
  refine still_at (some 1155) (v := ?_) rfl rfl ?_ ?_
  rotate_left
  · refine ⟨?_⟩
    go_simp
    first | done | with_reducible rfl
  refine still_at (some 1156) (v := ?_) rfl rfl ?_ ?_
  rotate_left
  · refine ⟨?_⟩
    go_simp
    first | done | with_reducible rfl
  refine still_at (some 1157) (v := ?_) rfl rfl ?_ ?_
  rotate_left
  · refine ⟨?_⟩
    go_simp
    first | done | with_reducible rfl
  refine still_at (some 1158) (v := ?_) rfl rfl ?_ ?_
  rotate_left
  · refine ⟨?_⟩
    go_simp
    first | done | with_reducible rfl
  refine still_at (some 1159) (v := ?_) rfl rfl ?_ ?_
  rotate_left
  · refine ⟨?_⟩
    go_simp
    first | done | with_reducible rfl
  refine still_at (some 1160) (v := ?_) rfl rfl ?_ ?_
  rotate_left
  · refine ⟨?_⟩
    go_simp
    first | done | with_reducible rfl
  refine still_at (some 1161) (v := ?_) rfl rfl ?_ ?_
  rotate_left
  · refine ⟨?_⟩
    go_simp
    first | done | with_reducible rfl
  refine still_at (some 1162) (v := ?_) rfl rfl ?_ ?_
  rotate_left
  · refine ⟨?_⟩
    go_simp
    first | done | with_reducible rfl
  refine still_at (some 1163) (v := ?_) rfl rfl ?_ ?_
  rotate_left
  · refine ⟨?_⟩
    go_simp
    first | done | with_reducible rfl
  refine still_at (some 1164) (v := ?_) rfl rfl ?_ ?_
  rotate_left
  · refine ⟨?_⟩
    go_simp
    first | done | with_reducible rfl
  refine still_at (some 98) (v := ?_) rfl rfl ?_ ?_
  rotate_left
  · refine ⟨?_⟩
    go_simp
    first | done | with_reducible rfl
  refine still_nil ?_
  clear hz0' hz1' gne geq hsz h0
  rw [HA.out, HWD.out]
  clear HA HWD A wd
  simp only [Act.put, List.setIfInBounds_toArray, List.set_cons_succ, List.set_cons_zero]
  obtain ⟨wz, hwz⟩ : ∃ wz, wz = w0.drew := ⟨_, rfl⟩
  have HWZ : Hid (Chg (fun _ => False) w0 wz) := Lib.hid (hwz ▸ ((Chg.refl _ _).drew))
  have hpixz : Seg wz bx [] [] p := hpix.chg HWZ.out (fun h => h)
  rw [← hwz]
  clear hwz
  go_upto_region 297 with fail
  go_loopw [99] (fun iv wr' => ∃ t : Nat, t ≤ W ∧ iv = .int .i64 (t : Int) ∧ Chg (· = bx) w0 wr' ∧ Seg wr' bx [] [] (putAt p (y * S) (rowTo 0 16 [z0.toNat * 256 + z1.toNat] row t))) (fun iv _ => W - (intOf iv).toNat)
  case atStart => exact ⟨0, Nat.zero_le _, rfl, HWZ.out.mono (fun _ h => h.elim), hpixz⟩
  case round =>
  obtain ⟨t, ht, rfl, hch, hsg⟩ := hrel
  by_cases hlt : t < W
  · have hn2 := HN2.out
    have hS2 := HS2.out
    have hyS := HYS.out
    have hyS2 := HYS2.out
    have hL2 := HL2.out
    have hrow := HSEG.out.chg hch (fun e => hnb e.symm)
    have him := HIM.out.chg hch (fun e => hng e.symm)
    have hll := HL.out
    have hpl : Hid ((putAt p (y * S) (rowTo 0 16 [z0.toNat * 256 + z1.toNat] row t)).length = L) := Lib.hid (by rw [putAt_len, HPL.out])
    obtain ⟨o, ho⟩ : ∃ o, o = y * S + 8 * t := ⟨_, rfl⟩
    have HO := Lib.hid ho
    have i0 : (0 : Int) ≤ (t : Int) := by omega
    have i1 : (t : Int) < (W : Int) := by omega
    have ho3 : o + 8 ≤ L := by omega
    have ho4 : o = y * S + t * nK (kindN 0 16 (!([z0.toNat * 256 + z1.toNat] : List Nat).isEmpty)) := by rw [ho]; simp [kindN, nK]; omega
    have HO4 := Lib.hid ho4
    obtain ⟨q0, hq0⟩ : ∃ q, q = 2 * t + 0 := ⟨_, rfl⟩
    obtain ⟨x0, hx0, hc0⟩ := seg_at (o := 1) hrow rfl q0 (by omega)
    have j0 : (q0 : Int) < (n : Int) := by omega
    have l0 : (0 : Int) ≤ (q0 : Int) := by omega
    have rx0 := u8lt x0
    have vq0 : IntKind.i64.wrap (q0 : Int) = (q0 : Int) := i64_in _ ⟨by omega, by omega⟩
    obtain ⟨q1, hq1⟩ : ∃ q, q = 2 * t + 1 := ⟨_, rfl⟩
    obtain ⟨x1, hx1, hc1⟩ := seg_at (o := 1) hrow rfl q1 (by omega)
    have j1 : (q1 : Int) < (n : Int) := by omega
    have l1 : (0 : Int) ≤ (q1 : Int) := by omega
    have rx1 := u8lt x1
    have vq1 : IntKind.i64.wrap (q1 : Int) = (q1 : Int) := i64_in _ ⟨by omega, by omega⟩
    have mq0 : 2 * (t : Int) = (q0 : Int) := by omega
    have mq1 : (q0 : Int) + 1 = (q1 : Int) := by omega
    have HC0 := Lib.hid hc0
    have HC1 := Lib.hid hc1
    have s0 : bits .or .u16 ((x0.toNat : Int) * 256) (x1.toNat : Int) = (x0.toNat : Int) * 256 + (x1.toNat : Int) := or16 _ _
    have HX0 : Hid (x0 = row.getD (2 * t + 0) 0) := Lib.hid (by rw [hx0, hq0])
    have HX1 : Hid (x1 = row.getD (2 * t + 1) 0) := Lib.hid (by rw [hx1, hq1])
    clear ho ho4 hrow hyS hyS2 hS2 hll hn2 hx0 hq0 hc0 hx1 hq1 hc1
    have HSG := Lib.hid hsg
    have HIMW := Lib.hid him
    have HCH := Lib.hid hch
    have hy2 : y < H := hy
    clear hsg him hch
    go_upto_region 299 with fail
    refine abs_frame _ (fun A hA => ?_)
    have hsz : A.tmps.size = 1540 := by rw [hA]; kernel_rfl
    have h30 : A.tmps.getD 30 undef = (.slice (some ⟨bc, 1, none⟩) n n) := by rw [hA]; rfl
    have h99 : A.tmps.getD 99 undef = .int .i64 (t : Int) := by rw [hA]; rfl
    have HA := Lib.hid hA
    clear hA
    have gne := @gd_ne
    have geq := @gd_eq
    refine region_still_all (by kernel_rfl) (by kernel_rfl) (fun wd hwd => ?_)
    have hc0' := cell_drew (w := wr) hwd HC0.out
    have hc1' := cell_drew (w := wr) hwd HC1.out
    have HWD := Lib.hid hwd
    clear hwd
    refine still_at (some 1170) (v := ?_) rfl rfl ?_ ?_
    rotate_left
    · refine ⟨?_⟩
      go_simp
      first | done | with_reducible rfl
    refine still_at (some 1171) (v := ?_) rfl rfl ?_ ?_
    rotate_left
    · refine ⟨?_⟩
      go_simp
      first | done | with_reducible rfl
    refine still_at (some 1172) (v := ?_) rfl rfl ?_ ?_
    rotate_left
    · refine ⟨?_⟩
      go_simp
      first | done | with_reducible rfl
    refine still_at (some 1173) (v := ?_) rfl rfl ?_ ?_
    rotate_left
    · refine ⟨?_⟩
      go_simp
      first | done | with_reducible rfl
    refine still_at (some 1174) (v := ?_) rfl rfl ?_ ?_
    rotate_left
    · refine ⟨?_⟩
      go_simp
      first | done | with_reducible rfl
    refine still_at (some 1175) (v := ?_) rfl rfl ?_ ?_
    rotate_left
    · refine ⟨?_⟩
      go_simp
      first | done | with_reducible rfl
    refine still_at (some 1176) (v := ?_) rfl rfl ?_ ?_
    rotate_left
    · refine ⟨?_⟩
      go_simp
      first | done | with_reducible rfl
    refine still_at (some 1177) (v := ?_) rfl rfl ?_ ?_
    rotate_left
    · refine ⟨?_⟩
      go_simp
      first | done | with_reducible rfl
    refine still_at (some 1178) (v := ?_) rfl rfl ?_ ?_
    rotate_left
    · refine ⟨?_⟩
      go_simp
      first | done | with_reducible rfl
    refine still_at (some 1179) (v := ?_) rfl rfl ?_ ?_
    rotate_left
    · refine ⟨?_⟩
      go_simp
      first | done | with_reducible rfl
    refine still_at (some 1180) (v := ?_) rfl rfl ?_ ?_
    rotate_left
    · refine ⟨?_⟩
      go_simp
      first | done | with_reducible rfl
    refine still_at (some 1181) (v := ?_) rfl rfl ?_ ?_
    rotate_left
    · refine ⟨?_⟩
      go_simp
      first | done | with_reducible rfl
    refine still_at (some 1182) (v := ?_) rfl rfl ?_ ?_
    rotate_left
    · refine ⟨?_⟩
      go_simp
      first | done | with_reducible rfl
    refine still_at (some 1183) (v := ?_) rfl rfl ?_ ?_
    rotate_left
    · refine ⟨?_⟩
      go_simp
      first | done | with_reducible rfl
    refine still_at (some 1184) (v := ?_) rfl rfl ?_ ?_
    rotate_left
    · refine ⟨?_⟩
      go_simp
      first | done | with_reducible rfl
    refine still_at (some 1185) (v := ?_) rfl rfl ?_ ?_
    rotate_left
    · refine ⟨?_⟩
      go_simp
      first | done | with_reducible rfl
    refine still_at (some 100) (v := ?_) rfl rfl ?_ ?_
    rotate_left
    · refine ⟨?_⟩
      go_simp
      first | done | with_reducible rfl
    refine still_nil ?_
    clear hc0' hc1' gne geq hsz h30 h99
    rw [HA.out, HWD.out]
    clear HA HWD A wd
    simp only [Act.put, List.setIfInBounds_toArray, List.set_cons_succ, List.set_cons_zero]
    have him9 := HIMW.out.chg ((Chg.refl (fun _ => False) wr).drew) (fun h => h)
    have HIM9 := Lib.hid him9
    clear him9
    obtain ⟨u0, hu0⟩ : ∃ u, u = x0.toNat * 256 + x1.toNat := ⟨_, rfl⟩
    have HU0 := Lib.hid hu0
    clear hu0
    go_upto_region 301 with fail
    by_cases h0e : u0 = v0
    · skip
      have hci0 : (((x0.toNat : Int) * 256 + (x1.toNat : Int)) == (v0 : Int)) = true := by have := HU0.out; simp; omega
      have HEQ : Hid (u0 = v0) := Lib.hid (by omega)
      clear h0e
      have heq := HEQ.out
      have g0 : x0.toNat * 256 + x1.toNat = z0.toNat * 256 + z1.toNat := by rw [← HU0.out, ← HV0.out]; omega
      have GG := Lib.hid (g0)
      clear heq g0
      have hpx : pixA 0 16 [z0.toNat * 256 + z1.toNat] row t = [x0, x1, x0, x1, x0, x1, 0, 0] := pxG16t HX0.out HX1.out (if_pos GG.out).symm
      have HPX := Lib.hid hpx
      have hset := set_NRGBA64 g bx L L S W H t y o x0 x1 x0 x1 x0 x1 0 0 _ (wr.drew) HIM9.out HSG.out hpl HO hlt hy2 (by omega) (by omega) (by have := HS2.out; omega) ho3 (Nat.le_refl _) (by omega)
      rw [u16_0] at hset
      have HSET := Lib.hid hset
      clear hset hpx
      go_wp2_with (go_at_call 52; refine HSET.out.mono ?_; rintro e w' ⟨rfl, hch2, hsg2⟩)
      rw [HO4.out, ← HPX.out, put_next HOK.out] at hsg2
      go_roundw
      case rel => exact ⟨t + 1, by omega, by go_num, (HCH.out.drew).trans hch2, hsg2⟩
      case measure => simp [intOf]; omega
    · skip
      have hci0 : (((x0.toNat : Int) * 256 + (x1.toNat : Int)) == (v0 : Int)) = false := by have := HU0.out; simp; omega
      have HNE : Hid (¬ x0.toNat * 256 + x1.toNat = z0.toNat * 256 + z1.toNat) := Lib.hid (by rw [← HU0.out, ← HV0.out]; exact h0e)
      clear h0e
      have hpx : pixA 0 16 [z0.toNat * 256 + z1.toNat] row t = [x0, x1, x0, x1, x0, x1, 255, 255] := pxG16t HX0.out HX1.out (if_neg (fun q => HNE.out q)).symm
      have HPX := Lib.hid hpx
      have hset := set_NRGBA64 g bx L L S W H t y o x0 x1 x0 x1 x0 x1 255 255 _ (wr.drew) HIM9.out HSG.out hpl HO hlt hy2 (by omega) (by omega) (by have := HS2.out; omega) ho3 (Nat.le_refl _) (by omega)
      rw [u16_255] at hset
      have HSET := Lib.hid hset
      clear hset hpx
      go_wp2_with (go_at_call 52; refine HSET.out.mono ?_; rintro e w' ⟨rfl, hch2, hsg2⟩)
      rw [HO4.out, ← HPX.out, put_next HOK.out] at hsg2
      go_roundw
      case rel => exact ⟨t + 1, by omega, by go_num, (HCH.out.drew).trans hch2, hsg2⟩
      case measure => simp [intOf]; omega
  · obtain rfl : W = t := by omega
    go_wp2_with fail
    exact ⟨⟨rfl, rfl, rfl, rfl, rfl, rfl, rfl, rfl, rfl, rfl, rfl, rfl, rfl, rfl, rfl, rfl, rfl, rfl, rfl, rfl, rfl⟩, hch, hsg⟩
end Go.Proofs.YtkiibhpmembcgaaGreatDoor
