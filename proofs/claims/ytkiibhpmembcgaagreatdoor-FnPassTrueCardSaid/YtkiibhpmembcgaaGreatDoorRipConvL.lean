/- From bytes to colors: one row of readImagePass. Printed by gen/ripconv.py. -/
import Derived.Test.YtkiibhpmembcgaaGreatDoorRipCode
import Derived.Test.YtkiibhpmembcgaaGreatDoorSetPix
import Derived.Test.YtkiibhpmembcgaaGreatDoorGFew
import Derived.StillTailTactics
import Derived.Deep.QuietTactic
import Derived.BigQuiet
import Derived.Deep.DeepCutAuto
import Derived.Deep.CutBlock
import Derived.LoopTactic
import Derived.Outline
namespace Go.Proofs.YtkiibhpmembcgaaGreatDoor
open Go.ChangeShapes Go.WideShapes Go.ChangeAt Go.RowKit Go.IntWalk

set_option maxRecDepth 1000000 in
set_option maxHeartbeats 12800000 in
theorem conv_TC16t (V : LV) (z0 z1 z2 z3 z4 z5 : UInt8) (bc bp y po g bx L S : Nat) (row p : List UInt8) (pre : Value) (a : Act) (w0 : World) (Q : Exit → Act → World → Prop) (hk : a.tmps.getD 452 undef = .int .i64 14) (hut : w0.cell? ⟨V.b, 779, none⟩ = some (.bool true)) (ht0 : w0.cell? ⟨V.b, 780, none⟩ = some (.int .u8 (z0.toNat : Int))) (ht1 : w0.cell? ⟨V.b, 781, none⟩ = some (.int .u8 (z1.toNat : Int))) (ht2 : w0.cell? ⟨V.b, 782, none⟩ = some (.int .u8 (z2.toNat : Int))) (ht3 : w0.cell? ⟨V.b, 783, none⟩ = some (.int .u8 (z3.toNat : Int))) (ht4 : w0.cell? ⟨V.b, 784, none⟩ = some (.int .u8 (z4.toNat : Int))) (ht5 : w0.cell? ⟨V.b, 785, none⟩ = some (.int .u8 (z5.toNat : Int))) (hi : V.i18 = .pointer (some ⟨g, 0, none⟩))
    (h : CIn V bc bp y po 2 16 [z0.toNat * 256 + z1.toNat, z2.toNat * 256 + z3.toNat, z4.toNat * 256 + z5.toNat] row g bx L S p pre a w0)
    (hQ : ∀ a' w', COut V bc bp y po 2 16 [z0.toNat * 256 + z1.toNat, z2.toNat * 256 + z3.toNat, z4.toNat * 256 + z5.toNat] row bx S p w0 a' w' → Q .normal a' w') : convB.wp Tryz.prog Q a w0 := by
  obtain ⟨hlive, hseg, hlen, him, hpix, hplen, hnb, hng, hnd, hdlt, hy, hW, hW1, hH, hS, hL, hn⟩ := h
  obtain ⟨b, r, i12, i13, i14, i15, i16, i17, i18, img, W, H, st, n⟩ := V
  simp only at hlen hy hW hW1 hH hS hL hn hi him hnd hdlt
  simp only at hut ht0 ht1 ht2 ht3 ht4 ht5
  subst hi
  obtain ⟨gg, rfl⟩ := hlive.lit452 hk
  clear hlive hk
  have hok : OkCD 2 16 := by unfold OkCD; omega
  have hn2 : n = 6 * W := by rw [hn]; simp [rbN, chN]; omega
  have hS2 : S = 8 * W := by rw [hS]; simp [kindN, nK]; omega
  have hyS : y * S + S ≤ L := by rw [hL, ← Nat.succ_mul]; exact Nat.mul_le_mul_right _ hy
  have hyS2 : y * S ≤ 40 * 320 := Nat.mul_le_mul (by omega) (by omega)
  have hL2 : L ≤ 40 * 320 := by rw [hL]; exact Nat.mul_le_mul hH (by omega)
  have HSEG := Lib.hid hseg
  have HIM := Lib.hid him
  have HL := Lib.hid hlen
  have HPL := Lib.hid hplen
  have HOK := Lib.hid hok
  have HS2 := Lib.hid hS2
  have HN2 := Lib.hid hn2
  have HYS := Lib.hid hyS
  have HYS2 := Lib.hid hyS2
  have HL2 := Lib.hid hL2
  have HT0 := Lib.hid ht0
  have rz0 := u8lt z0
  have wz0 : IntKind.u16.wrap (z0.toNat : Int) = (z0.toNat : Int) := by rw [IntKind.wrap_u16]; omega
  have wy0 : IntKind.u16.wrap ((z0.toNat : Int) * 256) = (z0.toNat : Int) * 256 := by rw [IntKind.wrap_u16]; omega
  have HT1 := Lib.hid ht1
  have rz1 := u8lt z1
  have wz1 : IntKind.u16.wrap (z1.toNat : Int) = (z1.toNat : Int) := by rw [IntKind.wrap_u16]; omega
  have HT2 := Lib.hid ht2
  have rz2 := u8lt z2
  have wz2 : IntKind.u16.wrap (z2.toNat : Int) = (z2.toNat : Int) := by rw [IntKind.wrap_u16]; omega
  have wy2 : IntKind.u16.wrap ((z2.toNat : Int) * 256) = (z2.toNat : Int) * 256 := by rw [IntKind.wrap_u16]; omega
  have HT3 := Lib.hid ht3
  have rz3 := u8lt z3
  have wz3 : IntKind.u16.wrap (z3.toNat : Int) = (z3.toNat : Int) := by rw [IntKind.wrap_u16]; omega
  have HT4 := Lib.hid ht4
  have rz4 := u8lt z4
  have wz4 : IntKind.u16.wrap (z4.toNat : Int) = (z4.toNat : Int) := by rw [IntKind.wrap_u16]; omega
  have wy4 : IntKind.u16.wrap ((z4.toNat : Int) * 256) = (z4.toNat : Int) * 256 := by rw [IntKind.wrap_u16]; omega
  have HT5 := Lib.hid ht5
  have rz5 := u8lt z5
  have wz5 : IntKind.u16.wrap (z5.toNat : Int) = (z5.toNat : Int) := by rw [IntKind.wrap_u16]; omega
  clear ht0 ht1 ht2 ht3 ht4 ht5
  clear hseg him hlen hplen hok hS2 hn2 hyS hyS2 hL2 hS hL hn
  conv => arg 2; whnf
  obtain ⟨v0, hv0⟩ : ∃ v, v = z0.toNat * 256 + z1.toNat := ⟨_, rfl⟩
  have zv0 : bits .or .u16 ((z0.toNat : Int) * 256) (z1.toNat : Int) = (v0 : Int) := by rw [or16, hv0]; rfl
  have HV0 := Lib.hid hv0
  have bd0 : w0.heap.size = w0.heap.size := rfl
  clear hv0 bd0
  go_upto_region 318 with fail
  refine abs_frame _ (fun A hA => ?_)
  have hsz : A.tmps.size = 1540 := by rw [hA]; kernel_rfl
  have h0 : A.tmps.getD 0 undef = .pointer (some ⟨b, 0, none⟩) := by rw [hA]; rfl
  have HA := Lib.hid hA
  clear hA
  have gne := @gd_ne
  have geq := @gd_eq
  refine region_still_all (by kernel_rfl) (by kernel_rfl) (fun wd hwd => ?_)
  have hz0' := cell_drew (w := w0) hwd HT0.out
  have hz1' := cell_drew (w := w0) hwd HT1.out
  have HWD := Lib.hid hwd
  clear hwd
  refine still_at (some 1279) (v := ?_) rfl rfl ?_ ?_
  rotate_left
  · refine ⟨?_⟩
    go_simp
    first | done | with_reducible rfl
  refine still_at (some 1280) (v := ?_) rfl rfl ?_ ?_
  rotate_left
  · refine ⟨?_⟩
    go_simp
    first | done | with_reducible rfl
  refine still_at (some 1281) (v := ?_) rfl rfl ?_ ?_
  rotate_left
  · refine ⟨?_⟩
    go_simp
    first | done | with_reducible rfl
  refine still_at (some 1282) (v := ?_) rfl rfl ?_ ?_
  rotate_left
  · refine ⟨?_⟩
    go_simp
    first | done | with_reducible rfl
  refine still_at (some 1283) (v := ?_) rfl rfl ?_ ?_
  rotate_left
  · refine ⟨?_⟩
    go_simp
    first | done | with_reducible rfl
  refine still_at (some 1284) (v := ?_) rfl rfl ?_ ?_
  rotate_left
  · refine ⟨?_⟩
    go_simp
    first | done | with_reducible rfl
  refine still_at (some 1285) (v := ?_) rfl rfl ?_ ?_
  rotate_left
  · refine ⟨?_⟩
    go_simp
    first | done | with_reducible rfl
  refine still_at (some 1286) (v := ?_) rfl rfl ?_ ?_
  rotate_left
  · refine ⟨?_⟩
    go_simp
    first | done | with_reducible rfl
  refine still_at (some 1287) (v := ?_) rfl rfl ?_ ?_
  rotate_left
  · refine ⟨?_⟩
    go_simp
    first | done | with_reducible rfl
  refine still_at (some 1288) (v := ?_) rfl rfl ?_ ?_
  rotate_left
  · refine ⟨?_⟩
    go_simp
    first | done | with_reducible rfl
  refine still_at (some 1289) (v := ?_) rfl rfl ?_ ?_
  rotate_left
  · refine ⟨?_⟩
    go_simp
    first | done | with_reducible rfl
  refine still_at (some 1290) (v := ?_) rfl rfl ?_ ?_
  rotate_left
  · refine ⟨?_⟩
    go_simp
    first | done | with_reducible rfl
  refine still_at (some 1291) (v := ?_) rfl rfl ?_ ?_
  rotate_left
  · refine ⟨?_⟩
    go_simp
    first | done | with_reducible rfl
  refine still_at (some 1292) (v := ?_) rfl rfl ?_ ?_
  rotate_left
  · refine ⟨?_⟩
    go_simp
    first | done | with_reducible rfl
  refine still_at (some 107) (v := ?_) rfl rfl ?_ ?_
  rotate_left
  · refine ⟨?_⟩
    go_simp
    first | done | with_reducible rfl
  refine still_nil ?_
  clear hz0' hz1' gne geq hsz h0
  rw [HA.out, HWD.out]
  clear HA HWD A wd
  simp only [Act.put, List.setIfInBounds_toArray, List.set_cons_succ, List.set_cons_zero]
  obtain ⟨v1, hv1⟩ : ∃ v, v = z2.toNat * 256 + z3.toNat := ⟨_, rfl⟩
  have zv1 : bits .or .u16 ((z2.toNat : Int) * 256) (z3.toNat : Int) = (v1 : Int) := by rw [or16, hv1]; rfl
  have HV1 := Lib.hid hv1
  have bd1 : w0.drew.heap.size = w0.heap.size := rfl
  clear hv1 bd1
  go_upto_region 319 with fail
  refine abs_frame _ (fun A hA => ?_)
  have hsz : A.tmps.size = 1540 := by rw [hA]; kernel_rfl
  have h0 : A.tmps.getD 0 undef = .pointer (some ⟨b, 0, none⟩) := by rw [hA]; rfl
  have HA := Lib.hid hA
  clear hA
  have gne := @gd_ne
  have geq := @gd_eq
  refine region_still_all (by kernel_rfl) (by kernel_rfl) (fun wd hwd => ?_)
  have hz2' := cell_drew (w := w0.drew) hwd HT2.out
  have hz3' := cell_drew (w := w0.drew) hwd HT3.out
  have HWD := Lib.hid hwd
  clear hwd
  refine still_at (some 1293) (v := ?_) rfl rfl ?_ ?_
  rotate_left
  · refine ⟨?_⟩
    go_simp
    first | done | with_reducible rfl
  refine still_at (some 1294) (v := ?_) rfl rfl ?_ ?_
  rotate_left
  · refine ⟨?_⟩
    go_simp
    first | done | with_reducible rfl
  refine still_at (some 1295) (v := ?_) rfl rfl ?_ ?_
  rotate_left
  · refine ⟨?_⟩
    go_simp
    first | done | with_reducible rfl
  refine still_at (some 1296) (v := ?_) rfl rfl ?_ ?_
  rotate_left
  · refine ⟨?_⟩
    go_simp
    first | done | with_reducible rfl
  refine still_at (some 1297) (v := ?_) rfl rfl ?_ ?_
  rotate_left
  · refine ⟨?_⟩
    go_simp
    first | done | with_reducible rfl
  refine still_at (some 1298) (v := ?_) rfl rfl ?_ ?_
  rotate_left
  · refine ⟨?_⟩
    go_simp
    first | done | with_reducible rfl
  refine still_at (some 1299) (v := ?_) rfl rfl ?_ ?_
  rotate_left
  · refine ⟨?_⟩
    go_simp
    first | done | with_reducible rfl
  refine still_at (some 1300) (v := ?_) rfl rfl ?_ ?_
  rotate_left
  · refine ⟨?_⟩
    go_simp
    first | done | with_reducible rfl
  refine still_at (some 1301) (v := ?_) rfl rfl ?_ ?_
  rotate_left
  · refine ⟨?_⟩
    go_simp
    first | done | with_reducible rfl
  refine still_at (some 1302) (v := ?_) rfl rfl ?_ ?_
  rotate_left
  · refine ⟨?_⟩
    go_simp
    first | done | with_reducible rfl
  refine still_at (some 1303) (v := ?_) rfl rfl ?_ ?_
  rotate_left
  · refine ⟨?_⟩
    go_simp
    first | done | with_reducible rfl
  refine still_at (some 1304) (v := ?_) rfl rfl ?_ ?_
  rotate_left
  · refine ⟨?_⟩
    go_simp
    first | done | with_reducible rfl
  refine still_at (some 1305) (v := ?_) rfl rfl ?_ ?_
  rotate_left
  · refine ⟨?_⟩
    go_simp
    first | done | with_reducible rfl
  refine still_at (some 1306) (v := ?_) rfl rfl ?_ ?_
  rotate_left
  · refine ⟨?_⟩
    go_simp
    first | done | with_reducible rfl
  refine still_at (some 108) (v := ?_) rfl rfl ?_ ?_
  rotate_left
  · refine ⟨?_⟩
    go_simp
    first | done | with_reducible rfl
  refine still_nil ?_
  clear hz2' hz3' gne geq hsz h0
  rw [HA.out, HWD.out]
  clear HA HWD A wd
  simp only [Act.put, List.setIfInBounds_toArray, List.set_cons_succ, List.set_cons_zero]
  obtain ⟨v2, hv2⟩ : ∃ v, v = z4.toNat * 256 + z5.toNat := ⟨_, rfl⟩
  have zv2 : bits .or .u16 ((z4.toNat : Int) * 256) (z5.toNat : Int) = (v2 : Int) := by rw [or16, hv2]; rfl
  have HV2 := Lib.hid hv2
  have bd2 : w0.drew.drew.heap.size = w0.heap.size := rfl
  clear hv2 bd2
  go_upto_region 320 with fail
  refine abs_frame _ (fun A hA => ?_)
  have hsz : A.tmps.size = 1540 := by rw [hA]; kernel_rfl
  have h0 : A.tmps.getD 0 undef = .pointer (some ⟨b, 0, none⟩) := by rw [hA]; rfl
  have HA := Lib.hid hA
  clear hA
  have gne := @gd_ne
  have geq := @gd_eq
  refine region_still_all (by kernel_rfl) (by kernel_rfl) (fun wd hwd => ?_)
  have hz4' := cell_drew (w := w0.drew.drew) hwd HT4.out
  have hz5' := cell_drew (w := w0.drew.drew) hwd HT5.out
  have HWD := Lib.hid hwd
  clear hwd
  refine still_at (some 1307) (v := ?_) rfl rfl ?_ ?_
  rotate_left
  · refine ⟨?_⟩
    go_simp
    first | done | with_reducible rfl
  refine still_at (some 1308) (v := ?_) rfl rfl ?_ ?_
  rotate_left
  · refine ⟨?_⟩
    go_simp
    first | done | with_reducible rfl
  refine still_at (some 1309) (v := ?_) rfl rfl ?_ ?_
  rotate_left
  · refine ⟨?_⟩
    go_simp
    first | done | with_reducible rfl
  refine still_at (some 1310) (v := ?_) rfl rfl ?_ ?_
  rotate_left
  · refine ⟨?_⟩
    go_simp
    first | done | with_reducible rfl
  refine still_at (some 1311) (v := ?_) rfl rfl ?_ ?_
  rotate_left
  · refine ⟨?_⟩
    go_simp
    first | done | with_reducible rfl
  refine still_at (some 1312) (v := ?_) rfl rfl ?_ ?_
  rotate_left
  · refine ⟨?_⟩
    go_simp
    first | done | with_reducible rfl
  refine still_at (some 1313) (v := ?_) rfl rfl ?_ ?_
  rotate_left
  · refine ⟨?_⟩
    go_simp
    first | done | with_reducible rfl
  refine still_at (some 1314) (v := ?_) rfl rfl ?_ ?_
  rotate_left
  · refine ⟨?_⟩
    go_simp
    first | done | with_reducible rfl
  refine still_at (some 1315) (v := ?_) rfl rfl ?_ ?_
  rotate_left
  · refine ⟨?_⟩
    go_simp
    first | done | with_reducible rfl
  refine still_at (some 1316) (v := ?_) rfl rfl ?_ ?_
  rotate_left
  · refine ⟨?_⟩
    go_simp
    first | done | with_reducible rfl
  refine still_at (some 1317) (v := ?_) rfl rfl ?_ ?_
  rotate_left
  · refine ⟨?_⟩
    go_simp
    first | done | with_reducible rfl
  refine still_at (some 1318) (v := ?_) rfl rfl ?_ ?_
  rotate_left
  · refine ⟨?_⟩
    go_simp
    first | done | with_reducible rfl
  refine still_at (some 1319) (v := ?_) rfl rfl ?_ ?_
  rotate_left
  · refine ⟨?_⟩
    go_simp
    first | done | with_reducible rfl
  refine still_at (some 1320) (v := ?_) rfl rfl ?_ ?_
  rotate_left
  · refine ⟨?_⟩
    go_simp
    first | done | with_reducible rfl
  refine still_at (some 109) (v := ?_) rfl rfl ?_ ?_
  rotate_left
  · refine ⟨?_⟩
    go_simp
    first | done | with_reducible rfl
  refine still_nil ?_
  clear hz4' hz5' gne geq hsz h0
  rw [HA.out, HWD.out]
  clear HA HWD A wd
  simp only [Act.put, List.setIfInBounds_toArray, List.set_cons_succ, List.set_cons_zero]
  obtain ⟨wz, hwz⟩ : ∃ wz, wz = w0.drew.drew.drew := ⟨_, rfl⟩
  have HWZ : Hid (Chg (fun _ => False) w0 wz) := Lib.hid (hwz ▸ ((Chg.refl _ _).drew.drew.drew))
  have hpixz : Seg wz bx [] [] p := hpix.chg HWZ.out (fun h => h)
  rw [← hwz]
  clear hwz
  go_upto_region 322 with fail
  go_loopw [110] (fun iv wr' => ∃ t : Nat, t ≤ W ∧ iv = .int .i64 (t : Int) ∧ Chg (· = bx) w0 wr' ∧ Seg wr' bx [] [] (putAt p (y * S) (rowTo 2 16 [z0.toNat * 256 + z1.toNat, z2.toNat * 256 + z3.toNat, z4.toNat * 256 + z5.toNat] row t))) (fun iv _ => W - (intOf iv).toNat)
  case atStart => exact ⟨0, Nat.zero_le _, rfl, HWZ.out.mono (fun _ h => h.elim), hpixz⟩
  case round =>
  obtain ⟨t, ht, rfl, hch, hsg⟩ := hrel
  by_cases hlt : t < W
  · have hn2 := HN2.out
    have hS2 := HS2.out
    have hyS := HYS.out
    have hyS2 := HYS2.out
    have hL2 := HL2.out
    have hrow := HSEG.out.chg hch (fun e => hnb e.symm)
    have him := HIM.out.chg hch (fun e => hng e.symm)
    have hll := HL.out
    have hpl : Hid ((putAt p (y * S) (rowTo 2 16 [z0.toNat * 256 + z1.toNat, z2.toNat * 256 + z3.toNat, z4.toNat * 256 + z5.toNat] row t)).length = L) := Lib.hid (by rw [putAt_len, HPL.out])
    obtain ⟨o, ho⟩ : ∃ o, o = y * S + 8 * t := ⟨_, rfl⟩
    have HO := Lib.hid ho
    have i0 : (0 : Int) ≤ (t : Int) := by omega
    have i1 : (t : Int) < (W : Int) := by omega
    have ho3 : o + 8 ≤ L := by omega
    have ho4 : o = y * S + t * nK (kindN 2 16 (!([z0.toNat * 256 + z1.toNat, z2.toNat * 256 + z3.toNat, z4.toNat * 256 + z5.toNat] : List Nat).isEmpty)) := by rw [ho]; simp [kindN, nK]; omega
    have HO4 := Lib.hid ho4
    obtain ⟨q0, hq0⟩ : ∃ q, q = 6 * t + 0 := ⟨_, rfl⟩
    obtain ⟨x0, hx0, hc0⟩ := seg_at (o := 1) hrow rfl q0 (by omega)
    have j0 : (q0 : Int) < (n : Int) := by omega
    have l0 : (0 : Int) ≤ (q0 : Int) := by omega
    have rx0 := u8lt x0
    have vq0 : IntKind.i64.wrap (q0 : Int) = (q0 : Int) := i64_in _ ⟨by omega, by omega⟩
    obtain ⟨q1, hq1⟩ : ∃ q, q = 6 * t + 1 := ⟨_, rfl⟩
    obtain ⟨x1, hx1, hc1⟩ := seg_at (o := 1) hrow rfl q1 (by omega)
    have j1 : (q1 : Int) < (n : Int) := by omega
    have l1 : (0 : Int) ≤ (q1 : Int) := by omega
    have rx1 := u8lt x1
    have vq1 : IntKind.i64.wrap (q1 : Int) = (q1 : Int) := i64_in _ ⟨by omega, by omega⟩
    obtain ⟨q2, hq2⟩ : ∃ q, q = 6 * t + 2 := ⟨_, rfl⟩
    obtain ⟨x2, hx2, hc2⟩ := seg_at (o := 1) hrow rfl q2 (by omega)
    have j2 : (q2 : Int) < (n : Int) := by omega
    have l2 : (0 : Int) ≤ (q2 : Int) := by omega
    have rx2 := u8lt x2
    have vq2 : IntKind.i64.wrap (q2 : Int) = (q2 : Int) := i64_in _ ⟨by omega, by omega⟩
    obtain ⟨q3, hq3⟩ : ∃ q, q = 6 * t + 3 := ⟨_, rfl⟩
    obtain ⟨x3, hx3, hc3⟩ := seg_at (o := 1) hrow rfl q3 (by omega)
    have j3 : (q3 : Int) < (n : Int) := by omega
    have l3 : (0 : Int) ≤ (q3 : Int) := by omega
    have rx3 := u8lt x3
    have vq3 : IntKind.i64.wrap (q3 : Int) = (q3 : Int) := i64_in _ ⟨by omega, by omega⟩
    obtain ⟨q4, hq4⟩ : ∃ q, q = 6 * t + 4 := ⟨_, rfl⟩
    obtain ⟨x4, hx4, hc4⟩ := seg_at (o := 1) hrow rfl q4 (by omega)
    have j4 : (q4 : Int) < (n : Int) := by omega
    have l4 : (0 : Int) ≤ (q4 : Int) := by omega
    have rx4 := u8lt x4
    have vq4 : IntKind.i64.wrap (q4 : Int) = (q4 : Int) := i64_in _ ⟨by omega, by omega⟩
    obtain ⟨q5, hq5⟩ : ∃ q, q = 6 * t + 5 := ⟨_, rfl⟩
    obtain ⟨x5, hx5, hc5⟩ := seg_at (o := 1) hrow rfl q5 (by omega)
    have j5 : (q5 : Int) < (n : Int) := by omega
    have l5 : (0 : Int) ≤ (q5 : Int) := by omega
    have rx5 := u8lt x5
    have vq5 : IntKind.i64.wrap (q5 : Int) = (q5 : Int) := i64_in _ ⟨by omega, by omega⟩
    have mq0 : 6 * (t : Int) = (q0 : Int) := by omega
    have mq1 : (q0 : Int) + 1 = (q1 : Int) := by omega
    have mq2 : (q0 : Int) + 2 = (q2 : Int) := by omega
    have mq3 : (q0 : Int) + 3 = (q3 : Int) := by omega
    have mq4 : (q0 : Int) + 4 = (q4 : Int) := by omega
    have mq5 : (q0 : Int) + 5 = (q5 : Int) := by omega
    have HC0 := Lib.hid hc0
    have HC1 := Lib.hid hc1
    have HC2 := Lib.hid hc2
    have HC3 := Lib.hid hc3
    have HC4 := Lib.hid hc4
    have HC5 := Lib.hid hc5
    have s0 : bits .or .u16 ((x0.toNat : Int) * 256) (x1.toNat : Int) = (x0.toNat : Int) * 256 + (x1.toNat : Int) := or16 _ _
    have s1 : bits .or .u16 ((x2.toNat : Int) * 256) (x3.toNat : Int) = (x2.toNat : Int) * 256 + (x3.toNat : Int) := or16 _ _
    have s2 : bits .or .u16 ((x4.toNat : Int) * 256) (x5.toNat : Int) = (x4.toNat : Int) * 256 + (x5.toNat : Int) := or16 _ _
    have HX0 : Hid (x0 = row.getD (6 * t + 0) 0) := Lib.hid (by rw [hx0, hq0])
    have HX1 : Hid (x1 = row.getD (6 * t + 1) 0) := Lib.hid (by rw [hx1, hq1])
    have HX2 : Hid (x2 = row.getD (6 * t + 2) 0) := Lib.hid (by rw [hx2, hq2])
    have HX3 : Hid (x3 = row.getD (6 * t + 3) 0) := Lib.hid (by rw [hx3, hq3])
    have HX4 : Hid (x4 = row.getD (6 * t + 4) 0) := Lib.hid (by rw [hx4, hq4])
    have HX5 : Hid (x5 = row.getD (6 * t + 5) 0) := Lib.hid (by rw [hx5, hq5])
    clear ho ho4 hrow hyS hyS2 hS2 hll hn2 hx0 hq0 hc0 hx1 hq1 hc1 hx2 hq2 hc2 hx3 hq3 hc3 hx4 hq4 hc4 hx5 hq5 hc5
    have HSG := Lib.hid hsg
    have HIMW := Lib.hid him
    have HCH := Lib.hid hch
    have hy2 : y < H := hy
    clear hsg him hch
    go_upto_region 324 with fail
    refine abs_frame _ (fun A hA => ?_)
    have hsz : A.tmps.size = 1540 := by rw [hA]; kernel_rfl
    have h30 : A.tmps.getD 30 undef = (.slice (some ⟨bc, 1, none⟩) n n) := by rw [hA]; rfl
    have h110 : A.tmps.getD 110 undef = .int .i64 (t : Int) := by rw [hA]; rfl
    have HA := Lib.hid hA
    clear hA
    have gne := @gd_ne
    have geq := @gd_eq
    refine region_still_all (by kernel_rfl) (by kernel_rfl) (fun wd hwd => ?_)
    have hc0' := cell_drew (w := wr) hwd HC0.out
    have hc1' := cell_drew (w := wr) hwd HC1.out
    have HWD := Lib.hid hwd
    clear hwd
    refine still_at (some 1326) (v := ?_) rfl rfl ?_ ?_
    rotate_left
    · refine ⟨?_⟩
      go_simp
      first | done | with_reducible rfl
    refine still_at (some 1327) (v := ?_) rfl rfl ?_ ?_
    rotate_left
    · refine ⟨?_⟩
      go_simp
      first | done | with_reducible rfl
    refine still_at (some 1328) (v := ?_) rfl rfl ?_ ?_
    rotate_left
    · refine ⟨?_⟩
      go_simp
      first | done | with_reducible rfl
    refine still_at (some 1329) (v := ?_) rfl rfl ?_ ?_
    rotate_left
    · refine ⟨?_⟩
      go_simp
      first | done | with_reducible rfl
    refine still_at (some 1330) (v := ?_) rfl rfl ?_ ?_
    rotate_left
    · refine ⟨?_⟩
      go_simp
      first | done | with_reducible rfl
    refine still_at (some 1331) (v := ?_) rfl rfl ?_ ?_
    rotate_left
    · refine ⟨?_⟩
      go_simp
      first | done | with_reducible rfl
    refine still_at (some 1332) (v := ?_) rfl rfl ?_ ?_
    rotate_left
    · refine ⟨?_⟩
      go_simp
      first | done | with_reducible rfl
    refine still_at (some 1333) (v := ?_) rfl rfl ?_ ?_
    rotate_left
    · refine ⟨?_⟩
      go_simp
      first | done | with_reducible rfl
    refine still_at (some 1334) (v := ?_) rfl rfl ?_ ?_
    rotate_left
    · refine ⟨?_⟩
      go_simp
      first | done | with_reducible rfl
    refine still_at (some 1335) (v := ?_) rfl rfl ?_ ?_
    rotate_left
    · refine ⟨?_⟩
      go_simp
      first | done | with_reducible rfl
    refine still_at (some 1336) (v := ?_) rfl rfl ?_ ?_
    rotate_left
    · refine ⟨?_⟩
      go_simp
      first | done | with_reducible rfl
    refine still_at (some 1337) (v := ?_) rfl rfl ?_ ?_
    rotate_left
    · refine ⟨?_⟩
      go_simp
      first | done | with_reducible rfl
    refine still_at (some 1338) (v := ?_) rfl rfl ?_ ?_
    rotate_left
    · refine ⟨?_⟩
      go_simp
      first | done | with_reducible rfl
    refine still_at (some 1339) (v := ?_) rfl rfl ?_ ?_
    rotate_left
    · refine ⟨?_⟩
      go_simp
      first | done | with_reducible rfl
    refine still_at (some 1340) (v := ?_) rfl rfl ?_ ?_
    rotate_left
    · refine ⟨?_⟩
      go_simp
      first | done | with_reducible rfl
    refine still_at (some 1341) (v := ?_) rfl rfl ?_ ?_
    rotate_left
    · refine ⟨?_⟩
      go_simp
      first | done | with_reducible rfl
    refine still_at (some 111) (v := ?_) rfl rfl ?_ ?_
    rotate_left
    · refine ⟨?_⟩
      go_simp
      first | done | with_reducible rfl
    refine still_nil ?_
    clear hc0' hc1' gne geq hsz h30 h110
    rw [HA.out, HWD.out]
    clear HA HWD A wd
    simp only [Act.put, List.setIfInBounds_toArray, List.set_cons_succ, List.set_cons_zero]
    go_upto_region 325 with fail
    refine abs_frame _ (fun A hA => ?_)
    have hsz : A.tmps.size = 1540 := by rw [hA]; kernel_rfl
    have h30 : A.tmps.getD 30 undef = (.slice (some ⟨bc, 1, none⟩) n n) := by rw [hA]; rfl
    have h110 : A.tmps.getD 110 undef = .int .i64 (t : Int) := by rw [hA]; rfl
    have HA := Lib.hid hA
    clear hA
    have gne := @gd_ne
    have geq := @gd_eq
    refine region_still_all (by kernel_rfl) (by kernel_rfl) (fun wd hwd => ?_)
    have hc2' := cell_drew (w := wr.drew) hwd HC2.out
    have hc3' := cell_drew (w := wr.drew) hwd HC3.out
    have HWD := Lib.hid hwd
    clear hwd
    refine still_at (some 1342) (v := ?_) rfl rfl ?_ ?_
    rotate_left
    · refine ⟨?_⟩
      go_simp
      first | done | with_reducible rfl
    refine still_at (some 1343) (v := ?_) rfl rfl ?_ ?_
    rotate_left
    · refine ⟨?_⟩
      go_simp
      first | done | with_reducible rfl
    refine still_at (some 1344) (v := ?_) rfl rfl ?_ ?_
    rotate_left
    · refine ⟨?_⟩
      go_simp
      first | done | with_reducible rfl
    refine still_at (some 1345) (v := ?_) rfl rfl ?_ ?_
    rotate_left
    · refine ⟨?_⟩
      go_simp
      first | done | with_reducible rfl
    refine still_at (some 1346) (v := ?_) rfl rfl ?_ ?_
    rotate_left
    · refine ⟨?_⟩
      go_simp
      first | done | with_reducible rfl
    refine still_at (some 1347) (v := ?_) rfl rfl ?_ ?_
    rotate_left
    · refine ⟨?_⟩
      go_simp
      first | done | with_reducible rfl
    refine still_at (some 1348) (v := ?_) rfl rfl ?_ ?_
    rotate_left
    · refine ⟨?_⟩
      go_simp
      first | done | with_reducible rfl
    refine still_at (some 1349) (v := ?_) rfl rfl ?_ ?_
    rotate_left
    · refine ⟨?_⟩
      go_simp
      first | done | with_reducible rfl
    refine still_at (some 1350) (v := ?_) rfl rfl ?_ ?_
    rotate_left
    · refine ⟨?_⟩
      go_simp
      first | done | with_reducible rfl
    refine still_at (some 1351) (v := ?_) rfl rfl ?_ ?_
    rotate_left
    · refine ⟨?_⟩
      go_simp
      first | done | with_reducible rfl
    refine still_at (some 1352) (v := ?_) rfl rfl ?_ ?_
    rotate_left
    · refine ⟨?_⟩
      go_simp
      first | done | with_reducible rfl
    refine still_at (some 1353) (v := ?_) rfl rfl ?_ ?_
    rotate_left
    · refine ⟨?_⟩
      go_simp
      first | done | with_reducible rfl
    refine still_at (some 1354) (v := ?_) rfl rfl ?_ ?_
    rotate_left
    · refine ⟨?_⟩
      go_simp
      first | done | with_reducible rfl
    refine still_at (some 1355) (v := ?_) rfl rfl ?_ ?_
    rotate_left
    · refine ⟨?_⟩
      go_simp
      first | done | with_reducible rfl
    refine still_at (some 1356) (v := ?_) rfl rfl ?_ ?_
    rotate_left
    · refine ⟨?_⟩
      go_simp
      first | done | with_reducible rfl
    refine still_at (some 1357) (v := ?_) rfl rfl ?_ ?_
    rotate_left
    · refine ⟨?_⟩
      go_simp
      first | done | with_reducible rfl
    refine still_at (some 112) (v := ?_) rfl rfl ?_ ?_
    rotate_left
    · refine ⟨?_⟩
      go_simp
      first | done | with_reducible rfl
    refine still_nil ?_
    clear hc2' hc3' gne geq hsz h30 h110
    rw [HA.out, HWD.out]
    clear HA HWD A wd
    simp only [Act.put, List.setIfInBounds_toArray, List.set_cons_succ, List.set_cons_zero]
    go_upto_region 326 with fail
    refine abs_frame _ (fun A hA => ?_)
    have hsz : A.tmps.size = 1540 := by rw [hA]; kernel_rfl
    have h30 : A.tmps.getD 30 undef = (.slice (some ⟨bc, 1, none⟩) n n) := by rw [hA]; rfl
    have h110 : A.tmps.getD 110 undef = .int .i64 (t : Int) := by rw [hA]; rfl
    have HA := Lib.hid hA
    clear hA
    have gne := @gd_ne
    have geq := @gd_eq
    refine region_still_all (by kernel_rfl) (by kernel_rfl) (fun wd hwd => ?_)
    have hc4' := cell_drew (w := wr.drew.drew) hwd HC4.out
    have hc5' := cell_drew (w := wr.drew.drew) hwd HC5.out
    have HWD := Lib.hid hwd
    clear hwd
    refine still_at (some 1358) (v := ?_) rfl rfl ?_ ?_
    rotate_left
    · refine ⟨?_⟩
      go_simp
      first | done | with_reducible rfl
    refine still_at (some 1359) (v := ?_) rfl rfl ?_ ?_
    rotate_left
    · refine ⟨?_⟩
      go_simp
      first | done | with_reducible rfl
    refine still_at (some 1360) (v := ?_) rfl rfl ?_ ?_
    rotate_left
    · refine ⟨?_⟩
      go_simp
      first | done | with_reducible rfl
    refine still_at (some 1361) (v := ?_) rfl rfl ?_ ?_
    rotate_left
    · refine ⟨?_⟩
      go_simp
      first | done | with_reducible rfl
    refine still_at (some 1362) (v := ?_) rfl rfl ?_ ?_
    rotate_left
    · refine ⟨?_⟩
      go_simp
      first | done | with_reducible rfl
    refine still_at (some 1363) (v := ?_) rfl rfl ?_ ?_
    rotate_left
    · refine ⟨?_⟩
      go_simp
      first | done | with_reducible rfl
    refine still_at (some 1364) (v := ?_) rfl rfl ?_ ?_
    rotate_left
    · refine ⟨?_⟩
      go_simp
      first | done | with_reducible rfl
    refine still_at (some 1365) (v := ?_) rfl rfl ?_ ?_
    rotate_left
    · refine ⟨?_⟩
      go_simp
      first | done | with_reducible rfl
    refine still_at (some 1366) (v := ?_) rfl rfl ?_ ?_
    rotate_left
    · refine ⟨?_⟩
      go_simp
      first | done | with_reducible rfl
    refine still_at (some 1367) (v := ?_) rfl rfl ?_ ?_
    rotate_left
    · refine ⟨?_⟩
      go_simp
      first | done | with_reducible rfl
    refine still_at (some 1368) (v := ?_) rfl rfl ?_ ?_
    rotate_left
    · refine ⟨?_⟩
      go_simp
      first | done | with_reducible rfl
    refine still_at (some 1369) (v := ?_) rfl rfl ?_ ?_
    rotate_left
    · refine ⟨?_⟩
      go_simp
      first | done | with_reducible rfl
    refine still_at (some 1370) (v := ?_) rfl rfl ?_ ?_
    rotate_left
    · refine ⟨?_⟩
      go_simp
      first | done | with_reducible rfl
    refine still_at (some 1371) (v := ?_) rfl rfl ?_ ?_
    rotate_left
    · refine ⟨?_⟩
      go_simp
      first | done | with_reducible rfl
    refine still_at (some 1372) (v := ?_) rfl rfl ?_ ?_
    rotate_left
    · refine ⟨?_⟩
      go_simp
      first | done | with_reducible rfl
    refine still_at (some 1373) (v := ?_) rfl rfl ?_ ?_
    rotate_left
    · refine ⟨?_⟩
      go_simp
      first | done | with_reducible rfl
    refine still_at (some 113) (v := ?_) rfl rfl ?_ ?_
    rotate_left
    · refine ⟨?_⟩
      go_simp
      first | done | with_reducible rfl
    refine still_nil ?_
    clear hc4' hc5' gne geq hsz h30 h110
    rw [HA.out, HWD.out]
    clear HA HWD A wd
    simp only [Act.put, List.setIfInBounds_toArray, List.set_cons_succ, List.set_cons_zero]
    have him9 := HIMW.out.chg ((Chg.refl (fun _ => False) wr).drew.drew.drew) (fun h => h)
    have HIM9 := Lib.hid him9
    clear him9
    obtain ⟨u0, hu0⟩ : ∃ u, u = x0.toNat * 256 + x1.toNat := ⟨_, rfl⟩
    have HU0 := Lib.hid hu0
    clear hu0
    obtain ⟨u1, hu1⟩ : ∃ u, u = x2.toNat * 256 + x3.toNat := ⟨_, rfl⟩
    have HU1 := Lib.hid hu1
    clear hu1
    obtain ⟨u2, hu2⟩ : ∃ u, u = x4.toNat * 256 + x5.toNat := ⟨_, rfl⟩
    have HU2 := Lib.hid hu2
    clear hu2
    go_upto_region 328 with fail
    by_cases h0e : u0 = v0
    · skip
      by_cases h1e : u1 = v1
      · skip
        by_cases h2e : u2 = v2
        · skip
          have hci0 : (((x0.toNat : Int) * 256 + (x1.toNat : Int)) == (v0 : Int)) = true := by have := HU0.out; simp; omega
          have hci1 : (((x2.toNat : Int) * 256 + (x3.toNat : Int)) == (v1 : Int)) = true := by have := HU1.out; simp; omega
          have hci2 : (((x4.toNat : Int) * 256 + (x5.toNat : Int)) == (v2 : Int)) = true := by have := HU2.out; simp; omega
          have HEQ : Hid (u0 = v0 ∧ u1 = v1 ∧ u2 = v2) := Lib.hid (by omega)
          clear h0e h1e h2e
          have heq := HEQ.out
          have g0 : x0.toNat * 256 + x1.toNat = z0.toNat * 256 + z1.toNat := by rw [← HU0.out, ← HV0.out]; omega
          have g1 : x2.toNat * 256 + x3.toNat = z2.toNat * 256 + z3.toNat := by rw [← HU1.out, ← HV1.out]; omega
          have g2 : x4.toNat * 256 + x5.toNat = z4.toNat * 256 + z5.toNat := by rw [← HU2.out, ← HV2.out]; omega
          have GG : Hid (x0.toNat * 256 + x1.toNat = z0.toNat * 256 + z1.toNat ∧ x2.toNat * 256 + x3.toNat = z2.toNat * 256 + z3.toNat ∧ x4.toNat * 256 + x5.toNat = z4.toNat * 256 + z5.toNat) := Lib.hid (⟨g0, g1, g2⟩)
          clear heq g0 g1 g2
          have hpx : pixA 2 16 [z0.toNat * 256 + z1.toNat, z2.toNat * 256 + z3.toNat, z4.toNat * 256 + z5.toNat] row t = [x0, x1, x2, x3, x4, x5, 0, 0] := pxTC16t HX0.out HX1.out HX2.out HX3.out HX4.out HX5.out (if_pos GG.out).symm
          have HPX := Lib.hid hpx
          have hset := set_NRGBA64 g bx L L S W H t y o x0 x1 x2 x3 x4 x5 0 0 _ (wr.drew.drew.drew) HIM9.out HSG.out hpl HO hlt hy2 (by omega) (by omega) (by have := HS2.out; omega) ho3 (Nat.le_refl _) (by omega)
          rw [u16_0] at hset
          have HSET := Lib.hid hset
          clear hset hpx
          go_wp2_with (go_at_call 52; refine HSET.out.mono ?_; rintro e w' ⟨rfl, hch2, hsg2⟩)
          rw [HO4.out, ← HPX.out, put_next HOK.out] at hsg2
          go_roundw
          case rel => exact ⟨t + 1, by omega, by go_num, (HCH.out.drew.drew.drew).trans hch2, hsg2⟩
          case measure => simp [intOf]; omega
        · skip
          have hci0 : (((x0.toNat : Int) * 256 + (x1.toNat : Int)) == (v0 : Int)) = true := by have := HU0.out; simp; omega
          have hci1 : (((x2.toNat : Int) * 256 + (x3.toNat : Int)) == (v1 : Int)) = true := by have := HU1.out; simp; omega
          have hci2 : (((x4.toNat : Int) * 256 + (x5.toNat : Int)) == (v2 : Int)) = false := by have := HU2.out; simp; omega
          have HNE : Hid (¬ x4.toNat * 256 + x5.toNat = z4.toNat * 256 + z5.toNat) := Lib.hid (by rw [← HU2.out, ← HV2.out]; exact h2e)
          clear h0e h1e h2e
          have hpx : pixA 2 16 [z0.toNat * 256 + z1.toNat, z2.toNat * 256 + z3.toNat, z4.toNat * 256 + z5.toNat] row t = [x0, x1, x2, x3, x4, x5, 255, 255] := pxTC16t HX0.out HX1.out HX2.out HX3.out HX4.out HX5.out (if_neg (fun q => HNE.out q.2.2)).symm
          have HPX := Lib.hid hpx
          have hset := set_NRGBA64 g bx L L S W H t y o x0 x1 x2 x3 x4 x5 255 255 _ (wr.drew.drew.drew) HIM9.out HSG.out hpl HO hlt hy2 (by omega) (by omega) (by have := HS2.out; omega) ho3 (Nat.le_refl _) (by omega)
          rw [u16_255] at hset
          have HSET := Lib.hid hset
          clear hset hpx
          go_wp2_with (go_at_call 52; refine HSET.out.mono ?_; rintro e w' ⟨rfl, hch2, hsg2⟩)
          rw [HO4.out, ← HPX.out, put_next HOK.out] at hsg2
          go_roundw
          case rel => exact ⟨t + 1, by omega, by go_num, (HCH.out.drew.drew.drew).trans hch2, hsg2⟩
          case measure => simp [intOf]; omega
      · skip
        have hci0 : (((x0.toNat : Int) * 256 + (x1.toNat : Int)) == (v0 : Int)) = true := by have := HU0.out; simp; omega
        have hci1 : (((x2.toNat : Int) * 256 + (x3.toNat : Int)) == (v1 : Int)) = false := by have := HU1.out; simp; omega
        have HNE : Hid (¬ x2.toNat * 256 + x3.toNat = z2.toNat * 256 + z3.toNat) := Lib.hid (by rw [← HU1.out, ← HV1.out]; exact h1e)
        clear h0e h1e
        have hpx : pixA 2 16 [z0.toNat * 256 + z1.toNat, z2.toNat * 256 + z3.toNat, z4.toNat * 256 + z5.toNat] row t = [x0, x1, x2, x3, x4, x5, 255, 255] := pxTC16t HX0.out HX1.out HX2.out HX3.out HX4.out HX5.out (if_neg (fun q => HNE.out q.2.1)).symm
        have HPX := Lib.hid hpx
        have hset := set_NRGBA64 g bx L L S W H t y o x0 x1 x2 x3 x4 x5 255 255 _ (wr.drew.drew.drew) HIM9.out HSG.out hpl HO hlt hy2 (by omega) (by omega) (by have := HS2.out; omega) ho3 (Nat.le_refl _) (by omega)
        rw [u16_255] at hset
        have HSET := Lib.hid hset
        clear hset hpx
        go_wp2_with (go_at_call 52; refine HSET.out.mono ?_; rintro e w' ⟨rfl, hch2, hsg2⟩)
        rw [HO4.out, ← HPX.out, put_next HOK.out] at hsg2
        go_roundw
        case rel => exact ⟨t + 1, by omega, by go_num, (HCH.out.drew.drew.drew).trans hch2, hsg2⟩
        case measure => simp [intOf]; omega
    · skip
      have hci0 : (((x0.toNat : Int) * 256 + (x1.toNat : Int)) == (v0 : Int)) = false := by have := HU0.out; simp; omega
      have HNE : Hid (¬ x0.toNat * 256 + x1.toNat = z0.toNat * 256 + z1.toNat) := Lib.hid (by rw [← HU0.out, ← HV0.out]; exact h0e)
      clear h0e
      have hpx : pixA 2 16 [z0.toNat * 256 + z1.toNat, z2.toNat * 256 + z3.toNat, z4.toNat * 256 + z5.toNat] row t = [x0, x1, x2, x3, x4, x5, 255, 255] := pxTC16t HX0.out HX1.out HX2.out HX3.out HX4.out HX5.out (if_neg (fun q => HNE.out q.1)).symm
      have HPX := Lib.hid hpx
      have hset := set_NRGBA64 g bx L L S W H t y o x0 x1 x2 x3 x4 x5 255 255 _ (wr.drew.drew.drew) HIM9.out HSG.out hpl HO hlt hy2 (by omega) (by omega) (by have := HS2.out; omega) ho3 (Nat.le_refl _) (by omega)
      rw [u16_255] at hset
      have HSET := Lib.hid hset
      clear hset hpx
      go_wp2_with (go_at_call 52; refine HSET.out.mono ?_; rintro e w' ⟨rfl, hch2, hsg2⟩)
      rw [HO4.out, ← HPX.out, put_next HOK.out] at hsg2
      go_roundw
      case rel => exact ⟨t + 1, by omega, by go_num, (HCH.out.drew.drew.drew).trans hch2, hsg2⟩
      case measure => simp [intOf]; omega
  · obtain rfl : W = t := by omega
    go_wp2_with fail
    exact ⟨⟨rfl, rfl, rfl, rfl, rfl, rfl, rfl, rfl, rfl, rfl, rfl, rfl, rfl, rfl, rfl, rfl, rfl, rfl, rfl, rfl, rfl⟩, hch, hsg⟩
end Go.Proofs.YtkiibhpmembcgaaGreatDoor
