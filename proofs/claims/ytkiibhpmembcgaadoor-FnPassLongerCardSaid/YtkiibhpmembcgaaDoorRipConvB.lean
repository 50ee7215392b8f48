/- From bytes to colors: one row of readImagePass. Printed by gen/ripconv.py. -/
import Derived.Test.YtkiibhpmembcgaaDoorRipCode
import Derived.Test.YtkiibhpmembcgaaDoorGMath
import Derived.Test.YtkiibhpmembcgaaDoorSetPix
import Derived.Test.YtkiibhpmembcgaaDoorGFew
import Derived.StillTailTactics
import Derived.Deep.QuietTactic
import Derived.BigQuiet
import Derived.Deep.DeepCutAuto
import Derived.Deep.CutBlock
import Derived.LoopTactic
import Derived.Outline
namespace Go.Proofs.YtkiibhpmembcgaaDoor
open Go.ChangeShapes Go.WideShapes Go.ChangeAt Go.RowKit Go.IntWalk

set_option maxRecDepth 1000000 in
set_option maxHeartbeats 6400000 in
theorem conv_GA16 (V : LV) (bc bp y po g bx L S : Nat) (row p : List UInt8) (pre : Value) (a : Act) (w0 : World) (Q : Exit → Act → World → Prop) (hk : a.tmps.getD 452 undef = .int .i64 13) (hi : V.i18 = .pointer (some ⟨g, 0, none⟩))
    (h : CIn V bc bp y po 4 16 [] row g bx L S p pre a w0)
    (hQ : ∀ a' w', COut V bc bp y po 4 16 [] row bx S p w0 a' w' → Q .normal a' w') : convB.wp Tryd.prog Q a w0 := by
  obtain ⟨hlive, hseg, hlen, him, hpix, hplen, hnb, hng, hnd, hdlt, hy, hW, hW1, hH, hS, hL, hn⟩ := h
  obtain ⟨b, r, i12, i13, i14, i15, i16, i17, i18, img, W, H, st, n⟩ := V
  simp only at hlen hy hW hW1 hH hS hL hn hi him hnd hdlt
  subst hi
  obtain ⟨gg, rfl⟩ := hlive.lit452 hk
  clear hlive hk
  have hok : OkCD 4 16 := by unfold OkCD; omega
  have hn2 : n = 4 * W := by rw [hn]; simp [rbN, chN]; omega
  have hS2 : S = 8 * W := by rw [hS]; simp [kindN, nK]; omega
  have hyS : y * S + S ≤ L := by rw [hL, ← Nat.succ_mul]; exact Nat.mul_le_mul_right _ hy
  have hyS2 : y * S ≤ 40 * 320 := Nat.mul_le_mul (by omega) (by omega)
  have hL2 : L ≤ 40 * 320 := by rw [hL]; exact Nat.mul_le_mul hH (by omega)
  have HSEG := Lib.hid hseg
  have HIM := Lib.hid him
  have HL := Lib.hid hlen
  have HPL := Lib.hid hplen
  have HOK := Lib.hid hok
  have HS2 := Lib.hid hS2
  have HN2 := Lib.hid hn2
  have HYS := Lib.hid hyS
  have HYS2 := Lib.hid hyS2
  have HL2 := Lib.hid hL2
  clear hseg him hlen hplen hok hS2 hn2 hyS hyS2 hL2 hS hL hn
  conv => arg 2; whnf
  go_upto_region 311 with fail
  go_loopw [104] (fun iv wr' => ∃ t : Nat, t ≤ W ∧ iv = .int .i64 (t : Int) ∧ Chg (· = bx) w0 wr' ∧ Seg wr' bx [] [] (putAt p (y * S) (rowTo 4 16 [] row t))) (fun iv _ => W - (intOf iv).toNat)
  case atStart => exact ⟨0, Nat.zero_le _, rfl, Chg.refl _ _, hpix⟩
  case round =>
  obtain ⟨t, ht, rfl, hch, hsg⟩ := hrel
  by_cases hlt : t < W
  · have hn2 := HN2.out
    have hS2 := HS2.out
    have hyS := HYS.out
    have hyS2 := HYS2.out
    have hL2 := HL2.out
    have hrow := HSEG.out.chg hch (fun e => hnb e.symm)
    have him := HIM.out.chg hch (fun e => hng e.symm)
    have hll := HL.out
    have hpl : Hid ((putAt p (y * S) (rowTo 4 16 [] row t)).length = L) := Lib.hid (by rw [putAt_len, HPL.out])
    obtain ⟨o, ho⟩ : ∃ o, o = y * S + 8 * t := ⟨_, rfl⟩
    have HO := Lib.hid ho
    have i0 : (0 : Int) ≤ (t : Int) := by omega
    have i1 : (t : Int) < (W : Int) := by omega
    obtain ⟨q0, hq0⟩ : ∃ q, q = 4 * t + 0 := ⟨_, rfl⟩
    obtain ⟨x0, hx0, hc0⟩ := seg_at (o := 1) hrow rfl q0 (by omega)
    have j0 : (q0 : Int) < (n : Int) := by omega
    have l0 : (0 : Int) ≤ (q0 : Int) := by omega
    have rx0 := u8lt x0
    have vq0 : IntKind.i64.wrap (q0 : Int) = (q0 : Int) := i64_in _ ⟨by omega, by omega⟩
    obtain ⟨q1, hq1⟩ : ∃ q, q = 4 * t + 1 := ⟨_, rfl⟩
    obtain ⟨x1, hx1, hc1⟩ := seg_at (o := 1) hrow rfl q1 (by omega)
    have j1 : (q1 : Int) < (n : Int) := by omega
    have l1 : (0 : Int) ≤ (q1 : Int) := by omega
    have rx1 := u8lt x1
    have vq1 : IntKind.i64.wrap (q1 : Int) = (q1 : Int) := i64_in _ ⟨by omega, by omega⟩
    obtain ⟨q2, hq2⟩ : ∃ q, q = 4 * t + 2 := ⟨_, rfl⟩
    obtain ⟨x2, hx2, hc2⟩ := seg_at (o := 1) hrow rfl q2 (by omega)
    have j2 : (q2 : Int) < (n : Int) := by omega
    have l2 : (0 : Int) ≤ (q2 : Int) := by omega
    have rx2 := u8lt x2
    have vq2 : IntKind.i64.wrap (q2 : Int) = (q2 : Int) := i64_in _ ⟨by omega, by omega⟩
    obtain ⟨q3, hq3⟩ : ∃ q, q = 4 * t + 3 := ⟨_, rfl⟩
    obtain ⟨x3, hx3, hc3⟩ := seg_at (o := 1) hrow rfl q3 (by omega)
    have j3 : (q3 : Int) < (n : Int) := by omega
    have l3 : (0 : Int) ≤ (q3 : Int) := by omega
    have rx3 := u8lt x3
    have vq3 : IntKind.i64.wrap (q3 : Int) = (q3 : Int) := i64_in _ ⟨by omega, by omega⟩
    have mq0 : 4 * (t : Int) = (q0 : Int) := by omega
    have mq1 : (q0 : Int) + 1 = (q1 : Int) := by omega
    have mq2 : (q0 : Int) + 2 = (q2 : Int) := by omega
    have mq3 : (q0 : Int) + 3 = (q3 : Int) := by omega
    have hpx : pixA 4 16 [] row t = [x0, x1, x0, x1, x0, x1, x2, x3] := by
      simp only [pixA]
      simp [hx0, hq0, hx1, hq1, hx2, hq2, hx3, hq3]
    have HPX := Lib.hid hpx
    have ho3 : o + 8 ≤ L := by omega
    have ho4 : o = y * S + t * nK (kindN 4 16 (!([] : List Nat).isEmpty)) := by rw [ho]; simp [kindN, nK]; omega
    have HO4 := Lib.hid ho4
    have HC0 := Lib.hid hc0
    have HC1 := Lib.hid hc1
    have HC2 := Lib.hid hc2
    have HC3 := Lib.hid hc3
    have s0 : bits .or .u16 ((x0.toNat : Int) * 256) (x1.toNat : Int) = (x0.toNat : Int) * 256 + (x1.toNat : Int) := or16 _ _
    have s1 : bits .or .u16 ((x2.toNat : Int) * 256) (x3.toNat : Int) = (x2.toNat : Int) * 256 + (x3.toNat : Int) := or16 _ _
    clear ho ho4 hpx hrow hyS hyS2 hS2 hll hn2 hx0 hq0 hc0 hx1 hq1 hc1 hx2 hq2 hc2 hx3 hq3 hc3
    have HSG := Lib.hid hsg
    have HIMW := Lib.hid him
    have HCH := Lib.hid hch
    have hy2 : y < H := hy
    clear hsg him hch
    go_upto_region 313 with fail
    refine abs_frame _ (fun A hA => ?_)
    have hsz : A.tmps.size = 1540 := by rw [hA]; kernel_rfl
    have h30 : A.tmps.getD 30 undef = (.slice (some ⟨bc, 1, none⟩) n n) := by rw [hA]; rfl
    have h104 : A.tmps.getD 104 undef = .int .i64 (t : Int) := by rw [hA]; rfl
    have HA := Lib.hid hA
    clear hA
    have gne := @gd_ne
    have geq := @gd_eq
    refine region_still_all (by kernel_rfl) (by kernel_rfl) (fun wd hwd => ?_)
    have hc0' := cell_drew (w := wr) hwd HC0.out
    have hc1' := cell_drew (w := wr) hwd HC1.out
    have HWD := Lib.hid hwd
    clear hwd
    refine still_at (some 1232) (v := ?_) rfl rfl ?_ ?_
    rotate_left
    · refine ⟨?_⟩
      go_simp
      first | done | with_reducible rfl
    refine still_at (some 1233) (v := ?_) rfl rfl ?_ ?_
    rotate_left
    · refine ⟨?_⟩
      go_simp
      first | done | with_reducible rfl
    refine still_at (some 1234) (v := ?_) rfl rfl ?_ ?_
    rotate_left
    · refine ⟨?_⟩
      go_simp
      first | done | with_reducible rfl
    refine still_at (some 1235) (v := ?_) rfl rfl ?_ ?_
    rotate_left
    · refine ⟨?_⟩
      go_simp
      first | done | with_reducible rfl
    refine still_at (some 1236) (v := ?_) rfl rfl ?_ ?_
    rotate_left
    · refine ⟨?_⟩
      go_simp
      first | done | with_reducible rfl
    refine still_at (some 1237) (v := ?_) rfl rfl ?_ ?_
    rotate_left
    · refine ⟨?_⟩
      go_simp
      first | done | with_reducible rfl
    refine still_at (some 1238) (v := ?_) rfl rfl ?_ ?_
    rotate_left
    · refine ⟨?_⟩
      go_simp
      first | done | with_reducible rfl
    refine still_at (some 1239) (v := ?_) rfl rfl ?_ ?_
    rotate_left
    · refine ⟨?_⟩
      go_simp
      first | done | with_reducible rfl
    refine still_at (some 1240) (v := ?_) rfl rfl ?_ ?_
    rotate_left
    · refine ⟨?_⟩
      go_simp
      first | done | with_reducible rfl
    refine still_at (some 1241) (v := ?_) rfl rfl ?_ ?_
    rotate_left
    · refine ⟨?_⟩
      go_simp
      first | done | with_reducible rfl
    refine still_at (some 1242) (v := ?_) rfl rfl ?_ ?_
    rotate_left
    · refine ⟨?_⟩
      go_simp
      first | done | with_reducible rfl
    refine still_at (some 1243) (v := ?_) rfl rfl ?_ ?_
    rotate_left
    · refine ⟨?_⟩
      go_simp
      first | done | with_reducible rfl
    refine still_at (some 1244) (v := ?_) rfl rfl ?_ ?_
    rotate_left
    · refine ⟨?_⟩
      go_simp
      first | done | with_reducible rfl
    refine still_at (some 1245) (v := ?_) rfl rfl ?_ ?_
    rotate_left
    · refine ⟨?_⟩
      go_simp
      first | done | with_reducible rfl
    refine still_at (some 1246) (v := ?_) rfl rfl ?_ ?_
    rotate_left
    · refine ⟨?_⟩
      go_simp
      first | done | with_reducible rfl
    refine still_at (some 1247) (v := ?_) rfl rfl ?_ ?_
    rotate_left
    · refine ⟨?_⟩
      go_simp
      first | done | with_reducible rfl
    refine still_at (some 105) (v := ?_) rfl rfl ?_ ?_
    rotate_left
    · refine ⟨?_⟩
      go_simp
      first | done | with_reducible rfl
    refine still_nil ?_
    clear hc0' hc1' gne geq hsz h30 h104
    rw [HA.out, HWD.out]
    clear HA HWD A wd
    simp only [Act.put, List.setIfInBounds_toArray, List.set_cons_succ, List.set_cons_zero]
    go_upto_region 314 with fail
    refine abs_frame _ (fun A hA => ?_)
    have hsz : A.tmps.size = 1540 := by rw [hA]; kernel_rfl
    have h30 : A.tmps.getD 30 undef = (.slice (some ⟨bc, 1, none⟩) n n) := by rw [hA]; rfl
    have h104 : A.tmps.getD 104 undef = .int .i64 (t : Int) := by rw [hA]; rfl
    have HA := Lib.hid hA
    clear hA
    have gne := @gd_ne
    have geq := @gd_eq
    refine region_still_all (by kernel_rfl) (by kernel_rfl) (fun wd hwd => ?_)
    have hc2' := cell_drew (w := wr.drew) hwd HC2.out
    have hc3' := cell_drew (w := wr.drew) hwd HC3.out
    have HWD := Lib.hid hwd
    clear hwd
    refine still_at (some 1248) (v := ?_) rfl rfl ?_ ?_
    rotate_left
    · refine ⟨?_⟩
      go_simp
      first | done | with_reducible rfl
    refine still_at (some 1249) (v := ?_) rfl rfl ?_ ?_
    rotate_left
    · refine ⟨?_⟩
      go_simp
      first | done | with_reducible rfl
    refine still_at (some 1250) (v := ?_) rfl rfl ?_ ?_
    rotate_left
    · refine ⟨?_⟩
      go_simp
      first | done | with_reducible rfl
    refine still_at (some 1251) (v := ?_) rfl rfl ?_ ?_
    rotate_left
    · refine ⟨?_⟩
      go_simp
      first | done | with_reducible rfl
    refine still_at (some 1252) (v := ?_) rfl rfl ?_ ?_
    rotate_left
    · refine ⟨?_⟩
      go_simp
      first | done | with_reducible rfl
    refine still_at (some 1253) (v := ?_) rfl rfl ?_ ?_
    rotate_left
    · refine ⟨?_⟩
      go_simp
      first | done | with_reducible rfl
    refine still_at (some 1254) (v := ?_) rfl rfl ?_ ?_
    rotate_left
    · refine ⟨?_⟩
      go_simp
      first | done | with_reducible rfl
    refine still_at (some 1255) (v := ?_) rfl rfl ?_ ?_
    rotate_left
    · refine ⟨?_⟩
      go_simp
      first | done | with_reducible rfl
    refine still_at (some 1256) (v := ?_) rfl rfl ?_ ?_
    rotate_left
    · refine ⟨?_⟩
      go_simp
      first | done | with_reducible rfl
    refine still_at (some 1257) (v := ?_) rfl rfl ?_ ?_
    rotate_left
    · refine ⟨?_⟩
      go_simp
      first | done | with_reducible rfl
    refine still_at (some 1258) (v := ?_) rfl rfl ?_ ?_
    rotate_left
    · refine ⟨?_⟩
      go_simp
      first | done | with_reducible rfl
    refine still_at (some 1259) (v := ?_) rfl rfl ?_ ?_
    rotate_left
    · refine ⟨?_⟩
      go_simp
      first | done | with_reducible rfl
    refine still_at (some 1260) (v := ?_) rfl rfl ?_ ?_
    rotate_left
    · refine ⟨?_⟩
      go_simp
      first | done | with_reducible rfl
    refine still_at (some 1261) (v := ?_) rfl rfl ?_ ?_
    rotate_left
    · refine ⟨?_⟩
      go_simp
      first | done | with_reducible rfl
    refine still_at (some 1262) (v := ?_) rfl rfl ?_ ?_
    rotate_left
    · refine ⟨?_⟩
      go_simp
      first | done | with_reducible rfl
    refine still_at (some 1263) (v := ?_) rfl rfl ?_ ?_
    rotate_left
    · refine ⟨?_⟩
      go_simp
      first | done | with_reducible rfl
    refine still_at (some 106) (v := ?_) rfl rfl ?_ ?_
    rotate_left
    · refine ⟨?_⟩
      go_simp
      first | done | with_reducible rfl
    refine still_nil ?_
    clear hc2' hc3' gne geq hsz h30 h104
    rw [HA.out, HWD.out]
    clear HA HWD A wd
    simp only [Act.put, List.setIfInBounds_toArray, List.set_cons_succ, List.set_cons_zero]
    have him9 := HIMW.out.chg ((Chg.refl (fun _ => False) wr).drew.drew) (fun h => h)
    have HIM9 := Lib.hid him9
    clear him9
    go_wp2_with (go_at_call 44; refine (set_NRGBA64 g bx L L S W H t y o x0 x1 x0 x1 x0 x1 x2 x3 _ (wr.drew.drew) HIM9.out HSG.out hpl HO hlt hy2 (by omega) (by omega) (by have := HS2.out; omega) ho3 (Nat.le_refl _) (by omega)).mono ?_; rintro e w' ⟨rfl, hch2, hsg2⟩)
    rw [HO4.out, ← HPX.out, put_next HOK.out] at hsg2
    go_roundw
    case rel => exact ⟨t + 1, by omega, by go_num, (HCH.out.drew.drew).trans hch2, hsg2⟩
    case measure => simp [intOf]; omega
  · obtain rfl : W = t := by omega
    go_wp2_with fail
    exact ⟨⟨rfl, rfl, rfl, rfl, rfl, rfl, rfl, rfl, rfl, rfl, rfl, rfl, rfl, rfl, rfl, rfl, rfl, rfl, rfl, rfl, rfl⟩, hch, hsg⟩
end Go.Proofs.YtkiibhpmembcgaaDoor
