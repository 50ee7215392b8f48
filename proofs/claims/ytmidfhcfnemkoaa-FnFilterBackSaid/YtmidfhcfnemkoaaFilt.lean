/- The contract of filter of the package: which filter it chooses, and what stands in the buffers. (This text is printed by wip/gen/filt.py.) -/
import Derived.Test.YtmidfhcfnemkoaaPaeth
import Derived.Test.YtmidfhcfnemkoaaFiltMath
import Derived.StillTailTactics
import Derived.Deep.DeepCutAuto
import Derived.Deep.CutBlock
namespace Go.Proofs.Ytmidfhcfnemkoaa
open Go.ChangeShapes Go.WideShapes Go.ChangeAt Go.RowKit Go.IntWalk

set_option maxRecDepth 100000 in
set_option maxHeartbeats 6400000 in
theorem filter_any (B g0 g1 g2 g3 g4 gp base n pcap step : Nat) (row above : List UInt8) (C : Nat → List UInt8) (w : World) (L : Lie g0 g1 g2 g3 g4 gp base) (H : Held5 w g0 g1 g2 g3 g4 gp n row above (C 1) (C 2) (C 3) (C 4))
    (k0 : w.cell? ⟨B, 0, none⟩ = some (.slice (some ⟨g0, 0, none⟩) (n + 1) (n + 1))) (k1 : w.cell? ⟨B, 1, none⟩ = some (.slice (some ⟨g1, 0, none⟩) (n + 1) (n + 1)))
    (k2 : w.cell? ⟨B, 2, none⟩ = some (.slice (some ⟨g2, 0, none⟩) (n + 1) (n + 1))) (k3 : w.cell? ⟨B, 3, none⟩ = some (.slice (some ⟨g3, 0, none⟩) (n + 1) (n + 1)))
    (k4 : w.cell? ⟨B, 4, none⟩ = some (.slice (some ⟨g4, 0, none⟩) (n + 1) (n + 1))) (hs1 : 1 ≤ step) (hs2 : step ≤ 8) (hn : step ≤ n) (hm : n ≤ 1000000) (hcap : n + 1 ≤ pcap) :
    Calls Try.prog 20 #[.pointer (some ⟨B, 0, none⟩), .slice (some ⟨gp, 0, none⟩) (n + 1) pcap, .int .i64 (step : Int)] w fun e w' =>
      ∃ (f best : Nat) (D : Nat → List UInt8), e = .returned (.int .i64 (f : Int)) ∧ Below base w w' ∧ Held5 w' g0 g1 g2 g3 g4 gp n row above (D 1) (D 2) (D 3) (D 4) ∧ Best (fun k => filtered k row above step) D [3, 1, 0, 4, 2] best f := by
  go_enter Try.func20, Try.ntmps20
  obtain ⟨F, hF⟩ : ∃ F, F = fun k => filtered k row above step := ⟨_, rfl⟩
  have HF := Lib.hid hF
  have HLen : Hid (∀ k, (F k).length = n) := Lib.hid (fun k => by rw [hF]; exact (filtered_length ..).trans H.l0)
  rw [← hF]
  clear hF
  have HL := Lib.hid L
  have hb : Below base w w := Below.refl _ _
  go_upto_block 0 with fail
  go_cut [14, 15] from 54 to 77 (fun s _ w' => ∃ sm : Nat, s = .int .i64 sm ∧ Hid (sm = weight (F 2)) ∧ sm ≤ 128 * n ∧ Below base w w' ∧ Held5 w' g0 g1 g2 g3 g4 gp n row above (C 1) (F 2) (C 3) (C 4))
  case first =>
    go_wp2_with fail
    go_loopw [14, 15] (fun s i wr => ∃ t sm : Nat, t ≤ n ∧ i = .int .i64 t ∧ s = .int .i64 sm ∧ Hid (sm = weight ((F 2).take t)) ∧ sm ≤ 128 * t ∧ Below base w wr ∧ Held5 wr g0 g1 g2 g3 g4 gp n row above (C 1) (mixL (fun p => decide (p < t)) (F 2) (C 2) n) (C 3) (C 4)) (fun _ i _ => n - (intOf i).toNat)
    case atStart => exact ⟨0, 0, Nat.zero_le _, rfl, rfl, Lib.hid (by simp [weight]), Nat.zero_le _, hb, by rw [mixL_none H.l2 (fun p _ => by simp)]; exact H⟩
    case round =>
      obtain ⟨t, sm, ht, rfl, rfl, hsm, hbd, hbel, HH⟩ := hrel
      by_cases hlt : t < n
      · have htn : t < n := by omega
        obtain ⟨x, HX, hx⟩ := HH.h0.at (o := 1) rfl t (by rw [HH.l0]; exact htn)
        have i0 : (0 : Int) ≤ (t : Int) := by omega
        have i1 : (t : Int) < (n : Int) := by omega
        obtain ⟨y, HY, hy⟩ := HH.hp.at t (by rw [HH.la]; exact htn)
        have ry := u8lt y
        have rx := u8lt x
        obtain ⟨d, hd, e1, rd⟩ := byte_of (k := 2) (step := step) HX.out (predZ_up HY.out)
        have HD : Hid ((F 2)[t]? = some d) := Lib.hid (by rw [HF.out]; exact hd.out)
        have hw := absB_le d
        obtain ⟨sm2, hsm2⟩ : ∃ q, q = sm + absB d := ⟨_, rfl⟩
        have HS2 : Hid (sm2 = weight ((F 2).take (t + 1))) := Lib.hid (by rw [hsm2, weight_next HD.out, ← hsm.out])
        have hbd2 : sm2 ≤ 128 * (t + 1) := by omega
        have hq : (sm : Int) + (absB d : Int) = (sm2 : Int) := by omega
        clear hsm2
        go_wp2_with fail
        go_still_tail 12, (by kernel_rfl)
        have HH' := HH.drew
        have hb' := hbel.drew
        change wpList _ _ _ _ _ wr.drew
        obtain ⟨w2, hw2⟩ : ∃ w2, w2 = wr.drew := ⟨_, rfl⟩
        rw [← hw2] at HH' hb' ⊢
        clear hw2 HH hbel hx hy
        have hfz := HH'.h2.frozen (1 + t)
        have hold := HH'.h2.cellAt (o := 1) rfl (j := t) (by rw [HH'.l2]; exact htn)
        have NX := HH'.store2 HL.out htn d
        rw [mix_next HD.out] at NX
        have hnew := NX.h2.cellAt (o := 1) rfl (j := t) (by rw [NX.l2]; exact htn)
        rw [mix_new HD.out htn] at hnew
        have NB := hb'.setCell (p := ⟨g2, 1 + t, none⟩) HL.out.b2 (.int .u8 (d.toNat : Int))
        clear HH' hb'
        go_wp2_with (go_at_call 23; refine (abs8_any d _).mono ?_; rintro e w' ⟨rfl, rfl⟩)
        go_round
        case rel => exact ⟨t + 1, sm2, by omega, by go_num, by go_num, HS2, hbd2, NB, NX⟩
        case measure => simp [intOf]; omega
      · obtain rfl : n = t := by omega
        go_wp2_with fail
        go_meet
        rw [List.take_of_length_le (Nat.le_of_eq (HLen.out 2))] at hsm
        rw [mixL_all (HLen.out 2) (fun p hp => by simp [hp])] at HH
        case rel => exact ⟨sm, rfl, hsm, hbd, hbel, HH⟩
  case rest =>
    obtain ⟨best, rfl, hsm, hbest, hb, H⟩ := hcut
    obtain ⟨C, HB, H⟩ : ∃ C, Best F C [2] best 2 ∧ Held5 wc g0 g1 g2 g3 g4 gp n row above (C 1) (C 2) (C 3) (C 4) := ⟨upd C 2 (F 2), ⟨by simp, hsm.out, fun j hj => by rw [List.mem_singleton.1 hj]; exact Nat.le_of_eq hsm.out, rfl⟩, H⟩
    have HBB := Lib.hid HB
    clear HB hsm
    obtain ⟨w1, hw1⟩ : ∃ w1, w1 = wc := ⟨_, rfl⟩
    rw [← hw1] at hb H ⊢
    clear hw1
    go_upto_block 2 with fail
    go_cut [14, 18] from 79 to 102 (fun s _ w' => ∃ sm : Nat, s = .int .i64 sm ∧ Hid (sm = weight ((F 4).take step)) ∧ sm ≤ 128 * step ∧ Below base w w' ∧ Held5 w' g0 g1 g2 g3 g4 gp n row above (C 1) (C 2) (C 3) (mixL (fun p => decide (p < step)) (F 4) (C 4) n))
    case first =>
      go_wp2_with fail
      go_loopw [14, 18] (fun s i wr => ∃ t sm : Nat, t ≤ step ∧ i = .int .i64 t ∧ s = .int .i64 sm ∧ Hid (sm = weight ((F 4).take t)) ∧ sm ≤ 128 * t ∧ Below base w wr ∧ Held5 wr g0 g1 g2 g3 g4 gp n row above (C 1) (C 2) (C 3) (mixL (fun p => decide (p < t)) (F 4) (C 4) n)) (fun _ i _ => step - (intOf i).toNat)
      case atStart => exact ⟨0, 0, Nat.zero_le _, rfl, rfl, Lib.hid (by simp [weight]), Nat.zero_le _, hb, by rw [mixL_none H.l4 (fun p _ => by simp)]; exact H⟩
      case round =>
        obtain ⟨t, sm, ht, rfl, rfl, hsm, hbd, hbel, HH⟩ := hrel
        by_cases hlt : t < step
        · have htn : t < n := by omega
          obtain ⟨x, HX, hx⟩ := HH.h0.at (o := 1) rfl t (by rw [HH.l0]; exact htn)
          have i0 : (0 : Int) ≤ (t : Int) := by omega
          have i1 : (t : Int) < (n : Int) := by omega
          obtain ⟨y, HY, hy⟩ := HH.hp.at t (by rw [HH.la]; exact htn)
          have ry := u8lt y
          have rx := u8lt x
          obtain ⟨d, hd, e1, rd⟩ := byte_of (k := 4) (step := step) HX.out ((predZ_first hlt HY.out).trans (paethI_up y))
          have HD : Hid ((F 4)[t]? = some d) := Lib.hid (by rw [HF.out]; exact hd.out)
          have hw := absB_le d
          obtain ⟨sm2, hsm2⟩ : ∃ q, q = sm + absB d := ⟨_, rfl⟩
          have HS2 : Hid (sm2 = weight ((F 4).take (t + 1))) := Lib.hid (by rw [hsm2, weight_next HD.out, ← hsm.out])
          have hbd2 : sm2 ≤ 128 * (t + 1) := by omega
          have hq : (sm : Int) + (absB d : Int) = (sm2 : Int) := by omega
          clear hsm2
          go_wp2_with fail
          go_still_tail 12, (by kernel_rfl)
          have HH' := HH.drew
          have hb' := hbel.drew
          change wpList _ _ _ _ _ wr.drew
          obtain ⟨w2, hw2⟩ : ∃ w2, w2 = wr.drew := ⟨_, rfl⟩
          rw [← hw2] at HH' hb' ⊢
          clear hw2 HH hbel hx hy
          have hfz := HH'.h4.frozen (1 + t)
          have hold := HH'.h4.cellAt (o := 1) rfl (j := t) (by rw [HH'.l4]; exact htn)
          have NX := HH'.store4 HL.out htn d
          rw [mix_next HD.out] at NX
          have hnew := NX.h4.cellAt (o := 1) rfl (j := t) (by rw [NX.l4]; exact htn)
          rw [mix_new HD.out htn] at hnew
          have NB := hb'.setCell (p := ⟨g4, 1 + t, none⟩) HL.out.b4 (.int .u8 (d.toNat : Int))
          clear HH' hb'
          go_wp2_with (go_at_call 23; refine (abs8_any d _).mono ?_; rintro e w' ⟨rfl, rfl⟩)
          go_round
          case rel => exact ⟨t + 1, sm2, by omega, by go_num, by go_num, HS2, hbd2, NB, NX⟩
          case measure => simp [intOf]; omega
        · obtain rfl : step = t := by omega
          go_wp2_with fail
          go_meet
          case rel => exact ⟨sm, rfl, hsm, hbd, hbel, HH⟩
    case rest =>
      clear hb H
      obtain ⟨sm0, rfl, hsm0, hbd0, hb, H⟩ := hcut
      go_upto_block 4 with fail
      go_cut [14, 19] from 104 to 143 (fun s _ w' => ∃ (sm : Nat) (c : List UInt8), s = .int .i64 sm ∧ (sm < best → c = F 4 ∧ sm = weight (F 4)) ∧ (best ≤ sm → best ≤ weight (F 4)) ∧ sm ≤ 128 * n ∧ Below base w w' ∧ Held5 w' g0 g1 g2 g3 g4 gp n row above (C 1) (C 2) (C 3) c)
      case first =>
        go_wp2_with fail
        go_loopw [14, 19] (fun s i wr => ∃ t sm : Nat, step ≤ t ∧ t ≤ n ∧ i = .int .i64 t ∧ s = .int .i64 sm ∧ Hid (sm = weight ((F 4).take t)) ∧ sm ≤ 128 * t ∧ Below base w wr ∧ Held5 wr g0 g1 g2 g3 g4 gp n row above (C 1) (C 2) (C 3) (mixL (fun p => decide (p < t)) (F 4) (C 4) n)) (fun _ i _ => n - (intOf i).toNat)
        case atStart => exact ⟨step, sm0, Nat.le_refl _, hn, rfl, rfl, hsm0, hbd0, hb, H⟩
        case round =>
          obtain ⟨t, sm, hlo, ht, rfl, rfl, hsm, hbd, hbel, HH⟩ := hrel
          by_cases hlt : t < n
          · have htn : t < n := by omega
            obtain ⟨x, HX, hx⟩ := HH.h0.at (o := 1) rfl t (by rw [HH.l0]; exact htn)
            have i0 : (0 : Int) ≤ (t : Int) := by omega
            have i1 : (t : Int) < (n : Int) := by omega
            obtain ⟨y, HY, hy⟩ := HH.hp.at t (by rw [HH.la]; exact htn)
            have ry := u8lt y
            obtain ⟨q, hqe⟩ : ∃ q, q = t - step := ⟨_, rfl⟩
            obtain ⟨l, HLL, hl⟩ := HH.h0.at (o := 1) rfl q (by rw [HH.l0]; omega)
            have rl := u8lt l
            obtain ⟨cc, HCC, hc⟩ := HH.hp.at q (by rw [HH.la]; omega)
            have rc := u8lt cc
            have HQ := Lib.hid hqe
            have e4 : IntKind.i64.wrap ((t : Int) - (step : Int)) = (q : Int) := by
              have := HQ.out
              rw [i64_in _ ⟨by omega, by omega⟩]; omega
            have i2 : (0 : Int) ≤ (q : Int) := by omega
            have i3 : (q : Int) < (n : Int) := by omega
            clear hqe
            have rx := u8lt x
            obtain ⟨d, hd, e1, rd⟩ := byte_of (k := 4) (step := step) HX.out ((predZ_next hlo (HQ.out ▸ HLL.out) HY.out (HQ.out ▸ HCC.out)).trans (show predI 4 (l.toNat : Int) (y.toNat : Int) (cc.toNat : Int) = paethI (l.toNat : Int) (y.toNat : Int) (cc.toNat : Int) by simp [predI]))
            have HD : Hid ((F 4)[t]? = some d) := Lib.hid (by rw [HF.out]; exact hd.out)
            have hw := absB_le d
            obtain ⟨sm2, hsm2⟩ : ∃ q, q = sm + absB d := ⟨_, rfl⟩
            have HS2 : Hid (sm2 = weight ((F 4).take (t + 1))) := Lib.hid (by rw [hsm2, weight_next HD.out, ← hsm.out])
            have hbd2 : sm2 ≤ 128 * (t + 1) := by omega
            have hq : (sm : Int) + (absB d : Int) = (sm2 : Int) := by omega
            clear hsm2
            go_wp2_with fail
            refine wp_region_still_tail 25 (by kernel_rfl) (by kernel_rfl) ?_
            simp only [List.take_succ_cons, List.take_zero, List.drop_succ_cons, List.drop_zero]
            iterate 22 still_step
            still_call ((paeth_any _ _ _ _ ⟨by omega, by omega⟩ ⟨by omega, by omega⟩ ⟨by omega, by omega⟩).mono (fun _ _ h => ⟨h.1, h.2.symm⟩))
            iterate 2 still_step
            refine wpStill_nil ?_
            have HH' := HH.drew
            have hb' := hbel.drew
            change wpList _ _ _ _ _ wr.drew
            obtain ⟨w2, hw2⟩ : ∃ w2, w2 = wr.drew := ⟨_, rfl⟩
            rw [← hw2] at HH' hb' ⊢
            clear hw2 HH hbel hx hy hl hc
            have hfz := HH'.h4.frozen (1 + t)
            have hold := HH'.h4.cellAt (o := 1) rfl (j := t) (by rw [HH'.l4]; exact htn)
            have NX := HH'.store4 HL.out htn d
            rw [mix_next HD.out] at NX
            have hnew := NX.h4.cellAt (o := 1) rfl (j := t) (by rw [NX.l4]; exact htn)
            rw [mix_new HD.out htn] at hnew
            have NB := hb'.setCell (p := ⟨g4, 1 + t, none⟩) HL.out.b4 (.int .u8 (d.toNat : Int))
            clear HH' hb'
            by_cases hge : best ≤ sm2
            · have hge' : (best : Int) ≤ (sm2 : Int) := by omega
              go_wp2_with (go_at_call 23; refine (abs8_any d _).mono ?_; rintro e w' ⟨rfl, rfl⟩)
              go_meet
              case rel => exact ⟨sm2, _, rfl, fun h => absurd h (by omega), fun _ => Nat.le_trans hge (HS2.out ▸ weight_take_le _ _), by omega, NB, NX⟩
            · have hge' : (sm2 : Int) < (best : Int) := by omega
              go_wp2_with (go_at_call 23; refine (abs8_any d _).mono ?_; rintro e w' ⟨rfl, rfl⟩)
              go_round
              case rel => exact ⟨t + 1, sm2, by omega, by omega, by go_num, by go_num, HS2, hbd2, NB, NX⟩
              case measure => simp [intOf]; omega
          · obtain rfl : n = t := by omega
            rw [List.take_of_length_le (Nat.le_of_eq (HLen.out 4))] at hsm
            rw [mixL_all (HLen.out 4) (fun p hp => by simp [hp])] at HH
            go_wp2_with fail
            go_meet
            case rel => exact ⟨sm, F 4, rfl, fun _ => ⟨rfl, hsm.out⟩, fun h => hsm.out ▸ h, hbd, hbel, HH⟩
      case rest =>
        clear hb H
        obtain ⟨sm, c, rfl, hs1', hs2', hbd, hb, H⟩ := hcut
        have HT := Lib.hid (Best.take (k := 4) HBB.out hs1')
        have HK := Lib.hid (Best.keep (k := 4) (c := c) HBB.out (by decide) hs2')
        clear hs1' hs2' HBB
        go_upto_if 146 with fail
        go_cut [16, 17] from 144 to 147 (fun bs fs w' => ∃ (bb ff : Nat) (D : Nat → List UInt8), bs = .int .i64 bb ∧ fs = .int .i64 ff ∧ bb ≤ 128 * n ∧ Hid (Best F D (4 :: [2]) bb ff) ∧ Below base w w' ∧ Held5 w' g0 g1 g2 g3 g4 gp n row above (D 1) (D 2) (D 3) (D 4))
        case first =>
          by_cases hlt : sm < best
          · have hlt' : (sm : Int) < (best : Int) := by omega
            go_wp2_with fail
            go_meet
            case rel => exact ⟨sm, 4, upd C 4 c, rfl, rfl, by omega, Lib.hid (HT.out hlt), hb, H⟩
          · have hlt' : (best : Int) ≤ (sm : Int) := by omega
            go_wp2_with fail
            go_meet
            case rel => exact ⟨best, 2, upd C 4 c, rfl, rfl, by omega, Lib.hid (HK.out (by omega)), hb, H⟩
        case rest =>
          clear hb H HT HK hbd hbest
          obtain ⟨best, ff, C, rfl, rfl, hbest, HBB, hb, H⟩ := hcut
          go_upto_block 6 with fail
          go_cut [14, 20] from 148 to 162 (fun s _ w' => ∃ (sm : Nat) (c : List UInt8), s = .int .i64 sm ∧ (sm < best → c = F 0 ∧ sm = weight (F 0)) ∧ (best ≤ sm → best ≤ weight (F 0)) ∧ sm ≤ 128 * n ∧ Below base w w' ∧ Held5 w' g0 g1 g2 g3 g4 gp n row above (C 1) (C 2) (C 3) (C 4))
          case first =>
            go_wp2_with fail
            go_loopw [14, 20] (fun s i wr => ∃ t sm : Nat, t ≤ n ∧ i = .int .i64 t ∧ s = .int .i64 sm ∧ Hid (sm = weight ((F 0).take t)) ∧ sm ≤ 128 * t ∧ Below base w wr ∧ Held5 wr g0 g1 g2 g3 g4 gp n row above (C 1) (C 2) (C 3) (C 4)) (fun _ i _ => n - (intOf i).toNat)
            case atStart => exact ⟨0, 0, Nat.zero_le _, rfl, rfl, Lib.hid (by simp [weight]), Nat.zero_le _, hb, H⟩
            case round =>
              obtain ⟨t, sm, ht, rfl, rfl, hsm, hbd, hbel, HH⟩ := hrel
              by_cases hlt : t < n
              · have htn : t < n := by omega
                obtain ⟨x, HX, hx⟩ := HH.h0.at (o := 1) rfl t (by rw [HH.l0]; exact htn)
                have i0 : (0 : Int) ≤ (t : Int) := by omega
                have i1 : (t : Int) < (n : Int) := by omega
                have rx := u8lt x
                have HD : Hid ((F 0)[t]? = some x) := Lib.hid (by rw [HF.out]; exact (congrArg (fun q : List UInt8 => q[t]?) (filtered_none row above step)).trans HX.out)
                obtain ⟨d, rfl⟩ : ∃ d, d = x := ⟨_, rfl⟩
                have hw := absB_le d
                obtain ⟨sm2, hsm2⟩ : ∃ q, q = sm + absB d := ⟨_, rfl⟩
                have HS2 : Hid (sm2 = weight ((F 0).take (t + 1))) := Lib.hid (by rw [hsm2, weight_next HD.out, ← hsm.out])
                have hbd2 : sm2 ≤ 128 * (t + 1) := by omega
                have hq : (sm : Int) + (absB d : Int) = (sm2 : Int) := by omega
                clear hsm2
                by_cases hge : best ≤ sm2
                · have hge' : (best : Int) ≤ (sm2 : Int) := by omega
                  go_wp2_with (go_at_call 23; refine (abs8_any d _).mono ?_; rintro e w' ⟨rfl, rfl⟩)
                  go_meet
                  case rel => exact ⟨sm2, F 0, rfl, fun h => absurd h (by omega), fun _ => Nat.le_trans hge (HS2.out ▸ weight_take_le _ _), by omega, hbel, HH⟩
                · have hge' : (sm2 : Int) < (best : Int) := by omega
                  go_wp2_with (go_at_call 23; refine (abs8_any d _).mono ?_; rintro e w' ⟨rfl, rfl⟩)
                  go_round
                  case rel => exact ⟨t + 1, sm2, by omega, by go_num, by go_num, HS2, hbd2, hbel, HH⟩
                  case measure => simp [intOf]; omega
              · obtain rfl : n = t := by omega
                rw [List.take_of_length_le (Nat.le_of_eq (HLen.out 0))] at hsm
                go_wp2_with fail
                go_meet
                case rel => exact ⟨sm, F 0, rfl, fun _ => ⟨rfl, hsm.out⟩, fun h => hsm.out ▸ h, hbd, hbel, HH⟩
          case rest =>
            clear hb H
            obtain ⟨sm, c, rfl, hs1', hs2', hbd, hb, H⟩ := hcut
            have HT := Lib.hid (Best.take (k := 0) HBB.out hs1')
            have HK := Lib.hid (Best.keep (k := 0) (c := c) HBB.out (by decide) hs2')
            clear hs1' hs2' HBB
            go_upto_if 165 with fail
            go_cut [16, 17] from 163 to 166 (fun bs fs w' => ∃ (bb ff : Nat) (D : Nat → List UInt8), bs = .int .i64 bb ∧ fs = .int .i64 ff ∧ bb ≤ 128 * n ∧ Hid (Best F D (0 :: [4, 2]) bb ff) ∧ Below base w w' ∧ Held5 w' g0 g1 g2 g3 g4 gp n row above (D 1) (D 2) (D 3) (D 4))
            case first =>
              by_cases hlt : sm < best
              · have hlt' : (sm : Int) < (best : Int) := by omega
                go_wp2_with fail
                go_meet
                case rel => exact ⟨sm, 0, upd C 0 c, rfl, rfl, by omega, Lib.hid (HT.out hlt), hb, H⟩
              · have hlt' : (best : Int) ≤ (sm : Int) := by omega
                go_wp2_with fail
                go_meet
                case rel => exact ⟨best, ff, upd C 0 c, rfl, rfl, by omega, Lib.hid (HK.out (by omega)), hb, H⟩
            case rest =>
              clear hb H HT HK hbd hbest
              obtain ⟨best, ff, C, rfl, rfl, hbest, HBB, hb, H⟩ := hcut
              go_upto_block 8 with fail
              go_cut [14, 21] from 167 to 185 (fun s _ w' => ∃ sm : Nat, s = .int .i64 sm ∧ Hid (sm = weight ((F 1).take step)) ∧ sm ≤ 128 * step ∧ Below base w w' ∧ Held5 w' g0 g1 g2 g3 g4 gp n row above (mixL (fun p => decide (p < step)) (F 1) (C 1) n) (C 2) (C 3) (C 4))
              case first =>
                go_wp2_with fail
                go_loopw [14, 21] (fun s i wr => ∃ t sm : Nat, t ≤ step ∧ i = .int .i64 t ∧ s = .int .i64 sm ∧ Hid (sm = weight ((F 1).take t)) ∧ sm ≤ 128 * t ∧ Below base w wr ∧ Held5 wr g0 g1 g2 g3 g4 gp n row above (mixL (fun p => decide (p < t)) (F 1) (C 1) n) (C 2) (C 3) (C 4)) (fun _ i _ => step - (intOf i).toNat)
                case atStart => exact ⟨0, 0, Nat.zero_le _, rfl, rfl, Lib.hid (by simp [weight]), Nat.zero_le _, hb, by rw [mixL_none H.l1 (fun p _ => by simp)]; exact H⟩
                case round =>
                  obtain ⟨t, sm, ht, rfl, rfl, hsm, hbd, hbel, HH⟩ := hrel
                  by_cases hlt : t < step
                  · have htn : t < n := by omega
                    obtain ⟨x, HX, hx⟩ := HH.h0.at (o := 1) rfl t (by rw [HH.l0]; exact htn)
                    have i0 : (0 : Int) ≤ (t : Int) := by omega
                    have i1 : (t : Int) < (n : Int) := by omega
                    obtain ⟨y, HY⟩ : ∃ y, above[t]? = some y := ⟨_, List.getElem?_eq_getElem (by rw [HH.la]; exact htn)⟩
                    have rx := u8lt x
                    obtain ⟨d, hd, e1, rd⟩ := byte_of (k := 1) (step := step) HX.out ((predZ_first hlt HY).trans (show predI 1 0 _ 0 = 0 by simp [predI]))
                    have HD : Hid ((F 1)[t]? = some d) := Lib.hid (by rw [HF.out]; exact hd.out)
                    rw [Int.sub_zero] at e1
                    obtain rfl : x = d := by
                      apply UInt8.toNat_inj.1
                      rw [IntKind.wrap_u8'] at e1
                      omega
                    clear e1
                    obtain ⟨d, rfl⟩ : ∃ d, d = x := ⟨_, rfl⟩
                    have hw := absB_le d
                    obtain ⟨sm2, hsm2⟩ : ∃ q, q = sm + absB d := ⟨_, rfl⟩
                    have HS2 : Hid (sm2 = weight ((F 1).take (t + 1))) := Lib.hid (by rw [hsm2, weight_next HD.out, ← hsm.out])
                    have hbd2 : sm2 ≤ 128 * (t + 1) := by omega
                    have hq : (sm : Int) + (absB d : Int) = (sm2 : Int) := by omega
                    clear hsm2
                    have HH' := HH
                    have hb' := hbel
                    clear HH hbel
                    have hfz := HH'.h1.frozen (1 + t)
                    have hold := HH'.h1.cellAt (o := 1) rfl (j := t) (by rw [HH'.l1]; exact htn)
                    have NX := HH'.store1 HL.out htn d
                    rw [mix_next HD.out] at NX
                    have hnew := NX.h1.cellAt (o := 1) rfl (j := t) (by rw [NX.l1]; exact htn)
                    rw [mix_new HD.out htn] at hnew
                    have NB := hb'.setCell (p := ⟨g1, 1 + t, none⟩) HL.out.b1 (.int .u8 (d.toNat : Int))
                    clear HH' hb'
                    go_wp2_with (go_at_call 23; refine (abs8_any d _).mono ?_; rintro e w' ⟨rfl, rfl⟩)
                    go_round
                    case rel => exact ⟨t + 1, sm2, by omega, by go_num, by go_num, HS2, hbd2, NB, NX⟩
                    case measure => simp [intOf]; omega
                  · obtain rfl : step = t := by omega
                    go_wp2_with fail
                    go_meet
                    case rel => exact ⟨sm, rfl, hsm, hbd, hbel, HH⟩
              case rest =>
                clear hb H
                obtain ⟨sm0, rfl, hsm0, hbd0, hb, H⟩ := hcut
                go_upto_block 10 with fail
                go_cut [14, 22] from 187 to 215 (fun s _ w' => ∃ (sm : Nat) (c : List UInt8), s = .int .i64 sm ∧ (sm < best → c = F 1 ∧ sm = weight (F 1)) ∧ (best ≤ sm → best ≤ weight (F 1)) ∧ sm ≤ 128 * n ∧ Below base w w' ∧ Held5 w' g0 g1 g2 g3 g4 gp n row above c (C 2) (C 3) (C 4))
                case first =>
                  go_wp2_with fail
                  go_loopw [14, 22] (fun s i wr => ∃ t sm : Nat, step ≤ t ∧ t ≤ n ∧ i = .int .i64 t ∧ s = .int .i64 sm ∧ Hid (sm = weight ((F 1).take t)) ∧ sm ≤ 128 * t ∧ Below base w wr ∧ Held5 wr g0 g1 g2 g3 g4 gp n row above (mixL (fun p => decide (p < t)) (F 1) (C 1) n) (C 2) (C 3) (C 4)) (fun _ i _ => n - (intOf i).toNat)
                  case atStart => exact ⟨step, sm0, Nat.le_refl _, hn, rfl, rfl, hsm0, hbd0, hb, H⟩
                  case round =>
                    obtain ⟨t, sm, hlo, ht, rfl, rfl, hsm, hbd, hbel, HH⟩ := hrel
                    by_cases hlt : t < n
                    · have htn : t < n := by omega
                      obtain ⟨x, HX, hx⟩ := HH.h0.at (o := 1) rfl t (by rw [HH.l0]; exact htn)
                      have i0 : (0 : Int) ≤ (t : Int) := by omega
                      have i1 : (t : Int) < (n : Int) := by omega
                      obtain ⟨y, HY⟩ : ∃ y, above[t]? = some y := ⟨_, List.getElem?_eq_getElem (by rw [HH.la]; exact htn)⟩
                      obtain ⟨q, hqe⟩ : ∃ q, q = t - step := ⟨_, rfl⟩
                      obtain ⟨l, HLL, hl⟩ := HH.h0.at (o := 1) rfl q (by rw [HH.l0]; omega)
                      have rl := u8lt l
                      obtain ⟨cc, HCC, hc⟩ := HH.hp.at q (by rw [HH.la]; omega)
                      have rc := u8lt cc
                      have HQ := Lib.hid hqe
                      have e4 : IntKind.i64.wrap ((t : Int) - (step : Int)) = (q : Int) := by
                        have := HQ.out
                        rw [i64_in _ ⟨by omega, by omega⟩]; omega
                      clear hc
                      have i2 : (0 : Int) ≤ (q : Int) := by omega
                      have i3 : (q : Int) < (n : Int) := by omega
                      clear hqe
                      have rx := u8lt x
                      obtain ⟨d, hd, e1, rd⟩ := byte_of (k := 1) (step := step) HX.out ((predZ_next hlo (HQ.out ▸ HLL.out) HY (HQ.out ▸ HCC.out)).trans (show predI 1 (l.toNat : Int) _ (cc.toNat : Int) = (l.toNat : Int) by simp [predI]))
                      have HD : Hid ((F 1)[t]? = some d) := Lib.hid (by rw [HF.out]; exact hd.out)
                      have hw := absB_le d
                      obtain ⟨sm2, hsm2⟩ : ∃ q, q = sm + absB d := ⟨_, rfl⟩
                      have HS2 : Hid (sm2 = weight ((F 1).take (t + 1))) := Lib.hid (by rw [hsm2, weight_next HD.out, ← hsm.out])
                      have hbd2 : sm2 ≤ 128 * (t + 1) := by omega
                      have hq : (sm : Int) + (absB d : Int) = (sm2 : Int) := by omega
                      clear hsm2
                      go_wp2_with fail
                      go_still_tail 14, (by kernel_rfl)
                      have HH' := HH.drew
                      have hb' := hbel.drew
                      change wpList _ _ _ _ _ wr.drew
                      obtain ⟨w2, hw2⟩ : ∃ w2, w2 = wr.drew := ⟨_, rfl⟩
                      rw [← hw2] at HH' hb' ⊢
                      clear hw2 HH hbel hx hl
                      have hfz := HH'.h1.frozen (1 + t)
                      have hold := HH'.h1.cellAt (o := 1) rfl (j := t) (by rw [HH'.l1]; exact htn)
                      have NX := HH'.store1 HL.out htn d
                      rw [mix_next HD.out] at NX
                      have hnew := NX.h1.cellAt (o := 1) rfl (j := t) (by rw [NX.l1]; exact htn)
                      rw [mix_new HD.out htn] at hnew
                      have NB := hb'.setCell (p := ⟨g1, 1 + t, none⟩) HL.out.b1 (.int .u8 (d.toNat : Int))
                      clear HH' hb'
                      by_cases hge : best ≤ sm2
                      · have hge' : (best : Int) ≤ (sm2 : Int) := by omega
                        go_wp2_with (go_at_call 23; refine (abs8_any d _).mono ?_; rintro e w' ⟨rfl, rfl⟩)
                        go_meet
                        case rel => exact ⟨sm2, _, rfl, fun h => absurd h (by omega), fun _ => Nat.le_trans hge (HS2.out ▸ weight_take_le _ _), by omega, NB, NX⟩
                      · have hge' : (sm2 : Int) < (best : Int) := by omega
                        go_wp2_with (go_at_call 23; refine (abs8_any d _).mono ?_; rintro e w' ⟨rfl, rfl⟩)
                        go_round
                        case rel => exact ⟨t + 1, sm2, by omega, by omega, by go_num, by go_num, HS2, hbd2, NB, NX⟩
                        case measure => simp [intOf]; omega
                    · obtain rfl : n = t := by omega
                      rw [List.take_of_length_le (Nat.le_of_eq (HLen.out 1))] at hsm
                      rw [mixL_all (HLen.out 1) (fun p hp => by simp [hp])] at HH
                      go_wp2_with fail
                      go_meet
                      case rel => exact ⟨sm, F 1, rfl, fun _ => ⟨rfl, hsm.out⟩, fun h => hsm.out ▸ h, hbd, hbel, HH⟩
                case rest =>
                  clear hb H
                  obtain ⟨sm, c, rfl, hs1', hs2', hbd, hb, H⟩ := hcut
                  have HT := Lib.hid (Best.take (k := 1) HBB.out hs1')
                  have HK := Lib.hid (Best.keep (k := 1) (c := c) HBB.out (by decide) hs2')
                  clear hs1' hs2' HBB
                  go_upto_if 218 with fail
                  go_cut [16, 17] from 216 to 219 (fun bs fs w' => ∃ (bb ff : Nat) (D : Nat → List UInt8), bs = .int .i64 bb ∧ fs = .int .i64 ff ∧ bb ≤ 128 * n ∧ Hid (Best F D (1 :: [0, 4, 2]) bb ff) ∧ Below base w w' ∧ Held5 w' g0 g1 g2 g3 g4 gp n row above (D 1) (D 2) (D 3) (D 4))
                  case first =>
                    by_cases hlt : sm < best
                    · have hlt' : (sm : Int) < (best : Int) := by omega
                      go_wp2_with fail
                      go_meet
                      case rel => exact ⟨sm, 1, upd C 1 c, rfl, rfl, by omega, Lib.hid (HT.out hlt), hb, H⟩
                    · have hlt' : (best : Int) ≤ (sm : Int) := by omega
                      go_wp2_with fail
                      go_meet
                      case rel => exact ⟨best, ff, upd C 1 c, rfl, rfl, by omega, Lib.hid (HK.out (by omega)), hb, H⟩
                  case rest =>
                    clear hb H HT HK hbd hbest
                    obtain ⟨best, ff, C, rfl, rfl, hbest, HBB, hb, H⟩ := hcut
                    go_upto_block 12 with fail
                    go_cut [14, 23] from 220 to 244 (fun s _ w' => ∃ sm : Nat, s = .int .i64 sm ∧ Hid (sm = weight ((F 3).take step)) ∧ sm ≤ 128 * step ∧ Below base w w' ∧ Held5 w' g0 g1 g2 g3 g4 gp n row above (C 1) (C 2) (mixL (fun p => decide (p < step)) (F 3) (C 3) n) (C 4))
                    case first =>
                      go_wp2_with fail
                      go_loopw [14, 23] (fun s i wr => ∃ t sm : Nat, t ≤ step ∧ i = .int .i64 t ∧ s = .int .i64 sm ∧ Hid (sm = weight ((F 3).take t)) ∧ sm ≤ 128 * t ∧ Below base w wr ∧ Held5 wr g0 g1 g2 g3 g4 gp n row above (C 1) (C 2) (mixL (fun p => decide (p < t)) (F 3) (C 3) n) (C 4)) (fun _ i _ => step - (intOf i).toNat)
                      case atStart => exact ⟨0, 0, Nat.zero_le _, rfl, rfl, Lib.hid (by simp [weight]), Nat.zero_le _, hb, by rw [mixL_none H.l3 (fun p _ => by simp)]; exact H⟩
                      case round =>
                        obtain ⟨t, sm, ht, rfl, rfl, hsm, hbd, hbel, HH⟩ := hrel
                        by_cases hlt : t < step
                        · have htn : t < n := by omega
                          obtain ⟨x, HX, hx⟩ := HH.h0.at (o := 1) rfl t (by rw [HH.l0]; exact htn)
                          have i0 : (0 : Int) ≤ (t : Int) := by omega
                          have i1 : (t : Int) < (n : Int) := by omega
                          obtain ⟨y, HY, hy⟩ := HH.hp.at t (by rw [HH.la]; exact htn)
                          have ry := u8lt y
                          have rx := u8lt x
                          obtain ⟨d, hd, e1, rd⟩ := byte_of (k := 3) (step := step) HX.out ((predZ_first hlt HY.out).trans (show predI 3 0 (y.toNat : Int) 0 = (y.toNat : Int) / 2 by simp [predI]))
                          have HD : Hid ((F 3)[t]? = some d) := Lib.hid (by rw [HF.out]; exact hd.out)
                          have e5 : IntKind.u8.wrap ((y.toNat : Int) / 2) = (y.toNat : Int) / 2 := u8_in _ ⟨by omega, by omega⟩
                          have hw := absB_le d
                          obtain ⟨sm2, hsm2⟩ : ∃ q, q = sm + absB d := ⟨_, rfl⟩
                          have HS2 : Hid (sm2 = weight ((F 3).take (t + 1))) := Lib.hid (by rw [hsm2, weight_next HD.out, ← hsm.out])
                          have hbd2 : sm2 ≤ 128 * (t + 1) := by omega
                          have hq : (sm : Int) + (absB d : Int) = (sm2 : Int) := by omega
                          clear hsm2
                          go_wp2_with fail
                          go_still_tail 13, (by kernel_rfl)
                          have HH' := HH.drew
                          have hb' := hbel.drew
                          change wpList _ _ _ _ _ wr.drew
                          obtain ⟨w2, hw2⟩ : ∃ w2, w2 = wr.drew := ⟨_, rfl⟩
                          rw [← hw2] at HH' hb' ⊢
                          clear hw2 HH hbel hx hy
                          have hfz := HH'.h3.frozen (1 + t)
                          have hold := HH'.h3.cellAt (o := 1) rfl (j := t) (by rw [HH'.l3]; exact htn)
                          have NX := HH'.store3 HL.out htn d
                          rw [mix_next HD.out] at NX
                          have hnew := NX.h3.cellAt (o := 1) rfl (j := t) (by rw [NX.l3]; exact htn)
                          rw [mix_new HD.out htn] at hnew
                          have NB := hb'.setCell (p := ⟨g3, 1 + t, none⟩) HL.out.b3 (.int .u8 (d.toNat : Int))
                          clear HH' hb'
                          go_wp2_with (go_at_call 23; refine (abs8_any d _).mono ?_; rintro e w' ⟨rfl, rfl⟩)
                          go_round
                          case rel => exact ⟨t + 1, sm2, by omega, by go_num, by go_num, HS2, hbd2, NB, NX⟩
                          case measure => simp [intOf]; omega
                        · obtain rfl : step = t := by omega
                          go_wp2_with fail
                          go_meet
                          case rel => exact ⟨sm, rfl, hsm, hbd, hbel, HH⟩
                    case rest =>
                      clear hb H
                      obtain ⟨sm0, rfl, hsm0, hbd0, hb, H⟩ := hcut
                      go_upto_block 14 with fail
                      go_cut [14, 24] from 246 to 283 (fun s _ w' => ∃ (sm : Nat) (c : List UInt8), s = .int .i64 sm ∧ (sm < best → c = F 3 ∧ sm = weight (F 3)) ∧ (best ≤ sm → best ≤ weight (F 3)) ∧ sm ≤ 128 * n ∧ Below base w w' ∧ Held5 w' g0 g1 g2 g3 g4 gp n row above (C 1) (C 2) c (C 4))
                      case first =>
                        go_wp2_with fail
                        go_loopw [14, 24] (fun s i wr => ∃ t sm : Nat, step ≤ t ∧ t ≤ n ∧ i = .int .i64 t ∧ s = .int .i64 sm ∧ Hid (sm = weight ((F 3).take t)) ∧ sm ≤ 128 * t ∧ Below base w wr ∧ Held5 wr g0 g1 g2 g3 g4 gp n row above (C 1) (C 2) (mixL (fun p => decide (p < t)) (F 3) (C 3) n) (C 4)) (fun _ i _ => n - (intOf i).toNat)
                        case atStart => exact ⟨step, sm0, Nat.le_refl _, hn, rfl, rfl, hsm0, hbd0, hb, H⟩
                        case round =>
                          obtain ⟨t, sm, hlo, ht, rfl, rfl, hsm, hbd, hbel, HH⟩ := hrel
                          by_cases hlt : t < n
                          · have htn : t < n := by omega
                            obtain ⟨x, HX, hx⟩ := HH.h0.at (o := 1) rfl t (by rw [HH.l0]; exact htn)
                            have i0 : (0 : Int) ≤ (t : Int) := by omega
                            have i1 : (t : Int) < (n : Int) := by omega
                            obtain ⟨y, HY, hy⟩ := HH.hp.at t (by rw [HH.la]; exact htn)
                            have ry := u8lt y
                            obtain ⟨q, hqe⟩ : ∃ q, q = t - step := ⟨_, rfl⟩
                            obtain ⟨l, HLL, hl⟩ := HH.h0.at (o := 1) rfl q (by rw [HH.l0]; omega)
                            have rl := u8lt l
                            obtain ⟨cc, HCC, hc⟩ := HH.hp.at q (by rw [HH.la]; omega)
                            have rc := u8lt cc
                            have HQ := Lib.hid hqe
                            have e4 : IntKind.i64.wrap ((t : Int) - (step : Int)) = (q : Int) := by
                              have := HQ.out
                              rw [i64_in _ ⟨by omega, by omega⟩]; omega
                            clear hc
                            have i2 : (0 : Int) ≤ (q : Int) := by omega
                            have i3 : (q : Int) < (n : Int) := by omega
                            clear hqe
                            have rx := u8lt x
                            obtain ⟨d, hd, e1, rd⟩ := byte_of (k := 3) (step := step) HX.out ((predZ_next hlo (HQ.out ▸ HLL.out) HY.out (HQ.out ▸ HCC.out)).trans (show predI 3 (l.toNat : Int) (y.toNat : Int) (cc.toNat : Int) = ((l.toNat : Int) + (y.toNat : Int)) / 2 by simp [predI]))
                            have HD : Hid ((F 3)[t]? = some d) := Lib.hid (by rw [HF.out]; exact hd.out)
                            have e5 : IntKind.i64.wrap (l.toNat : Int) = (l.toNat : Int) := i64_in _ ⟨by omega, by omega⟩
                            have e6 : IntKind.i64.wrap (y.toNat : Int) = (y.toNat : Int) := i64_in _ ⟨by omega, by omega⟩
                            have e7 : IntKind.i64.wrap ((l.toNat : Int) + (y.toNat : Int)) = (l.toNat : Int) + (y.toNat : Int) := i64_in _ ⟨by omega, by omega⟩
                            have e8 : IntKind.i64.wrap (((l.toNat : Int) + (y.toNat : Int)).tdiv 2) = ((l.toNat : Int) + (y.toNat : Int)) / 2 := by
                              rw [Int.tdiv_eq_ediv_of_nonneg (by omega)]
                              exact i64_in _ ⟨by omega, by omega⟩
                            have e9 : IntKind.u8.wrap (((l.toNat : Int) + (y.toNat : Int)) / 2) = ((l.toNat : Int) + (y.toNat : Int)) / 2 := u8_in _ ⟨by omega, by omega⟩
                            have hw := absB_le d
                            obtain ⟨sm2, hsm2⟩ : ∃ q, q = sm + absB d := ⟨_, rfl⟩
                            have HS2 : Hid (sm2 = weight ((F 3).take (t + 1))) := Lib.hid (by rw [hsm2, weight_next HD.out, ← hsm.out])
                            have hbd2 : sm2 ≤ 128 * (t + 1) := by omega
                            have hq : (sm : Int) + (absB d : Int) = (sm2 : Int) := by omega
                            clear hsm2
                            go_wp2_with fail
                            go_still_tail 23, (by kernel_rfl)
                            have HH' := HH.drew
                            have hb' := hbel.drew
                            change wpList _ _ _ _ _ wr.drew
                            obtain ⟨w2, hw2⟩ : ∃ w2, w2 = wr.drew := ⟨_, rfl⟩
                            rw [← hw2] at HH' hb' ⊢
                            clear hw2 HH hbel hx hy hl
                            have hfz := HH'.h3.frozen (1 + t)
                            have hold := HH'.h3.cellAt (o := 1) rfl (j := t) (by rw [HH'.l3]; exact htn)
                            have NX := HH'.store3 HL.out htn d
                            rw [mix_next HD.out] at NX
                            have hnew := NX.h3.cellAt (o := 1) rfl (j := t) (by rw [NX.l3]; exact htn)
                            rw [mix_new HD.out htn] at hnew
                            have NB := hb'.setCell (p := ⟨g3, 1 + t, none⟩) HL.out.b3 (.int .u8 (d.toNat : Int))
                            clear HH' hb'
                            by_cases hge : best ≤ sm2
                            · have hge' : (best : Int) ≤ (sm2 : Int) := by omega
                              go_wp2_with (go_at_call 23; refine (abs8_any d _).mono ?_; rintro e w' ⟨rfl, rfl⟩)
                              go_meet
                              case rel => exact ⟨sm2, _, rfl, fun h => absurd h (by omega), fun _ => Nat.le_trans hge (HS2.out ▸ weight_take_le _ _), by omega, NB, NX⟩
                            · have hge' : (sm2 : Int) < (best : Int) := by omega
                              go_wp2_with (go_at_call 23; refine (abs8_any d _).mono ?_; rintro e w' ⟨rfl, rfl⟩)
                              go_round
                              case rel => exact ⟨t + 1, sm2, by omega, by omega, by go_num, by go_num, HS2, hbd2, NB, NX⟩
                              case measure => simp [intOf]; omega
                          · obtain rfl : n = t := by omega
                            rw [List.take_of_length_le (Nat.le_of_eq (HLen.out 3))] at hsm
                            rw [mixL_all (HLen.out 3) (fun p hp => by simp [hp])] at HH
                            go_wp2_with fail
                            go_meet
                            case rel => exact ⟨sm, F 3, rfl, fun _ => ⟨rfl, hsm.out⟩, fun h => hsm.out ▸ h, hbd, hbel, HH⟩
                      case rest =>
                        clear hb H
                        obtain ⟨sm, c, rfl, hs1', hs2', hbd, hb, H⟩ := hcut
                        have HT := Lib.hid (Best.take (k := 3) HBB.out hs1')
                        have HK := Lib.hid (Best.keep (k := 3) (c := c) HBB.out (by decide) hs2')
                        clear hs1' hs2' HBB
                        go_upto_if 286 with fail
                        go_cut [17] from 284 to 286 (fun fs w' => ∃ (bb ff : Nat) (D : Nat → List UInt8), fs = .int .i64 ff ∧ Hid (Best F D (3 :: [1, 0, 4, 2]) bb ff) ∧ Below base w w' ∧ Held5 w' g0 g1 g2 g3 g4 gp n row above (D 1) (D 2) (D 3) (D 4))
                        case first =>
                          by_cases hlt : sm < best
                          · have hlt' : (sm : Int) < (best : Int) := by omega
                            go_wp2_with fail
                            go_meet
                            case rel => exact ⟨sm, 3, upd C 3 c, rfl, Lib.hid (HT.out hlt), hb, H⟩
                          · have hlt' : (best : Int) ≤ (sm : Int) := by omega
                            go_wp2_with fail
                            go_meet
                            case rel => exact ⟨best, ff, upd C 3 c, rfl, Lib.hid (HK.out (by omega)), hb, H⟩
                        case rest =>
                          clear hb H HT HK hbd hbest
                          obtain ⟨best, ff, C, rfl, HBB, hb, H⟩ := hcut
                          go_wp2_with fail
                          go_ret
                          exact ⟨ff, best, C, rfl, hb, H, HBB.out⟩
end Go.Proofs.Ytmidfhcfnemkoaa
