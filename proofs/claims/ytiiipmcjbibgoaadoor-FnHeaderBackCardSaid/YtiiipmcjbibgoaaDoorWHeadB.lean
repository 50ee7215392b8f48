/- The walk through the law FnHeaderBack. -/
import Derived.Test.YtiiipmcjbibgoaaDoorWHead
import Derived.Outline
namespace Go.Proofs.YtiiipmcjbibgoaaDoor
open Go.ChangeShapes Go.WideShapes Go.ChangeAt Go.RowKit Go.IntWalk

theorem kinds_cb {k : Nat} (h : wKind k) : cbOf (UInt8.ofNat (kDp k)).toNat (UInt8.ofNat (kCt k)).toNat ≠ 0 := by
  rcases h with rfl | rfl | rfl | rfl | rfl | rfl | rfl | rfl | rfl | rfl
  all_goals decide

set_option maxHeartbeats 6400000 in
set_option maxRecDepth 100000 in
theorem headBackLaw (kn wide high : Nat) (hkn : kn ≤ 255) (hwd : wide < 4294967296) (hht : high < 4294967296) (w : World) (htab : Tab w) :
    Calls Tryd.prog 12 #[.int .u8 (kn : Int), .int .u32 (wide : Int), .int .u32 (high : Int)] w (TrueEnd w) := by
  obtain ⟨j, hj⟩ : ∃ j, j = kn % 10 := ⟨_, rfl⟩
  have hj10 : j < 10 := by omega
  have ej : (kn : Int).tmod 10 = (j : Int) := by rw [Int.tmod_eq_emod_of_nonneg (by omega)]; omega
  have ej2 : (kn : Int) % 10 = (j : Int) := by omega
  obtain ⟨nn, hnn⟩ : ∃ nn, nn = hN j := ⟨_, rfl⟩
  obtain ⟨k, hk, hsum, hrk, hdd, hcc⟩ := kinds_w hj10
  rw [← hnn] at hsum
  have HNN := Lib.hid hnn
  clear hj hnn hkn
  go_enter Tryd.func12, Tryd.ntmps12
  go_upto_region 1 with fail
  go_cut [7] from 16 to 20 (fun v wx => v = .int .i64 (nn : Int) ∧ Below w.heap.size w wx)
  case first =>
    clear hk hsum hrk hdd hcc
    obtain rfl | rfl | rfl | rfl | rfl | rfl | rfl | rfl | rfl | rfl := lt10 hj10
    all_goals
      go_wp2_with fail
      go_meet
      case rel => exact ⟨by rw [HNN.out]; rfl, (Below.refl _ _).alloc (Nat.le_refl _) _⟩
  case rest =>
    obtain ⟨rfl, hbc⟩ := hcut
    obtain ⟨w0, rfl⟩ : ∃ q, q = wc := ⟨_, rfl⟩
    have HB0 := Lib.hid hbc
    have ht0 := htab.below hbc
    clear ej ej2 hj10 hbc htab HNN
    by_cases hbad : wide = 0 ∨ 33554432 ≤ wide ∨ high = 0 ∨ 33554432 ≤ high
    · have hcase : ((wide : Int) == 0) = true ∨
          (((wide : Int) == 0) = false ∧ decide ((33554432 : Int) ≤ (wide : Int)) = true) ∨
          (((wide : Int) == 0) = false ∧ decide ((33554432 : Int) ≤ (wide : Int)) = false ∧ ((high : Int) == 0) = true) ∨
          (((wide : Int) == 0) = false ∧ decide ((33554432 : Int) ≤ (wide : Int)) = false ∧ ((high : Int) == 0) = false ∧ decide ((33554432 : Int) ≤ (high : Int)) = true) := by
        by_cases h1 : wide = 0
        · exact .inl (by rw [h1]; rfl)
        by_cases h2 : 33554432 ≤ wide
        · exact .inr (.inl ⟨by simp; omega, decide_eq_true (by omega)⟩)
        by_cases h3 : high = 0
        · exact .inr (.inr (.inl ⟨by simp; omega, decide_eq_false (by omega), by rw [h3]; rfl⟩))
        · exact .inr (.inr (.inr ⟨by simp; omega, decide_eq_false (by omega), by simp; omega, decide_eq_true (by omega)⟩))
      clear hbad hwd hht hk hsum hrk hdd hcc
      rcases hcase with q1 | ⟨q1, q2⟩ | ⟨q1, q2, q3⟩ | ⟨q1, q2, q3, q4⟩
      all_goals
        go_wp2_with fail
        go_ret
        exact ⟨rfl, HB0.out⟩
    have q1 : ((wide : Int) == 0) = false := by simp; omega
    have q2 : decide ((33554432 : Int) ≤ (wide : Int)) = false := decide_eq_false (by omega)
    have q3 : ((high : Int) == 0) = false := by simp; omega
    have q4 : decide ((33554432 : Int) ≤ (high : Int)) = false := decide_eq_false (by omega)
    have hw31 : wide < 33554432 := by omega
    have hh31 : high < 33554432 := by omega
    have y1 : IntKind.i64.wrap (wide : Int) = (wide : Int) := i64_in _ ⟨by omega, by omega⟩
    have y2 : IntKind.i64.wrap (high : Int) = (high : Int) := i64_in _ ⟨by omega, by omega⟩
    obtain ⟨cc, hcq⟩ : ∃ cc, cc = UInt8.ofNat (kCt k) := ⟨_, rfl⟩
    obtain ⟨dd, hdq⟩ : ∃ dd, dd = UInt8.ofNat (kDp k) := ⟨_, rfl⟩
    rw [← hcq, ← hdq] at hsum hrk
    rw [← hdq] at hdd
    rw [← hcq] at hcc
    obtain ⟨c, hc⟩ : ∃ c, c = cc.toNat := ⟨_, rfl⟩
    obtain ⟨d, hd⟩ : ∃ d, d = dd.toNat := ⟨_, rfl⟩
    rw [← hc, ← hd] at hsum hrk
    rw [← hd] at hdd
    rw [← hc] at hcc
    have e1 : (nn : Int).tdiv 100 = (c : Int) := by rw [Int.tdiv_eq_ediv_of_nonneg (by omega)]; omega
    have e2 : (nn : Int).tmod 100 = (d : Int) := by rw [Int.tmod_eq_emod_of_nonneg (by omega)]; omega
    have e3 : (nn : Int) / 100 = (c : Int) := by omega
    have e4 : (nn : Int) % 100 = (d : Int) := by omega
    have e5 : IntKind.i64.wrap (c : Int) = (c : Int) := i64_in _ ⟨by omega, by omega⟩
    have e6 : IntKind.i64.wrap (d : Int) = (d : Int) := i64_in _ ⟨by omega, by omega⟩
    have e7 : IntKind.u8.wrap (c : Int) = (c : Int) := by rw [IntKind.wrap_u8]; omega
    have e8 : IntKind.u8.wrap (d : Int) = (d : Int) := by rw [IntKind.wrap_u8]; omega
    have HRK := Lib.hid hrk
    have HC := Lib.hid hc
    have HD := Lib.hid hd
    have HCQ := Lib.hid hcq
    have HDQ := Lib.hid hdq
    have HCD := Lib.hid (And.intro hcc hdd)
    have HWH := Lib.hid (And.intro hw31 hh31)
    have HK := Lib.hid hk
    have hcb := kinds_cb hk
    rw [← hcq, ← hdq, ← hc, ← hd] at hcb
    have HCB := Lib.hid hcb
    have HPOS := Lib.hid (show 0 < wide ∧ 0 < high from ⟨by omega, by omega⟩)
    clear hbad hsum hrk hc hd hcq hdq hcc hdd hw31 hh31 hk hwd hht hcb
    go_wp2_with fail
    refine (implHeader_any c d k wide high w0 (by have := HCD.out; omega) (by have := HCD.out; omega) HRK HK.out (by have := HWH.out.1; omega) (by have := HWH.out.2; omega) ht0).mono ?_
    rintro e w1 ⟨v1, rfl, ho1, hb1⟩
    rw [← HCQ.out, ← HDQ.out] at ho1
    obtain ⟨a1, n1, c1, rfl, hm1, hr1, hle1, hmx1, -, -⟩ := ho1.shapeN
    obtain rfl : n1 = 25 := hm1.out.symm.trans (chunk_length _ _ rfl)
    obtain ⟨g1, o1, rfl, -⟩ := id (hr1 (by intro e; have := hm1.out; rw [e] at this; simp at this))
    unfold maxLen at hmx1
    have z1 : (25 : Int) ≤ (c1 : Int) := by omega
    have z2 : (8 : Int) ≤ (c1 : Int) := by omega
    have z3 : ¬ c1 = 8 := by omega
    have HB1 : Hid (Below w.heap.size w w1) := Lib.hid (HB0.out.trans (hb1.mono HB0.out.size))
    have ht1 := ht0.below hb1
    obtain ⟨l, hl⟩ : ∃ l, l = headBytes wide high dd cc 0 0 0 ++ four (crcOf (ihdrName ++ headBytes wide high dd cc 0 0 0)) := ⟨_, rfl⟩
    have hr2 : RB w1 (some ⟨g1, o1 + 8, none⟩) l := by
      have := hr1.drop 8
      rw [hl]
      exact this
    obtain ⟨f1, f2, f3, f4, f5, f6, f7, f8, f9⟩ := goodH_iff wide high (by have := HWH.out; omega) (by have := HWH.out; omega) dd cc 0 0 0 l hl
    have hbig : Hid (0 < be4 l → 0 < be4 (l.drop 4) → be4 l * be4 (l.drop 4) ≤ 1125899906842624) := Lib.hid (fun _ _ => by
      rw [f1, f2]
      have := HWH.out
      calc wide * high ≤ 33554432 * 33554432 := Nat.mul_le_mul (by omega) (by omega)
        _ ≤ 1125899906842624 := by decide)
    have good : Hid (GoodH l (crcOf ihdrName)) := Lib.hid (by
      have := HWH.out
      have := HPOS.out
      refine ⟨by rw [f5]; rfl, by rw [f6]; rfl, by rw [f7]; decide, by omega, by omega, by omega, by omega, ?_, f9⟩
      rw [f3, f4, ← HC.out, ← HD.out]
      exact HCB.out)
    have HF : Hid (be4 l = wide ∧ be4 (l.drop 4) = high ∧ l.getD 8 0 = dd ∧ l.getD 9 0 = cc ∧ l.getD 12 0 = 0) := Lib.hid ⟨f1, f2, f3, f4, f7⟩
    have hl17 : Hid (l.length = 17) := Lib.hid f8
    clear ho1 hb1 ht0 q1 q2 q3 q4 hl f1 f2 f3 f4 f5 f6 f7 f8 f9 hr1
    go_wp2_with fail
    refine (implReadHeader_any (some ⟨g1, o1 + 8, none⟩) _ l w1 hl17 hr2 ht1 hbig).mono ?_
    rintro e w2 ⟨hb2, (⟨-, rfl⟩ | ⟨hn, -⟩)⟩
    · obtain ⟨f1, f2, f3, f4, f7⟩ := HF.out
      rw [f1, f2, f3, f4, f7, ← HC.out, ← HD.out]
      have HB2 : Hid (Below w.heap.size w w2) := Lib.hid (HB1.out.trans (hb2.mono HB1.out.size))
      have hz : (((0 : UInt8).toNat : Nat) : Int) = 0 := rfl
      rw [hz]
      clear hb2 f1 f2 f3 f4 f7 hz
      go_wp2_with fail
      go_ret
      exact ⟨by simp, HB2.out⟩
    · exact absurd good.out hn
end Go.Proofs.YtiiipmcjbibgoaaDoor
