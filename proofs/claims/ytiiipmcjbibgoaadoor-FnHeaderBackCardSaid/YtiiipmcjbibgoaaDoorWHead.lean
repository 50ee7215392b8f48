/- The walk through the law FnHeader. -/
import Derived.Test.YtiiipmcjbibgoaaDoorZHead
import Derived.Test.YtiiipmcjbibgoaaDoorWChunk
namespace Go.Proofs.YtiiipmcjbibgoaaDoor
open Go.ChangeShapes Go.WideShapes Go.ChangeAt Go.RowKit Go.IntWalk

/-- The kinds that the law picks: a hundred times the colour type, and the bits. -/
def hN (j : Nat) : Nat := [8, 16, 208, 216, 608, 616, 301, 302, 304, 308].getD j 0
theorem lt10 {k : Nat} (h : k < 10) : k = 0 ∨ k = 1 ∨ k = 2 ∨ k = 3 ∨ k = 4 ∨ k = 5 ∨ k = 6 ∨ k = 7 ∨ k = 8 ∨ k = 9 := by omega
theorem kinds_w {j : Nat} (h : j < 10) : ∃ k, wKind k ∧ hN j = 100 * (UInt8.ofNat (kCt k)).toNat + (UInt8.ofNat (kDp k)).toNat ∧ rk (100 * (UInt8.ofNat (kCt k)).toNat + (UInt8.ofNat (kDp k)).toNat) = k ∧ (UInt8.ofNat (kDp k)).toNat ≤ 16 ∧ (UInt8.ofNat (kCt k)).toNat ≤ 6 := by
  obtain rfl | rfl | rfl | rfl | rfl | rfl | rfl | rfl | rfl | rfl := lt10 h
  · exact ⟨4, by unfold wKind; decide, by decide, by decide, by decide, by decide⟩
  · exact ⟨12, by unfold wKind; decide, by decide, by decide, by decide, by decide⟩
  · exact ⟨6, by unfold wKind; decide, by decide, by decide, by decide, by decide⟩
  · exact ⟨14, by unfold wKind; decide, by decide, by decide, by decide, by decide⟩
  · exact ⟨11, by unfold wKind; decide, by decide, by decide, by decide, by decide⟩
  · exact ⟨15, by unfold wKind; decide, by decide, by decide, by decide, by decide⟩
  · exact ⟨7, by unfold wKind; decide, by decide, by decide, by decide, by decide⟩
  · exact ⟨8, by unfold wKind; decide, by decide, by decide, by decide, by decide⟩
  · exact ⟨9, by unfold wKind; decide, by decide, by decide, by decide, by decide⟩
  · exact ⟨10, by unfold wKind; decide, by decide, by decide, by decide, by decide⟩

set_option maxHeartbeats 6400000 in
set_option maxRecDepth 100000 in
theorem headLaw (kn wide high : Nat) (hkn : kn ≤ 255) (hwd : wide < 4294967296) (hht : high < 4294967296) (w : World) (htab : Tab w) :
    Calls Tryd.prog 11 #[.int .u8 (kn : Int), .int .u32 (wide : Int), .int .u32 (high : Int)] w (TrueEnd w) := by
  obtain ⟨j, hj⟩ : ∃ j, j = kn % 10 := ⟨_, rfl⟩
  have hj10 : j < 10 := by omega
  have ej : (kn : Int).tmod 10 = (j : Int) := by rw [Int.tmod_eq_emod_of_nonneg (by omega)]; omega
  have ej2 : (kn : Int) % 10 = (j : Int) := by omega
  obtain ⟨nn, hnn⟩ : ∃ nn, nn = hN j := ⟨_, rfl⟩
  obtain ⟨k, hk, hsum, hrk, hdd, hcc⟩ := kinds_w hj10
  rw [← hnn] at hsum
  have HNN := Lib.hid hnn
  clear hj hnn hkn
  go_enter Tryd.func11, Tryd.ntmps11
  go_upto_region 1 with fail
  go_cut [7] from 10 to 14 (fun v wx => v = .int .i64 (nn : Int) ∧ Below w.heap.size w wx)
  case first =>
    clear hk hsum hrk hdd hcc
    obtain rfl | rfl | rfl | rfl | rfl | rfl | rfl | rfl | rfl | rfl := lt10 hj10
    all_goals
      go_wp2_with fail
      go_meet
      case rel => exact ⟨by rw [HNN.out]; rfl, (Below.refl _ _).alloc (Nat.le_refl _) _⟩
  case rest =>
    obtain ⟨rfl, hbc⟩ := hcut
    obtain ⟨w0, rfl⟩ : ∃ q, q = wc := ⟨_, rfl⟩
    have HB0 := Lib.hid hbc
    have ht0 := htab.below hbc
    clear ej ej2 hj10 hbc htab HNN
    by_cases hbad : wide = 0 ∨ 2147483648 ≤ wide ∨ high = 0 ∨ 2147483648 ≤ high
    · have hcase : ((wide : Int) == 0) = true ∨
          (((wide : Int) == 0) = false ∧ decide ((2147483648 : Int) ≤ (wide : Int)) = true) ∨
          (((wide : Int) == 0) = false ∧ decide ((2147483648 : Int) ≤ (wide : Int)) = false ∧ ((high : Int) == 0) = true) ∨
          (((wide : Int) == 0) = false ∧ decide ((2147483648 : Int) ≤ (wide : Int)) = false ∧ ((high : Int) == 0) = false ∧ decide ((2147483648 : Int) ≤ (high : Int)) = true) := by
        by_cases h1 : wide = 0
        · exact .inl (by rw [h1]; rfl)
        by_cases h2 : 2147483648 ≤ wide
        · exact .inr (.inl ⟨by simp; omega, decide_eq_true (by omega)⟩)
        by_cases h3 : high = 0
        · exact .inr (.inr (.inl ⟨by simp; omega, decide_eq_false (by omega), by rw [h3]; rfl⟩))
        · exact .inr (.inr (.inr ⟨by simp; omega, decide_eq_false (by omega), by simp; omega, decide_eq_true (by omega)⟩))
      clear hbad hwd hht hk hsum hrk hdd hcc
      rcases hcase with q1 | ⟨q1, q2⟩ | ⟨q1, q2, q3⟩ | ⟨q1, q2, q3, q4⟩
      all_goals
        go_wp2_with fail
        go_ret
        exact ⟨rfl, HB0.out⟩
    have q1 : ((wide : Int) == 0) = false := by simp; omega
    have q2 : decide ((2147483648 : Int) ≤ (wide : Int)) = false := decide_eq_false (by omega)
    have q3 : ((high : Int) == 0) = false := by simp; omega
    have q4 : decide ((2147483648 : Int) ≤ (high : Int)) = false := decide_eq_false (by omega)
    have hw31 : wide < 2147483648 := by omega
    have hh31 : high < 2147483648 := by omega
    have y1 : IntKind.i64.wrap (wide : Int) = (wide : Int) := i64_in _ ⟨by omega, by omega⟩
    have y2 : IntKind.i64.wrap (high : Int) = (high : Int) := i64_in _ ⟨by omega, by omega⟩
    obtain ⟨cc, hcq⟩ : ∃ cc, cc = UInt8.ofNat (kCt k) := ⟨_, rfl⟩
    obtain ⟨dd, hdq⟩ : ∃ dd, dd = UInt8.ofNat (kDp k) := ⟨_, rfl⟩
    rw [← hcq, ← hdq] at hsum hrk
    rw [← hdq] at hdd
    rw [← hcq] at hcc
    obtain ⟨c, hc⟩ : ∃ c, c = cc.toNat := ⟨_, rfl⟩
    obtain ⟨d, hd⟩ : ∃ d, d = dd.toNat := ⟨_, rfl⟩
    rw [← hc, ← hd] at hsum hrk
    rw [← hd] at hdd
    rw [← hc] at hcc
    have e1 : (nn : Int).tdiv 100 = (c : Int) := by rw [Int.tdiv_eq_ediv_of_nonneg (by omega)]; omega
    have e2 : (nn : Int).tmod 100 = (d : Int) := by rw [Int.tmod_eq_emod_of_nonneg (by omega)]; omega
    have e3 : (nn : Int) / 100 = (c : Int) := by omega
    have e4 : (nn : Int) % 100 = (d : Int) := by omega
    have e5 : IntKind.i64.wrap (c : Int) = (c : Int) := i64_in _ ⟨by omega, by omega⟩
    have e6 : IntKind.i64.wrap (d : Int) = (d : Int) := i64_in _ ⟨by omega, by omega⟩
    have e7 : IntKind.u8.wrap (c : Int) = (c : Int) := by rw [IntKind.wrap_u8]; omega
    have e8 : IntKind.u8.wrap (d : Int) = (d : Int) := by rw [IntKind.wrap_u8]; omega
    have HRK := Lib.hid hrk
    have HC := Lib.hid hc
    have HD := Lib.hid hd
    have HCQ := Lib.hid hcq
    have HDQ := Lib.hid hdq
    have HCD := Lib.hid (And.intro hcc hdd)
    have HWH := Lib.hid (And.intro hw31 hh31)
    have HK := Lib.hid hk
    clear hbad hsum hrk hc hd hcq hdq hcc hdd hw31 hh31 hk hwd hht
    go_wp2_with (go_at_call 24; refine (implHeader_any c d k wide high w0 (by have := HCD.out; omega) (by have := HCD.out; omega) HRK HK.out HWH.out.1 HWH.out.2 ht0).mono ?_; rintro e w1 ⟨v1, rfl, ho1, hb1⟩; rw [← HCQ.out, ← HDQ.out] at ho1)
    obtain ⟨a1, n1, c1, rfl, hm1, hr1, -, -, -, -⟩ := ho1.shapeN
    have HB1 : Hid (Below w.heap.size w w1) := Lib.hid (HB0.out.trans (hb1.mono HB0.out.size))
    obtain ⟨ch, hch⟩ : ∃ ch, ch = chunk ihdrName (headBytes wide high dd cc 0 0 0) := ⟨_, rfl⟩
    rw [← hch] at hm1 hr1
    have HCH := Lib.hid hch
    clear ho1 hb1 ht0 q1 q2 q3 q4 hch
    have rd1 : RB w1.drew a1 ch := hr1
    have cv1 := conv_bytes (cap := c1) rd1 hm1
    refine wp_region_held_drew (S := fun w' => (convert 22 9 (.slice a1 n1 c1)).run Tryd.prog w' = .ok (.string (strOf ch)) w') (by kernel_rfl) cv1 (fun hHeld => ?_)
    refine take_at 0 (some 41) (v := ?_) rfl rfl (by kernel_rfl) (by kernel_rfl) (by kernel_rfl) (fun _ _ _ h => h) (Or.inl ⟨by rfl, ?_⟩) (by assumption) ?_
    rotate_left
    · intro w hSw
      (try dsimp only at hSw)
      go_simp
      first | done | with_reducible rfl
    simp only [Act.put, List.setIfInBounds_toArray, List.set_cons_succ, List.set_cons_zero]
    refine take_at 1 (some 42) (v := ?_) rfl rfl (by kernel_rfl) (by kernel_rfl) (by kernel_rfl) (fun _ _ _ h => h) (Or.inl ⟨by rfl, ?_⟩) (by assumption) ?_
    rotate_left
    · intro w hSw
      (try dsimp only at hSw)
      go_simp
      first | done | with_reducible rfl
    simp only [Act.put, List.setIfInBounds_toArray, List.set_cons_succ, List.set_cons_zero]
    refine take_at 2 (some 43) (v := ?_) rfl rfl (by kernel_rfl) (by kernel_rfl) (by kernel_rfl) (fun _ _ _ h => h) (Or.inl ⟨by rfl, ?_⟩) (by assumption) ?_
    rotate_left
    · intro w hSw
      (try dsimp only at hSw)
      go_simp
      first | done | with_reducible rfl
    simp only [Act.put, List.setIfInBounds_toArray, List.set_cons_succ, List.set_cons_zero]
    refine take_at 3 (some 44) (v := ?_) rfl rfl (by kernel_rfl) (by kernel_rfl) (by kernel_rfl) (fun _ _ _ h => h) (Or.inl ⟨by rfl, ?_⟩) (by assumption) ?_
    rotate_left
    · intro w hSw
      (try dsimp only at hSw)
      go_simp
      first | done | with_reducible rfl
    simp only [Act.put, List.setIfInBounds_toArray, List.set_cons_succ, List.set_cons_zero]
    refine take_at 4 (some 45) (v := ?_) rfl rfl (by kernel_rfl) (by kernel_rfl) (by kernel_rfl) (fun _ _ _ h => h) (Or.inl ⟨by rfl, ?_⟩) (by assumption) ?_
    rotate_left
    · intro w hSw
      (try dsimp only at hSw)
      go_simp
      first | done | with_reducible rfl
    simp only [Act.put, List.setIfInBounds_toArray, List.set_cons_succ, List.set_cons_zero]
    refine take_at 5 (some 46) (v := ?_) rfl rfl (by kernel_rfl) (by kernel_rfl) (by kernel_rfl) (fun _ _ _ h => h) (Or.inl ⟨by rfl, ?_⟩) (by assumption) ?_
    rotate_left
    · intro w hSw
      (try dsimp only at hSw)
      go_simp
      first | done | with_reducible rfl
    simp only [Act.put, List.setIfInBounds_toArray, List.set_cons_succ, List.set_cons_zero]
    refine take_at 6 (some 47) (v := ?_) rfl rfl (by kernel_rfl) (by kernel_rfl) (by kernel_rfl) (fun _ _ _ h => h) (Or.inl ⟨by rfl, ?_⟩) (by assumption) ?_
    rotate_left
    · intro w hSw
      (try dsimp only at hSw)
      go_simp
      first | done | with_reducible rfl
    simp only [Act.put, List.setIfInBounds_toArray, List.set_cons_succ, List.set_cons_zero]
    refine take_at 7 (some 48) (v := ?_) rfl rfl (by kernel_rfl) (by kernel_rfl) (by kernel_rfl) (fun _ _ _ h => h) (Or.inl ⟨by rfl, ?_⟩) (by assumption) ?_
    rotate_left
    · intro w hSw
      (try dsimp only at hSw)
      go_simp
      first | done | with_reducible rfl
    simp only [Act.put, List.setIfInBounds_toArray, List.set_cons_succ, List.set_cons_zero]
    refine take_at 8 (some 49) (v := ?_) rfl rfl (by kernel_rfl) (by kernel_rfl) (by kernel_rfl) (fun _ _ _ h => h) (Or.inl ⟨by rfl, ?_⟩) (by assumption) ?_
    rotate_left
    · intro w hSw
      (try dsimp only at hSw)
      go_simp
      first | done | with_reducible rfl
    simp only [Act.put, List.setIfInBounds_toArray, List.set_cons_succ, List.set_cons_zero]
    refine take_at 9 (some 50) (v := ?_) rfl rfl (by kernel_rfl) (by kernel_rfl) (by kernel_rfl) (fun _ _ _ h => h) (Or.inl ⟨by rfl, ?_⟩) (by assumption) ?_
    rotate_left
    · intro w hSw
      (try dsimp only at hSw)
      go_simp
      first | done | with_reducible rfl
    simp only [Act.put, List.setIfInBounds_toArray, List.set_cons_succ, List.set_cons_zero]
    refine take_at 10 (some 51) (v := ?_) rfl rfl (by kernel_rfl) (by kernel_rfl) (by kernel_rfl) (fun _ _ _ h => h) (Or.inl ⟨by rfl, ?_⟩) (by assumption) ?_
    rotate_left
    · intro w hSw
      (try dsimp only at hSw)
      go_simp
      first | done | with_reducible rfl
    simp only [Act.put, List.setIfInBounds_toArray, List.set_cons_succ, List.set_cons_zero]
    refine take_at 11 (some 52) (v := ?_) rfl rfl (by kernel_rfl) (by kernel_rfl) (by kernel_rfl) (fun _ _ _ h => h) (Or.inl ⟨by rfl, ?_⟩) (by assumption) ?_
    rotate_left
    · intro w hSw
      (try dsimp only at hSw)
      go_simp
      first | done | with_reducible rfl
    simp only [Act.put, List.setIfInBounds_toArray, List.set_cons_succ, List.set_cons_zero]
    refine wpAnyH_ready (rs := [12]) (by kernel_rfl) (by simp) ?_
    refine AllReadyH.cons rfl (fun K hK => ?_) AllReadyH.nil
    go_simp
    go_wp2_with (go_at_call 17; rw [HC.out, HD.out]; refine Calls.mono (headOf_any wide high (by have := HWH.out; omega) (by have := HWH.out; omega) dd cc 0 0 0 w1.drew) ?_; rintro e w2 ⟨v2, rfl, ho2, hb2⟩)
    obtain ⟨a2, n2, c2, rfl, hm2, hr2, -, -, hnl2, -⟩ := ho2.shapeN
    have rd2 := rd1.below hb2
    have cv2 := conv_bytes (cap := c1) rd2 hm1
    refine hK.out _ _ cv2 (fun hHeld => ?_)
    clear hK K
    refine wpAnyH_ready (rs := [13]) (by kernel_rfl) (by simp) ?_
    refine AllReadyH.cons rfl (fun K hK => ?_) AllReadyH.nil
    go_simp
    go_wp2_with (go_at_call 22; refine Calls.mono (specChunk_any n2 c2 a2 _ 73 72 68 82 w2 hm2 hr2 hnl2 (by have := hm2.out; simp [headBytes, four_len] at this; omega)) ?_; rintro e w3 ⟨v3, rfl, ho3, hb3⟩)
    obtain ⟨a3, n3, c3, rfl, hm3, hr3, -⟩ := ho3.shapeN
    have cv3 := conv_bytes (cap := c3) hr3 hm3
    have cv4 := conv_bytes (cap := c1) (rd2.below hb3) hm1
    refine hK.out _ _ cv4 (fun hHeld => ?_)
    clear hK K
    refine wpAnyH_ready (rs := [14]) (by kernel_rfl) (by simp) ?_
    refine AllReadyH.cons rfl (fun K hK => ?_) AllReadyH.nil
    go_simp
    refine hK.out _ _ cv4 (fun hHeld => ?_)
    clear hK K
    refine take_at 15 (some 56) (v := ?_) rfl rfl (by kernel_rfl) (by kernel_rfl) (by kernel_rfl) (fun _ _ _ h => h) (Or.inl ⟨by rfl, ?_⟩) (by assumption) ?_
    rotate_left
    · intro w hSw
      (try dsimp only at hSw)
      go_simp
      first | done | with_reducible rfl
    simp only [Act.put, List.setIfInBounds_toArray, List.set_cons_succ, List.set_cons_zero]
    refine take_at 16 (some 57) (v := ?_) rfl rfl (by kernel_rfl) (by kernel_rfl) (by kernel_rfl) (fun _ _ _ h => h) (Or.inl ⟨by rfl, ?_⟩) (by assumption) ?_
    rotate_left
    · intro w hSw
      (try dsimp only at hSw)
      go_simp
      first | done | with_reducible rfl
    simp only [Act.put, List.setIfInBounds_toArray, List.set_cons_succ, List.set_cons_zero]
    refine take_at 17 (some 6) (v := ?_) rfl rfl (by kernel_rfl) (by kernel_rfl) (by kernel_rfl) (fun _ _ _ h => h) (Or.inl ⟨by rfl, ?_⟩) (by assumption) ?_
    rotate_left
    · intro w hSw
      (try dsimp only at hSw)
      go_simp
      first | done | with_reducible rfl
    simp only [Act.put, List.setIfInBounds_toArray, List.set_cons_succ, List.set_cons_zero]
    refine wpAnyH_done (by kernel_rfl) ?_ _
    have B2 : Below w.heap.size w w2 := HB1.out.drew.trans (hb2.mono HB1.out.drew.size)
    have B : Below w.heap.size w w3 := B2.trans (hb3.mono B2.size)
    have eo : ch = chunk [73, 72, 68, 82] (headBytes wide high dd cc 0 0 0) := HCH.out
    rw [← eo]
    go_wp2_with fail
    go_ret
    exact ⟨by simp, B⟩
end Go.Proofs.YtiiipmcjbibgoaaDoor
