/- The walk through the law FnPassLonger. Printed by gen/longlaw.py. -/
import Derived.Test.YtkiibhpmembcgaaDoorLongA
import Derived.Deep.RegionHeld3
import Derived.Deep.DeepCutAuto
import Derived.Deep.CutBlock
import Derived.LoopTactic
import Derived.Outline
namespace Go.Proofs.YtkiibhpmembcgaaDoor
open Go.ChangeShapes Go.WideShapes Go.ChangeAt Go.RowKit Go.IntWalk

set_option maxHeartbeats 25600000 in
set_option maxRecDepth 100000 in
theorem passLaw_long (laced : Bool) (kz x y z pn pcap m mc r rc : Nat) (ap ad ar : Option Addr) (S : List Sh) (l lr : List UInt8) (w : World) (hk : kz < 256) (hx : x < 256) (hy : y < 256) (hz : z < 256) (hS : Hid (InS w ap pn pcap S)) (hD : Hid (InB w ad m mc l)) (hM : Hid (InB w ar r rc lr)) (hI : Hid (Inter w)) (hE : Hid (Eofs w.heap.size w)) :
    Calls Tryd.prog 3 #[.int .u8 (kz : Int), .int .u8 (x : Int), .int .u8 (y : Int), .bool laced, .int .u8 (z : Int), .slice ap pn pcap, .slice ad m mc, .slice ar r rc] w (TrueEnd w) := by
  by_cases hbigpn : 2147483647 < pn
  · go_enter Tryd.func3, Tryd.ntmps3
    go_wp2_with fail
    go_ret
    exact ⟨rfl, Below.refl _ _⟩
  by_cases hbigm : 2147483647 < m
  · go_enter Tryd.func3, Tryd.ntmps3
    go_wp2_with fail
    go_ret
    exact ⟨rfl, Below.refl _ _⟩
  by_cases hbigr : 2147483647 < r
  · go_enter Tryd.func3, Tryd.ntmps3
    go_wp2_with fail
    go_ret
    exact ⟨rfl, Below.refl _ _⟩
  obtain ⟨p, hp⟩ : ∃ p, p = (if laced then z % 7 else 0) := ⟨_, rfl⟩
  have hp7 : p < 7 := by rw [hp]; exact passNo laced z
  obtain ⟨W0, hW0⟩ : ∃ W0, W0 = upTo x := ⟨_, rfl⟩
  obtain ⟨H0, hH0⟩ : ∃ H0, H0 = upTo y := ⟨_, rfl⟩
  have hWb := upTo_le x
  have hHb := upTo_le y
  rw [← hW0] at hWb
  rw [← hH0] at hHb
  obtain ⟨hW1, hW40⟩ := hWb
  obtain ⟨hH1, hH40⟩ := hHb
  have ok0 := lkC_ok kz
  obtain ⟨c, hc⟩ : ∃ c, c = (lkC kz).1 := ⟨_, rfl⟩
  obtain ⟨d, hd⟩ : ∃ d, d = (lkC kz).2 := ⟨_, rfl⟩
  rw [← hc, ← hd] at ok0
  have OK := Lib.hid ok0
  have hdd := ok0.d
  have hcc := ok0.c
  obtain ⟨n, hn⟩ : ∃ n, n = needN W0 H0 c d laced p := ⟨_, rfl⟩
  have hnb : n ≤ 40 * 321 := by rw [hn]; exact needN_le ok0 laced p hW40 hH40
  have HP : ∀ w, Calls Tryd.prog 6 #[.bool laced, .int .u8 (z : Int)] w fun e w' => e = .returned (.int .i64 (p : Int)) ∧ w' = w := by rw [hp]; exact passOf_any laced z hz
  have HKD : ∀ w, Calls Tryd.prog 4 #[.int .u8 (kz : Int)] w fun e w' => e = .returned (.tuple #[.int .i64 (c : Int), .int .i64 (d : Int)]) ∧ Below w.heap.size w w' := by rw [hc, hd]; exact lkindOf_any kz hk
  have HS : ∀ w, Calls Tryd.prog 5 #[.int .i64 (c : Int), .int .i64 (d : Int), .int .u8 (x : Int), .int .u8 (y : Int), .bool laced] w fun e w' => e = .returned (shV W0 H0 d c laced) ∧ Below w.heap.size w w' := by rw [hW0, hH0]; exact shapeOf_any c d x y laced hx hy
  have HND : ∀ w, Calls Tryd.prog 7 #[shV W0 H0 d c laced, .int .i64 (p : Int)] w fun e w' => e = .returned (.int .i64 (n : Int)) ∧ Below w.heap.size w w' := by
    rw [hn]
    exact fun w => partNeed_any W0 H0 c d p laced w ok0 hp7 hW40 hH40 hW1 hH1
  have HN0 := Lib.hid hn
  have HPP := Lib.hid HP
  have HKK := Lib.hid HKD
  have HSH := Lib.hid HS
  have HNN := Lib.hid HND
  clear hp HP HKD HS HND hW0 hH0 hc hd hn ok0
  go_enter Tryd.func3, Tryd.ntmps3
  go_upto_region 5 with (first
    | (go_at_call 4; refine (HKK.out _).mono ?_; rintro e w1 ⟨rfl, hb1⟩)
    | (go_at_call 5; refine (HSH.out _).mono ?_; rintro e w2 ⟨rfl, hb2⟩; unfold shV))
  obtain ⟨w3, hw3, hb3, hlt3, hrow3, hsh3⟩ := boxed w2 W0 H0 d c laced
  have hb02 : Below w.heap.size w w2 := hb1.trans (hb2.mono hb1.size)
  obtain ⟨N, hN⟩ : ∃ N, N = w2.heap.size := ⟨_, rfl⟩
  rw [← hN] at hrow3 hlt3 hsh3
  have HS3 : Hid (ShOn w N W0 H0 d c laced w3) := Lib.hid ⟨hsh3, hb02.trans (hb3.mono hb02.size), hlt3⟩
  have HW3 := Lib.hid hw3
  have HNb := Lib.hid hN
  clear hw3 hb3 hlt3 hrow3 hsh3 hN hb1 hb2 hb02
  rw [← HNb.out]
  change Code.wp _ _ _ _ (w2.alloc (.cells (shK W0 H0 d c laced) 27))
  rw [← HW3.out]
  obtain ⟨c0, c1, c2, c3, c4⟩ := HS3.out.at_
  have lN := HS3.out.lt
  go_upto_region 7 with (first
    | (go_at_call 6; refine (HPP.out _).mono ?_; rintro e w2 ⟨rfl, he⟩; obtain rfl := he.symm)
    | (go_at_call 7; refine (HNN.out _).mono ?_; rintro e w4 ⟨rfl, hb4⟩; have HS4 := Lib.hid (HS3.out.next hb4); clear hb4))
  clear c0 c1 c2 c3 c4 lN
  by_cases q1 : m < n
  · have i1 : (m : Int) < (n : Int) := by omega
    go_wp2_with fail
    go_ret
    exact ⟨rfl, HS4.out.bel⟩
  by_cases q2 : 1048576 < m
  · go_wp2_with fail
    go_ret
    exact ⟨rfl, HS4.out.bel⟩
  by_cases q3 : 1048576 < r
  · go_wp2_with fail
    go_ret
    exact ⟨rfl, HS4.out.bel⟩
  have d2 : decide ((1048576 : Int) < (m : Int)) = false := decide_eq_false (by omega)
  have d3 : decide ((1048576 : Int) < (r : Int)) = false := decide_eq_false (by omega)
  obtain ⟨Q, hQ⟩ : ∃ Q, Q = 2 ^ d := ⟨_, rfl⟩
  have sQ : IntKind.i64.wrap ((2 : Int) ^ d) = (Q : Int) := by
    rcases hdd with rfl | rfl | rfl | rfl | rfl <;> (rw [hQ]; decide)
  have HQ := Lib.hid hQ
  clear hQ
  by_cases q4 : c = 3 ∧ pn ≠ Q
  · obtain ⟨q5, q6⟩ := q4
    have e1 : ((c : Int) == 3) = true := by simp; omega
    have e2 : ((pn : Int) != (Q : Int)) = true := by simp; omega
    clear q5 q6
    go_wp2_with fail
    go_ret
    exact ⟨rfl, HS4.out.bel⟩
  have ok3 : Hid (c = 3 → pn = 2 ^ d) := Lib.hid (fun h => by
    rw [← HQ.out]
    exact Classical.byContradiction fun h2 => q4 ⟨h, h2⟩)
  have HPN : Hid (pn ≤ 2147483647) := Lib.hid (by omega)
  go_cut [84] from 60 to 84 (fun v wx => v = .bool false ∧ wx = w4)
  case first =>
    by_cases q5 : c = 3
    · have e1 : ((c : Int) == 3) = true := by simp; omega
      have e2 : ((pn : Int) != (Q : Int)) = false := by
        have : pn = Q := by rw [HQ.out]; exact ok3.out q5
        simp; omega
      clear q4 q5
      go_wp2_with fail
      go_meet
      case rel => exact ⟨rfl, rfl⟩
    · have e1 : ((c : Int) == 3) = false := by simp; omega
      clear q4 q5
      go_wp2_with fail
      go_meet
      case rel => exact ⟨rfl, rfl⟩
  case rest =>
  obtain ⟨rfl, rfl⟩ := hcut
  clear q4 sQ d2 d3
  obtain ⟨w4, rfl⟩ : ∃ q, q = wc := ⟨_, rfl⟩
  have hnm : n ≤ m := by omega
  obtain ⟨l1, hl1⟩ : ∃ l1, l1 = l.take n := ⟨_, rfl⟩
  have HL1 : Hid (l1.length = n) := Lib.hid (by rw [hl1, List.length_take, hD.out.hlen.out]; omega)
  have HR1 : Hid (RB w ad l1) := Lib.hid (hl1 ▸ hD.out.rb.take n)
  have hnmc : n ≤ mc := Nat.le_trans hnm hD.out.hcap
  have hmost := hD.out.most
  have n0 : (0 : Int) ≤ (n : Int) := by omega
  have n1 : (n : Int) ≤ (mc : Int) := by omega
  have n2 : (n : Int) ≤ (m : Int) := by omega
  have HCSL : Hid (c = 3 → S.length ≤ 1000) := Lib.hid (fun h => by
    have h1 := ok3.out h
    have h2 := hS.out.hlen.out
    have h3 : 2 ^ d ≤ 1000 := by
      have hok := OK.out
      unfold OkCD at hok
      rcases hdd with rfl | rfl | rfl | rfl | rfl
      · decide
      · decide
      · decide
      · decide
      · omega
    omega)
  obtain ⟨kd, Wx, Hx, Sx, lp, SS, code, hcode, hkd, hSS, hout⟩ := pass_out W0 H0 c d laced p S HCSL.out (rowsOf W0 H0 c d laced p l1)
  have hcode1 : code ≤ 1 := by rw [hcode]; split <;> omega
  have HCO := Lib.hid hcode
  have HKDD := Lib.hid hkd
  have HOUT := Lib.hid hout
  clear hl1 hcode hkd hout hmost
  go_upto_region 9 with fail
  have hSd := HS4.out.drew
  refine wp_region_held_drew (S := fun w' => ShOn w N W0 H0 d c laced w') (by kernel_rfl) hSd (fun hHeld => ?_)
  refine take_at 0 (some 86) (v := ?_) rfl rfl (by kernel_rfl) (by kernel_rfl) (by kernel_rfl) (fun _ _ _ h => h) (Or.inl ⟨by rfl, ?_⟩) (by assumption) ?_
  rotate_left
  · intro w hSw
    obtain ⟨c0, c1, c2, c3, c4⟩ := ShOn.at_ hSw
    go_simp
    first | done | with_reducible rfl
  simp only [Act.put, List.setIfInBounds_toArray, List.set_cons_succ, List.set_cons_zero]
  refine take_at 1 (some 87) (v := ?_) rfl rfl (by kernel_rfl) (by kernel_rfl) (by kernel_rfl) (fun _ _ _ h => h) (Or.inl ⟨by rfl, ?_⟩) (by assumption) ?_
  rotate_left
  · intro w hSw
    (try dsimp only at hSw)
    go_simp
    first | done | with_reducible rfl
  simp only [Act.put, List.setIfInBounds_toArray, List.set_cons_succ, List.set_cons_zero]
  refine take_at 2 (some 88) (v := ?_) rfl rfl (by kernel_rfl) (by kernel_rfl) (by kernel_rfl) (fun _ _ _ h => h) (Or.inl ⟨by rfl, ?_⟩) (by assumption) ?_
  rotate_left
  · intro w hSw
    (try dsimp only at hSw)
    go_simp
    first | done | with_reducible rfl
  simp only [Act.put, List.setIfInBounds_toArray, List.set_cons_succ, List.set_cons_zero]
  refine take_at 3 (some 89) (v := ?_) rfl rfl (by kernel_rfl) (by kernel_rfl) (by kernel_rfl) (fun _ _ _ h => h) (Or.inl ⟨by rfl, ?_⟩) (by assumption) ?_
  rotate_left
  · intro w hSw
    (try dsimp only at hSw)
    go_simp
    first | done | with_reducible rfl
  simp only [Act.put, List.setIfInBounds_toArray, List.set_cons_succ, List.set_cons_zero]
  refine take_at 4 (some 90) (v := ?_) rfl rfl (by kernel_rfl) (by kernel_rfl) (by kernel_rfl) (fun _ _ _ h => h) (Or.inl ⟨by rfl, ?_⟩) (by assumption) ?_
  rotate_left
  · intro w hSw
    (try dsimp only at hSw)
    go_simp
    first | done | with_reducible rfl
  simp only [Act.put, List.setIfInBounds_toArray, List.set_cons_succ, List.set_cons_zero]
  refine wpAnyH_ready (rs := [5]) (by kernel_rfl) (by simp) ?_
  refine AllReadyH.cons rfl (fun K hK => ?_) AllReadyH.nil
  go_simp
  refine (partSamples_any W0 H0 c d p n mc laced ad l1 w4.drew OK.out hp7 hW40 hH40 hW1 hH1 HL1 (HR1.out.below hSd.bel) hnmc (by omega) hD.out.most).mono ?_
  rintro e w5 ⟨hps1, hps2, hb5⟩
  have hS5 := hSd.next hb5
  obtain ⟨v5, rfl⟩ : ∃ v5, e = .returned (.tuple #[v5, .int .i64 (code : Int)]) := by
    have hco := HCO.out
    cases hro : rowsOf W0 H0 c d laced p l1 with
    | none => rw [hro] at hco; exact ⟨_, by rw [hps1 hro, hco]; rfl⟩
    | some R => obtain ⟨v, he, -⟩ := hps2 R hro; rw [hro] at hco; exact ⟨v, by rw [he, hco]; rfl⟩
  clear hps1 hps2
  refine hK.out _ _ hS5 (fun hHeld => ?_)
  clear hK K
  refine take_at 6 (some 85) (v := ?_) rfl rfl (by kernel_rfl) (by kernel_rfl) (by kernel_rfl) (fun _ _ _ h => h) (Or.inl ⟨by rfl, ?_⟩) (by assumption) ?_
  rotate_left
  · intro w hSw
    (try dsimp only at hSw)
    go_simp
    first | done | with_reducible rfl
  simp only [Act.put, List.setIfInBounds_toArray, List.set_cons_succ, List.set_cons_zero]
  refine take_at 7 (some 92) (v := ?_) rfl rfl (by kernel_rfl) (by kernel_rfl) (by kernel_rfl) (fun _ _ _ h => h) (Or.inl ⟨by rfl, ?_⟩) (by assumption) ?_
  rotate_left
  · intro w hSw
    (try dsimp only at hSw)
    go_simp
    first | done | with_reducible rfl
  simp only [Act.put, List.setIfInBounds_toArray, List.set_cons_succ, List.set_cons_zero]
  refine take_at 8 (some 93) (v := ?_) rfl rfl (by kernel_rfl) (by kernel_rfl) (by kernel_rfl) (fun _ _ _ h => h) (Or.inl ⟨by rfl, ?_⟩) (by assumption) ?_
  rotate_left
  · intro w hSw
    (try dsimp only at hSw)
    go_simp
    first | done | with_reducible rfl
  simp only [Act.put, List.setIfInBounds_toArray, List.set_cons_succ, List.set_cons_zero]
  refine take_at 9 (some 22) (v := ?_) rfl rfl (by kernel_rfl) (by kernel_rfl) (by kernel_rfl) (fun _ _ _ h => h) (Or.inl ⟨by rfl, ?_⟩) (by assumption) ?_
  rotate_left
  · intro w hSw
    (try dsimp only at hSw)
    go_simp
    first | done | with_reducible rfl
  simp only [Act.put, List.setIfInBounds_toArray, List.set_cons_succ, List.set_cons_zero]
  refine take_at 10 (some 23) (v := ?_) rfl rfl (by kernel_rfl) (by kernel_rfl) (by kernel_rfl) (fun _ _ _ h => h) (Or.inl ⟨by rfl, ?_⟩) (by assumption) ?_
  rotate_left
  · intro w hSw
    (try dsimp only at hSw)
    go_simp
    first | done | with_reducible rfl
  simp only [Act.put, List.setIfInBounds_toArray, List.set_cons_succ, List.set_cons_zero]
  refine wpAnyH_done (by kernel_rfl) ?_ _
  have HS5 := Lib.hid hS5
  clear hb5 hS5 hSd hHeld
  go_upto_region 10 with fail
  go_cut [24, 25] from 94 to 109 (fun v24 v25 wx => ∃ (M n7 k7 an ac : Nat) (a7 aa : Option Addr), v24 = .pointer (some ⟨M, 0, none⟩) ∧ v25 = .int .i64 (code : Int) ∧ wx.heap[M]? = some (.cells (pcCells kd Wx Hx Sx (.slice a7 n7 k7) (.slice aa an ac)) 35 (0, 0)) ∧ Hid (lp.length = n7) ∧ Hid (RB wx a7 lp) ∧ Hid (InS wx aa an ac SS) ∧ Below w5.heap.size w5 wx)
  case first =>
    have hb0 : Below w5.heap.size w5 w5.drew := bdrew (Below.refl _ _)
    refine wp_region_held_drew (S := fun w' => Below w5.heap.size w5 w') (by kernel_rfl) hb0 (fun hHeld => ?_)
    refine take_at 0 (some 95) (v := ?_) rfl rfl (by kernel_rfl) (by kernel_rfl) (by kernel_rfl) (fun _ _ _ h => h) (Or.inl ⟨by rfl, ?_⟩) (by assumption) ?_
    rotate_left
    · intro w hSw
      (try dsimp only at hSw)
      go_simp
      first | done | with_reducible rfl
    simp only [Act.put, List.setIfInBounds_toArray, List.set_cons_succ, List.set_cons_zero]
    refine take_at 1 (some 96) (v := ?_) rfl rfl (by kernel_rfl) (by kernel_rfl) (by kernel_rfl) (fun _ _ _ h => h) (Or.inl ⟨by rfl, ?_⟩) (by assumption) ?_
    rotate_left
    · intro w hSw
      (try dsimp only at hSw)
      go_simp
      first | done | with_reducible rfl
    simp only [Act.put, List.setIfInBounds_toArray, List.set_cons_succ, List.set_cons_zero]
    refine take_at 2 (some 97) (v := ?_) rfl rfl (by kernel_rfl) (by kernel_rfl) (by kernel_rfl) (fun _ _ _ h => h) (Or.inl ⟨by rfl, ?_⟩) (by assumption) ?_
    rotate_left
    · intro w hSw
      (try dsimp only at hSw)
      go_simp
      first | done | with_reducible rfl
    simp only [Act.put, List.setIfInBounds_toArray, List.set_cons_succ, List.set_cons_zero]
    refine take_at 3 (some 98) (v := ?_) rfl rfl (by kernel_rfl) (by kernel_rfl) (by kernel_rfl) (fun _ _ _ h => h) (Or.inl ⟨by rfl, ?_⟩) (by assumption) ?_
    rotate_left
    · intro w hSw
      (try dsimp only at hSw)
      go_simp
      first | done | with_reducible rfl
    simp only [Act.put, List.setIfInBounds_toArray, List.set_cons_succ, List.set_cons_zero]
    refine take_at 4 (some 99) (v := ?_) rfl rfl (by kernel_rfl) (by kernel_rfl) (by kernel_rfl) (fun _ _ _ h => h) (Or.inl ⟨by rfl, ?_⟩) (by assumption) ?_
    rotate_left
    · intro w hSw
      obtain ⟨c0, c1, c2, c3, c4⟩ := (HS5.out.next hSw).at_
      go_simp
      first | done | with_reducible rfl
    simp only [Act.put, List.setIfInBounds_toArray, List.set_cons_succ, List.set_cons_zero]
    refine take_at 5 (some 100) (v := ?_) rfl rfl (by kernel_rfl) (by kernel_rfl) (by kernel_rfl) (fun _ _ _ h => h) (Or.inl ⟨by rfl, ?_⟩) (by assumption) ?_
    rotate_left
    · intro w hSw
      (try dsimp only at hSw)
      go_simp
      first | done | with_reducible rfl
    simp only [Act.put, List.setIfInBounds_toArray, List.set_cons_succ, List.set_cons_zero]
    refine take_at 6 (some 101) (v := ?_) rfl rfl (by kernel_rfl) (by kernel_rfl) (by kernel_rfl) (fun _ _ _ h => h) (Or.inl ⟨by rfl, ?_⟩) (by assumption) ?_
    rotate_left
    · intro w hSw
      obtain ⟨c0, c1, c2, c3, c4⟩ := (HS5.out.next hSw).at_
      go_simp
      first | done | with_reducible rfl
    simp only [Act.put, List.setIfInBounds_toArray, List.set_cons_succ, List.set_cons_zero]
    refine take_at 7 (some 102) (v := ?_) rfl rfl (by kernel_rfl) (by kernel_rfl) (by kernel_rfl) (fun _ _ _ h => h) (Or.inl ⟨by rfl, ?_⟩) (by assumption) ?_
    rotate_left
    · intro w hSw
      (try dsimp only at hSw)
      go_simp
      first | done | with_reducible rfl
    simp only [Act.put, List.setIfInBounds_toArray, List.set_cons_succ, List.set_cons_zero]
    refine take_at 8 (some 103) (v := ?_) rfl rfl (by kernel_rfl) (by kernel_rfl) (by kernel_rfl) (fun _ _ _ h => h) (Or.inl ⟨by rfl, ?_⟩) (by assumption) ?_
    rotate_left
    · intro w hSw
      (try dsimp only at hSw)
      go_simp
      first | done | with_reducible rfl
    simp only [Act.put, List.setIfInBounds_toArray, List.set_cons_succ, List.set_cons_zero]
    refine take_at 9 (some 104) (v := ?_) rfl rfl (by kernel_rfl) (by kernel_rfl) (by kernel_rfl) (fun _ _ _ h => h) (Or.inl ⟨by rfl, ?_⟩) (by assumption) ?_
    rotate_left
    · intro w hSw
      (try dsimp only at hSw)
      go_simp
      first | done | with_reducible rfl
    simp only [Act.put, List.setIfInBounds_toArray, List.set_cons_succ, List.set_cons_zero]
    refine take_at 10 (some 105) (v := ?_) rfl rfl (by kernel_rfl) (by kernel_rfl) (by kernel_rfl) (fun _ _ _ h => h) (Or.inl ⟨by rfl, ?_⟩) (by assumption) ?_
    rotate_left
    · intro w hSw
      (try dsimp only at hSw)
      go_simp
      first | done | with_reducible rfl
    simp only [Act.put, List.setIfInBounds_toArray, List.set_cons_succ, List.set_cons_zero]
    refine take_at 11 (some 106) (v := ?_) rfl rfl (by kernel_rfl) (by kernel_rfl) (by kernel_rfl) (fun _ _ _ h => h) (Or.inl ⟨by rfl, ?_⟩) (by assumption) ?_
    rotate_left
    · intro w hSw
      (try dsimp only at hSw)
      go_simp
      first | done | with_reducible rfl
    simp only [Act.put, List.setIfInBounds_toArray, List.set_cons_succ, List.set_cons_zero]
    refine wpAnyH_ready (rs := [12, 16]) (by kernel_rfl) (by simp) ?_
    refine AllReadyH.cons rfl (fun K hK => ?_) (AllReadyH.cons rfl (fun K hK => ?_) AllReadyH.nil)
    · skip
      go_simp
      refine (pass_any W0 H0 c d laced p l1 n _ w.heap.size pn pcap 0 ad ap none S w5.drew OK.out { ok := OK.out, hW0 := hW40, hH0 := hH40, hW1 := hW1, hH1 := hH1, hp := hp7, inter := hI.out.below (HS5.out.bel.trans (hb0.mono HS5.out.bel.size)), hl := HL1.out, hm := by omega, hmc := hnmc, src := HR1.out.below (HS5.out.bel.trans (hb0.mono HS5.out.bel.size)), eofs := hE.out.below (HS5.out.bel.trans (hb0.mono HS5.out.bel.size)), nB := (HS5.out.bel.trans (hb0.mono HS5.out.bel.size)).size } (fun e => by have := hD.out.hnil e; omega) (hS.out.below (HS5.out.bel.trans (hb0.mono HS5.out.bel.size))) HPN ok3.out).mono ?_
      rintro e w6 hend
      obtain ⟨a7, aa, n7, k7, an, ac, rfl, hl7, hr7, hs7, hbw6⟩ := HOUT.out l1 _ e w6 rfl hend
      clear hend
      unfold pcV
      have hb6 : Below w5.heap.size w5 w6 := hb0.trans (hbw6.mono hb0.size)
      refine hK.out _ _ hb6 (fun hHeld => ?_)
      clear hK K
      refine take_at 13 (some 94) (v := ?_) rfl rfl (by kernel_rfl) (by kernel_rfl) (by kernel_rfl) (fun _ _ _ h => h) (Or.inl ⟨by rfl, ?_⟩) (by assumption) ?_
      rotate_left
      · intro w hSw
        (try dsimp only at hSw)
        go_simp
        first | done | with_reducible rfl
      simp only [Act.put, List.setIfInBounds_toArray, List.set_cons_succ, List.set_cons_zero]
      refine take_at 14 (some 108) (v := ?_) rfl rfl (by kernel_rfl) (by kernel_rfl) (by kernel_rfl) (fun _ _ _ h => h) (Or.inl ⟨by rfl, ?_⟩) (by assumption) ?_
      rotate_left
      · intro w hSw
        (try dsimp only at hSw)
        go_simp
        first | done | with_reducible rfl
      simp only [Act.put, List.setIfInBounds_toArray, List.set_cons_succ, List.set_cons_zero]
      refine take_at 15 (some 109) (v := ?_) rfl rfl (by kernel_rfl) (by kernel_rfl) (by kernel_rfl) (fun _ _ _ h => h) (Or.inl ⟨by rfl, ?_⟩) (by assumption) ?_
      rotate_left
      · intro w hSw
        (try dsimp only at hSw)
        go_simp
        first | done | with_reducible rfl
      simp only [Act.put, List.setIfInBounds_toArray, List.set_cons_succ, List.set_cons_zero]
      refine wpAnyH_ready (rs := [16]) (by kernel_rfl) (by simp) ?_
      refine AllReadyH.cons rfl (fun K hK => ?_) AllReadyH.nil
      go_simp
      obtain ⟨w7, hw7⟩ : ∃ q, q = w6.alloc (.cells #[.int .i64 0, .int .i64 0, .int .i64 0, .int .i64 0, .int .i64 0, .int .i64 0, .slice none 0 0, .slice none 0 0] 35) := ⟨_, rfl⟩
      rw [← hw7]
      have hb67 : Below w6.heap.size w6 w7 := hw7 ▸ (Below.refl _ _).alloc (Nat.le_refl _) _
      have hb7 : Below w5.heap.size w5 w7 := hb6.trans (hb67.mono hb6.size)
      obtain ⟨M, hM7⟩ : ∃ M, M = w6.heap.size := ⟨_, rfl⟩
      have row7 : w7.heap[M]? = some (.cells #[.int .i64 0, .int .i64 0, .int .i64 0, .int .i64 0, .int .i64 0, .int .i64 0, .slice none 0 0, .slice none 0 0] 35 (0, 0)) := by rw [hw7, hM7]; exact alloc_at _ _
      have hMge : w5.heap.size ≤ M := by rw [hM7]; exact hb6.size
      have hMg6 : w6.heap.size ≤ M := by rw [hM7]; exact Nat.le_refl _
      have hr77 := Lib.hid (hr7.out.below hb67)
      have hs77 := Lib.hid (hs7.out.below hb67)
      rw [← hM7]
      clear hw7 hM7
      refine hK.out _ _ hb7 (fun hHeld => ?_)
      clear hK K
      have z0 : w7.frozen? ⟨M, 0, none⟩ = false := frozen_of_row w7 _ 0 _ _ row7
      have y0 : w7.cell? ⟨M, 0, none⟩ = some (Value.int .i64 0) := (cell_of_row w7 _ 0 _ _ _ row7).trans rfl
      have z1 : w7.frozen? ⟨M, 1, none⟩ = false := frozen_of_row w7 _ 1 _ _ row7
      have y1 : w7.cell? ⟨M, 1, none⟩ = some (Value.int .i64 0) := (cell_of_row w7 _ 1 _ _ _ row7).trans rfl
      have z2 : w7.frozen? ⟨M, 2, none⟩ = false := frozen_of_row w7 _ 2 _ _ row7
      have y2 : w7.cell? ⟨M, 2, none⟩ = some (Value.int .i64 0) := (cell_of_row w7 _ 2 _ _ _ row7).trans rfl
      have z3 : w7.frozen? ⟨M, 3, none⟩ = false := frozen_of_row w7 _ 3 _ _ row7
      have y3 : w7.cell? ⟨M, 3, none⟩ = some (Value.int .i64 0) := (cell_of_row w7 _ 3 _ _ _ row7).trans rfl
      have z4 : w7.frozen? ⟨M, 4, none⟩ = false := frozen_of_row w7 _ 4 _ _ row7
      have y4 : w7.cell? ⟨M, 4, none⟩ = some (Value.int .i64 0) := (cell_of_row w7 _ 4 _ _ _ row7).trans rfl
      have z5 : w7.frozen? ⟨M, 5, none⟩ = false := frozen_of_row w7 _ 5 _ _ row7
      have y5 : w7.cell? ⟨M, 5, none⟩ = some (Value.int .i64 0) := (cell_of_row w7 _ 5 _ _ _ row7).trans rfl
      have z6 : w7.frozen? ⟨M, 6, none⟩ = false := frozen_of_row w7 _ 6 _ _ row7
      have y6 : w7.cell? ⟨M, 6, none⟩ = some (Value.slice none 0 0) := (cell_of_row w7 _ 6 _ _ _ row7).trans rfl
      have z7 : w7.frozen? ⟨M, 7, none⟩ = false := frozen_of_row w7 _ 7 _ _ row7
      have y7 : w7.cell? ⟨M, 7, none⟩ = some (Value.slice none 0 0) := (cell_of_row w7 _ 7 _ _ _ row7).trans rfl
      obtain ⟨w8, hw8⟩ : ∃ q, q = put8 w7 M kd Wx Hx Sx (.slice a7 n7 k7) (.slice aa an ac) := ⟨_, rfl⟩
      have onw8 : Only M w7 w8 := hw8 ▸ put8_only _ _ _ _ _ _ _ _
      have roww8 := put8_row w7 M kd Wx Hx Sx (.slice a7 n7 k7) (.slice aa an ac) row7
      rw [← hw8] at roww8
      have hbw8 : Below w5.heap.size w5 w8 := hb7.trans (onw8.below (by omega))
      have lMw8 := lt_of_row row7
      refine wpAnyH_ready (rs := [17]) (by kernel_rfl) (by simp) ?_
      refine AllReadyH.cons rfl (fun K hK => ?_) AllReadyH.nil
      go_simp
      refine hK.out _ (put8 w7 M kd Wx Hx Sx (.slice a7 n7 k7) (.slice aa an ac)) (by rw [← hw8]; exact hbw8) (fun hHeld => ?_)
      clear hK K hHeld
      rw [← hw8]
      have hHeld := hbw8
      clear z0 y0 z1 y1 z2 y2 z3 y3 z4 y4 z5 y5 z6 y6 z7 y7 hw8
      have hb68 : Below w6.heap.size w6 w8 := hb67.trans (onw8.below hMg6)
      refine take_at 18 (some 25) (v := ?_) rfl rfl (by kernel_rfl) (by kernel_rfl) (by kernel_rfl) (fun _ _ _ h => h) (Or.inl ⟨by rfl, ?_⟩) (by assumption) ?_
      rotate_left
      · intro w hSw
        (try dsimp only at hSw)
        go_simp
        first | done | with_reducible rfl
      simp only [Act.put, List.setIfInBounds_toArray, List.set_cons_succ, List.set_cons_zero]
      refine wpAnyH_done (by kernel_rfl) ?_ _
      go_wp2_with fail
      go_meet
      case rel => exact ⟨M, n7, k7, an, ac, a7, aa, rfl, rfl, roww8, hl7, Lib.hid (hr7.out.below hb68), Lib.hid (hs7.out.below hb68), hbw8⟩
    · skip
      go_simp
      obtain ⟨w6, hw6⟩ : ∃ q, q = (w5.alloc (.cells #[.int .i64 0, .int .i64 0, .int .i64 0, .int .i64 0, .int .i64 0, .int .i64 0, .slice none 0 0, .slice none 0 0] 35)).drew := ⟨_, rfl⟩
      rw [← hw6]
      have hb6 : Below w5.heap.size w5 w6 := hw6 ▸ bdrew ((Below.refl _ _).alloc (Nat.le_refl _) _)
      obtain ⟨M, hM6⟩ : ∃ M, M = w5.heap.size := ⟨_, rfl⟩
      have row6 : w6.heap[M]? = some (.cells #[.int .i64 0, .int .i64 0, .int .i64 0, .int .i64 0, .int .i64 0, .int .i64 0, .slice none 0 0, .slice none 0 0] 35 (0, 0)) := by rw [hw6, hM6]; exact alloc_at w5 _
      have l6 := lt_of_row row6
      have hMge : w5.heap.size ≤ M := by rw [hM6]; exact Nat.le_refl _
      have eM : w5.drew.heap.size = M := hM6.symm
      try rw [← hM6]
      clear hw6 hM6
      refine hK.out _ _ hb6 (fun hHeld => ?_)
      clear hK K
      refine wpAnyH_ready (rs := [12]) (by kernel_rfl) (by simp) ?_
      refine AllReadyH.cons rfl (fun K hK => ?_) AllReadyH.nil
      go_simp
      refine (pass_any W0 H0 c d laced p l1 n _ w.heap.size pn pcap 0 ad ap none S w6 OK.out { ok := OK.out, hW0 := hW40, hH0 := hH40, hW1 := hW1, hH1 := hH1, hp := hp7, inter := hI.out.below (HS5.out.bel.trans (hb6.mono HS5.out.bel.size)), hl := HL1.out, hm := by omega, hmc := hnmc, src := HR1.out.below (HS5.out.bel.trans (hb6.mono HS5.out.bel.size)), eofs := hE.out.below (HS5.out.bel.trans (hb6.mono HS5.out.bel.size)), nB := (HS5.out.bel.trans (hb6.mono HS5.out.bel.size)).size } (fun e => by have := hD.out.hnil e; omega) (hS.out.below (HS5.out.bel.trans (hb6.mono HS5.out.bel.size))) HPN ok3.out).mono ?_
      rintro e w7 hend
      obtain ⟨a7, aa, n7, k7, an, ac, rfl, hl7, hr7, hs7, hbw7⟩ := HOUT.out l1 _ e w7 rfl hend
      clear hend
      unfold pcV
      have hb7 : Below w5.heap.size w5 w7 := hb6.trans (hbw7.mono hb6.size)
      have row7 := (hbw7.block M l6).trans row6
      refine hK.out _ _ hb7 (fun hHeld => ?_)
      clear hK K
      refine take_at 13 (some 94) (v := ?_) rfl rfl (by kernel_rfl) (by kernel_rfl) (by kernel_rfl) (fun _ _ _ h => h) (Or.inl ⟨by rfl, ?_⟩) (by assumption) ?_
      rotate_left
      · intro w hSw
        (try dsimp only at hSw)
        go_simp
        first | done | with_reducible rfl
      simp only [Act.put, List.setIfInBounds_toArray, List.set_cons_succ, List.set_cons_zero]
      refine take_at 14 (some 108) (v := ?_) rfl rfl (by kernel_rfl) (by kernel_rfl) (by kernel_rfl) (fun _ _ _ h => h) (Or.inl ⟨by rfl, ?_⟩) (by assumption) ?_
      rotate_left
      · intro w hSw
        (try dsimp only at hSw)
        go_simp
        first | done | with_reducible rfl
      simp only [Act.put, List.setIfInBounds_toArray, List.set_cons_succ, List.set_cons_zero]
      refine take_at 15 (some 109) (v := ?_) rfl rfl (by kernel_rfl) (by kernel_rfl) (by kernel_rfl) (fun _ _ _ h => h) (Or.inl ⟨by rfl, ?_⟩) (by assumption) ?_
      rotate_left
      · intro w hSw
        (try dsimp only at hSw)
        go_simp
        first | done | with_reducible rfl
      simp only [Act.put, List.setIfInBounds_toArray, List.set_cons_succ, List.set_cons_zero]
      have z0 : w7.frozen? ⟨M, 0, none⟩ = false := frozen_of_row w7 _ 0 _ _ row7
      have y0 : w7.cell? ⟨M, 0, none⟩ = some (Value.int .i64 0) := (cell_of_row w7 _ 0 _ _ _ row7).trans rfl
      have z1 : w7.frozen? ⟨M, 1, none⟩ = false := frozen_of_row w7 _ 1 _ _ row7
      have y1 : w7.cell? ⟨M, 1, none⟩ = some (Value.int .i64 0) := (cell_of_row w7 _ 1 _ _ _ row7).trans rfl
      have z2 : w7.frozen? ⟨M, 2, none⟩ = false := frozen_of_row w7 _ 2 _ _ row7
      have y2 : w7.cell? ⟨M, 2, none⟩ = some (Value.int .i64 0) := (cell_of_row w7 _ 2 _ _ _ row7).trans rfl
      have z3 : w7.frozen? ⟨M, 3, none⟩ = false := frozen_of_row w7 _ 3 _ _ row7
      have y3 : w7.cell? ⟨M, 3, none⟩ = some (Value.int .i64 0) := (cell_of_row w7 _ 3 _ _ _ row7).trans rfl
      have z4 : w7.frozen? ⟨M, 4, none⟩ = false := frozen_of_row w7 _ 4 _ _ row7
      have y4 : w7.cell? ⟨M, 4, none⟩ = some (Value.int .i64 0) := (cell_of_row w7 _ 4 _ _ _ row7).trans rfl
      have z5 : w7.frozen? ⟨M, 5, none⟩ = false := frozen_of_row w7 _ 5 _ _ row7
      have y5 : w7.cell? ⟨M, 5, none⟩ = some (Value.int .i64 0) := (cell_of_row w7 _ 5 _ _ _ row7).trans rfl
      have z6 : w7.frozen? ⟨M, 6, none⟩ = false := frozen_of_row w7 _ 6 _ _ row7
      have y6 : w7.cell? ⟨M, 6, none⟩ = some (Value.slice none 0 0) := (cell_of_row w7 _ 6 _ _ _ row7).trans rfl
      have z7 : w7.frozen? ⟨M, 7, none⟩ = false := frozen_of_row w7 _ 7 _ _ row7
      have y7 : w7.cell? ⟨M, 7, none⟩ = some (Value.slice none 0 0) := (cell_of_row w7 _ 7 _ _ _ row7).trans rfl
      obtain ⟨w8, hw8⟩ : ∃ q, q = put8 w7 M kd Wx Hx Sx (.slice a7 n7 k7) (.slice aa an ac) := ⟨_, rfl⟩
      have onw8 : Only M w7 w8 := hw8 ▸ put8_only _ _ _ _ _ _ _ _
      have roww8 := put8_row w7 M kd Wx Hx Sx (.slice a7 n7 k7) (.slice aa an ac) row7
      rw [← hw8] at roww8
      have hbw8 : Below w5.heap.size w5 w8 := hb7.trans (onw8.below (by omega))
      have lMw8 := lt_of_row row7
      refine wpAnyH_ready (rs := [17]) (by kernel_rfl) (by simp) ?_
      refine AllReadyH.cons rfl (fun K hK => ?_) AllReadyH.nil
      go_simp
      refine hK.out _ (put8 w7 M kd Wx Hx Sx (.slice a7 n7 k7) (.slice aa an ac)) (by rw [← hw8]; exact hbw8) (fun hHeld => ?_)
      clear hK K hHeld
      rw [← hw8]
      have hHeld := hbw8
      clear z0 y0 z1 y1 z2 y2 z3 y3 z4 y4 z5 y5 z6 y6 z7 y7 hw8
      refine take_at 18 (some 25) (v := ?_) rfl rfl (by kernel_rfl) (by kernel_rfl) (by kernel_rfl) (fun _ _ _ h => h) (Or.inl ⟨by rfl, ?_⟩) (by assumption) ?_
      rotate_left
      · intro w hSw
        (try dsimp only at hSw)
        go_simp
        first | done | with_reducible rfl
      simp only [Act.put, List.setIfInBounds_toArray, List.set_cons_succ, List.set_cons_zero]
      refine wpAnyH_done (by kernel_rfl) ?_ _
      go_wp2_with fail
      go_meet
      case rel => exact ⟨M, n7, k7, an, ac, a7, aa, rfl, rfl, roww8, hl7, Lib.hid (rb_only hr7.out row7 onw8), Lib.hid (inS_only hs7.out row7 onw8), hbw8⟩
  case rest =>
  obtain ⟨M, n7, k7, an, ac, a7, aa, rfl, rfl, rowM, hl7, HR7, HS7, hb59⟩ := hcut
  obtain ⟨w9, rfl⟩ : ∃ q, q = wc := ⟨_, rfl⟩
  have HS9 := Lib.hid (HS5.out.next hb59)
  have HB59 := Lib.hid hb59
  have ROWM := Lib.hid rowM
  have lM := lt_of_row rowM
  have HL2 : Hid ((l1 ++ lr).length = n + r) := Lib.hid (by rw [List.length_append, HL1.out, hM.out.hlen.out])
  have HROW : Hid (rowsOf W0 H0 c d laced p (l1 ++ lr) = rowsOf W0 H0 c d laced p l1) := Lib.hid (rows_append W0 H0 c d laced p l1 lr (by rw [← HN0.out, HL1.out]; exact Nat.le_refl _))
  clear hb59 rowM
  go_upto_region 11 with fail
  go_cut [26, 27] from 110 to 129 (fun v26 v27 wx => ∃ (M2 m7 j7 gn gc : Nat) (g7 ga : Option Addr), v26 = .pointer (some ⟨M2, 0, none⟩) ∧ v27 = .int .i64 (code : Int) ∧ wx.heap[M2]? = some (.cells (pcCells kd Wx Hx Sx (.slice g7 m7 j7) (.slice ga gn gc)) 35 (0, 0)) ∧ Hid (lp.length = m7) ∧ Hid (RB wx g7 lp) ∧ Hid (InS wx ga gn gc SS) ∧ Below w9.heap.size w9 wx)
  case first =>
    have hb0 : Below w9.heap.size w9 w9.drew := bdrew (Below.refl _ _)
    refine wp_region_held_drew (S := fun w' => Below w9.heap.size w9 w') (by kernel_rfl) hb0 (fun hHeld => ?_)
    refine take_at 1 (some 112) (v := ?_) rfl rfl (by kernel_rfl) (by kernel_rfl) (by kernel_rfl) (fun _ _ _ h => h) (Or.inl ⟨by rfl, ?_⟩) (by assumption) ?_
    rotate_left
    · intro w hSw
      (try dsimp only at hSw)
      go_simp
      first | done | with_reducible rfl
    simp only [Act.put, List.setIfInBounds_toArray, List.set_cons_succ, List.set_cons_zero]
    refine take_at 2 (some 113) (v := ?_) rfl rfl (by kernel_rfl) (by kernel_rfl) (by kernel_rfl) (fun _ _ _ h => h) (Or.inl ⟨by rfl, ?_⟩) (by assumption) ?_
    rotate_left
    · intro w hSw
      (try dsimp only at hSw)
      go_simp
      first | done | with_reducible rfl
    simp only [Act.put, List.setIfInBounds_toArray, List.set_cons_succ, List.set_cons_zero]
    refine take_at 3 (some 114) (v := ?_) rfl rfl (by kernel_rfl) (by kernel_rfl) (by kernel_rfl) (fun _ _ _ h => h) (Or.inl ⟨by rfl, ?_⟩) (by assumption) ?_
    rotate_left
    · intro w hSw
      (try dsimp only at hSw)
      go_simp
      first | done | with_reducible rfl
    simp only [Act.put, List.setIfInBounds_toArray, List.set_cons_succ, List.set_cons_zero]
    refine take_at 5 (some 116) (v := ?_) rfl rfl (by kernel_rfl) (by kernel_rfl) (by kernel_rfl) (fun _ _ _ h => h) (Or.inl ⟨by rfl, ?_⟩) (by assumption) ?_
    rotate_left
    · intro w hSw
      (try dsimp only at hSw)
      go_simp
      first | done | with_reducible rfl
    simp only [Act.put, List.setIfInBounds_toArray, List.set_cons_succ, List.set_cons_zero]
    refine take_at 7 (some 118) (v := ?_) rfl rfl (by kernel_rfl) (by kernel_rfl) (by kernel_rfl) (fun _ _ _ h => h) (Or.inl ⟨by rfl, ?_⟩) (by assumption) ?_
    rotate_left
    · intro w hSw
      (try dsimp only at hSw)
      go_simp
      first | done | with_reducible rfl
    simp only [Act.put, List.setIfInBounds_toArray, List.set_cons_succ, List.set_cons_zero]
    refine take_at 8 (some 119) (v := ?_) rfl rfl (by kernel_rfl) (by kernel_rfl) (by kernel_rfl) (fun _ _ _ h => h) (Or.inl ⟨by rfl, ?_⟩) (by assumption) ?_
    rotate_left
    · intro w hSw
      obtain ⟨c0, c1, c2, c3, c4⟩ := (HS9.out.next hSw).at_
      go_simp
      first | done | with_reducible rfl
    simp only [Act.put, List.setIfInBounds_toArray, List.set_cons_succ, List.set_cons_zero]
    refine take_at 9 (some 120) (v := ?_) rfl rfl (by kernel_rfl) (by kernel_rfl) (by kernel_rfl) (fun _ _ _ h => h) (Or.inl ⟨by rfl, ?_⟩) (by assumption) ?_
    rotate_left
    · intro w hSw
      (try dsimp only at hSw)
      go_simp
      first | done | with_reducible rfl
    simp only [Act.put, List.setIfInBounds_toArray, List.set_cons_succ, List.set_cons_zero]
    refine take_at 10 (some 121) (v := ?_) rfl rfl (by kernel_rfl) (by kernel_rfl) (by kernel_rfl) (fun _ _ _ h => h) (Or.inl ⟨by rfl, ?_⟩) (by assumption) ?_
    rotate_left
    · intro w hSw
      obtain ⟨c0, c1, c2, c3, c4⟩ := (HS9.out.next hSw).at_
      go_simp
      first | done | with_reducible rfl
    simp only [Act.put, List.setIfInBounds_toArray, List.set_cons_succ, List.set_cons_zero]
    refine take_at 11 (some 122) (v := ?_) rfl rfl (by kernel_rfl) (by kernel_rfl) (by kernel_rfl) (fun _ _ _ h => h) (Or.inl ⟨by rfl, ?_⟩) (by assumption) ?_
    rotate_left
    · intro w hSw
      (try dsimp only at hSw)
      go_simp
      first | done | with_reducible rfl
    simp only [Act.put, List.setIfInBounds_toArray, List.set_cons_succ, List.set_cons_zero]
    refine take_at 12 (some 123) (v := ?_) rfl rfl (by kernel_rfl) (by kernel_rfl) (by kernel_rfl) (fun _ _ _ h => h) (Or.inl ⟨by rfl, ?_⟩) (by assumption) ?_
    rotate_left
    · intro w hSw
      (try dsimp only at hSw)
      go_simp
      first | done | with_reducible rfl
    simp only [Act.put, List.setIfInBounds_toArray, List.set_cons_succ, List.set_cons_zero]
    refine take_at 13 (some 124) (v := ?_) rfl rfl (by kernel_rfl) (by kernel_rfl) (by kernel_rfl) (fun _ _ _ h => h) (Or.inl ⟨by rfl, ?_⟩) (by assumption) ?_
    rotate_left
    · intro w hSw
      (try dsimp only at hSw)
      go_simp
      first | done | with_reducible rfl
    simp only [Act.put, List.setIfInBounds_toArray, List.set_cons_succ, List.set_cons_zero]
    refine take_at 14 (some 125) (v := ?_) rfl rfl (by kernel_rfl) (by kernel_rfl) (by kernel_rfl) (fun _ _ _ h => h) (Or.inl ⟨by rfl, ?_⟩) (by assumption) ?_
    rotate_left
    · intro w hSw
      (try dsimp only at hSw)
      go_simp
      first | done | with_reducible rfl
    simp only [Act.put, List.setIfInBounds_toArray, List.set_cons_succ, List.set_cons_zero]
    refine take_at 15 (some 126) (v := ?_) rfl rfl (by kernel_rfl) (by kernel_rfl) (by kernel_rfl) (fun _ _ _ h => h) (Or.inl ⟨by rfl, ?_⟩) (by assumption) ?_
    rotate_left
    · intro w hSw
      (try dsimp only at hSw)
      go_simp
      first | done | with_reducible rfl
    simp only [Act.put, List.setIfInBounds_toArray, List.set_cons_succ, List.set_cons_zero]
    obtain ⟨wd, hwd⟩ : ∃ q, q = w9.drew := ⟨_, rfl⟩
    have hbd : Below w9.heap.size w9 wd := hwd ▸ hb0
    rw [← hwd]
    clear hwd hHeld
    have hHeld := hbd
    refine wpAnyH_ready (rs := [0, 20]) (by kernel_rfl) (by simp) ?_
    refine AllReadyH.cons rfl (fun K hK => ?_) (AllReadyH.cons rfl (fun K hK => ?_) AllReadyH.nil)
    · skip
      go_simp
      obtain ⟨u1, e1⟩ : ∃ q, q = wd.alloc (.cells #[] 5) := ⟨_, rfl⟩
      rw [← e1]
      have st1 : Below wd.heap.size wd u1 := e1 ▸ (Below.refl _ _).alloc (Nat.le_refl _) _
      have hu1 : Below w9.heap.size w9 u1 := hbd.trans (st1.mono hbd.size)
      have ow1 : OwnB u1 w9.heap.size (.slice (some ⟨wd.heap.size, 0, none⟩) 0 0) [] := e1 ▸ OwnB.empty wd w9.heap.size hbd.size
      clear e1
      refine hK.out _ _ hu1 (fun hHeld => ?_)
      clear hK K
      refine wpAnyH_ready (rs := [4, 20]) (by kernel_rfl) (by simp) ?_
      refine AllReadyH.cons rfl (fun K hK => ?_) (AllReadyH.cons rfl (fun K hK => ?_) AllReadyH.nil)
      · skip
        refine step_append_bytes rfl (.tmp 111) (.tmp 114) rfl w9.heap.size (.slice (some ⟨wd.heap.size, 0, none⟩) 0 0) [] l1 (by rfl) ow1 ad n mc (by rfl) HL1.out (HR1.out.below (HS9.out.bel.trans (hu1.mono HS9.out.bel.size))) (fun e => by have := hD.out.hnil e; omega) (by simp; omega) hu1.size ?_
        intro v2 u2 ow2 gr2 bw2
        rw [List.nil_append] at ow2
        have hu2 : Below w9.heap.size w9 u2 := hu1.trans bw2
        simp only [Act.put]
        refine hK.out _ _ hu2 (fun hHeld => ?_)
        clear hK K gr2 bw2
        refine wpAnyH_ready (rs := [6, 20]) (by kernel_rfl) (by simp) ?_
        refine AllReadyH.cons rfl (fun K hK => ?_) (AllReadyH.cons rfl (fun K hK => ?_) AllReadyH.nil)
        · skip
          refine step_append_bytes rfl (.tmp 115) (.tmp 116) rfl w9.heap.size v2 l1 lr (by rfl) ow2 ar r rc (by rfl) hM.out.hlen.out (hM.out.rb.below (HS9.out.bel.trans (hu2.mono HS9.out.bel.size))) hM.out.hnil (by rw [HL1.out]; omega) hu2.size ?_
          intro v3 u3 ow3 gr3 bw3
          have hu3 : Below w9.heap.size w9 u3 := hu2.trans bw3
          obtain ⟨x3, nx3, cx3, rfl, hlx3, hrx3, hcx3, -, hnx3, -⟩ := ow3.shapeN
          obtain rfl : nx3 = n + r := hlx3.out.symm.trans HL2.out
          simp only [Act.put]
          refine hK.out _ _ hu3 (fun hHeld => ?_)
          clear hK K gr3 bw3
          refine wpAnyH_ready (rs := [16, 20]) (by kernel_rfl) (by simp) ?_
          refine AllReadyH.cons rfl (fun K hK => ?_) (AllReadyH.cons rfl (fun K hK => ?_) AllReadyH.nil)
          · skip
            go_simp
            refine (pass_any W0 H0 c d laced p (l1 ++ lr) (n + r) cx3 w.heap.size pn pcap 0 x3 ap none S u3 OK.out { ok := OK.out, hW0 := hW40, hH0 := hH40, hW1 := hW1, hH1 := hH1, hp := hp7, inter := hI.out.below (HS9.out.bel.trans (hu3.mono HS9.out.bel.size)), hl := HL2.out, hm := by omega, hmc := hcx3, src := hrx3, eofs := hE.out.below (HS9.out.bel.trans (hu3.mono HS9.out.bel.size)), nB := (HS9.out.bel.trans (hu3.mono HS9.out.bel.size)).size } hnx3 (hS.out.below (HS9.out.bel.trans (hu3.mono HS9.out.bel.size))) HPN ok3.out).mono ?_
            rintro e u4 hend
            obtain ⟨g7, ga, m7, j7, gn, gc, rfl, hl8, hr8, hs8, hbu4⟩ := HOUT.out (l1 ++ lr) _ e u4 HROW.out hend
            clear hend
            unfold pcV
            have hu4 : Below w9.heap.size w9 u4 := hu3.trans (hbu4.mono hu3.size)
            refine hK.out _ _ hu4 (fun hHeld => ?_)
            clear hK K
            refine take_at 17 (some 110) (v := ?_) rfl rfl (by kernel_rfl) (by kernel_rfl) (by kernel_rfl) (fun _ _ _ h => h) (Or.inl ⟨by rfl, ?_⟩) (by assumption) ?_
            rotate_left
            · intro w hSw
              (try dsimp only at hSw)
              go_simp
              first | done | with_reducible rfl
            simp only [Act.put, List.setIfInBounds_toArray, List.set_cons_succ, List.set_cons_zero]
            refine take_at 18 (some 128) (v := ?_) rfl rfl (by kernel_rfl) (by kernel_rfl) (by kernel_rfl) (fun _ _ _ h => h) (Or.inl ⟨by rfl, ?_⟩) (by assumption) ?_
            rotate_left
            · intro w hSw
              (try dsimp only at hSw)
              go_simp
              first | done | with_reducible rfl
            simp only [Act.put, List.setIfInBounds_toArray, List.set_cons_succ, List.set_cons_zero]
            refine take_at 19 (some 129) (v := ?_) rfl rfl (by kernel_rfl) (by kernel_rfl) (by kernel_rfl) (fun _ _ _ h => h) (Or.inl ⟨by rfl, ?_⟩) (by assumption) ?_
            rotate_left
            · intro w hSw
              (try dsimp only at hSw)
              go_simp
              first | done | with_reducible rfl
            simp only [Act.put, List.setIfInBounds_toArray, List.set_cons_succ, List.set_cons_zero]
            refine wpAnyH_ready (rs := [20]) (by kernel_rfl) (by simp) ?_
            refine AllReadyH.cons rfl (fun K hK => ?_) AllReadyH.nil
            go_simp
            obtain ⟨wa, ea⟩ : ∃ q, q = u4.alloc (.cells #[.int .i64 0, .int .i64 0, .int .i64 0, .int .i64 0, .int .i64 0, .int .i64 0, .slice none 0 0, .slice none 0 0] 35) := ⟨_, rfl⟩
            rw [← ea]
            have stA : Below u4.heap.size u4 wa := ea ▸ (Below.refl _ _).alloc (Nat.le_refl _) _
            have hba : Below w9.heap.size w9 wa := hu4.trans (stA.mono hu4.size)
            obtain ⟨M2, hM2⟩ : ∃ q, q = u4.heap.size := ⟨_, rfl⟩
            have rwa : wa.heap[M2]? = some (.cells #[.int .i64 0, .int .i64 0, .int .i64 0, .int .i64 0, .int .i64 0, .int .i64 0, .slice none 0 0, .slice none 0 0] 35 (0, 0)) := by rw [ea, hM2]; exact alloc_at _ _
            have hMz : u4.heap.size ≤ M2 := by rw [hM2]; exact Nat.le_refl _
            have hMg : w9.heap.size ≤ M2 := Nat.le_trans hu4.size hMz
            rw [← hM2]
            clear ea hM2
            refine hK.out _ _ hba (fun hHeld => ?_)
            clear hK K
            have z0 : wa.frozen? ⟨M2, 0, none⟩ = false := frozen_of_row wa _ 0 _ _ rwa
            have y0 : wa.cell? ⟨M2, 0, none⟩ = some (Value.int .i64 0) := (cell_of_row wa _ 0 _ _ _ rwa).trans rfl
            have z1 : wa.frozen? ⟨M2, 1, none⟩ = false := frozen_of_row wa _ 1 _ _ rwa
            have y1 : wa.cell? ⟨M2, 1, none⟩ = some (Value.int .i64 0) := (cell_of_row wa _ 1 _ _ _ rwa).trans rfl
            have z2 : wa.frozen? ⟨M2, 2, none⟩ = false := frozen_of_row wa _ 2 _ _ rwa
            have y2 : wa.cell? ⟨M2, 2, none⟩ = some (Value.int .i64 0) := (cell_of_row wa _ 2 _ _ _ rwa).trans rfl
            have z3 : wa.frozen? ⟨M2, 3, none⟩ = false := frozen_of_row wa _ 3 _ _ rwa
            have y3 : wa.cell? ⟨M2, 3, none⟩ = some (Value.int .i64 0) := (cell_of_row wa _ 3 _ _ _ rwa).trans rfl
            have z4 : wa.frozen? ⟨M2, 4, none⟩ = false := frozen_of_row wa _ 4 _ _ rwa
            have y4 : wa.cell? ⟨M2, 4, none⟩ = some (Value.int .i64 0) := (cell_of_row wa _ 4 _ _ _ rwa).trans rfl
            have z5 : wa.frozen? ⟨M2, 5, none⟩ = false := frozen_of_row wa _ 5 _ _ rwa
            have y5 : wa.cell? ⟨M2, 5, none⟩ = some (Value.int .i64 0) := (cell_of_row wa _ 5 _ _ _ rwa).trans rfl
            have z6 : wa.frozen? ⟨M2, 6, none⟩ = false := frozen_of_row wa _ 6 _ _ rwa
            have y6 : wa.cell? ⟨M2, 6, none⟩ = some (Value.slice none 0 0) := (cell_of_row wa _ 6 _ _ _ rwa).trans rfl
            have z7 : wa.frozen? ⟨M2, 7, none⟩ = false := frozen_of_row wa _ 7 _ _ rwa
            have y7 : wa.cell? ⟨M2, 7, none⟩ = some (Value.slice none 0 0) := (cell_of_row wa _ 7 _ _ _ rwa).trans rfl
            obtain ⟨wz, hwz⟩ : ∃ q, q = put8 wa M2 kd Wx Hx Sx (.slice g7 m7 j7) (.slice ga gn gc) := ⟨_, rfl⟩
            have onwz : Only M2 wa wz := hwz ▸ put8_only _ _ _ _ _ _ _ _
            have rowwz := put8_row wa M2 kd Wx Hx Sx (.slice g7 m7 j7) (.slice ga gn gc) rwa
            rw [← hwz] at rowwz
            have hbwz : Below w9.heap.size w9 wz := hba.trans (onwz.below (by omega))
            have lMwz := lt_of_row rwa
            refine wpAnyH_ready (rs := [21]) (by kernel_rfl) (by simp) ?_
            refine AllReadyH.cons rfl (fun K hK => ?_) AllReadyH.nil
            go_simp
            refine hK.out _ (put8 wa M2 kd Wx Hx Sx (.slice g7 m7 j7) (.slice ga gn gc)) (by rw [← hwz]; exact hbwz) (fun hHeld => ?_)
            clear hK K hHeld
            rw [← hwz]
            have hHeld := hbwz
            clear z0 y0 z1 y1 z2 y2 z3 y3 z4 y4 z5 y5 z6 y6 z7 y7 hwz
            refine take_at 22 (some 27) (v := ?_) rfl rfl (by kernel_rfl) (by kernel_rfl) (by kernel_rfl) (fun _ _ _ h => h) (Or.inl ⟨by rfl, ?_⟩) (by assumption) ?_
            rotate_left
            · intro w hSw
              (try dsimp only at hSw)
              go_simp
              first | done | with_reducible rfl
            simp only [Act.put, List.setIfInBounds_toArray, List.set_cons_succ, List.set_cons_zero]
            refine wpAnyH_done (by kernel_rfl) ?_ _
            go_wp2_with fail
            go_meet
            have bz : Below u4.heap.size u4 wz := stA.trans (onwz.below hMz)
            case rel => exact ⟨M2, m7, j7, gn, gc, g7, ga, rfl, rfl, rowwz, hl8, Lib.hid (hr8.out.below bz), Lib.hid (hs8.out.below bz), hbwz⟩
          · skip
            go_simp
            obtain ⟨u5, e5⟩ : ∃ q, q = u3.alloc (.cells #[.int .i64 0, .int .i64 0, .int .i64 0, .int .i64 0, .int .i64 0, .int .i64 0, .slice none 0 0, .slice none 0 0] 35) := ⟨_, rfl⟩
            rw [← e5]
            have st5 : Below u3.heap.size u3 u5 := e5 ▸ (Below.refl _ _).alloc (Nat.le_refl _) _
            have hu5 : Below w9.heap.size w9 u5 := hu3.trans (st5.mono hu3.size)
            obtain ⟨M2, hM2⟩ : ∃ q, q = u3.heap.size := ⟨_, rfl⟩
            have rw5 : u5.heap[M2]? = some (.cells #[.int .i64 0, .int .i64 0, .int .i64 0, .int .i64 0, .int .i64 0, .int .i64 0, .slice none 0 0, .slice none 0 0] 35 (0, 0)) := by rw [e5, hM2]; exact alloc_at _ _
            have lM2 := lt_of_row rw5
            have hMg : w9.heap.size ≤ M2 := by rw [hM2]; exact hu3.size
            have ry5 := hrx3.below st5
            rw [← hM2]
            clear e5 hM2
            refine hK.out _ _ hu5 (fun hHeld => ?_)
            clear hK K
            refine wpAnyH_ready (rs := [16]) (by kernel_rfl) (by simp) ?_
            refine AllReadyH.cons rfl (fun K hK => ?_) AllReadyH.nil
            go_simp
            refine (pass_any W0 H0 c d laced p (l1 ++ lr) (n + r) cx3 w.heap.size pn pcap 0 x3 ap none S u5 OK.out { ok := OK.out, hW0 := hW40, hH0 := hH40, hW1 := hW1, hH1 := hH1, hp := hp7, inter := hI.out.below (HS9.out.bel.trans (hu5.mono HS9.out.bel.size)), hl := HL2.out, hm := by omega, hmc := hcx3, src := ry5, eofs := hE.out.below (HS9.out.bel.trans (hu5.mono HS9.out.bel.size)), nB := (HS9.out.bel.trans (hu5.mono HS9.out.bel.size)).size } hnx3 (hS.out.below (HS9.out.bel.trans (hu5.mono HS9.out.bel.size))) HPN ok3.out).mono ?_
            rintro e u6 hend
            obtain ⟨g7, ga, m7, j7, gn, gc, rfl, hl8, hr8, hs8, hbu6⟩ := HOUT.out (l1 ++ lr) _ e u6 HROW.out hend
            clear hend
            unfold pcV
            have hu6 : Below w9.heap.size w9 u6 := hu5.trans (hbu6.mono hu5.size)
            have rw6 := (hbu6.block M2 lM2).trans rw5
            have lM2 := lt_of_row rw6
            refine hK.out _ _ hu6 (fun hHeld => ?_)
            clear hK K
            refine take_at 17 (some 110) (v := ?_) rfl rfl (by kernel_rfl) (by kernel_rfl) (by kernel_rfl) (fun _ _ _ h => h) (Or.inl ⟨by rfl, ?_⟩) (by assumption) ?_
            rotate_left
            · intro w hSw
              (try dsimp only at hSw)
              go_simp
              first | done | with_reducible rfl
            simp only [Act.put, List.setIfInBounds_toArray, List.set_cons_succ, List.set_cons_zero]
            refine take_at 18 (some 128) (v := ?_) rfl rfl (by kernel_rfl) (by kernel_rfl) (by kernel_rfl) (fun _ _ _ h => h) (Or.inl ⟨by rfl, ?_⟩) (by assumption) ?_
            rotate_left
            · intro w hSw
              (try dsimp only at hSw)
              go_simp
              first | done | with_reducible rfl
            simp only [Act.put, List.setIfInBounds_toArray, List.set_cons_succ, List.set_cons_zero]
            refine take_at 19 (some 129) (v := ?_) rfl rfl (by kernel_rfl) (by kernel_rfl) (by kernel_rfl) (fun _ _ _ h => h) (Or.inl ⟨by rfl, ?_⟩) (by assumption) ?_
            rotate_left
            · intro w hSw
              (try dsimp only at hSw)
              go_simp
              first | done | with_reducible rfl
            simp only [Act.put, List.setIfInBounds_toArray, List.set_cons_succ, List.set_cons_zero]
            have z0 : u6.frozen? ⟨M2, 0, none⟩ = false := frozen_of_row u6 _ 0 _ _ rw6
            have y0 : u6.cell? ⟨M2, 0, none⟩ = some (Value.int .i64 0) := (cell_of_row u6 _ 0 _ _ _ rw6).trans rfl
            have z1 : u6.frozen? ⟨M2, 1, none⟩ = false := frozen_of_row u6 _ 1 _ _ rw6
            have y1 : u6.cell? ⟨M2, 1, none⟩ = some (Value.int .i64 0) := (cell_of_row u6 _ 1 _ _ _ rw6).trans rfl
            have z2 : u6.frozen? ⟨M2, 2, none⟩ = false := frozen_of_row u6 _ 2 _ _ rw6
            have y2 : u6.cell? ⟨M2, 2, none⟩ = some (Value.int .i64 0) := (cell_of_row u6 _ 2 _ _ _ rw6).trans rfl
            have z3 : u6.frozen? ⟨M2, 3, none⟩ = false := frozen_of_row u6 _ 3 _ _ rw6
            have y3 : u6.cell? ⟨M2, 3, none⟩ = some (Value.int .i64 0) := (cell_of_row u6 _ 3 _ _ _ rw6).trans rfl
            have z4 : u6.frozen? ⟨M2, 4, none⟩ = false := frozen_of_row u6 _ 4 _ _ rw6
            have y4 : u6.cell? ⟨M2, 4, none⟩ = some (Value.int .i64 0) := (cell_of_row u6 _ 4 _ _ _ rw6).trans rfl
            have z5 : u6.frozen? ⟨M2, 5, none⟩ = false := frozen_of_row u6 _ 5 _ _ rw6
            have y5 : u6.cell? ⟨M2, 5, none⟩ = some (Value.int .i64 0) := (cell_of_row u6 _ 5 _ _ _ rw6).trans rfl
            have z6 : u6.frozen? ⟨M2, 6, none⟩ = false := frozen_of_row u6 _ 6 _ _ rw6
            have y6 : u6.cell? ⟨M2, 6, none⟩ = some (Value.slice none 0 0) := (cell_of_row u6 _ 6 _ _ _ rw6).trans rfl
            have z7 : u6.frozen? ⟨M2, 7, none⟩ = false := frozen_of_row u6 _ 7 _ _ rw6
            have y7 : u6.cell? ⟨M2, 7, none⟩ = some (Value.slice none 0 0) := (cell_of_row u6 _ 7 _ _ _ rw6).trans rfl
            obtain ⟨wz, hwz⟩ : ∃ q, q = put8 u6 M2 kd Wx Hx Sx (.slice g7 m7 j7) (.slice ga gn gc) := ⟨_, rfl⟩
            have onwz : Only M2 u6 wz := hwz ▸ put8_only _ _ _ _ _ _ _ _
            have rowwz := put8_row u6 M2 kd Wx Hx Sx (.slice g7 m7 j7) (.slice ga gn gc) rw6
            rw [← hwz] at rowwz
            have hbwz : Below w9.heap.size w9 wz := hu6.trans (onwz.below (by omega))
            have lMwz := lt_of_row rw6
            refine wpAnyH_ready (rs := [21]) (by kernel_rfl) (by simp) ?_
            refine AllReadyH.cons rfl (fun K hK => ?_) AllReadyH.nil
            go_simp
            refine hK.out _ (put8 u6 M2 kd Wx Hx Sx (.slice g7 m7 j7) (.slice ga gn gc)) (by rw [← hwz]; exact hbwz) (fun hHeld => ?_)
            clear hK K hHeld
            rw [← hwz]
            have hHeld := hbwz
            clear z0 y0 z1 y1 z2 y2 z3 y3 z4 y4 z5 y5 z6 y6 z7 y7 hwz
            refine take_at 22 (some 27) (v := ?_) rfl rfl (by kernel_rfl) (by kernel_rfl) (by kernel_rfl) (fun _ _ _ h => h) (Or.inl ⟨by rfl, ?_⟩) (by assumption) ?_
            rotate_left
            · intro w hSw
              (try dsimp only at hSw)
              go_simp
              first | done | with_reducible rfl
            simp only [Act.put, List.setIfInBounds_toArray, List.set_cons_succ, List.set_cons_zero]
            refine wpAnyH_done (by kernel_rfl) ?_ _
            go_wp2_with fail
            go_meet
            case rel => exact ⟨M2, m7, j7, gn, gc, g7, ga, rfl, rfl, rowwz, hl8, Lib.hid (rb_only hr8.out rw6 onwz), Lib.hid (inS_only hs8.out rw6 onwz), hbwz⟩
        · skip
          go_simp
          obtain ⟨u7, e7⟩ : ∃ q, q = u2.alloc (.cells #[.int .i64 0, .int .i64 0, .int .i64 0, .int .i64 0, .int .i64 0, .int .i64 0, .slice none 0 0, .slice none 0 0] 35) := ⟨_, rfl⟩
          rw [← e7]
          have st7 : Below u2.heap.size u2 u7 := e7 ▸ (Below.refl _ _).alloc (Nat.le_refl _) _
          have hu7 : Below w9.heap.size w9 u7 := hu2.trans (st7.mono hu2.size)
          obtain ⟨M2, hM2⟩ : ∃ q, q = u2.heap.size := ⟨_, rfl⟩
          have rw7 : u7.heap[M2]? = some (.cells #[.int .i64 0, .int .i64 0, .int .i64 0, .int .i64 0, .int .i64 0, .int .i64 0, .slice none 0 0, .slice none 0 0] 35 (0, 0)) := by rw [e7, hM2]; exact alloc_at _ _
          have lM2 := lt_of_row rw7
          have hMg : w9.heap.size ≤ M2 := by rw [hM2]; exact hu2.size
          have ow7 : OwnB u7 w9.heap.size v2 l1 := e7 ▸ ow2.alloc _
          rw [← hM2]
          clear e7 hM2
          refine hK.out _ _ hu7 (fun hHeld => ?_)
          clear hK K
          refine wpAnyH_ready (rs := [6]) (by kernel_rfl) (by simp) ?_
          refine AllReadyH.cons rfl (fun K hK => ?_) AllReadyH.nil
          refine step_append_bytes rfl (.tmp 115) (.tmp 116) rfl w9.heap.size v2 l1 lr (by rfl) ow7 ar r rc (by rfl) hM.out.hlen.out (hM.out.rb.below (HS9.out.bel.trans (hu7.mono HS9.out.bel.size))) hM.out.hnil (by rw [HL1.out]; omega) hu7.size ?_
          intro v8 u8 ow8 gr8 bw8
          have hu8 : Below w9.heap.size w9 u8 := hu7.trans bw8
          have rw8 := (gr8.block M2 lM2 (Ne.symm (own_ne ow7 rw7))).trans rw7
          have lM2 := lt_of_row rw8
          obtain ⟨x8, nx8, cx8, rfl, hlx8, hrx8, hcx8, -, hnx8, -⟩ := ow8.shapeN
          obtain rfl : nx8 = n + r := hlx8.out.symm.trans HL2.out
          simp only [Act.put]
          refine hK.out _ _ hu8 (fun hHeld => ?_)
          clear hK K gr8 bw8
          refine wpAnyH_ready (rs := [16]) (by kernel_rfl) (by simp) ?_
          refine AllReadyH.cons rfl (fun K hK => ?_) AllReadyH.nil
          go_simp
          refine (pass_any W0 H0 c d laced p (l1 ++ lr) (n + r) cx8 w.heap.size pn pcap 0 x8 ap none S u8 OK.out { ok := OK.out, hW0 := hW40, hH0 := hH40, hW1 := hW1, hH1 := hH1, hp := hp7, inter := hI.out.below (HS9.out.bel.trans (hu8.mono HS9.out.bel.size)), hl := HL2.out, hm := by omega, hmc := hcx8, src := hrx8, eofs := hE.out.below (HS9.out.bel.trans (hu8.mono HS9.out.bel.size)), nB := (HS9.out.bel.trans (hu8.mono HS9.out.bel.size)).size } hnx8 (hS.out.below (HS9.out.bel.trans (hu8.mono HS9.out.bel.size))) HPN ok3.out).mono ?_
          rintro e u9 hend
          obtain ⟨g7, ga, m7, j7, gn, gc, rfl, hl8, hr8, hs8, hbu9⟩ := HOUT.out (l1 ++ lr) _ e u9 HROW.out hend
          clear hend
          unfold pcV
          have hu9 : Below w9.heap.size w9 u9 := hu8.trans (hbu9.mono hu8.size)
          have rw9 := (hbu9.block M2 lM2).trans rw8
          have lM2 := lt_of_row rw9
          refine hK.out _ _ hu9 (fun hHeld => ?_)
          clear hK K
          refine take_at 17 (some 110) (v := ?_) rfl rfl (by kernel_rfl) (by kernel_rfl) (by kernel_rfl) (fun _ _ _ h => h) (Or.inl ⟨by rfl, ?_⟩) (by assumption) ?_
          rotate_left
          · intro w hSw
            (try dsimp only at hSw)
            go_simp
            first | done | with_reducible rfl
          simp only [Act.put, List.setIfInBounds_toArray, List.set_cons_succ, List.set_cons_zero]
          refine take_at 18 (some 128) (v := ?_) rfl rfl (by kernel_rfl) (by kernel_rfl) (by kernel_rfl) (fun _ _ _ h => h) (Or.inl ⟨by rfl, ?_⟩) (by assumption) ?_
          rotate_left
          · intro w hSw
            (try dsimp only at hSw)
            go_simp
            first | done | with_reducible rfl
          simp only [Act.put, List.setIfInBounds_toArray, List.set_cons_succ, List.set_cons_zero]
          refine take_at 19 (some 129) (v := ?_) rfl rfl (by kernel_rfl) (by kernel_rfl) (by kernel_rfl) (fun _ _ _ h => h) (Or.inl ⟨by rfl, ?_⟩) (by assumption) ?_
          rotate_left
          · intro w hSw
            (try dsimp only at hSw)
            go_simp
            first | done | with_reducible rfl
          simp only [Act.put, List.setIfInBounds_toArray, List.set_cons_succ, List.set_cons_zero]
          have z0 : u9.frozen? ⟨M2, 0, none⟩ = false := frozen_of_row u9 _ 0 _ _ rw9
          have y0 : u9.cell? ⟨M2, 0, none⟩ = some (Value.int .i64 0) := (cell_of_row u9 _ 0 _ _ _ rw9).trans rfl
          have z1 : u9.frozen? ⟨M2, 1, none⟩ = false := frozen_of_row u9 _ 1 _ _ rw9
          have y1 : u9.cell? ⟨M2, 1, none⟩ = some (Value.int .i64 0) := (cell_of_row u9 _ 1 _ _ _ rw9).trans rfl
          have z2 : u9.frozen? ⟨M2, 2, none⟩ = false := frozen_of_row u9 _ 2 _ _ rw9
          have y2 : u9.cell? ⟨M2, 2, none⟩ = some (Value.int .i64 0) := (cell_of_row u9 _ 2 _ _ _ rw9).trans rfl
          have z3 : u9.frozen? ⟨M2, 3, none⟩ = false := frozen_of_row u9 _ 3 _ _ rw9
          have y3 : u9.cell? ⟨M2, 3, none⟩ = some (Value.int .i64 0) := (cell_of_row u9 _ 3 _ _ _ rw9).trans rfl
          have z4 : u9.frozen? ⟨M2, 4, none⟩ = false := frozen_of_row u9 _ 4 _ _ rw9
          have y4 : u9.cell? ⟨M2, 4, none⟩ = some (Value.int .i64 0) := (cell_of_row u9 _ 4 _ _ _ rw9).trans rfl
          have z5 : u9.frozen? ⟨M2, 5, none⟩ = false := frozen_of_row u9 _ 5 _ _ rw9
          have y5 : u9.cell? ⟨M2, 5, none⟩ = some (Value.int .i64 0) := (cell_of_row u9 _ 5 _ _ _ rw9).trans rfl
          have z6 : u9.frozen? ⟨M2, 6, none⟩ = false := frozen_of_row u9 _ 6 _ _ rw9
          have y6 : u9.cell? ⟨M2, 6, none⟩ = some (Value.slice none 0 0) := (cell_of_row u9 _ 6 _ _ _ rw9).trans rfl
          have z7 : u9.frozen? ⟨M2, 7, none⟩ = false := frozen_of_row u9 _ 7 _ _ rw9
          have y7 : u9.cell? ⟨M2, 7, none⟩ = some (Value.slice none 0 0) := (cell_of_row u9 _ 7 _ _ _ rw9).trans rfl
          obtain ⟨wz, hwz⟩ : ∃ q, q = put8 u9 M2 kd Wx Hx Sx (.slice g7 m7 j7) (.slice ga gn gc) := ⟨_, rfl⟩
          have onwz : Only M2 u9 wz := hwz ▸ put8_only _ _ _ _ _ _ _ _
          have rowwz := put8_row u9 M2 kd Wx Hx Sx (.slice g7 m7 j7) (.slice ga gn gc) rw9
          rw [← hwz] at rowwz
          have hbwz : Below w9.heap.size w9 wz := hu9.trans (onwz.below (by omega))
          have lMwz := lt_of_row rw9
          refine wpAnyH_ready (rs := [21]) (by kernel_rfl) (by simp) ?_
          refine AllReadyH.cons rfl (fun K hK => ?_) AllReadyH.nil
          go_simp
          refine hK.out _ (put8 u9 M2 kd Wx Hx Sx (.slice g7 m7 j7) (.slice ga gn gc)) (by rw [← hwz]; exact hbwz) (fun hHeld => ?_)
          clear hK K hHeld
          rw [← hwz]
          have hHeld := hbwz
          clear z0 y0 z1 y1 z2 y2 z3 y3 z4 y4 z5 y5 z6 y6 z7 y7 hwz
          refine take_at 22 (some 27) (v := ?_) rfl rfl (by kernel_rfl) (by kernel_rfl) (by kernel_rfl) (fun _ _ _ h => h) (Or.inl ⟨by rfl, ?_⟩) (by assumption) ?_
          rotate_left
          · intro w hSw
            (try dsimp only at hSw)
            go_simp
            first | done | with_reducible rfl
          simp only [Act.put, List.setIfInBounds_toArray, List.set_cons_succ, List.set_cons_zero]
          refine wpAnyH_done (by kernel_rfl) ?_ _
          go_wp2_with fail
          go_meet
          case rel => exact ⟨M2, m7, j7, gn, gc, g7, ga, rfl, rfl, rowwz, hl8, Lib.hid (rb_only hr8.out rw9 onwz), Lib.hid (inS_only hs8.out rw9 onwz), hbwz⟩
      · skip
        go_simp
        obtain ⟨u10, e10⟩ : ∃ q, q = u1.alloc (.cells #[.int .i64 0, .int .i64 0, .int .i64 0, .int .i64 0, .int .i64 0, .int .i64 0, .slice none 0 0, .slice none 0 0] 35) := ⟨_, rfl⟩
        rw [← e10]
        have st10 : Below u1.heap.size u1 u10 := e10 ▸ (Below.refl _ _).alloc (Nat.le_refl _) _
        have hu10 : Below w9.heap.size w9 u10 := hu1.trans (st10.mono hu1.size)
        obtain ⟨M2, hM2⟩ : ∃ q, q = u1.heap.size := ⟨_, rfl⟩
        have rw10 : u10.heap[M2]? = some (.cells #[.int .i64 0, .int .i64 0, .int .i64 0, .int .i64 0, .int .i64 0, .int .i64 0, .slice none 0 0, .slice none 0 0] 35 (0, 0)) := by rw [e10, hM2]; exact alloc_at _ _
        have lM2 := lt_of_row rw10
        have hMg : w9.heap.size ≤ M2 := by rw [hM2]; exact hu1.size
        have ow10 : OwnB u10 w9.heap.size (.slice (some ⟨wd.heap.size, 0, none⟩) 0 0) [] := e10 ▸ ow1.alloc _
        rw [← hM2]
        clear e10 hM2
        refine hK.out _ _ hu10 (fun hHeld => ?_)
        clear hK K
        refine wpAnyH_ready (rs := [4]) (by kernel_rfl) (by simp) ?_
        refine AllReadyH.cons rfl (fun K hK => ?_) AllReadyH.nil
        refine step_append_bytes rfl (.tmp 111) (.tmp 114) rfl w9.heap.size (.slice (some ⟨wd.heap.size, 0, none⟩) 0 0) [] l1 (by rfl) ow10 ad n mc (by rfl) HL1.out (HR1.out.below (HS9.out.bel.trans (hu10.mono HS9.out.bel.size))) (fun e => by have := hD.out.hnil e; omega) (by simp; omega) hu10.size ?_
        intro v11 u11 ow11 gr11 bw11
        rw [List.nil_append] at ow11
        have hu11 : Below w9.heap.size w9 u11 := hu10.trans bw11
        have rw11 := (gr11.block M2 lM2 (Ne.symm (own_ne ow10 rw10))).trans rw10
        have lM2 := lt_of_row rw11
        simp only [Act.put]
        refine hK.out _ _ hu11 (fun hHeld => ?_)
        clear hK K gr11 bw11
        refine wpAnyH_ready (rs := [6]) (by kernel_rfl) (by simp) ?_
        refine AllReadyH.cons rfl (fun K hK => ?_) AllReadyH.nil
        refine step_append_bytes rfl (.tmp 115) (.tmp 116) rfl w9.heap.size v11 l1 lr (by rfl) ow11 ar r rc (by rfl) hM.out.hlen.out (hM.out.rb.below (HS9.out.bel.trans (hu11.mono HS9.out.bel.size))) hM.out.hnil (by rw [HL1.out]; omega) hu11.size ?_
        intro v12 u12 ow12 gr12 bw12
        have hu12 : Below w9.heap.size w9 u12 := hu11.trans bw12
        have rw12 := (gr12.block M2 lM2 (Ne.symm (own_ne ow11 rw11))).trans rw11
        have lM2 := lt_of_row rw12
        obtain ⟨x12, nx12, cx12, rfl, hlx12, hrx12, hcx12, -, hnx12, -⟩ := ow12.shapeN
        obtain rfl : nx12 = n + r := hlx12.out.symm.trans HL2.out
        simp only [Act.put]
        refine hK.out _ _ hu12 (fun hHeld => ?_)
        clear hK K gr12 bw12
        refine wpAnyH_ready (rs := [16]) (by kernel_rfl) (by simp) ?_
        refine AllReadyH.cons rfl (fun K hK => ?_) AllReadyH.nil
        go_simp
        refine (pass_any W0 H0 c d laced p (l1 ++ lr) (n + r) cx12 w.heap.size pn pcap 0 x12 ap none S u12 OK.out { ok := OK.out, hW0 := hW40, hH0 := hH40, hW1 := hW1, hH1 := hH1, hp := hp7, inter := hI.out.below (HS9.out.bel.trans (hu12.mono HS9.out.bel.size)), hl := HL2.out, hm := by omega, hmc := hcx12, src := hrx12, eofs := hE.out.below (HS9.out.bel.trans (hu12.mono HS9.out.bel.size)), nB := (HS9.out.bel.trans (hu12.mono HS9.out.bel.size)).size } hnx12 (hS.out.below (HS9.out.bel.trans (hu12.mono HS9.out.bel.size))) HPN ok3.out).mono ?_
        rintro e u13 hend
        obtain ⟨g7, ga, m7, j7, gn, gc, rfl, hl8, hr8, hs8, hbu13⟩ := HOUT.out (l1 ++ lr) _ e u13 HROW.out hend
        clear hend
        unfold pcV
        have hu13 : Below w9.heap.size w9 u13 := hu12.trans (hbu13.mono hu12.size)
        have rw13 := (hbu13.block M2 lM2).trans rw12
        have lM2 := lt_of_row rw13
        refine hK.out _ _ hu13 (fun hHeld => ?_)
        clear hK K
        refine take_at 17 (some 110) (v := ?_) rfl rfl (by kernel_rfl) (by kernel_rfl) (by kernel_rfl) (fun _ _ _ h => h) (Or.inl ⟨by rfl, ?_⟩) (by assumption) ?_
        rotate_left
        · intro w hSw
          (try dsimp only at hSw)
          go_simp
          first | done | with_reducible rfl
        simp only [Act.put, List.setIfInBounds_toArray, List.set_cons_succ, List.set_cons_zero]
        refine take_at 18 (some 128) (v := ?_) rfl rfl (by kernel_rfl) (by kernel_rfl) (by kernel_rfl) (fun _ _ _ h => h) (Or.inl ⟨by rfl, ?_⟩) (by assumption) ?_
        rotate_left
        · intro w hSw
          (try dsimp only at hSw)
          go_simp
          first | done | with_reducible rfl
        simp only [Act.put, List.setIfInBounds_toArray, List.set_cons_succ, List.set_cons_zero]
        refine take_at 19 (some 129) (v := ?_) rfl rfl (by kernel_rfl) (by kernel_rfl) (by kernel_rfl) (fun _ _ _ h => h) (Or.inl ⟨by rfl, ?_⟩) (by assumption) ?_
        rotate_left
        · intro w hSw
          (try dsimp only at hSw)
          go_simp
          first | done | with_reducible rfl
        simp only [Act.put, List.setIfInBounds_toArray, List.set_cons_succ, List.set_cons_zero]
        have z0 : u13.frozen? ⟨M2, 0, none⟩ = false := frozen_of_row u13 _ 0 _ _ rw13
        have y0 : u13.cell? ⟨M2, 0, none⟩ = some (Value.int .i64 0) := (cell_of_row u13 _ 0 _ _ _ rw13).trans rfl
        have z1 : u13.frozen? ⟨M2, 1, none⟩ = false := frozen_of_row u13 _ 1 _ _ rw13
        have y1 : u13.cell? ⟨M2, 1, none⟩ = some (Value.int .i64 0) := (cell_of_row u13 _ 1 _ _ _ rw13).trans rfl
        have z2 : u13.frozen? ⟨M2, 2, none⟩ = false := frozen_of_row u13 _ 2 _ _ rw13
        have y2 : u13.cell? ⟨M2, 2, none⟩ = some (Value.int .i64 0) := (cell_of_row u13 _ 2 _ _ _ rw13).trans rfl
        have z3 : u13.frozen? ⟨M2, 3, none⟩ = false := frozen_of_row u13 _ 3 _ _ rw13
        have y3 : u13.cell? ⟨M2, 3, none⟩ = some (Value.int .i64 0) := (cell_of_row u13 _ 3 _ _ _ rw13).trans rfl
        have z4 : u13.frozen? ⟨M2, 4, none⟩ = false := frozen_of_row u13 _ 4 _ _ rw13
        have y4 : u13.cell? ⟨M2, 4, none⟩ = some (Value.int .i64 0) := (cell_of_row u13 _ 4 _ _ _ rw13).trans rfl
        have z5 : u13.frozen? ⟨M2, 5, none⟩ = false := frozen_of_row u13 _ 5 _ _ rw13
        have y5 : u13.cell? ⟨M2, 5, none⟩ = some (Value.int .i64 0) := (cell_of_row u13 _ 5 _ _ _ rw13).trans rfl
        have z6 : u13.frozen? ⟨M2, 6, none⟩ = false := frozen_of_row u13 _ 6 _ _ rw13
        have y6 : u13.cell? ⟨M2, 6, none⟩ = some (Value.slice none 0 0) := (cell_of_row u13 _ 6 _ _ _ rw13).trans rfl
        have z7 : u13.frozen? ⟨M2, 7, none⟩ = false := frozen_of_row u13 _ 7 _ _ rw13
        have y7 : u13.cell? ⟨M2, 7, none⟩ = some (Value.slice none 0 0) := (cell_of_row u13 _ 7 _ _ _ rw13).trans rfl
        obtain ⟨wz, hwz⟩ : ∃ q, q = put8 u13 M2 kd Wx Hx Sx (.slice g7 m7 j7) (.slice ga gn gc) := ⟨_, rfl⟩
        have onwz : Only M2 u13 wz := hwz ▸ put8_only _ _ _ _ _ _ _ _
        have rowwz := put8_row u13 M2 kd Wx Hx Sx (.slice g7 m7 j7) (.slice ga gn gc) rw13
        rw [← hwz] at rowwz
        have hbwz : Below w9.heap.size w9 wz := hu13.trans (onwz.below (by omega))
        have lMwz := lt_of_row rw13
        refine wpAnyH_ready (rs := [21]) (by kernel_rfl) (by simp) ?_
        refine AllReadyH.cons rfl (fun K hK => ?_) AllReadyH.nil
        go_simp
        refine hK.out _ (put8 u13 M2 kd Wx Hx Sx (.slice g7 m7 j7) (.slice ga gn gc)) (by rw [← hwz]; exact hbwz) (fun hHeld => ?_)
        clear hK K hHeld
        rw [← hwz]
        have hHeld := hbwz
        clear z0 y0 z1 y1 z2 y2 z3 y3 z4 y4 z5 y5 z6 y6 z7 y7 hwz
        refine take_at 22 (some 27) (v := ?_) rfl rfl (by kernel_rfl) (by kernel_rfl) (by kernel_rfl) (fun _ _ _ h => h) (Or.inl ⟨by rfl, ?_⟩) (by assumption) ?_
        rotate_left
        · intro w hSw
          (try dsimp only at hSw)
          go_simp
          first | done | with_reducible rfl
        simp only [Act.put, List.setIfInBounds_toArray, List.set_cons_succ, List.set_cons_zero]
        refine wpAnyH_done (by kernel_rfl) ?_ _
        go_wp2_with fail
        go_meet
        case rel => exact ⟨M2, m7, j7, gn, gc, g7, ga, rfl, rfl, rowwz, hl8, Lib.hid (rb_only hr8.out rw13 onwz), Lib.hid (inS_only hs8.out rw13 onwz), hbwz⟩
    · skip
      go_simp
      obtain ⟨u14, e14⟩ : ∃ q, q = wd.alloc (.cells #[.int .i64 0, .int .i64 0, .int .i64 0, .int .i64 0, .int .i64 0, .int .i64 0, .slice none 0 0, .slice none 0 0] 35) := ⟨_, rfl⟩
      rw [← e14]
      have st14 : Below wd.heap.size wd u14 := e14 ▸ (Below.refl _ _).alloc (Nat.le_refl _) _
      have hu14 : Below w9.heap.size w9 u14 := hbd.trans (st14.mono hbd.size)
      obtain ⟨M2, hM2⟩ : ∃ q, q = wd.heap.size := ⟨_, rfl⟩
      have rw14 : u14.heap[M2]? = some (.cells #[.int .i64 0, .int .i64 0, .int .i64 0, .int .i64 0, .int .i64 0, .int .i64 0, .slice none 0 0, .slice none 0 0] 35 (0, 0)) := by rw [e14, hM2]; exact alloc_at _ _
      have lM2 := lt_of_row rw14
      have hMg : w9.heap.size ≤ M2 := by rw [hM2]; exact hbd.size
      rw [← hM2]
      clear e14 hM2
      refine hK.out _ _ hu14 (fun hHeld => ?_)
      clear hK K
      refine wpAnyH_ready (rs := [0]) (by kernel_rfl) (by simp) ?_
      refine AllReadyH.cons rfl (fun K hK => ?_) AllReadyH.nil
      go_simp
      obtain ⟨u15, e15⟩ : ∃ q, q = u14.alloc (.cells #[] 5) := ⟨_, rfl⟩
      rw [← e15]
      have st15 : Below u14.heap.size u14 u15 := e15 ▸ (Below.refl _ _).alloc (Nat.le_refl _) _
      have hu15 : Below w9.heap.size w9 u15 := hu14.trans (st15.mono hu14.size)
      have ow15 : OwnB u15 w9.heap.size (.slice (some ⟨u14.heap.size, 0, none⟩) 0 0) [] := e15 ▸ OwnB.empty u14 w9.heap.size hu14.size
      have rw15 := (st15.block M2 lM2).trans rw14
      have lM2 := lt_of_row rw15
      clear e15
      refine hK.out _ _ hu15 (fun hHeld => ?_)
      clear hK K
      refine wpAnyH_ready (rs := [4]) (by kernel_rfl) (by simp) ?_
      refine AllReadyH.cons rfl (fun K hK => ?_) AllReadyH.nil
      refine step_append_bytes rfl (.tmp 111) (.tmp 114) rfl w9.heap.size (.slice (some ⟨u14.heap.size, 0, none⟩) 0 0) [] l1 (by rfl) ow15 ad n mc (by rfl) HL1.out (HR1.out.below (HS9.out.bel.trans (hu15.mono HS9.out.bel.size))) (fun e => by have := hD.out.hnil e; omega) (by simp; omega) hu15.size ?_
      intro v16 u16 ow16 gr16 bw16
      rw [List.nil_append] at ow16
      have hu16 : Below w9.heap.size w9 u16 := hu15.trans bw16
      have rw16 := (gr16.block M2 lM2 (Ne.symm (own_ne ow15 rw15))).trans rw15
      have lM2 := lt_of_row rw16
      simp only [Act.put]
      refine hK.out _ _ hu16 (fun hHeld => ?_)
      clear hK K gr16 bw16
      refine wpAnyH_ready (rs := [6]) (by kernel_rfl) (by simp) ?_
      refine AllReadyH.cons rfl (fun K hK => ?_) AllReadyH.nil
      refine step_append_bytes rfl (.tmp 115) (.tmp 116) rfl w9.heap.size v16 l1 lr (by rfl) ow16 ar r rc (by rfl) hM.out.hlen.out (hM.out.rb.below (HS9.out.bel.trans (hu16.mono HS9.out.bel.size))) hM.out.hnil (by rw [HL1.out]; omega) hu16.size ?_
      intro v17 u17 ow17 gr17 bw17
      have hu17 : Below w9.heap.size w9 u17 := hu16.trans bw17
      have rw17 := (gr17.block M2 lM2 (Ne.symm (own_ne ow16 rw16))).trans rw16
      have lM2 := lt_of_row rw17
      obtain ⟨x17, nx17, cx17, rfl, hlx17, hrx17, hcx17, -, hnx17, -⟩ := ow17.shapeN
      obtain rfl : nx17 = n + r := hlx17.out.symm.trans HL2.out
      simp only [Act.put]
      refine hK.out _ _ hu17 (fun hHeld => ?_)
      clear hK K gr17 bw17
      refine wpAnyH_ready (rs := [16]) (by kernel_rfl) (by simp) ?_
      refine AllReadyH.cons rfl (fun K hK => ?_) AllReadyH.nil
      go_simp
      refine (pass_any W0 H0 c d laced p (l1 ++ lr) (n + r) cx17 w.heap.size pn pcap 0 x17 ap none S u17 OK.out { ok := OK.out, hW0 := hW40, hH0 := hH40, hW1 := hW1, hH1 := hH1, hp := hp7, inter := hI.out.below (HS9.out.bel.trans (hu17.mono HS9.out.bel.size)), hl := HL2.out, hm := by omega, hmc := hcx17, src := hrx17, eofs := hE.out.below (HS9.out.bel.trans (hu17.mono HS9.out.bel.size)), nB := (HS9.out.bel.trans (hu17.mono HS9.out.bel.size)).size } hnx17 (hS.out.below (HS9.out.bel.trans (hu17.mono HS9.out.bel.size))) HPN ok3.out).mono ?_
      rintro e u18 hend
      obtain ⟨g7, ga, m7, j7, gn, gc, rfl, hl8, hr8, hs8, hbu18⟩ := HOUT.out (l1 ++ lr) _ e u18 HROW.out hend
      clear hend
      unfold pcV
      have hu18 : Below w9.heap.size w9 u18 := hu17.trans (hbu18.mono hu17.size)
      have rw18 := (hbu18.block M2 lM2).trans rw17
      have lM2 := lt_of_row rw18
      refine hK.out _ _ hu18 (fun hHeld => ?_)
      clear hK K
      refine take_at 17 (some 110) (v := ?_) rfl rfl (by kernel_rfl) (by kernel_rfl) (by kernel_rfl) (fun _ _ _ h => h) (Or.inl ⟨by rfl, ?_⟩) (by assumption) ?_
      rotate_left
      · intro w hSw
        (try dsimp only at hSw)
        go_simp
        first | done | with_reducible rfl
      simp only [Act.put, List.setIfInBounds_toArray, List.set_cons_succ, List.set_cons_zero]
      refine take_at 18 (some 128) (v := ?_) rfl rfl (by kernel_rfl) (by kernel_rfl) (by kernel_rfl) (fun _ _ _ h => h) (Or.inl ⟨by rfl, ?_⟩) (by assumption) ?_
      rotate_left
      · intro w hSw
        (try dsimp only at hSw)
        go_simp
        first | done | with_reducible rfl
      simp only [Act.put, List.setIfInBounds_toArray, List.set_cons_succ, List.set_cons_zero]
      refine take_at 19 (some 129) (v := ?_) rfl rfl (by kernel_rfl) (by kernel_rfl) (by kernel_rfl) (fun _ _ _ h => h) (Or.inl ⟨by rfl, ?_⟩) (by assumption) ?_
      rotate_left
      · intro w hSw
        (try dsimp only at hSw)
        go_simp
        first | done | with_reducible rfl
      simp only [Act.put, List.setIfInBounds_toArray, List.set_cons_succ, List.set_cons_zero]
      have z0 : u18.frozen? ⟨M2, 0, none⟩ = false := frozen_of_row u18 _ 0 _ _ rw18
      have y0 : u18.cell? ⟨M2, 0, none⟩ = some (Value.int .i64 0) := (cell_of_row u18 _ 0 _ _ _ rw18).trans rfl
      have z1 : u18.frozen? ⟨M2, 1, none⟩ = false := frozen_of_row u18 _ 1 _ _ rw18
      have y1 : u18.cell? ⟨M2, 1, none⟩ = some (Value.int .i64 0) := (cell_of_row u18 _ 1 _ _ _ rw18).trans rfl
      have z2 : u18.frozen? ⟨M2, 2, none⟩ = false := frozen_of_row u18 _ 2 _ _ rw18
      have y2 : u18.cell? ⟨M2, 2, none⟩ = some (Value.int .i64 0) := (cell_of_row u18 _ 2 _ _ _ rw18).trans rfl
      have z3 : u18.frozen? ⟨M2, 3, none⟩ = false := frozen_of_row u18 _ 3 _ _ rw18
      have y3 : u18.cell? ⟨M2, 3, none⟩ = some (Value.int .i64 0) := (cell_of_row u18 _ 3 _ _ _ rw18).trans rfl
      have z4 : u18.frozen? ⟨M2, 4, none⟩ = false := frozen_of_row u18 _ 4 _ _ rw18
      have y4 : u18.cell? ⟨M2, 4, none⟩ = some (Value.int .i64 0) := (cell_of_row u18 _ 4 _ _ _ rw18).trans rfl
      have z5 : u18.frozen? ⟨M2, 5, none⟩ = false := frozen_of_row u18 _ 5 _ _ rw18
      have y5 : u18.cell? ⟨M2, 5, none⟩ = some (Value.int .i64 0) := (cell_of_row u18 _ 5 _ _ _ rw18).trans rfl
      have z6 : u18.frozen? ⟨M2, 6, none⟩ = false := frozen_of_row u18 _ 6 _ _ rw18
      have y6 : u18.cell? ⟨M2, 6, none⟩ = some (Value.slice none 0 0) := (cell_of_row u18 _ 6 _ _ _ rw18).trans rfl
      have z7 : u18.frozen? ⟨M2, 7, none⟩ = false := frozen_of_row u18 _ 7 _ _ rw18
      have y7 : u18.cell? ⟨M2, 7, none⟩ = some (Value.slice none 0 0) := (cell_of_row u18 _ 7 _ _ _ rw18).trans rfl
      obtain ⟨wz, hwz⟩ : ∃ q, q = put8 u18 M2 kd Wx Hx Sx (.slice g7 m7 j7) (.slice ga gn gc) := ⟨_, rfl⟩
      have onwz : Only M2 u18 wz := hwz ▸ put8_only _ _ _ _ _ _ _ _
      have rowwz := put8_row u18 M2 kd Wx Hx Sx (.slice g7 m7 j7) (.slice ga gn gc) rw18
      rw [← hwz] at rowwz
      have hbwz : Below w9.heap.size w9 wz := hu18.trans (onwz.below (by omega))
      have lMwz := lt_of_row rw18
      refine wpAnyH_ready (rs := [21]) (by kernel_rfl) (by simp) ?_
      refine AllReadyH.cons rfl (fun K hK => ?_) AllReadyH.nil
      go_simp
      refine hK.out _ (put8 u18 M2 kd Wx Hx Sx (.slice g7 m7 j7) (.slice ga gn gc)) (by rw [← hwz]; exact hbwz) (fun hHeld => ?_)
      clear hK K hHeld
      rw [← hwz]
      have hHeld := hbwz
      clear z0 y0 z1 y1 z2 y2 z3 y3 z4 y4 z5 y5 z6 y6 z7 y7 hwz
      refine take_at 22 (some 27) (v := ?_) rfl rfl (by kernel_rfl) (by kernel_rfl) (by kernel_rfl) (fun _ _ _ h => h) (Or.inl ⟨by rfl, ?_⟩) (by assumption) ?_
      rotate_left
      · intro w hSw
        (try dsimp only at hSw)
        go_simp
        first | done | with_reducible rfl
      simp only [Act.put, List.setIfInBounds_toArray, List.set_cons_succ, List.set_cons_zero]
      refine wpAnyH_done (by kernel_rfl) ?_ _
      go_wp2_with fail
      go_meet
      case rel => exact ⟨M2, m7, j7, gn, gc, g7, ga, rfl, rfl, rowwz, hl8, Lib.hid (rb_only hr8.out rw18 onwz), Lib.hid (inS_only hs8.out rw18 onwz), hbwz⟩
  case rest =>
  obtain ⟨M2, m7, j7, gn, gc, g7, ga, rfl, rfl, rowM2, hl8, HR8, HS8, hb9a⟩ := hcut
  obtain ⟨w10, rfl⟩ : ∃ q, q = wc := ⟨_, rfl⟩
  obtain rfl : n7 = m7 := hl7.out.symm.trans hl8.out
  obtain rfl : an = gn := HS7.out.hlen.out.symm.trans HS8.out.hlen.out
  have han : an ≤ 1000 := by rw [← HS7.out.hlen.out]; exact hSS
  have HS10 := Lib.hid (HS9.out.next hb9a)
  have ROW1 := Lib.hid ((hb9a.block M lM).trans ROWM.out)
  have ROW2 := Lib.hid rowM2
  have HR7b := Lib.hid (HR7.out.below hb9a)
  have HS7b := Lib.hid (HS7.out.below hb9a)
  obtain ⟨W, hW⟩ : ∃ W, W = (szP (ptL laced p) W0 H0).1 := ⟨_, rfl⟩
  obtain ⟨Hh, hHh⟩ : ∃ H, H = (szP (ptL laced p) W0 H0).2 := ⟨_, rfl⟩
  have HSZ : ∀ w, Calls Tryd.prog 11 #[ptV (ptL laced p), .int .i64 (W0 : Int), .int .i64 (H0 : Int)] w fun e w' => e = .returned (.tuple #[.int .i64 (W : Int), .int .i64 (Hh : Int)]) ∧ Below w.heap.size w w' := by
    rw [hW, hHh]
    exact sizeX_any (ptL laced p) (ptL_ok laced p).1 (ptL_ok laced p).2.1 (ptL_ok laced p).2.2 W0 H0 hW40 hH40 hW1 hH1
  have HSZZ := Lib.hid HSZ
  have HWW := Lib.hid hW
  clear HSZ hW hHh hb9a rowM2
  go_upto_region 12 with fail
  have hSd := HS10.out.drew
  refine wp_region_held_drew (S := fun w' => ShOn w N W0 H0 d c laced w') (by kernel_rfl) hSd (fun hHeld => ?_)
  refine take_at 0 (some 131) (v := ?_) rfl rfl (by kernel_rfl) (by kernel_rfl) (by kernel_rfl) (fun _ _ _ h => h) (Or.inl ⟨by rfl, ?_⟩) (by assumption) ?_
  rotate_left
  · intro w hSw
    (try dsimp only at hSw)
    go_simp
    first | done | with_reducible rfl
  simp only [Act.put, List.setIfInBounds_toArray, List.set_cons_succ, List.set_cons_zero]
  refine take_at 1 (some 132) (v := ?_) rfl rfl (by kernel_rfl) (by kernel_rfl) (by kernel_rfl) (fun _ _ _ h => h) (Or.inl ⟨by rfl, ?_⟩) (by assumption) ?_
  rotate_left
  · intro w hSw
    (try dsimp only at hSw)
    go_simp
    first | done | with_reducible rfl
  simp only [Act.put, List.setIfInBounds_toArray, List.set_cons_succ, List.set_cons_zero]
  refine take_at 3 (some 134) (v := ?_) rfl rfl (by kernel_rfl) (by kernel_rfl) (by kernel_rfl) (fun _ _ _ h => h) (Or.inl ⟨by rfl, ?_⟩) (by assumption) ?_
  rotate_left
  · intro w hSw
    (try dsimp only at hSw)
    go_simp
    first | done | with_reducible rfl
  simp only [Act.put, List.setIfInBounds_toArray, List.set_cons_succ, List.set_cons_zero]
  refine take_at 4 (some 135) (v := ?_) rfl rfl (by kernel_rfl) (by kernel_rfl) (by kernel_rfl) (fun _ _ _ h => h) (Or.inl ⟨by rfl, ?_⟩) (by assumption) ?_
  rotate_left
  · intro w hSw
    obtain ⟨c0, c1, c2, c3, c4⟩ := ShOn.at_ hSw
    go_simp
    first | done | with_reducible rfl
  simp only [Act.put, List.setIfInBounds_toArray, List.set_cons_succ, List.set_cons_zero]
  refine take_at 5 (some 136) (v := ?_) rfl rfl (by kernel_rfl) (by kernel_rfl) (by kernel_rfl) (fun _ _ _ h => h) (Or.inl ⟨by rfl, ?_⟩) (by assumption) ?_
  rotate_left
  · intro w hSw
    (try dsimp only at hSw)
    go_simp
    first | done | with_reducible rfl
  simp only [Act.put, List.setIfInBounds_toArray, List.set_cons_succ, List.set_cons_zero]
  refine take_at 6 (some 137) (v := ?_) rfl rfl (by kernel_rfl) (by kernel_rfl) (by kernel_rfl) (fun _ _ _ h => h) (Or.inl ⟨by rfl, ?_⟩) (by assumption) ?_
  rotate_left
  · intro w hSw
    obtain ⟨c0, c1, c2, c3, c4⟩ := ShOn.at_ hSw
    go_simp
    first | done | with_reducible rfl
  simp only [Act.put, List.setIfInBounds_toArray, List.set_cons_succ, List.set_cons_zero]
  refine wpAnyH_ready (rs := [2]) (by kernel_rfl) (by simp) ?_
  refine AllReadyH.cons rfl (fun K hK => ?_) AllReadyH.nil
  go_simp
  refine (partL_any laced p hp7 _).mono ?_
  rintro e w11 ⟨rfl, hb11⟩
  have hS11 := hSd.next hb11
  refine hK.out _ _ hS11 (fun hHeld => ?_)
  clear hK K
  refine wpAnyH_ready (rs := [7]) (by kernel_rfl) (by simp) ?_
  refine AllReadyH.cons rfl (fun K hK => ?_) AllReadyH.nil
  go_simp
  refine (HSZZ.out _).mono ?_
  rintro e w12 ⟨rfl, hb12⟩
  have hS12 := hS11.next hb12
  refine hK.out _ _ hS12 (fun hHeld => ?_)
  clear hK K
  refine take_at 8 (some 130) (v := ?_) rfl rfl (by kernel_rfl) (by kernel_rfl) (by kernel_rfl) (fun _ _ _ h => h) (Or.inl ⟨by rfl, ?_⟩) (by assumption) ?_
  rotate_left
  · intro w hSw
    (try dsimp only at hSw)
    go_simp
    first | done | with_reducible rfl
  simp only [Act.put, List.setIfInBounds_toArray, List.set_cons_succ, List.set_cons_zero]
  refine take_at 9 (some 139) (v := ?_) rfl rfl (by kernel_rfl) (by kernel_rfl) (by kernel_rfl) (fun _ _ _ h => h) (Or.inl ⟨by rfl, ?_⟩) (by assumption) ?_
  rotate_left
  · intro w hSw
    (try dsimp only at hSw)
    go_simp
    first | done | with_reducible rfl
  simp only [Act.put, List.setIfInBounds_toArray, List.set_cons_succ, List.set_cons_zero]
  refine take_at 10 (some 140) (v := ?_) rfl rfl (by kernel_rfl) (by kernel_rfl) (by kernel_rfl) (fun _ _ _ h => h) (Or.inl ⟨by rfl, ?_⟩) (by assumption) ?_
  rotate_left
  · intro w hSw
    (try dsimp only at hSw)
    go_simp
    first | done | with_reducible rfl
  simp only [Act.put, List.setIfInBounds_toArray, List.set_cons_succ, List.set_cons_zero]
  refine take_at 11 (some 28) (v := ?_) rfl rfl (by kernel_rfl) (by kernel_rfl) (by kernel_rfl) (fun _ _ _ h => h) (Or.inl ⟨by rfl, ?_⟩) (by assumption) ?_
  rotate_left
  · intro w hSw
    (try dsimp only at hSw)
    go_simp
    first | done | with_reducible rfl
  simp only [Act.put, List.setIfInBounds_toArray, List.set_cons_succ, List.set_cons_zero]
  refine take_at 12 (some 29) (v := ?_) rfl rfl (by kernel_rfl) (by kernel_rfl) (by kernel_rfl) (fun _ _ _ h => h) (Or.inl ⟨by rfl, ?_⟩) (by assumption) ?_
  rotate_left
  · intro w hSw
    (try dsimp only at hSw)
    go_simp
    first | done | with_reducible rfl
  simp only [Act.put, List.setIfInBounds_toArray, List.set_cons_succ, List.set_cons_zero]
  refine wpAnyH_done (by kernel_rfl) ?_ _
  have hb1012 : Below w10.heap.size w10 w12 := (undrew hb11).trans (hb12.mono hb11.size)
  have HS12 := Lib.hid hS12
  have row1 := (hb1012.block M (lt_of_row ROW1.out)).trans ROW1.out
  have row2 := (hb1012.block M2 (lt_of_row ROW2.out)).trans ROW2.out
  have HR7c := Lib.hid (HR7b.out.below hb1012)
  have HS7c := Lib.hid (HS7b.out.below hb1012)
  have HR8c := Lib.hid (HR8.out.below hb1012)
  have HS8c := Lib.hid (HS8.out.below hb1012)
  have pA := PcAt.of_row row1
  have pB := PcAt.of_row row2
  obtain ⟨c0, c1, c2, c3, c4, c5, c6, c7⟩ := pA
  obtain ⟨d0, d1, d2, d3, d4, d5, d6, d7⟩ := pB
  have lMa := lt_of_row row1
  have lMb := lt_of_row row2
  have ROW1c := Lib.hid row1
  clear hb11 hb12 hb1012 hS11 hS12 hSd hHeld row1 row2
  have HKN : ∀ w, Calls Tryd.prog 13 #[.int .i64 (c : Int), .int .i64 (d : Int), .bool false] w fun e w' => e = .returned (.int .i64 (kindN c d false : Int)) ∧ w' = w := kindOf_any c d OK.out false
  obtain ⟨kn, hkn⟩ : ∃ kn, kn = kindN c d false := ⟨_, rfl⟩
  rw [← hkn] at HKN
  have HKNN := Lib.hid HKN
  have HKX := Lib.hid hkn
  clear HKN hkn
  have hx0 : code = 0 ∨ code = 1 := by omega
  clear hcode1
  rcases hx0 with rfl | rfl
  · go_upto_region 15 with (go_at_call 12; refine (lsame_any kd Wx Hx Sx n7 k7 j7 an ac gc a7 g7 aa ga lp SS w12 hl7 HR7c.out HR8c.out HS7c HS8c han).mono ?_; rintro e w13 ⟨rfl, hb13⟩; have HB13 := Lib.hid (HS12.out.bel.trans (hb13.mono HS12.out.bel.size)); have row1d := (hb13.block M (lt_of_row ROW1c.out)).trans ROW1c.out; have g0 : w13.cell? ⟨M, 0, none⟩ = some (.int .i64 (kd : Int)) := (cell_of_row w13 _ 0 _ _ _ row1d).trans rfl; have lM13 := lt_of_row row1d; clear hb13 row1d)
    by_cases hw0 : W = 0
    · have e1 : ((W : Int) == 0) = true := by simp; omega
      clear hw0
      go_quiet ((go_at_call 13; exact Calls.quiet_of_same (HKNN.out _)))
      go_wp2_with fail
      go_ret
      exact ⟨rfl, bdrewN HB13.out _⟩
    · have e1 : ((W : Int) == 0) = false := by simp; omega
      have e3 : ((kd : Int) == (kn : Int)) = true := by
        have h1 := HKDD.out (by simp)
        rw [← HWW.out, ← HKX.out] at h1
        rcases h1 with h1 | h1
        · exact absurd h1 hw0
        · simp; omega
      clear hw0
      go_quiet ((go_at_call 13; exact Calls.quiet_of_same (HKNN.out _)))
      go_wp2_with fail
      go_ret
      exact ⟨rfl, bdrewN HB13.out _⟩
  · go_upto_region 15 with (go_at_call 12; refine (lsame_any kd Wx Hx Sx n7 k7 j7 an ac gc a7 g7 aa ga lp SS w12 hl7 HR7c.out HR8c.out HS7c HS8c han).mono ?_; rintro e w13 ⟨rfl, hb13⟩; have HB13 := Lib.hid (HS12.out.bel.trans (hb13.mono HS12.out.bel.size)); have row1d := (hb13.block M (lt_of_row ROW1c.out)).trans ROW1c.out; have g0 : w13.cell? ⟨M, 0, none⟩ = some (.int .i64 (kd : Int)) := (cell_of_row w13 _ 0 _ _ _ row1d).trans rfl; have lM13 := lt_of_row row1d; clear hb13 row1d)
    by_cases hw0 : W = 0
    · have e1 : ((W : Int) == 0) = true := by simp; omega
      clear hw0
      go_quiet ((go_at_call 13; exact Calls.quiet_of_same (HKNN.out _)))
      go_wp2_with fail
      go_ret
      exact ⟨rfl, bdrewN HB13.out _⟩
    · have e1 : ((W : Int) == 0) = false := by simp; omega
      clear hw0
      go_quiet ((go_at_call 13; exact Calls.quiet_of_same (HKNN.out _)))
      go_wp2_with fail
      go_ret
      exact ⟨rfl, bdrewN HB13.out _⟩
end Go.Proofs.YtkiibhpmembcgaaDoor
