/- The contracts of the reference's PartNeed and of the laws' kindOf; what stands behind the rows changes no row. Printed by gen/need.py. -/
import Derived.Test.YtkiibhpmembcgaaDoorSpPart
import Derived.Deep.RegionHeld3
import Derived.Deep.DeepCutAuto
import Derived.Deep.CutBlock
import Derived.LoopTactic
import Derived.Outline
namespace Go.Proofs.YtkiibhpmembcgaaDoor
open Go.ChangeShapes Go.WideShapes Go.ChangeAt Go.RowKit Go.IntWalk

/-- How many bytes the rows of a part have. -/
def needN (W0 H0 c d : Nat) (laced : Bool) (p : Nat) : Nat := (szP (ptL laced p) W0 H0).2 * (rbN c d (szP (ptL laced p) W0 H0).1 + 1)
theorem upR_append {l m : List UInt8} {n st : Nat} : ∀ y, y * (n + 1) ≤ l.length → upR (l ++ m) n st y = upR l n st y
  | 0, _ => rfl
  | y + 1, h => by
    have hy : y * (n + 1) ≤ l.length := by rw [Nat.add_mul] at h; omega
    have e1 : fltB (l ++ m) n y = fltB l n y := by
      unfold fltB
      rw [Nat.add_mul, Nat.one_mul] at h
      simp only [List.getD]
      rw [List.getElem?_append_left (by omega)]
    have e2 : rowB (l ++ m) n y = rowB l n y := by
      unfold rowB
      rw [Nat.add_mul, Nat.one_mul] at h
      rw [List.drop_append_of_le_length (by omega), List.take_append_of_le_length (by rw [List.length_drop]; omega)]
    rw [upR, upR, upR_append y hy, e1, e2]
    cases upR l n st y with
    | none => rfl
    | some R =>
      simp only
      by_cases hc : (fltB l n y).toNat ≤ 4
      · rw [if_pos ⟨by rw [List.length_append]; omega, hc⟩, if_pos ⟨h, hc⟩]
      · rw [if_neg (fun q => hc q.2), if_neg (fun q => hc q.2)]
theorem rows_append (W0 H0 c d : Nat) (laced : Bool) (p : Nat) (l m : List UInt8) (h : needN W0 H0 c d laced p ≤ l.length) : rowsOf W0 H0 c d laced p (l ++ m) = rowsOf W0 H0 c d laced p l := by
  unfold rowsOf
  exact upR_append _ h
theorem needN_le {c d W0 H0 : Nat} (ok : OkCD c d) (laced : Bool) (p : Nat) (hW : W0 ≤ 40) (hH : H0 ≤ 40) : needN W0 H0 c d laced p ≤ 40 * 321 := by
  have h := szP_le laced p W0 H0 hW hH
  have h2 := ok.rb h.1
  exact Nat.mul_le_mul h.2 (by omega)
set_option maxHeartbeats 3200000 in
set_option maxRecDepth 100000 in
theorem partNeed_any (W0 H0 c d p : Nat) (laced : Bool) (w : World) (ok : OkCD c d) (hp : p < 7) (hW0 : W0 ≤ 40) (hH0 : H0 ≤ 40) (hW1 : 1 ≤ W0) (hH1 : 1 ≤ H0) :
    Calls Tryd.prog 7 #[shV W0 H0 d c laced, .int .i64 (p : Int)] w fun e w' => e = .returned (.int .i64 (needN W0 H0 c d laced p : Int)) ∧ Below w.heap.size w w' := by
  obtain ⟨w1, hw1, hb1, hlt, hrow, hsh⟩ := boxed w W0 H0 d c laced
  obtain ⟨N, hN⟩ : ∃ N, N = w.heap.size := ⟨_, rfl⟩
  rw [← hN] at hrow hlt hsh
  have hS1 : ShOn w N W0 H0 d c laced w1.drew := (⟨hsh, hb1, hlt⟩ : ShOn w N W0 H0 d c laced w1).drew
  obtain ⟨W, hW⟩ : ∃ W, W = (szP (ptL laced p) W0 H0).1 := ⟨_, rfl⟩
  obtain ⟨H, hH⟩ : ∃ H, H = (szP (ptL laced p) W0 H0).2 := ⟨_, rfl⟩
  obtain ⟨n, hn⟩ : ∃ n, n = rbN c d W := ⟨_, rfl⟩
  have hWH := szP_le laced p W0 H0 hW0 hH0
  rw [← hW, ← hH] at hWH
  have hn320 : n ≤ 320 := by rw [hn]; exact ok.rb hWH.1
  obtain ⟨n1, hn1⟩ : ∃ n1, n1 = n + 1 := ⟨_, rfl⟩
  obtain ⟨q, hq⟩ : ∃ q, q = H * n1 := ⟨_, rfl⟩
  have hq2 : q ≤ 40 * 321 := by rw [hq, hn1]; exact Nat.mul_le_mul hWH.2 (by omega)
  have HQ : Hid (needN W0 H0 c d laced p = q) := Lib.hid (by rw [hq, hn1, hn, hH, hW]; rfl)
  have m1 : 1 + (n : Int) = (n1 : Int) := by omega
  have m2 : (H : Int) * (n1 : Int) = (q : Int) := by rw [hq]; rfl
  have v1 : IntKind.i64.wrap (n1 : Int) = (n1 : Int) := i64_in _ ⟨by omega, by omega⟩
  have v2 : IntKind.i64.wrap (q : Int) = (q : Int) := i64_in _ ⟨by omega, by omega⟩
  have HRBY : ∀ w, Calls Tryd.prog 14 #[shV W0 H0 d c laced, .int .i64 (W : Int)] w fun e w' => e = .returned (.int .i64 (n : Int)) ∧ Below w.heap.size w w' := by rw [hn]; exact rowBytes_any W0 H0 d c W laced ok hWH.1
  have HSZ : ∀ w, Calls Tryd.prog 11 #[ptV (ptL laced p), .int .i64 (W0 : Int), .int .i64 (H0 : Int)] w fun e w' => e = .returned (.tuple #[.int .i64 (W : Int), .int .i64 (H : Int)]) ∧ Below w.heap.size w w' := by
    rw [hW, hH]
    exact sizeX_any (ptL laced p) (ptL_ok laced p).1 (ptL_ok laced p).2.1 (ptL_ok laced p).2.2 W0 H0 hW0 hH0 hW1 hH1
  have HRBB := Lib.hid HRBY
  have HSZZ := Lib.hid HSZ
  have HW1 := Lib.hid hw1
  have HN := Lib.hid hN
  clear hw1 hb1 hrow hsh hW hH hn hn1 hq HRBY HSZ hN hWH
  unfold shV
  go_enter Tryd.func7, Tryd.ntmps7
  go_upto_region 1 with fail
  rw [← HN.out]
  change Code.wp _ _ _ _ (w.alloc (.cells (shK W0 H0 d c laced) 27))
  rw [← HW1.out]
  refine wp_region_held_drew (S := fun w' => ShOn w N W0 H0 d c laced w') (by kernel_rfl) hS1 (fun hHeld => ?_)
  refine take_at 0 (some 8) (v := ?_) rfl rfl (by kernel_rfl) (by kernel_rfl) (by kernel_rfl) (fun _ _ _ h => h) (Or.inl ⟨by rfl, ?_⟩) (by assumption) ?_
  rotate_left
  · intro w hSw
    (try dsimp only at hSw)
    go_simp
    first | done | with_reducible rfl
  simp only [Act.put, List.setIfInBounds_toArray, List.set_cons_succ, List.set_cons_zero]
  refine take_at 1 (some 9) (v := ?_) rfl rfl (by kernel_rfl) (by kernel_rfl) (by kernel_rfl) (fun _ _ _ h => h) (Or.inl ⟨by rfl, ?_⟩) (by assumption) ?_
  rotate_left
  · intro w hSw
    obtain ⟨c0, c1, c2, c3, c4⟩ := ShOn.at_ hSw
    go_simp
    first | done | with_reducible rfl
  simp only [Act.put, List.setIfInBounds_toArray, List.set_cons_succ, List.set_cons_zero]
  refine take_at 2 (some 10) (v := ?_) rfl rfl (by kernel_rfl) (by kernel_rfl) (by kernel_rfl) (fun _ _ _ h => h) (Or.inl ⟨by rfl, ?_⟩) (by assumption) ?_
  rotate_left
  · intro w hSw
    (try dsimp only at hSw)
    go_simp
    first | done | with_reducible rfl
  simp only [Act.put, List.setIfInBounds_toArray, List.set_cons_succ, List.set_cons_zero]
  refine take_at 4 (some 12) (v := ?_) rfl rfl (by kernel_rfl) (by kernel_rfl) (by kernel_rfl) (fun _ _ _ h => h) (Or.inl ⟨by rfl, ?_⟩) (by assumption) ?_
  rotate_left
  · intro w hSw
    (try dsimp only at hSw)
    go_simp
    first | done | with_reducible rfl
  simp only [Act.put, List.setIfInBounds_toArray, List.set_cons_succ, List.set_cons_zero]
  refine take_at 5 (some 13) (v := ?_) rfl rfl (by kernel_rfl) (by kernel_rfl) (by kernel_rfl) (fun _ _ _ h => h) (Or.inl ⟨by rfl, ?_⟩) (by assumption) ?_
  rotate_left
  · intro w hSw
    obtain ⟨c0, c1, c2, c3, c4⟩ := ShOn.at_ hSw
    go_simp
    first | done | with_reducible rfl
  simp only [Act.put, List.setIfInBounds_toArray, List.set_cons_succ, List.set_cons_zero]
  refine take_at 6 (some 14) (v := ?_) rfl rfl (by kernel_rfl) (by kernel_rfl) (by kernel_rfl) (fun _ _ _ h => h) (Or.inl ⟨by rfl, ?_⟩) (by assumption) ?_
  rotate_left
  · intro w hSw
    (try dsimp only at hSw)
    go_simp
    first | done | with_reducible rfl
  simp only [Act.put, List.setIfInBounds_toArray, List.set_cons_succ, List.set_cons_zero]
  refine take_at 7 (some 15) (v := ?_) rfl rfl (by kernel_rfl) (by kernel_rfl) (by kernel_rfl) (fun _ _ _ h => h) (Or.inl ⟨by rfl, ?_⟩) (by assumption) ?_
  rotate_left
  · intro w hSw
    obtain ⟨c0, c1, c2, c3, c4⟩ := ShOn.at_ hSw
    go_simp
    first | done | with_reducible rfl
  simp only [Act.put, List.setIfInBounds_toArray, List.set_cons_succ, List.set_cons_zero]
  refine wpAnyH_ready (rs := [3]) (by kernel_rfl) (by simp) ?_
  refine AllReadyH.cons rfl (fun K hK => ?_) AllReadyH.nil
  go_simp
  refine (partL_any laced p hp _).mono ?_
  rintro e w2 ⟨rfl, hb2⟩
  have hS2 := hS1.next hb2
  refine hK.out _ _ hS2 (fun hHeld => ?_)
  clear hK K
  refine wpAnyH_ready (rs := [8]) (by kernel_rfl) (by simp) ?_
  refine AllReadyH.cons rfl (fun K hK => ?_) AllReadyH.nil
  go_simp
  refine (HSZZ.out _).mono ?_
  rintro e w3 ⟨rfl, hb3⟩
  have hS3 := hS2.next hb3
  refine hK.out _ _ hS3 (fun hHeld => ?_)
  clear hK K
  refine take_at 9 (some 7) (v := ?_) rfl rfl (by kernel_rfl) (by kernel_rfl) (by kernel_rfl) (fun _ _ _ h => h) (Or.inl ⟨by rfl, ?_⟩) (by assumption) ?_
  rotate_left
  · intro w hSw
    (try dsimp only at hSw)
    go_simp
    first | done | with_reducible rfl
  simp only [Act.put, List.setIfInBounds_toArray, List.set_cons_succ, List.set_cons_zero]
  refine take_at 10 (some 17) (v := ?_) rfl rfl (by kernel_rfl) (by kernel_rfl) (by kernel_rfl) (fun _ _ _ h => h) (Or.inl ⟨by rfl, ?_⟩) (by assumption) ?_
  rotate_left
  · intro w hSw
    (try dsimp only at hSw)
    go_simp
    first | done | with_reducible rfl
  simp only [Act.put, List.setIfInBounds_toArray, List.set_cons_succ, List.set_cons_zero]
  refine take_at 11 (some 18) (v := ?_) rfl rfl (by kernel_rfl) (by kernel_rfl) (by kernel_rfl) (fun _ _ _ h => h) (Or.inl ⟨by rfl, ?_⟩) (by assumption) ?_
  rotate_left
  · intro w hSw
    (try dsimp only at hSw)
    go_simp
    first | done | with_reducible rfl
  simp only [Act.put, List.setIfInBounds_toArray, List.set_cons_succ, List.set_cons_zero]
  refine take_at 12 (some 5) (v := ?_) rfl rfl (by kernel_rfl) (by kernel_rfl) (by kernel_rfl) (fun _ _ _ h => h) (Or.inl ⟨by rfl, ?_⟩) (by assumption) ?_
  rotate_left
  · intro w hSw
    (try dsimp only at hSw)
    go_simp
    first | done | with_reducible rfl
  simp only [Act.put, List.setIfInBounds_toArray, List.set_cons_succ, List.set_cons_zero]
  refine take_at 13 (some 6) (v := ?_) rfl rfl (by kernel_rfl) (by kernel_rfl) (by kernel_rfl) (fun _ _ _ h => h) (Or.inl ⟨by rfl, ?_⟩) (by assumption) ?_
  rotate_left
  · intro w hSw
    (try dsimp only at hSw)
    go_simp
    first | done | with_reducible rfl
  simp only [Act.put, List.setIfInBounds_toArray, List.set_cons_succ, List.set_cons_zero]
  refine wpAnyH_done (by kernel_rfl) ?_ _
  have HS3 := Lib.hid hS3
  obtain ⟨c0, c1, c2, c3, c4⟩ := hS3.at_
  have lN := hS3.lt
  clear hS3 hS2 hHeld hb2 hb3
  go_wp2_with (go_at_call 14; refine (HRBB.out _).mono ?_; rintro e w4 ⟨rfl, hb4⟩; have HB4 := Lib.hid (HS3.out.bel.trans (hb4.mono HS3.out.bel.size)); clear hb4)
  go_ret
  exact ⟨ret_int (by rw [HQ.out]), HB4.out⟩
/-- The fifteen kinds by number. -/
def lkC (z : Nat) : Nat × Nat := (if z % 15 < 5 then 0 else if z % 15 < 7 then 2 else if z % 15 < 11 then 3 else if z % 15 < 13 then 4 else 6, if z % 15 < 5 then 2 ^ (z % 15) else if z % 15 < 7 then 8 * 2 ^ (z % 15 - 5) else if z % 15 < 11 then 2 ^ (z % 15 - 7) else if z % 15 < 13 then 8 * 2 ^ (z % 15 - 11) else 8 * 2 ^ (z % 15 - 13))
theorem lkC_ok (z : Nat) : OkCD (lkC z).1 (lkC z).2 := by
  unfold lkC OkCD
  have h : z % 15 < 15 := Nat.mod_lt _ (by decide)
  generalize z % 15 = k at h
  rcases (by omega : k = 0 ∨ k = 1 ∨ k = 2 ∨ k = 3 ∨ k = 4 ∨ k = 5 ∨ k = 6 ∨ k = 7 ∨ k = 8 ∨ k = 9 ∨ k = 10 ∨ k = 11 ∨ k = 12 ∨ k = 13 ∨ k = 14) with rfl | rfl | rfl | rfl | rfl | rfl | rfl | rfl | rfl | rfl | rfl | rfl | rfl | rfl | rfl <;> decide
set_option maxHeartbeats 3200000 in
theorem lkindOf_any (z : Nat) (hz : z < 256) (w : World) :
    Calls Tryd.prog 4 #[.int .u8 (z : Int)] w fun e w' => e = .returned (.tuple #[.int .i64 ((lkC z).1 : Int), .int .i64 ((lkC z).2 : Int)]) ∧ Below w.heap.size w w' := by
  have e1 : IntKind.i64.wrap (z : Int) = (z : Int) := i64_in _ ⟨by omega, by omega⟩
  rcases (by omega : z % 15 = 0 ∨ z % 15 = 1 ∨ z % 15 = 2 ∨ z % 15 = 3 ∨ z % 15 = 4 ∨ z % 15 = 5 ∨ z % 15 = 6 ∨ z % 15 = 7 ∨ z % 15 = 8 ∨ z % 15 = 9 ∨ z % 15 = 10 ∨ z % 15 = 11 ∨ z % 15 = 12 ∨ z % 15 = 13 ∨ z % 15 = 14) with h5 | h5 | h5 | h5 | h5 | h5 | h5 | h5 | h5 | h5 | h5 | h5 | h5 | h5 | h5
  · have e2 : (z : Int).tmod 15 = 0 := by rw [show (z : Int).tmod 15 = ((z % 15 : Nat) : Int) from rfl, h5]; rfl
    have e3 : (z : Int) % 15 = 0 := by omega
    have HK : Hid (lkC z = (0, 1)) := Lib.hid (by unfold lkC; rw [h5]; rfl)
    clear h5
    have lw0 : IntKind.i64.wrap 0 = 0 := by decide
    have lw1 : IntKind.i64.wrap 1 = 1 := by decide
    go_enter Tryd.func4, Tryd.ntmps4
    go_upto_region 3 with fail
    go_quiet (fail)
    go_wp2_with fail
    go_ret2
    exact ⟨by rw [HK.out]; rfl, bdrewN (Below.refl _ _) _⟩
  · have e2 : (z : Int).tmod 15 = 1 := by rw [show (z : Int).tmod 15 = ((z % 15 : Nat) : Int) from rfl, h5]; rfl
    have e3 : (z : Int) % 15 = 1 := by omega
    have HK : Hid (lkC z = (0, 2)) := Lib.hid (by unfold lkC; rw [h5]; rfl)
    clear h5
    have lw1 : IntKind.i64.wrap 1 = 1 := by decide
    have lw2 : IntKind.i64.wrap 2 = 2 := by decide
    go_enter Tryd.func4, Tryd.ntmps4
    go_upto_region 3 with fail
    go_quiet (fail)
    go_wp2_with fail
    go_ret2
    exact ⟨by rw [HK.out]; rfl, bdrewN (Below.refl _ _) _⟩
  · have e2 : (z : Int).tmod 15 = 2 := by rw [show (z : Int).tmod 15 = ((z % 15 : Nat) : Int) from rfl, h5]; rfl
    have e3 : (z : Int) % 15 = 2 := by omega
    have HK : Hid (lkC z = (0, 4)) := Lib.hid (by unfold lkC; rw [h5]; rfl)
    clear h5
    have lw2 : IntKind.i64.wrap 2 = 2 := by decide
    have lw4 : IntKind.i64.wrap 4 = 4 := by decide
    go_enter Tryd.func4, Tryd.ntmps4
    go_upto_region 3 with fail
    go_quiet (fail)
    go_wp2_with fail
    go_ret2
    exact ⟨by rw [HK.out]; rfl, bdrewN (Below.refl _ _) _⟩
  · have e2 : (z : Int).tmod 15 = 3 := by rw [show (z : Int).tmod 15 = ((z % 15 : Nat) : Int) from rfl, h5]; rfl
    have e3 : (z : Int) % 15 = 3 := by omega
    have HK : Hid (lkC z = (0, 8)) := Lib.hid (by unfold lkC; rw [h5]; rfl)
    clear h5
    have lw3 : IntKind.i64.wrap 3 = 3 := by decide
    have lw8 : IntKind.i64.wrap 8 = 8 := by decide
    go_enter Tryd.func4, Tryd.ntmps4
    go_upto_region 3 with fail
    go_quiet (fail)
    go_wp2_with fail
    go_ret2
    exact ⟨by rw [HK.out]; rfl, bdrewN (Below.refl _ _) _⟩
  · have e2 : (z : Int).tmod 15 = 4 := by rw [show (z : Int).tmod 15 = ((z % 15 : Nat) : Int) from rfl, h5]; rfl
    have e3 : (z : Int) % 15 = 4 := by omega
    have HK : Hid (lkC z = (0, 16)) := Lib.hid (by unfold lkC; rw [h5]; rfl)
    clear h5
    have lw4 : IntKind.i64.wrap 4 = 4 := by decide
    have lw16 : IntKind.i64.wrap 16 = 16 := by decide
    go_enter Tryd.func4, Tryd.ntmps4
    go_upto_region 3 with fail
    go_quiet (fail)
    go_wp2_with fail
    go_ret2
    exact ⟨by rw [HK.out]; rfl, bdrewN (Below.refl _ _) _⟩
  · have e2 : (z : Int).tmod 15 = 5 := by rw [show (z : Int).tmod 15 = ((z % 15 : Nat) : Int) from rfl, h5]; rfl
    have e3 : (z : Int) % 15 = 5 := by omega
    have HK : Hid (lkC z = (2, 8)) := Lib.hid (by unfold lkC; rw [h5]; rfl)
    clear h5
    have lw0 : IntKind.i64.wrap 0 = 0 := by decide
    have lw8 : IntKind.i64.wrap 8 = 8 := by decide
    go_enter Tryd.func4, Tryd.ntmps4
    go_upto_region 5 with fail
    go_quiet (fail)
    go_wp2_with fail
    go_ret2
    exact ⟨by rw [HK.out]; rfl, bdrewN (Below.refl _ _) _⟩
  · have e2 : (z : Int).tmod 15 = 6 := by rw [show (z : Int).tmod 15 = ((z % 15 : Nat) : Int) from rfl, h5]; rfl
    have e3 : (z : Int) % 15 = 6 := by omega
    have HK : Hid (lkC z = (2, 16)) := Lib.hid (by unfold lkC; rw [h5]; rfl)
    clear h5
    have lw1 : IntKind.i64.wrap 1 = 1 := by decide
    have lw16 : IntKind.i64.wrap 16 = 16 := by decide
    go_enter Tryd.func4, Tryd.ntmps4
    go_upto_region 5 with fail
    go_quiet (fail)
    go_wp2_with fail
    go_ret2
    exact ⟨by rw [HK.out]; rfl, bdrewN (Below.refl _ _) _⟩
  · have e2 : (z : Int).tmod 15 = 7 := by rw [show (z : Int).tmod 15 = ((z % 15 : Nat) : Int) from rfl, h5]; rfl
    have e3 : (z : Int) % 15 = 7 := by omega
    have HK : Hid (lkC z = (3, 1)) := Lib.hid (by unfold lkC; rw [h5]; rfl)
    clear h5
    have lw0 : IntKind.i64.wrap 0 = 0 := by decide
    have lw1 : IntKind.i64.wrap 1 = 1 := by decide
    go_enter Tryd.func4, Tryd.ntmps4
    go_upto_region 7 with fail
    go_quiet (fail)
    go_wp2_with fail
    go_ret2
    exact ⟨by rw [HK.out]; rfl, bdrewN (Below.refl _ _) _⟩
  · have e2 : (z : Int).tmod 15 = 8 := by rw [show (z : Int).tmod 15 = ((z % 15 : Nat) : Int) from rfl, h5]; rfl
    have e3 : (z : Int) % 15 = 8 := by omega
    have HK : Hid (lkC z = (3, 2)) := Lib.hid (by unfold lkC; rw [h5]; rfl)
    clear h5
    have lw1 : IntKind.i64.wrap 1 = 1 := by decide
    have lw2 : IntKind.i64.wrap 2 = 2 := by decide
    go_enter Tryd.func4, Tryd.ntmps4
    go_upto_region 7 with fail
    go_quiet (fail)
    go_wp2_with fail
    go_ret2
    exact ⟨by rw [HK.out]; rfl, bdrewN (Below.refl _ _) _⟩
  · have e2 : (z : Int).tmod 15 = 9 := by rw [show (z : Int).tmod 15 = ((z % 15 : Nat) : Int) from rfl, h5]; rfl
    have e3 : (z : Int) % 15 = 9 := by omega
    have HK : Hid (lkC z = (3, 4)) := Lib.hid (by unfold lkC; rw [h5]; rfl)
    clear h5
    have lw2 : IntKind.i64.wrap 2 = 2 := by decide
    have lw4 : IntKind.i64.wrap 4 = 4 := by decide
    go_enter Tryd.func4, Tryd.ntmps4
    go_upto_region 7 with fail
    go_quiet (fail)
    go_wp2_with fail
    go_ret2
    exact ⟨by rw [HK.out]; rfl, bdrewN (Below.refl _ _) _⟩
  · have e2 : (z : Int).tmod 15 = 10 := by rw [show (z : Int).tmod 15 = ((z % 15 : Nat) : Int) from rfl, h5]; rfl
    have e3 : (z : Int) % 15 = 10 := by omega
    have HK : Hid (lkC z = (3, 8)) := Lib.hid (by unfold lkC; rw [h5]; rfl)
    clear h5
    have lw3 : IntKind.i64.wrap 3 = 3 := by decide
    have lw8 : IntKind.i64.wrap 8 = 8 := by decide
    go_enter Tryd.func4, Tryd.ntmps4
    go_upto_region 7 with fail
    go_quiet (fail)
    go_wp2_with fail
    go_ret2
    exact ⟨by rw [HK.out]; rfl, bdrewN (Below.refl _ _) _⟩
  · have e2 : (z : Int).tmod 15 = 11 := by rw [show (z : Int).tmod 15 = ((z % 15 : Nat) : Int) from rfl, h5]; rfl
    have e3 : (z : Int) % 15 = 11 := by omega
    have HK : Hid (lkC z = (4, 8)) := Lib.hid (by unfold lkC; rw [h5]; rfl)
    clear h5
    have lw0 : IntKind.i64.wrap 0 = 0 := by decide
    have lw8 : IntKind.i64.wrap 8 = 8 := by decide
    go_enter Tryd.func4, Tryd.ntmps4
    go_upto_region 9 with fail
    go_quiet (fail)
    go_wp2_with fail
    go_ret2
    exact ⟨by rw [HK.out]; rfl, bdrewN (Below.refl _ _) _⟩
  · have e2 : (z : Int).tmod 15 = 12 := by rw [show (z : Int).tmod 15 = ((z % 15 : Nat) : Int) from rfl, h5]; rfl
    have e3 : (z : Int) % 15 = 12 := by omega
    have HK : Hid (lkC z = (4, 16)) := Lib.hid (by unfold lkC; rw [h5]; rfl)
    clear h5
    have lw1 : IntKind.i64.wrap 1 = 1 := by decide
    have lw16 : IntKind.i64.wrap 16 = 16 := by decide
    go_enter Tryd.func4, Tryd.ntmps4
    go_upto_region 9 with fail
    go_quiet (fail)
    go_wp2_with fail
    go_ret2
    exact ⟨by rw [HK.out]; rfl, bdrewN (Below.refl _ _) _⟩
  · have e2 : (z : Int).tmod 15 = 13 := by rw [show (z : Int).tmod 15 = ((z % 15 : Nat) : Int) from rfl, h5]; rfl
    have e3 : (z : Int) % 15 = 13 := by omega
    have HK : Hid (lkC z = (6, 8)) := Lib.hid (by unfold lkC; rw [h5]; rfl)
    clear h5
    have lw0 : IntKind.i64.wrap 0 = 0 := by decide
    have lw8 : IntKind.i64.wrap 8 = 8 := by decide
    go_enter Tryd.func4, Tryd.ntmps4
    go_upto_region 10 with fail
    go_quiet (fail)
    go_wp2_with fail
    go_ret2
    exact ⟨by rw [HK.out]; rfl, bdrewN (Below.refl _ _) _⟩
  · have e2 : (z : Int).tmod 15 = 14 := by rw [show (z : Int).tmod 15 = ((z % 15 : Nat) : Int) from rfl, h5]; rfl
    have e3 : (z : Int) % 15 = 14 := by omega
    have HK : Hid (lkC z = (6, 16)) := Lib.hid (by unfold lkC; rw [h5]; rfl)
    clear h5
    have lw1 : IntKind.i64.wrap 1 = 1 := by decide
    have lw16 : IntKind.i64.wrap 16 = 16 := by decide
    go_enter Tryd.func4, Tryd.ntmps4
    go_upto_region 10 with fail
    go_quiet (fail)
    go_wp2_with fail
    go_ret2
    exact ⟨by rw [HK.out]; rfl, bdrewN (Below.refl _ _) _⟩
end Go.Proofs.YtkiibhpmembcgaaDoor
