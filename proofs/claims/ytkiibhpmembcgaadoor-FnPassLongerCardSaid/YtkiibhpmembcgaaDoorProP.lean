/- The picture's making in readImagePass, by a palette. Printed by gen/pro13p.py. -/
import Derived.Test.YtkiibhpmembcgaaDoorGPro
import Derived.Test.YtkiibhpmembcgaaDoorNewPal
namespace Go.Proofs.YtkiibhpmembcgaaDoor
open Go.ChangeShapes Go.WideShapes Go.ChangeAt Go.RowKit Go.IntWalk

set_option maxRecDepth 1000000 in
set_option maxHeartbeats 6400000 in
theorem p13_P1 (b W H L st n : Nat) (pa : Option Addr) (pn pk : Nat) (r : Value) (ps : Int) (a : Act) (w : World) (Q : Exit → Act → World → Prop) (h : Pre1 b r ps W H a) (c7 : w.cell? ⟨b, 7, none⟩ = some (.int .i64 7)) (c5 : w.cell? ⟨b, 5, none⟩ = some (.int .i64 1)) (c6 : w.cell? ⟨b, 6, none⟩ = some (.slice pa pn pk)) (hw : W ≤ 1000) (hh : H ≤ 1000) (hL : Hid (L = 1 * W * H))
    (hQ : ∀ a' w' g bx, w.heap.size ≤ g → w.heap.size ≤ bx → g ≠ bx → w'.heap[g]? = some (.cells #[.slice (some ⟨bx, 0, none⟩) L L, .int .i64 ((1 * W : Nat) : Int), .int .i64 0, .int .i64 0, .int .i64 (W : Int), .int .i64 (H : Int), .slice pa pn pk] 103 (0, 0)) → Seg w' bx [] [] (List.replicate L 0) → Chg (fun _ => False) w w' → Pre2 ⟨b, r, .pointer none, .pointer none, .pointer (some ⟨g, 0, none⟩), .pointer none, .pointer none, .pointer none, .pointer none, .iface 101 (.pointer (some ⟨g, 0, none⟩)), W, H, st, n⟩ 1 a' → Q .normal a' w') : (pc 13).wp Tryd.prog Q a w := by
  obtain ⟨gg, rfl⟩ := h.lit
  have HQ := Lib.hid hQ
  clear h hQ
  conv => arg 2; whnf
  obtain ⟨w0, rfl⟩ : ∃ q, q = w := ⟨_, rfl⟩
  have HC6 := Lib.hid c6
  clear c6
  go_upto_region 45 with fail
  clear c7 c5
  refine abs_frame _ (fun A hA => ?_)
  have hsz : A.tmps.size = 1540 := by rw [hA]; kernel_rfl
  have h0 : A.tmps.getD 0 undef = .pointer (some ⟨b, 0, none⟩) := by rw [hA]; rfl
  have h20 : A.tmps.getD 20 undef = .int .i64 (W : Int) := by rw [hA]; rfl
  have h21 : A.tmps.getD 21 undef = .int .i64 (H : Int) := by rw [hA]; rfl
  have HA := Lib.hid hA
  clear hA
  have gne := @gd_ne
  have geq := @gd_eq
  have hcd : Chg (fun _ => False) w0 w0.drew := (Chg.refl _ _).drew
  refine wp_region_noPanic ?_
  refine wp_region_held_drew (S := fun w' => Chg (fun _ => False) w0 w') (by kernel_rfl) hcd (fun hHeld => ?_)
  refine take_at 0 (some 237) (v := ?_) rfl rfl (by kernel_rfl) (by kernel_rfl) (by kernel_rfl) (fun _ _ _ h => h) (Or.inl ⟨by rfl, ?_⟩) (by assumption) ?_
  rotate_left
  · intro w hSw
    go_simp
    first | done | with_reducible rfl
  refine take_at 1 (some 238) (v := ?_) rfl rfl (by kernel_rfl) (by kernel_rfl) (by kernel_rfl) (fun _ _ _ h => h) (Or.inl ⟨by rfl, ?_⟩) (by assumption) ?_
  rotate_left
  · intro w hSw
    go_simp
    first | done | with_reducible rfl
  refine take_at 3 (some 240) (v := ?_) rfl rfl (by kernel_rfl) (by kernel_rfl) (by kernel_rfl) (fun _ _ _ h => h) (Or.inl ⟨by rfl, ?_⟩) (by assumption) ?_
  rotate_left
  · intro w hSw
    go_simp
    first | done | with_reducible rfl
  refine take_at 4 (some 241) (v := ?_) rfl rfl (by kernel_rfl) (by kernel_rfl) (by kernel_rfl) (fun _ _ _ h => h) (Or.inl ⟨by rfl, ?_⟩) (by assumption) ?_
  rotate_left
  · intro w hSw
    go_simp
    first | done | with_reducible rfl
  refine take_at 5 (some 242) (v := ?_) rfl rfl (by kernel_rfl) (by kernel_rfl) (by kernel_rfl) (fun _ _ _ h => h) (Or.inl ⟨by rfl, ?_⟩) (by assumption) ?_
  rotate_left
  · intro w hSw
    go_simp
    first | done | with_reducible rfl
  refine take_at 6 (some 243) (v := ?_) rfl rfl (by kernel_rfl) (by kernel_rfl) (by kernel_rfl) (fun _ _ _ h => h) (Or.inl ⟨by rfl, ?_⟩) (by assumption) ?_
  rotate_left
  · intro w hSw
    have c6 := (hSw.cell (World.block_lt_of_cell? w0 _ HC6.out) (fun h => h)).trans HC6.out
    go_simp
    first | done | with_reducible rfl
  refine wpAnyH_ready (rs := [2]) (by kernel_rfl) (by simp) ?_
  refine AllReadyH.cons rfl (fun K hK => ?_) AllReadyH.nil
  go_simp
  refine (rect_any W H _).mono ?_
  rintro e w2 ⟨rfl, hc2⟩
  have hc02 := hcd.trans hc2
  refine hK.out _ _ hc02 (fun hHeld => ?_)
  clear hK K
  refine wpAnyH_ready (rs := [7]) (by kernel_rfl) (by simp) ?_
  refine AllReadyH.cons rfl (fun K hK => ?_) AllReadyH.nil
  go_simp
  refine (new_Paletted W H L pa pn pk _ hw hh hL).mono ?_
  rintro e w3 ⟨g, bx, rfl, hg, hbx, hne, hrow, hseg, hc3⟩
  have hc03 := hc02.trans hc3
  refine hK.out _ _ hc03 (fun hHeld => ?_)
  clear hK K
  refine take_at 8 (some 14) (v := ?_) rfl rfl (by kernel_rfl) (by kernel_rfl) (by kernel_rfl) (fun _ _ _ h => h) (Or.inl ⟨by rfl, ?_⟩) (by assumption) ?_
  rotate_left
  · intro w hSw
    go_simp
    first | done | with_reducible rfl
  refine wpAnyH_done (by kernel_rfl) ?_ _
  refine NoPanic.normal ?_
  clear gne geq hsz h0 h20 h21 hHeld
  rw [HA.out]
  simp only [Act.put, List.setIfInBounds_toArray, List.set_cons_succ, List.set_cons_zero]
  have hs : w0.heap.size ≤ w2.heap.size := hc02.size
  go_wp2_with fail
  exact HQ.out _ _ g bx (by omega) (by omega) hne hrow hseg hc03 ⟨rfl, rfl, rfl, rfl, rfl, rfl, rfl, rfl, rfl, rfl, rfl, rfl, rfl, rfl, rfl, rfl, rfl⟩
set_option maxRecDepth 1000000 in
set_option maxHeartbeats 6400000 in
theorem p13_P2 (b W H L st n : Nat) (pa : Option Addr) (pn pk : Nat) (r : Value) (ps : Int) (a : Act) (w : World) (Q : Exit → Act → World → Prop) (h : Pre1 b r ps W H a) (c7 : w.cell? ⟨b, 7, none⟩ = some (.int .i64 8)) (c5 : w.cell? ⟨b, 5, none⟩ = some (.int .i64 2)) (c6 : w.cell? ⟨b, 6, none⟩ = some (.slice pa pn pk)) (hw : W ≤ 1000) (hh : H ≤ 1000) (hL : Hid (L = 1 * W * H))
    (hQ : ∀ a' w' g bx, w.heap.size ≤ g → w.heap.size ≤ bx → g ≠ bx → w'.heap[g]? = some (.cells #[.slice (some ⟨bx, 0, none⟩) L L, .int .i64 ((1 * W : Nat) : Int), .int .i64 0, .int .i64 0, .int .i64 (W : Int), .int .i64 (H : Int), .slice pa pn pk] 103 (0, 0)) → Seg w' bx [] [] (List.replicate L 0) → Chg (fun _ => False) w w' → Pre2 ⟨b, r, .pointer none, .pointer none, .pointer (some ⟨g, 0, none⟩), .pointer none, .pointer none, .pointer none, .pointer none, .iface 101 (.pointer (some ⟨g, 0, none⟩)), W, H, st, n⟩ 2 a' → Q .normal a' w') : (pc 13).wp Tryd.prog Q a w := by
  obtain ⟨gg, rfl⟩ := h.lit
  have HQ := Lib.hid hQ
  clear h hQ
  conv => arg 2; whnf
  obtain ⟨w0, rfl⟩ : ∃ q, q = w := ⟨_, rfl⟩
  have HC6 := Lib.hid c6
  clear c6
  go_upto_region 45 with fail
  clear c7 c5
  refine abs_frame _ (fun A hA => ?_)
  have hsz : A.tmps.size = 1540 := by rw [hA]; kernel_rfl
  have h0 : A.tmps.getD 0 undef = .pointer (some ⟨b, 0, none⟩) := by rw [hA]; rfl
  have h20 : A.tmps.getD 20 undef = .int .i64 (W : Int) := by rw [hA]; rfl
  have h21 : A.tmps.getD 21 undef = .int .i64 (H : Int) := by rw [hA]; rfl
  have HA := Lib.hid hA
  clear hA
  have gne := @gd_ne
  have geq := @gd_eq
  have hcd : Chg (fun _ => False) w0 w0.drew := (Chg.refl _ _).drew
  refine wp_region_noPanic ?_
  refine wp_region_held_drew (S := fun w' => Chg (fun _ => False) w0 w') (by kernel_rfl) hcd (fun hHeld => ?_)
  refine take_at 0 (some 237) (v := ?_) rfl rfl (by kernel_rfl) (by kernel_rfl) (by kernel_rfl) (fun _ _ _ h => h) (Or.inl ⟨by rfl, ?_⟩) (by assumption) ?_
  rotate_left
  · intro w hSw
    go_simp
    first | done | with_reducible rfl
  refine take_at 1 (some 238) (v := ?_) rfl rfl (by kernel_rfl) (by kernel_rfl) (by kernel_rfl) (fun _ _ _ h => h) (Or.inl ⟨by rfl, ?_⟩) (by assumption) ?_
  rotate_left
  · intro w hSw
    go_simp
    first | done | with_reducible rfl
  refine take_at 3 (some 240) (v := ?_) rfl rfl (by kernel_rfl) (by kernel_rfl) (by kernel_rfl) (fun _ _ _ h => h) (Or.inl ⟨by rfl, ?_⟩) (by assumption) ?_
  rotate_left
  · intro w hSw
    go_simp
    first | done | with_reducible rfl
  refine take_at 4 (some 241) (v := ?_) rfl rfl (by kernel_rfl) (by kernel_rfl) (by kernel_rfl) (fun _ _ _ h => h) (Or.inl ⟨by rfl, ?_⟩) (by assumption) ?_
  rotate_left
  · intro w hSw
    go_simp
    first | done | with_reducible rfl
  refine take_at 5 (some 242) (v := ?_) rfl rfl (by kernel_rfl) (by kernel_rfl) (by kernel_rfl) (fun _ _ _ h => h) (Or.inl ⟨by rfl, ?_⟩) (by assumption) ?_
  rotate_left
  · intro w hSw
    go_simp
    first | done | with_reducible rfl
  refine take_at 6 (some 243) (v := ?_) rfl rfl (by kernel_rfl) (by kernel_rfl) (by kernel_rfl) (fun _ _ _ h => h) (Or.inl ⟨by rfl, ?_⟩) (by assumption) ?_
  rotate_left
  · intro w hSw
    have c6 := (hSw.cell (World.block_lt_of_cell? w0 _ HC6.out) (fun h => h)).trans HC6.out
    go_simp
    first | done | with_reducible rfl
  refine wpAnyH_ready (rs := [2]) (by kernel_rfl) (by simp) ?_
  refine AllReadyH.cons rfl (fun K hK => ?_) AllReadyH.nil
  go_simp
  refine (rect_any W H _).mono ?_
  rintro e w2 ⟨rfl, hc2⟩
  have hc02 := hcd.trans hc2
  refine hK.out _ _ hc02 (fun hHeld => ?_)
  clear hK K
  refine wpAnyH_ready (rs := [7]) (by kernel_rfl) (by simp) ?_
  refine AllReadyH.cons rfl (fun K hK => ?_) AllReadyH.nil
  go_simp
  refine (new_Paletted W H L pa pn pk _ hw hh hL).mono ?_
  rintro e w3 ⟨g, bx, rfl, hg, hbx, hne, hrow, hseg, hc3⟩
  have hc03 := hc02.trans hc3
  refine hK.out _ _ hc03 (fun hHeld => ?_)
  clear hK K
  refine take_at 8 (some 14) (v := ?_) rfl rfl (by kernel_rfl) (by kernel_rfl) (by kernel_rfl) (fun _ _ _ h => h) (Or.inl ⟨by rfl, ?_⟩) (by assumption) ?_
  rotate_left
  · intro w hSw
    go_simp
    first | done | with_reducible rfl
  refine wpAnyH_done (by kernel_rfl) ?_ _
  refine NoPanic.normal ?_
  clear gne geq hsz h0 h20 h21 hHeld
  rw [HA.out]
  simp only [Act.put, List.setIfInBounds_toArray, List.set_cons_succ, List.set_cons_zero]
  have hs : w0.heap.size ≤ w2.heap.size := hc02.size
  go_wp2_with fail
  exact HQ.out _ _ g bx (by omega) (by omega) hne hrow hseg hc03 ⟨rfl, rfl, rfl, rfl, rfl, rfl, rfl, rfl, rfl, rfl, rfl, rfl, rfl, rfl, rfl, rfl, rfl⟩
set_option maxRecDepth 1000000 in
set_option maxHeartbeats 6400000 in
theorem p13_P4 (b W H L st n : Nat) (pa : Option Addr) (pn pk : Nat) (r : Value) (ps : Int) (a : Act) (w : World) (Q : Exit → Act → World → Prop) (h : Pre1 b r ps W H a) (c7 : w.cell? ⟨b, 7, none⟩ = some (.int .i64 9)) (c5 : w.cell? ⟨b, 5, none⟩ = some (.int .i64 4)) (c6 : w.cell? ⟨b, 6, none⟩ = some (.slice pa pn pk)) (hw : W ≤ 1000) (hh : H ≤ 1000) (hL : Hid (L = 1 * W * H))
    (hQ : ∀ a' w' g bx, w.heap.size ≤ g → w.heap.size ≤ bx → g ≠ bx → w'.heap[g]? = some (.cells #[.slice (some ⟨bx, 0, none⟩) L L, .int .i64 ((1 * W : Nat) : Int), .int .i64 0, .int .i64 0, .int .i64 (W : Int), .int .i64 (H : Int), .slice pa pn pk] 103 (0, 0)) → Seg w' bx [] [] (List.replicate L 0) → Chg (fun _ => False) w w' → Pre2 ⟨b, r, .pointer none, .pointer none, .pointer (some ⟨g, 0, none⟩), .pointer none, .pointer none, .pointer none, .pointer none, .iface 101 (.pointer (some ⟨g, 0, none⟩)), W, H, st, n⟩ 4 a' → Q .normal a' w') : (pc 13).wp Tryd.prog Q a w := by
  obtain ⟨gg, rfl⟩ := h.lit
  have HQ := Lib.hid hQ
  clear h hQ
  conv => arg 2; whnf
  obtain ⟨w0, rfl⟩ : ∃ q, q = w := ⟨_, rfl⟩
  have HC6 := Lib.hid c6
  clear c6
  go_upto_region 45 with fail
  clear c7 c5
  refine abs_frame _ (fun A hA => ?_)
  have hsz : A.tmps.size = 1540 := by rw [hA]; kernel_rfl
  have h0 : A.tmps.getD 0 undef = .pointer (some ⟨b, 0, none⟩) := by rw [hA]; rfl
  have h20 : A.tmps.getD 20 undef = .int .i64 (W : Int) := by rw [hA]; rfl
  have h21 : A.tmps.getD 21 undef = .int .i64 (H : Int) := by rw [hA]; rfl
  have HA := Lib.hid hA
  clear hA
  have gne := @gd_ne
  have geq := @gd_eq
  have hcd : Chg (fun _ => False) w0 w0.drew := (Chg.refl _ _).drew
  refine wp_region_noPanic ?_
  refine wp_region_held_drew (S := fun w' => Chg (fun _ => False) w0 w') (by kernel_rfl) hcd (fun hHeld => ?_)
  refine take_at 0 (some 237) (v := ?_) rfl rfl (by kernel_rfl) (by kernel_rfl) (by kernel_rfl) (fun _ _ _ h => h) (Or.inl ⟨by rfl, ?_⟩) (by assumption) ?_
  rotate_left
  · intro w hSw
    go_simp
    first | done | with_reducible rfl
  refine take_at 1 (some 238) (v := ?_) rfl rfl (by kernel_rfl) (by kernel_rfl) (by kernel_rfl) (fun _ _ _ h => h) (Or.inl ⟨by rfl, ?_⟩) (by assumption) ?_
  rotate_left
  · intro w hSw
    go_simp
    first | done | with_reducible rfl
  refine take_at 3 (some 240) (v := ?_) rfl rfl (by kernel_rfl) (by kernel_rfl) (by kernel_rfl) (fun _ _ _ h => h) (Or.inl ⟨by rfl, ?_⟩) (by assumption) ?_
  rotate_left
  · intro w hSw
    go_simp
    first | done | with_reducible rfl
  refine take_at 4 (some 241) (v := ?_) rfl rfl (by kernel_rfl) (by kernel_rfl) (by kernel_rfl) (fun _ _ _ h => h) (Or.inl ⟨by rfl, ?_⟩) (by assumption) ?_
  rotate_left
  · intro w hSw
    go_simp
    first | done | with_reducible rfl
  refine take_at 5 (some 242) (v := ?_) rfl rfl (by kernel_rfl) (by kernel_rfl) (by kernel_rfl) (fun _ _ _ h => h) (Or.inl ⟨by rfl, ?_⟩) (by assumption) ?_
  rotate_left
  · intro w hSw
    go_simp
    first | done | with_reducible rfl
  refine take_at 6 (some 243) (v := ?_) rfl rfl (by kernel_rfl) (by kernel_rfl) (by kernel_rfl) (fun _ _ _ h => h) (Or.inl ⟨by rfl, ?_⟩) (by assumption) ?_
  rotate_left
  · intro w hSw
    have c6 := (hSw.cell (World.block_lt_of_cell? w0 _ HC6.out) (fun h => h)).trans HC6.out
    go_simp
    first | done | with_reducible rfl
  refine wpAnyH_ready (rs := [2]) (by kernel_rfl) (by simp) ?_
  refine AllReadyH.cons rfl (fun K hK => ?_) AllReadyH.nil
  go_simp
  refine (rect_any W H _).mono ?_
  rintro e w2 ⟨rfl, hc2⟩
  have hc02 := hcd.trans hc2
  refine hK.out _ _ hc02 (fun hHeld => ?_)
  clear hK K
  refine wpAnyH_ready (rs := [7]) (by kernel_rfl) (by simp) ?_
  refine AllReadyH.cons rfl (fun K hK => ?_) AllReadyH.nil
  go_simp
  refine (new_Paletted W H L pa pn pk _ hw hh hL).mono ?_
  rintro e w3 ⟨g, bx, rfl, hg, hbx, hne, hrow, hseg, hc3⟩
  have hc03 := hc02.trans hc3
  refine hK.out _ _ hc03 (fun hHeld => ?_)
  clear hK K
  refine take_at 8 (some 14) (v := ?_) rfl rfl (by kernel_rfl) (by kernel_rfl) (by kernel_rfl) (fun _ _ _ h => h) (Or.inl ⟨by rfl, ?_⟩) (by assumption) ?_
  rotate_left
  · intro w hSw
    go_simp
    first | done | with_reducible rfl
  refine wpAnyH_done (by kernel_rfl) ?_ _
  refine NoPanic.normal ?_
  clear gne geq hsz h0 h20 h21 hHeld
  rw [HA.out]
  simp only [Act.put, List.setIfInBounds_toArray, List.set_cons_succ, List.set_cons_zero]
  have hs : w0.heap.size ≤ w2.heap.size := hc02.size
  go_wp2_with fail
  exact HQ.out _ _ g bx (by omega) (by omega) hne hrow hseg hc03 ⟨rfl, rfl, rfl, rfl, rfl, rfl, rfl, rfl, rfl, rfl, rfl, rfl, rfl, rfl, rfl, rfl, rfl⟩
set_option maxRecDepth 1000000 in
set_option maxHeartbeats 6400000 in
theorem p13_P8 (b W H L st n : Nat) (pa : Option Addr) (pn pk : Nat) (r : Value) (ps : Int) (a : Act) (w : World) (Q : Exit → Act → World → Prop) (h : Pre1 b r ps W H a) (c7 : w.cell? ⟨b, 7, none⟩ = some (.int .i64 10)) (c5 : w.cell? ⟨b, 5, none⟩ = some (.int .i64 8)) (c6 : w.cell? ⟨b, 6, none⟩ = some (.slice pa pn pk)) (hw : W ≤ 1000) (hh : H ≤ 1000) (hL : Hid (L = 1 * W * H))
    (hQ : ∀ a' w' g bx, w.heap.size ≤ g → w.heap.size ≤ bx → g ≠ bx → w'.heap[g]? = some (.cells #[.slice (some ⟨bx, 0, none⟩) L L, .int .i64 ((1 * W : Nat) : Int), .int .i64 0, .int .i64 0, .int .i64 (W : Int), .int .i64 (H : Int), .slice pa pn pk] 103 (0, 0)) → Seg w' bx [] [] (List.replicate L 0) → Chg (fun _ => False) w w' → Pre2 ⟨b, r, .pointer none, .pointer none, .pointer (some ⟨g, 0, none⟩), .pointer none, .pointer none, .pointer none, .pointer none, .iface 101 (.pointer (some ⟨g, 0, none⟩)), W, H, st, n⟩ 8 a' → Q .normal a' w') : (pc 13).wp Tryd.prog Q a w := by
  obtain ⟨gg, rfl⟩ := h.lit
  have HQ := Lib.hid hQ
  clear h hQ
  conv => arg 2; whnf
  obtain ⟨w0, rfl⟩ : ∃ q, q = w := ⟨_, rfl⟩
  have HC6 := Lib.hid c6
  clear c6
  go_upto_region 45 with fail
  clear c7 c5
  refine abs_frame _ (fun A hA => ?_)
  have hsz : A.tmps.size = 1540 := by rw [hA]; kernel_rfl
  have h0 : A.tmps.getD 0 undef = .pointer (some ⟨b, 0, none⟩) := by rw [hA]; rfl
  have h20 : A.tmps.getD 20 undef = .int .i64 (W : Int) := by rw [hA]; rfl
  have h21 : A.tmps.getD 21 undef = .int .i64 (H : Int) := by rw [hA]; rfl
  have HA := Lib.hid hA
  clear hA
  have gne := @gd_ne
  have geq := @gd_eq
  have hcd : Chg (fun _ => False) w0 w0.drew := (Chg.refl _ _).drew
  refine wp_region_noPanic ?_
  refine wp_region_held_drew (S := fun w' => Chg (fun _ => False) w0 w') (by kernel_rfl) hcd (fun hHeld => ?_)
  refine take_at 0 (some 237) (v := ?_) rfl rfl (by kernel_rfl) (by kernel_rfl) (by kernel_rfl) (fun _ _ _ h => h) (Or.inl ⟨by rfl, ?_⟩) (by assumption) ?_
  rotate_left
  · intro w hSw
    go_simp
    first | done | with_reducible rfl
  refine take_at 1 (some 238) (v := ?_) rfl rfl (by kernel_rfl) (by kernel_rfl) (by kernel_rfl) (fun _ _ _ h => h) (Or.inl ⟨by rfl, ?_⟩) (by assumption) ?_
  rotate_left
  · intro w hSw
    go_simp
    first | done | with_reducible rfl
  refine take_at 3 (some 240) (v := ?_) rfl rfl (by kernel_rfl) (by kernel_rfl) (by kernel_rfl) (fun _ _ _ h => h) (Or.inl ⟨by rfl, ?_⟩) (by assumption) ?_
  rotate_left
  · intro w hSw
    go_simp
    first | done | with_reducible rfl
  refine take_at 4 (some 241) (v := ?_) rfl rfl (by kernel_rfl) (by kernel_rfl) (by kernel_rfl) (fun _ _ _ h => h) (Or.inl ⟨by rfl, ?_⟩) (by assumption) ?_
  rotate_left
  · intro w hSw
    go_simp
    first | done | with_reducible rfl
  refine take_at 5 (some 242) (v := ?_) rfl rfl (by kernel_rfl) (by kernel_rfl) (by kernel_rfl) (fun _ _ _ h => h) (Or.inl ⟨by rfl, ?_⟩) (by assumption) ?_
  rotate_left
  · intro w hSw
    go_simp
    first | done | with_reducible rfl
  refine take_at 6 (some 243) (v := ?_) rfl rfl (by kernel_rfl) (by kernel_rfl) (by kernel_rfl) (fun _ _ _ h => h) (Or.inl ⟨by rfl, ?_⟩) (by assumption) ?_
  rotate_left
  · intro w hSw
    have c6 := (hSw.cell (World.block_lt_of_cell? w0 _ HC6.out) (fun h => h)).trans HC6.out
    go_simp
    first | done | with_reducible rfl
  refine wpAnyH_ready (rs := [2]) (by kernel_rfl) (by simp) ?_
  refine AllReadyH.cons rfl (fun K hK => ?_) AllReadyH.nil
  go_simp
  refine (rect_any W H _).mono ?_
  rintro e w2 ⟨rfl, hc2⟩
  have hc02 := hcd.trans hc2
  refine hK.out _ _ hc02 (fun hHeld => ?_)
  clear hK K
  refine wpAnyH_ready (rs := [7]) (by kernel_rfl) (by simp) ?_
  refine AllReadyH.cons rfl (fun K hK => ?_) AllReadyH.nil
  go_simp
  refine (new_Paletted W H L pa pn pk _ hw hh hL).mono ?_
  rintro e w3 ⟨g, bx, rfl, hg, hbx, hne, hrow, hseg, hc3⟩
  have hc03 := hc02.trans hc3
  refine hK.out _ _ hc03 (fun hHeld => ?_)
  clear hK K
  refine take_at 8 (some 14) (v := ?_) rfl rfl (by kernel_rfl) (by kernel_rfl) (by kernel_rfl) (fun _ _ _ h => h) (Or.inl ⟨by rfl, ?_⟩) (by assumption) ?_
  rotate_left
  · intro w hSw
    go_simp
    first | done | with_reducible rfl
  refine wpAnyH_done (by kernel_rfl) ?_ _
  refine NoPanic.normal ?_
  clear gne geq hsz h0 h20 h21 hHeld
  rw [HA.out]
  simp only [Act.put, List.setIfInBounds_toArray, List.set_cons_succ, List.set_cons_zero]
  have hs : w0.heap.size ≤ w2.heap.size := hc02.size
  go_wp2_with fail
  exact HQ.out _ _ g bx (by omega) (by omega) hne hrow hseg hc03 ⟨rfl, rfl, rfl, rfl, rfl, rfl, rfl, rfl, rfl, rfl, rfl, rfl, rfl, rfl, rfl, rfl, rfl⟩
end Go.Proofs.YtkiibhpmembcgaaDoor
