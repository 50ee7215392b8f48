/- A picture by a palette is made. Printed by gen/newpal.py. -/
import Derived.Test.YtkiibhpmembcgaaDoorNewImg
namespace Go.Proofs.YtkiibhpmembcgaaDoor
open Go.ChangeShapes Go.WideShapes Go.ChangeAt Go.RowKit Go.IntWalk

/-- A picture by a palette has been made: its bytes, all nought, and its head. -/
def NewEndP (W H L : Nat) (pal : Value) (w : World) (e : Ending) (w' : World) : Prop :=
  ∃ g bx, e = .returned (.pointer (some ⟨g, 0, none⟩)) ∧ w.heap.size ≤ g ∧ w.heap.size ≤ bx ∧ g ≠ bx ∧
    w'.heap[g]? = some (.cells #[.slice (some ⟨bx, 0, none⟩) L L, .int .i64 ((1 * W : Nat) : Int), .int .i64 0, .int .i64 0, .int .i64 (W : Int), .int .i64 (H : Int), pal] 103 (0, 0)) ∧
    Seg w' bx [] [] (List.replicate L 0) ∧ Chg (fun _ => False) w w'
set_option maxRecDepth 100000 in
set_option maxHeartbeats 1600000 in
theorem new_Paletted (W H L : Nat) (pa : Option Addr) (pn pc : Nat) (w : World) (hw : W ≤ 1000) (hh : H ≤ 1000) (hL : Hid (L = 1 * W * H)) :
    Calls Tryd.prog 35 #[.agg #[.int .i64 0, .int .i64 0, .int .i64 (W : Int), .int .i64 (H : Int)], .slice pa pn pc] w (NewEndP W H L (.slice pa pn pc) w) := by
  obtain ⟨w1, hw1⟩ : ∃ w1, w1 = w.alloc (.cells #[.int .i64 0, .int .i64 0, .int .i64 (W : Int), .int .i64 (H : Int)] 88) := ⟨_, rfl⟩
  have hb1 : Chg (fun _ => False) w w1 := hw1 ▸ (Chg.refl _ _).alloc _
  have hrow : w1.heap[w.heap.size]? = some (.cells #[.int .i64 0, .int .i64 0, .int .i64 (W : Int), .int .i64 (H : Int)] 88 (0, 0)) := hw1 ▸ alloc_at w _
  have hlt : w.heap.size < w1.heap.size := by rw [hw1, size_alloc]; omega
  go_enter Tryd.func35, Tryd.ntmps35
  go_upto_region 1 with fail
  rw [← hw1]
  obtain ⟨N, hN⟩ : ∃ N, N = w.heap.size := ⟨_, rfl⟩
  rw [← hN] at hrow hlt ⊢
  have HB1 := Lib.hid hb1
  have HN := Lib.hid hN
  have HROW := Lib.hid hrow
  clear hw1 hb1 hN hrow
  have h0 : Chg (fun _ => False) w1 w1.drew := (Chg.refl _ _).drew
  refine wp_region_held_drew (S := fun w' => Chg (fun _ => False) w1 w') (by kernel_rfl) h0 (fun hHeld => ?_)
  refine take_at 0 (some 5) (v := ?_) rfl rfl (by kernel_rfl) (by kernel_rfl) (by kernel_rfl) (fun _ _ _ h => h) (Or.inl ⟨by rfl, ?_⟩) (by assumption) ?_
  rotate_left
  · intro w hSw
    obtain ⟨c0, c1, c2, c3⟩ := RcAt.of_row ((hSw.block N hlt (fun h => h)).trans HROW.out)
    go_simp
    first | done | with_reducible rfl
  simp only [Act.put, List.setIfInBounds_toArray, List.set_cons_succ, List.set_cons_zero]
  refine take_at 3 (some 8) (v := ?_) rfl rfl (by kernel_rfl) (by kernel_rfl) (by kernel_rfl) (fun _ _ _ h => h) (Or.inl ⟨by rfl, ?_⟩) (by assumption) ?_
  rotate_left
  · intro w hSw
    obtain ⟨c0, c1, c2, c3⟩ := RcAt.of_row ((hSw.block N hlt (fun h => h)).trans HROW.out)
    go_simp
    first | done | with_reducible rfl
  simp only [Act.put, List.setIfInBounds_toArray, List.set_cons_succ, List.set_cons_zero]
  refine take_at 6 (some 11) (v := ?_) rfl rfl (by kernel_rfl) (by kernel_rfl) (by kernel_rfl) (fun _ _ _ h => h) (Or.inl ⟨by rfl, ?_⟩) (by assumption) ?_
  rotate_left
  · intro w hSw
    obtain ⟨c0, c1, c2, c3⟩ := RcAt.of_row ((hSw.block N hlt (fun h => h)).trans HROW.out)
    go_simp
    first | done | with_reducible rfl
  simp only [Act.put, List.setIfInBounds_toArray, List.set_cons_succ, List.set_cons_zero]
  refine take_at 7 (some 12) (v := ?_) rfl rfl (by kernel_rfl) (by kernel_rfl) (by kernel_rfl) (fun _ _ _ h => h) (Or.inl ⟨by rfl, ?_⟩) (by assumption) ?_
  rotate_left
  · intro w hSw
    (try dsimp only at hSw)
    go_simp
    first | done | with_reducible rfl
  simp only [Act.put, List.setIfInBounds_toArray, List.set_cons_succ, List.set_cons_zero]
  refine wpAnyH_ready (rs := [1]) (by kernel_rfl) (by simp) ?_
  refine AllReadyH.cons rfl (fun K hK => ?_) AllReadyH.nil
  go_simp
  refine (pblen_any 1 W H _ _ (by omega) hw hh).mono ?_
  rintro e w2 ⟨rfl, hc2⟩
  have h2 := h0.trans hc2
  rw [← hL.out]
  refine hK.out _ _ h2 (fun hHeld => ?_)
  clear hK K
  have hmk := make_zb L (by have := hL.out; have : 1 * W * H ≤ 8 * 1000 * 1000 := Nat.mul_le_mul (Nat.mul_le_mul (by omega) hw) hh; omega)
  have hN2 : w.heap.size < w1.heap.size := HN.out ▸ hlt
  have hsz2 := hc2.size
  have hsz1 : w1.drew.heap.size = w1.heap.size := rfl
  have ew : IntKind.i64.wrap ((W : Int)) = (W : Int) := i64_in _ ⟨by omega, by omega⟩
  have EX : Hid (((1 * W : Nat) : Int) = (W : Int)) := Lib.hid (by omega)
  refine wpAnyH_ready (rs := [2, 4]) (by kernel_rfl) (by simp) ?_
  refine AllReadyH.cons rfl (fun K hK => ?_) (AllReadyH.cons rfl (fun K hK => ?_) AllReadyH.nil)
  · go_simp
    obtain ⟨w3, hw3⟩ : ∃ w3, w3 = w2.alloc (.cells (zb L) 5) := ⟨_, rfl⟩
    rw [← hw3]
    have h3 : Chg (fun _ => False) w1 w3 := hw3 ▸ h2.alloc _
    have hs3 : Seg w3 w2.heap.size [] [] (List.replicate L 0) := hw3 ▸ seg_zb w2 L
    have hsz3 : w2.heap.size < w3.heap.size := by rw [hw3, size_alloc]; omega
    clear hw3
    refine hK.out _ _ h3 (fun hHeld => ?_)
    clear hK K
    refine wpAnyH_ready (rs := [4]) (by kernel_rfl) (by simp) ?_
    refine AllReadyH.cons rfl (fun K hK => ?_) AllReadyH.nil
    go_simp
    refine (dx_any W H _ hw).mono ?_
    rintro e w5 ⟨rfl, hc5⟩
    have h5 := h3.trans hc5
    have hs5 := hs3.chg hc5 (fun h => h)
    have hsz5 := hc5.size
    refine hK.out _ _ h5 (fun hHeld => ?_)
    clear hK K
    refine take_at 5 (some 10) (v := ?_) rfl rfl (by kernel_rfl) (by kernel_rfl) (by kernel_rfl) (fun _ _ _ h => h) (Or.inl ⟨by rfl, ?_⟩) (by assumption) ?_
    rotate_left
    · intro w hSw
      (try dsimp only at hSw)
      go_simp
      first | done | with_reducible rfl
    simp only [Act.put, List.setIfInBounds_toArray, List.set_cons_succ, List.set_cons_zero]
    refine take_at 8 (some 13) (v := ?_) rfl rfl (by kernel_rfl) (by kernel_rfl) (by kernel_rfl) (fun _ _ _ h => h) (Or.inl ⟨by rfl, ?_⟩) (by assumption) ?_
    rotate_left
    · intro w hSw
      (try dsimp only at hSw)
      go_simp
      first | done | with_reducible rfl
    simp only [Act.put, List.setIfInBounds_toArray, List.set_cons_succ, List.set_cons_zero]
    refine wpAnyH_ready (rs := [9]) (by kernel_rfl) (by simp) ?_
    refine AllReadyH.cons rfl (fun K hK => ?_) AllReadyH.nil
    go_simp
    obtain ⟨w6, hw6⟩ : ∃ w6, w6 = w5.alloc (.cells #[.slice (some ⟨w2.heap.size, 0, none⟩) L L, .int .i64 ((W : Int)), .int .i64 0, .int .i64 0, .int .i64 (W : Int), .int .i64 (H : Int), .slice pa pn pc] 103) := ⟨_, rfl⟩
    rw [← hw6]
    have h6 : Chg (fun _ => False) w1 w6 := hw6 ▸ h5.alloc _
    have hrow6 : w6.heap[w5.heap.size]? = some (.cells #[.slice (some ⟨w2.heap.size, 0, none⟩) L L, .int .i64 ((W : Int)), .int .i64 0, .int .i64 0, .int .i64 (W : Int), .int .i64 (H : Int), .slice pa pn pc] 103 (0, 0)) := hw6 ▸ alloc_at _ _
    have hs6 : Seg w6 w2.heap.size [] [] (List.replicate L 0) := hw6 ▸ hs5.chg ((Chg.refl (fun _ => False) _).alloc _) (fun h => h)
    clear hw6
    refine hK.out _ _ h6 (fun hHeld => ?_)
    clear hK K
    refine take_at 10 (some 4) (v := ?_) rfl rfl (by kernel_rfl) (by kernel_rfl) (by kernel_rfl) (fun _ _ _ h => h) (Or.inl ⟨by rfl, ?_⟩) (by assumption) ?_
    rotate_left
    · intro w hSw
      (try dsimp only at hSw)
      go_simp
      first | done | with_reducible rfl
    simp only [Act.put, List.setIfInBounds_toArray, List.set_cons_succ, List.set_cons_zero]
    refine wpAnyH_done (by kernel_rfl) ?_ _
    go_wp2_with fail
    go_ret
    exact ⟨_, _, rfl, by omega, by omega, by omega, by rw [EX.out]; exact hrow6, hs6, HB1.out.trans h6⟩
  · go_simp
    refine (dx_any W H _ hw).mono ?_
    rintro e w4 ⟨rfl, hc4⟩
    have h4 := h2.trans hc4
    have hsz4 := hc4.size
    refine hK.out _ _ h4 (fun hHeld => ?_)
    clear hK K
    refine take_at 5 (some 10) (v := ?_) rfl rfl (by kernel_rfl) (by kernel_rfl) (by kernel_rfl) (fun _ _ _ h => h) (Or.inl ⟨by rfl, ?_⟩) (by assumption) ?_
    rotate_left
    · intro w hSw
      (try dsimp only at hSw)
      go_simp
      first | done | with_reducible rfl
    simp only [Act.put, List.setIfInBounds_toArray, List.set_cons_succ, List.set_cons_zero]
    refine wpAnyH_ready (rs := [2]) (by kernel_rfl) (by simp) ?_
    refine AllReadyH.cons rfl (fun K hK => ?_) AllReadyH.nil
    go_simp
    obtain ⟨w5, hw5⟩ : ∃ w5, w5 = w4.alloc (.cells (zb L) 5) := ⟨_, rfl⟩
    rw [← hw5]
    have h5 : Chg (fun _ => False) w1 w5 := hw5 ▸ h4.alloc _
    have hs5 : Seg w5 w4.heap.size [] [] (List.replicate L 0) := hw5 ▸ seg_zb w4 L
    have hsz5 : w4.heap.size < w5.heap.size := by rw [hw5, size_alloc]; omega
    clear hw5
    refine hK.out _ _ h5 (fun hHeld => ?_)
    clear hK K
    refine take_at 8 (some 13) (v := ?_) rfl rfl (by kernel_rfl) (by kernel_rfl) (by kernel_rfl) (fun _ _ _ h => h) (Or.inl ⟨by rfl, ?_⟩) (by assumption) ?_
    rotate_left
    · intro w hSw
      (try dsimp only at hSw)
      go_simp
      first | done | with_reducible rfl
    simp only [Act.put, List.setIfInBounds_toArray, List.set_cons_succ, List.set_cons_zero]
    refine wpAnyH_ready (rs := [9]) (by kernel_rfl) (by simp) ?_
    refine AllReadyH.cons rfl (fun K hK => ?_) AllReadyH.nil
    go_simp
    obtain ⟨w6, hw6⟩ : ∃ w6, w6 = w5.alloc (.cells #[.slice (some ⟨w4.heap.size, 0, none⟩) L L, .int .i64 ((W : Int)), .int .i64 0, .int .i64 0, .int .i64 (W : Int), .int .i64 (H : Int), .slice pa pn pc] 103) := ⟨_, rfl⟩
    rw [← hw6]
    have h6 : Chg (fun _ => False) w1 w6 := hw6 ▸ h5.alloc _
    have hrow6 : w6.heap[w5.heap.size]? = some (.cells #[.slice (some ⟨w4.heap.size, 0, none⟩) L L, .int .i64 ((W : Int)), .int .i64 0, .int .i64 0, .int .i64 (W : Int), .int .i64 (H : Int), .slice pa pn pc] 103 (0, 0)) := hw6 ▸ alloc_at _ _
    have hs6 : Seg w6 w4.heap.size [] [] (List.replicate L 0) := hw6 ▸ hs5.chg ((Chg.refl (fun _ => False) _).alloc _) (fun h => h)
    clear hw6
    refine hK.out _ _ h6 (fun hHeld => ?_)
    clear hK K
    refine take_at 10 (some 4) (v := ?_) rfl rfl (by kernel_rfl) (by kernel_rfl) (by kernel_rfl) (fun _ _ _ h => h) (Or.inl ⟨by rfl, ?_⟩) (by assumption) ?_
    rotate_left
    · intro w hSw
      (try dsimp only at hSw)
      go_simp
      first | done | with_reducible rfl
    simp only [Act.put, List.setIfInBounds_toArray, List.set_cons_succ, List.set_cons_zero]
    refine wpAnyH_done (by kernel_rfl) ?_ _
    go_wp2_with fail
    go_ret
    exact ⟨_, _, rfl, by omega, by omega, by omega, by rw [EX.out]; exact hrow6, hs6, HB1.out.trans h6⟩
end Go.Proofs.YtkiibhpmembcgaaDoor
