/- Pictures are made: image.Rect, pixelBufferLength and what it calls, image.NewX. -/
import Derived.Test.YtkiibhpmembcgaaDoorGRead
import Derived.Laws.MakeOwn
import Derived.Laws.CopyOwn
import Derived.StillTailTactics
import Derived.Deep.QuietTactic
import Derived.BigQuiet
import Derived.Deep.DeepCutAuto
import Derived.Deep.CutBlock
import Derived.LoopTactic
import Derived.Outline
namespace Go.Proofs.YtkiibhpmembcgaaDoor
open Go.ChangeShapes Go.WideShapes Go.ChangeAt Go.RowKit Go.IntWalk

theorem low32 (a : Nat) (h : a < 4294967296) : bits .and .u64 (a : Int) 4294967295 = (a : Int) := by
  have := u64_and_nat a 4294967295 (by omega) (by omega)
  rw [show ((4294967295 : Nat) : Int) = 4294967295 by rfl] at this
  rw [this, show (4294967295 : Nat) = 2 ^ 32 - 1 by rfl, Nat.and_two_pow_sub_one_eq_mod, Nat.mod_eq_of_lt (by omega)]
set_option maxRecDepth 100000 in
theorem mul64_any (a b c : Nat) (w : World) (ha : a ≤ 1000000) (hb : b ≤ 1000) (hc : Hid (c = a * b)) :
    Calls Tryd.prog 61 #[.int .u64 (a : Int), .int .u64 (b : Int)] w (fun e w' => e = .returned (.tuple #[.int .u64 0, .int .u64 (c : Int)]) ∧ w' = w) := by
  go_enter Tryd.func61, Tryd.ntmps61
  have hm : a * b ≤ 1000000 * 1000 := Nat.mul_le_mul ha hb
  have hmi : ((a * b : Nat) : Int) = (a : Int) * (b : Int) := Int.natCast_mul a b
  rw [← hc.out] at hm hmi
  have la := low32 a (by omega)
  have lb := low32 b (by omega)
  have l0 := low32 0 (by omega)
  rw [show ((0 : Nat) : Int) = 0 by rfl] at l0
  have da : (a : Int) / 4294967296 = 0 := by omega
  have db : (b : Int) / 4294967296 = 0 := by omega
  have dc : (c : Int) / 4294967296 = 0 := by omega
  have wc : IntKind.u64.wrap (c : Int) = (c : Int) := u64_in _ ⟨by omega, by omega⟩
  have w0 : IntKind.u64.wrap 0 = 0 := by decide
  replace hmi := hmi.symm
  go_wp2_with fail
  go_ret2
  exact ⟨rfl, rfl⟩
set_option maxRecDepth 100000 in
theorem dx_any (W H : Nat) (w : World) (hw : W ≤ 1000) :
    Calls Tryd.prog 49 #[.agg #[.int .i64 0, .int .i64 0, .int .i64 (W : Int), .int .i64 (H : Int)]] w (fun e w' => e = .returned (.int .i64 (W : Int)) ∧ Chg (fun _ => False) w w') := by
  go_enter Tryd.func49, Tryd.ntmps49
  have e1 : IntKind.i64.wrap ((W : Int) - 0) = (W : Int) := by rw [i64_in _ ⟨by omega, by omega⟩]; omega
  go_wp2_with fail
  go_ret
  exact ⟨rfl, (Chg.refl _ _).alloc _⟩
set_option maxRecDepth 100000 in
theorem dy_any (W H : Nat) (w : World) (hw : H ≤ 1000) :
    Calls Tryd.prog 60 #[.agg #[.int .i64 0, .int .i64 0, .int .i64 (W : Int), .int .i64 (H : Int)]] w (fun e w' => e = .returned (.int .i64 (H : Int)) ∧ Chg (fun _ => False) w w') := by
  go_enter Tryd.func60, Tryd.ntmps60
  have e1 : IntKind.i64.wrap ((H : Int) - 0) = (H : Int) := by rw [i64_in _ ⟨by omega, by omega⟩]; omega
  go_wp2_with fail
  go_ret
  exact ⟨rfl, (Chg.refl _ _).alloc _⟩
set_option maxRecDepth 100000 in
theorem rect_any (W H : Nat) (w : World) :
    Calls Tryd.prog 32 #[.int .i64 0, .int .i64 0, .int .i64 (W : Int), .int .i64 (H : Int)] w (fun e w' => e = .returned (.agg #[.int .i64 0, .int .i64 0, .int .i64 (W : Int), .int .i64 (H : Int)]) ∧ Chg (fun _ => False) w w') := by
  go_enter Tryd.func32, Tryd.ntmps32
  have a1 : (0 : Int) ≤ (W : Int) := by omega
  have a2 : (0 : Int) ≤ (H : Int) := by omega
  go_wp2_with fail
  refine ⟨rfl, .agg #[.int .i64 0, .int .i64 0, .int .i64 (W : Int), .int .i64 (H : Int)], ?_, rfl, (Chg.refl _ _).alloc _⟩
  simp [results, Tryd.results32, go_sem]
set_option maxRecDepth 100000 in
set_option maxHeartbeats 3200000 in
theorem mul3_any (a b c : Nat) (w : World) (ha : a ≤ 8) (hb : b ≤ 1000) (hc : c ≤ 1000) :
    Calls Tryd.prog 59 #[.int .i64 (a : Int), .int .i64 (b : Int), .int .i64 (c : Int)] w (fun e w' => e = .returned (.int .i64 ((a * b * c : Nat) : Int)) ∧ w' = w) := by
  go_enter Tryd.func59, Tryd.ntmps59
  have hm : a * b ≤ 8 * 1000 := Nat.mul_le_mul ha hb
  have hm2 : a * b * c ≤ 8 * 1000 * 1000 := Nat.mul_le_mul hm hc
  obtain ⟨d, hd⟩ : ∃ d, d = a * b := ⟨_, rfl⟩
  have HD := Lib.hid hd
  rw [← hd] at hm hm2 ⊢
  clear hd
  obtain ⟨f, hf⟩ : ∃ f, f = d * c := ⟨_, rfl⟩
  have HF := Lib.hid hf
  rw [← hf] at hm2 ⊢
  clear hf
  have a1 : (0 : Int) ≤ (a : Int) := by omega
  have a2 : (0 : Int) ≤ (b : Int) := by omega
  have a3 : (0 : Int) ≤ (c : Int) := by omega
  have a4 : (0 : Int) ≤ (f : Int) := by omega
  have wa : IntKind.u64.wrap (a : Int) = (a : Int) := u64_in _ ⟨by omega, by omega⟩
  have wb : IntKind.u64.wrap (b : Int) = (b : Int) := u64_in _ ⟨by omega, by omega⟩
  have wc : IntKind.u64.wrap (c : Int) = (c : Int) := u64_in _ ⟨by omega, by omega⟩
  have wf : IntKind.u64.wrap (f : Int) = (f : Int) := u64_in _ ⟨by omega, by omega⟩
  have wg : IntKind.i64.wrap (f : Int) = (f : Int) := i64_in _ ⟨by omega, by omega⟩
  go_upto_region 3 with fail
  go_upto_region 4 with (go_at_call 61; refine (mul64_any a b d _ (by omega) hb HD).mono ?_; rintro e w' ⟨rfl, rfl⟩)
  go_upto_region 7 with (go_at_call 61; refine (mul64_any d c f _ (by omega) hc HF).mono ?_; rintro e w' ⟨rfl, rfl⟩)
  go_wp2_with fail
  go_ret
  exact ⟨rfl, rfl⟩
/-- So many bytes, all nought. -/
def zb (n : Nat) : Array Value := (([] : List Value) ++ (List.replicate n (0 : UInt8)).map (fun (v : UInt8) => Value.int .u8 (v.toNat : Int)) ++ []).toArray
theorem made_zb (n : Nat) : madeCells (Value.int .u8 0).cells (n * 1) = zb n := by
  apply Array.toList_inj.1
  simp only [madeCells, zb, Value.cells, Nat.mul_one]
  apply List.ext_getElem?
  intro i
  by_cases h : i < n <;> simp [h, Nat.mod_one]
theorem make_zb (n : Nat) (hm : n ≤ 100000000) (w : World) : (Instr.makeSlice 23 (.int .i64 (n : Int)) (.int .i64 (n : Int))).run Tryd.prog w = .ok (.slice (some ⟨w.heap.size, 0, none⟩) n n) (w.alloc (.cells (zb n) 5)) := by
  obtain ⟨i0, hi, hz0, hz1, hz2⟩ := info_parts info_byte
  have h := run_make (P := Tryd.prog) w 23 5 i0 (.int .u8 0) (by kernel_rfl) hi hz0 .i64 .i64 (n : Int) (n : Int) (by omega) (Int.le_refl _) (by rw [hz2]; omega) (by omega)
  rw [show (n : Int).toNat = n by omega, hz1, made_zb] at h
  exact h
theorem seg_zb (w : World) (n : Nat) : Seg (w.alloc (.cells (zb n) 5)) w.heap.size [] [] (List.replicate n 0) := alloc_at w _
/-- A picture has been made: its bytes, all nought, and its head. -/
def NewEnd (T : TypeId) (m W H L : Nat) (w : World) (e : Ending) (w' : World) : Prop :=
  ∃ g bx, e = .returned (.pointer (some ⟨g, 0, none⟩)) ∧ w.heap.size ≤ g ∧ w.heap.size ≤ bx ∧ g ≠ bx ∧
    w'.heap[g]? = some (.cells #[.slice (some ⟨bx, 0, none⟩) L L, .int .i64 ((m * W : Nat) : Int), .int .i64 0, .int .i64 0, .int .i64 (W : Int), .int .i64 (H : Int)] T (0, 0)) ∧
    Seg w' bx [] [] (List.replicate L 0) ∧ Chg (fun _ => False) w w'
set_option maxRecDepth 100000 in
theorem pblen_any (a b c : Nat) (s : ByteArray) (w : World) (ha : a ≤ 8) (hb : b ≤ 1000) (hc : c ≤ 1000) :
    Calls Tryd.prog 48 #[.int .i64 (a : Int), .agg #[.int .i64 0, .int .i64 0, .int .i64 (b : Int), .int .i64 (c : Int)], .string s] w
      (fun e w' => e = .returned (.int .i64 ((a * b * c : Nat) : Int)) ∧ Chg (fun _ => False) w w') := by
  obtain ⟨w1, hw1⟩ : ∃ w1, w1 = w.alloc (.cells #[.int .i64 0, .int .i64 0, .int .i64 (b : Int), .int .i64 (c : Int)] 88) := ⟨_, rfl⟩
  have hb1 : Chg (fun _ => False) w w1 := hw1 ▸ (Chg.refl _ _).alloc _
  have hrow : w1.heap[w.heap.size]? = some (.cells #[.int .i64 0, .int .i64 0, .int .i64 (b : Int), .int .i64 (c : Int)] 88 (0, 0)) := hw1 ▸ alloc_at w _
  have hlt : w.heap.size < w1.heap.size := by rw [hw1, size_alloc]; omega
  go_enter Tryd.func48, Tryd.ntmps48
  go_upto_region 1 with fail
  rw [← hw1]
  obtain ⟨N, hN⟩ : ∃ N, N = w.heap.size := ⟨_, rfl⟩
  rw [← hN] at hrow hlt ⊢
  have HB1 := Lib.hid hb1
  have HN := Lib.hid hN
  have HROW := Lib.hid hrow
  clear hw1 hb1 hN hrow
  have h0 : Chg (fun _ => False) w1 w1.drew := (Chg.refl _ _).drew
  have ge : (0 : Int) ≤ ((a * b * c : Nat) : Int) := by omega
  refine wp_region_held_drew (S := fun w' => Chg (fun _ => False) w1 w') (by kernel_rfl) h0 (fun hHeld => ?_)
  refine take_at 0 (some 8) (v := ?_) rfl rfl (by kernel_rfl) (by kernel_rfl) (by kernel_rfl) (fun _ _ _ h => h) (Or.inl ⟨by rfl, ?_⟩) (by assumption) ?_
  rotate_left
  · intro w hSw
    (try dsimp only at hSw)
    go_simp
    first | done | with_reducible rfl
  simp only [Act.put, List.setIfInBounds_toArray, List.set_cons_succ, List.set_cons_zero]
  refine take_at 1 (some 9) (v := ?_) rfl rfl (by kernel_rfl) (by kernel_rfl) (by kernel_rfl) (fun _ _ _ h => h) (Or.inl ⟨by rfl, ?_⟩) (by assumption) ?_
  rotate_left
  · intro w hSw
    obtain ⟨c0, c1, c2, c3⟩ := RcAt.of_row ((hSw.block N hlt (fun h => h)).trans HROW.out)
    go_simp
    first | done | with_reducible rfl
  simp only [Act.put, List.setIfInBounds_toArray, List.set_cons_succ, List.set_cons_zero]
  refine take_at 3 (some 11) (v := ?_) rfl rfl (by kernel_rfl) (by kernel_rfl) (by kernel_rfl) (fun _ _ _ h => h) (Or.inl ⟨by rfl, ?_⟩) (by assumption) ?_
  rotate_left
  · intro w hSw
    obtain ⟨c0, c1, c2, c3⟩ := RcAt.of_row ((hSw.block N hlt (fun h => h)).trans HROW.out)
    go_simp
    first | done | with_reducible rfl
  simp only [Act.put, List.setIfInBounds_toArray, List.set_cons_succ, List.set_cons_zero]
  refine wpAnyH_ready (rs := [2]) (by kernel_rfl) (by simp) ?_
  refine AllReadyH.cons rfl (fun K hK => ?_) AllReadyH.nil
  go_simp
  refine (dx_any b c _ hb).mono ?_
  rintro e w2 ⟨rfl, hc2⟩
  have h2 := h0.trans hc2
  refine hK.out _ _ h2 (fun hHeld => ?_)
  clear hK K
  refine wpAnyH_ready (rs := [4]) (by kernel_rfl) (by simp) ?_
  refine AllReadyH.cons rfl (fun K hK => ?_) AllReadyH.nil
  go_simp
  refine (dy_any b c _ hc).mono ?_
  rintro e w3 ⟨rfl, hc3⟩
  have h3 := h2.trans hc3
  refine hK.out _ _ h3 (fun hHeld => ?_)
  clear hK K
  refine wpAnyH_ready (rs := [5]) (by kernel_rfl) (by simp) ?_
  refine AllReadyH.cons rfl (fun K hK => ?_) AllReadyH.nil
  go_simp
  refine (mul3_any a b c _ ha hb hc).mono ?_
  rintro e w4 ⟨rfl, rfl⟩
  refine hK.out _ _ h3 (fun hHeld => ?_)
  clear hK K
  refine take_at 6 (some 7) (v := ?_) rfl rfl (by kernel_rfl) (by kernel_rfl) (by kernel_rfl) (fun _ _ _ h => h) (Or.inl ⟨by rfl, ?_⟩) (by assumption) ?_
  rotate_left
  · intro w hSw
    (try dsimp only at hSw)
    go_simp
    first | done | with_reducible rfl
  simp only [Act.put, List.setIfInBounds_toArray, List.set_cons_succ, List.set_cons_zero]
  refine wpAnyH_done (by kernel_rfl) ?_ _
  go_wp2_with fail
  go_ret
  exact ⟨rfl, HB1.out.trans h3⟩
set_option maxRecDepth 100000 in
set_option maxHeartbeats 1600000 in
theorem new_NRGBA (W H L : Nat) (w : World) (hw : W ≤ 1000) (hh : H ≤ 1000) (hL : Hid (L = 4 * W * H)) :
    Calls Tryd.prog 31 #[.agg #[.int .i64 0, .int .i64 0, .int .i64 (W : Int), .int .i64 (H : Int)]] w (NewEnd 98 4 W H L w) := by
  obtain ⟨w1, hw1⟩ : ∃ w1, w1 = w.alloc (.cells #[.int .i64 0, .int .i64 0, .int .i64 (W : Int), .int .i64 (H : Int)] 88) := ⟨_, rfl⟩
  have hb1 : Chg (fun _ => False) w w1 := hw1 ▸ (Chg.refl _ _).alloc _
  have hrow : w1.heap[w.heap.size]? = some (.cells #[.int .i64 0, .int .i64 0, .int .i64 (W : Int), .int .i64 (H : Int)] 88 (0, 0)) := hw1 ▸ alloc_at w _
  have hlt : w.heap.size < w1.heap.size := by rw [hw1, size_alloc]; omega
  go_enter Tryd.func31, Tryd.ntmps31
  go_upto_region 1 with fail
  rw [← hw1]
  obtain ⟨N, hN⟩ : ∃ N, N = w.heap.size := ⟨_, rfl⟩
  rw [← hN] at hrow hlt ⊢
  have HB1 := Lib.hid hb1
  have HN := Lib.hid hN
  have HROW := Lib.hid hrow
  clear hw1 hb1 hN hrow
  have h0 : Chg (fun _ => False) w1 w1.drew := (Chg.refl _ _).drew
  refine wp_region_held_drew (S := fun w' => Chg (fun _ => False) w1 w') (by kernel_rfl) h0 (fun hHeld => ?_)
  refine take_at 0 (some 3) (v := ?_) rfl rfl (by kernel_rfl) (by kernel_rfl) (by kernel_rfl) (fun _ _ _ h => h) (Or.inl ⟨by rfl, ?_⟩) (by assumption) ?_
  rotate_left
  · intro w hSw
    obtain ⟨c0, c1, c2, c3⟩ := RcAt.of_row ((hSw.block N hlt (fun h => h)).trans HROW.out)
    go_simp
    first | done | with_reducible rfl
  simp only [Act.put, List.setIfInBounds_toArray, List.set_cons_succ, List.set_cons_zero]
  refine take_at 3 (some 6) (v := ?_) rfl rfl (by kernel_rfl) (by kernel_rfl) (by kernel_rfl) (fun _ _ _ h => h) (Or.inl ⟨by rfl, ?_⟩) (by assumption) ?_
  rotate_left
  · intro w hSw
    obtain ⟨c0, c1, c2, c3⟩ := RcAt.of_row ((hSw.block N hlt (fun h => h)).trans HROW.out)
    go_simp
    first | done | with_reducible rfl
  simp only [Act.put, List.setIfInBounds_toArray, List.set_cons_succ, List.set_cons_zero]
  refine take_at 6 (some 9) (v := ?_) rfl rfl (by kernel_rfl) (by kernel_rfl) (by kernel_rfl) (fun _ _ _ h => h) (Or.inl ⟨by rfl, ?_⟩) (by assumption) ?_
  rotate_left
  · intro w hSw
    obtain ⟨c0, c1, c2, c3⟩ := RcAt.of_row ((hSw.block N hlt (fun h => h)).trans HROW.out)
    go_simp
    first | done | with_reducible rfl
  simp only [Act.put, List.setIfInBounds_toArray, List.set_cons_succ, List.set_cons_zero]
  refine wpAnyH_ready (rs := [1]) (by kernel_rfl) (by simp) ?_
  refine AllReadyH.cons rfl (fun K hK => ?_) AllReadyH.nil
  go_simp
  refine (pblen_any 4 W H _ _ (by omega) hw hh).mono ?_
  rintro e w2 ⟨rfl, hc2⟩
  have h2 := h0.trans hc2
  rw [← hL.out]
  refine hK.out _ _ h2 (fun hHeld => ?_)
  clear hK K
  have hmk := make_zb L (by have := hL.out; have : 4 * W * H ≤ 8 * 1000 * 1000 := Nat.mul_le_mul (Nat.mul_le_mul (by omega) hw) hh; omega)
  have hN2 : w.heap.size < w1.heap.size := HN.out ▸ hlt
  have hsz2 := hc2.size
  have hsz1 : w1.drew.heap.size = w1.heap.size := rfl
  have ew : IntKind.i64.wrap (4 * (W : Int)) = 4 * (W : Int) := i64_in _ ⟨by omega, by omega⟩
  have EX : Hid (((4 * W : Nat) : Int) = 4 * (W : Int)) := Lib.hid (by omega)
  refine wpAnyH_ready (rs := [2, 4]) (by kernel_rfl) (by simp) ?_
  refine AllReadyH.cons rfl (fun K hK => ?_) (AllReadyH.cons rfl (fun K hK => ?_) AllReadyH.nil)
  · go_simp
    obtain ⟨w3, hw3⟩ : ∃ w3, w3 = w2.alloc (.cells (zb L) 5) := ⟨_, rfl⟩
    rw [← hw3]
    have h3 : Chg (fun _ => False) w1 w3 := hw3 ▸ h2.alloc _
    have hs3 : Seg w3 w2.heap.size [] [] (List.replicate L 0) := hw3 ▸ seg_zb w2 L
    have hsz3 : w2.heap.size < w3.heap.size := by rw [hw3, size_alloc]; omega
    clear hw3
    refine hK.out _ _ h3 (fun hHeld => ?_)
    clear hK K
    refine wpAnyH_ready (rs := [4]) (by kernel_rfl) (by simp) ?_
    refine AllReadyH.cons rfl (fun K hK => ?_) AllReadyH.nil
    go_simp
    refine (dx_any W H _ hw).mono ?_
    rintro e w5 ⟨rfl, hc5⟩
    have h5 := h3.trans hc5
    have hs5 := hs3.chg hc5 (fun h => h)
    have hsz5 := hc5.size
    refine hK.out _ _ h5 (fun hHeld => ?_)
    clear hK K
    refine take_at 5 (some 8) (v := ?_) rfl rfl (by kernel_rfl) (by kernel_rfl) (by kernel_rfl) (fun _ _ _ h => h) (Or.inl ⟨by rfl, ?_⟩) (by assumption) ?_
    rotate_left
    · intro w hSw
      (try dsimp only at hSw)
      go_simp
      first | done | with_reducible rfl
    simp only [Act.put, List.setIfInBounds_toArray, List.set_cons_succ, List.set_cons_zero]
    refine take_at 7 (some 10) (v := ?_) rfl rfl (by kernel_rfl) (by kernel_rfl) (by kernel_rfl) (fun _ _ _ h => h) (Or.inl ⟨by rfl, ?_⟩) (by assumption) ?_
    rotate_left
    · intro w hSw
      (try dsimp only at hSw)
      go_simp
      first | done | with_reducible rfl
    simp only [Act.put, List.setIfInBounds_toArray, List.set_cons_succ, List.set_cons_zero]
    refine wpAnyH_ready (rs := [8]) (by kernel_rfl) (by simp) ?_
    refine AllReadyH.cons rfl (fun K hK => ?_) AllReadyH.nil
    go_simp
    obtain ⟨w6, hw6⟩ : ∃ w6, w6 = w5.alloc (.cells #[.slice (some ⟨w2.heap.size, 0, none⟩) L L, .int .i64 (4 * (W : Int)), .int .i64 0, .int .i64 0, .int .i64 (W : Int), .int .i64 (H : Int)] 98) := ⟨_, rfl⟩
    rw [← hw6]
    have h6 : Chg (fun _ => False) w1 w6 := hw6 ▸ h5.alloc _
    have hrow6 : w6.heap[w5.heap.size]? = some (.cells #[.slice (some ⟨w2.heap.size, 0, none⟩) L L, .int .i64 (4 * (W : Int)), .int .i64 0, .int .i64 0, .int .i64 (W : Int), .int .i64 (H : Int)] 98 (0, 0)) := hw6 ▸ alloc_at _ _
    have hs6 : Seg w6 w2.heap.size [] [] (List.replicate L 0) := hw6 ▸ hs5.chg ((Chg.refl (fun _ => False) _).alloc _) (fun h => h)
    clear hw6
    refine hK.out _ _ h6 (fun hHeld => ?_)
    clear hK K
    refine take_at 9 (some 2) (v := ?_) rfl rfl (by kernel_rfl) (by kernel_rfl) (by kernel_rfl) (fun _ _ _ h => h) (Or.inl ⟨by rfl, ?_⟩) (by assumption) ?_
    rotate_left
    · intro w hSw
      (try dsimp only at hSw)
      go_simp
      first | done | with_reducible rfl
    simp only [Act.put, List.setIfInBounds_toArray, List.set_cons_succ, List.set_cons_zero]
    refine wpAnyH_done (by kernel_rfl) ?_ _
    go_wp2_with fail
    go_ret
    exact ⟨_, _, rfl, by omega, by omega, by omega, by rw [EX.out]; exact hrow6, hs6, HB1.out.trans h6⟩
  · go_simp
    refine (dx_any W H _ hw).mono ?_
    rintro e w4 ⟨rfl, hc4⟩
    have h4 := h2.trans hc4
    have hsz4 := hc4.size
    refine hK.out _ _ h4 (fun hHeld => ?_)
    clear hK K
    refine take_at 5 (some 8) (v := ?_) rfl rfl (by kernel_rfl) (by kernel_rfl) (by kernel_rfl) (fun _ _ _ h => h) (Or.inl ⟨by rfl, ?_⟩) (by assumption) ?_
    rotate_left
    · intro w hSw
      (try dsimp only at hSw)
      go_simp
      first | done | with_reducible rfl
    simp only [Act.put, List.setIfInBounds_toArray, List.set_cons_succ, List.set_cons_zero]
    refine wpAnyH_ready (rs := [2]) (by kernel_rfl) (by simp) ?_
    refine AllReadyH.cons rfl (fun K hK => ?_) AllReadyH.nil
    go_simp
    obtain ⟨w5, hw5⟩ : ∃ w5, w5 = w4.alloc (.cells (zb L) 5) := ⟨_, rfl⟩
    rw [← hw5]
    have h5 : Chg (fun _ => False) w1 w5 := hw5 ▸ h4.alloc _
    have hs5 : Seg w5 w4.heap.size [] [] (List.replicate L 0) := hw5 ▸ seg_zb w4 L
    have hsz5 : w4.heap.size < w5.heap.size := by rw [hw5, size_alloc]; omega
    clear hw5
    refine hK.out _ _ h5 (fun hHeld => ?_)
    clear hK K
    refine take_at 7 (some 10) (v := ?_) rfl rfl (by kernel_rfl) (by kernel_rfl) (by kernel_rfl) (fun _ _ _ h => h) (Or.inl ⟨by rfl, ?_⟩) (by assumption) ?_
    rotate_left
    · intro w hSw
      (try dsimp only at hSw)
      go_simp
      first | done | with_reducible rfl
    simp only [Act.put, List.setIfInBounds_toArray, List.set_cons_succ, List.set_cons_zero]
    refine wpAnyH_ready (rs := [8]) (by kernel_rfl) (by simp) ?_
    refine AllReadyH.cons rfl (fun K hK => ?_) AllReadyH.nil
    go_simp
    obtain ⟨w6, hw6⟩ : ∃ w6, w6 = w5.alloc (.cells #[.slice (some ⟨w4.heap.size, 0, none⟩) L L, .int .i64 (4 * (W : Int)), .int .i64 0, .int .i64 0, .int .i64 (W : Int), .int .i64 (H : Int)] 98) := ⟨_, rfl⟩
    rw [← hw6]
    have h6 : Chg (fun _ => False) w1 w6 := hw6 ▸ h5.alloc _
    have hrow6 : w6.heap[w5.heap.size]? = some (.cells #[.slice (some ⟨w4.heap.size, 0, none⟩) L L, .int .i64 (4 * (W : Int)), .int .i64 0, .int .i64 0, .int .i64 (W : Int), .int .i64 (H : Int)] 98 (0, 0)) := hw6 ▸ alloc_at _ _
    have hs6 : Seg w6 w4.heap.size [] [] (List.replicate L 0) := hw6 ▸ hs5.chg ((Chg.refl (fun _ => False) _).alloc _) (fun h => h)
    clear hw6
    refine hK.out _ _ h6 (fun hHeld => ?_)
    clear hK K
    refine take_at 9 (some 2) (v := ?_) rfl rfl (by kernel_rfl) (by kernel_rfl) (by kernel_rfl) (fun _ _ _ h => h) (Or.inl ⟨by rfl, ?_⟩) (by assumption) ?_
    rotate_left
    · intro w hSw
      (try dsimp only at hSw)
      go_simp
      first | done | with_reducible rfl
    simp only [Act.put, List.setIfInBounds_toArray, List.set_cons_succ, List.set_cons_zero]
    refine wpAnyH_done (by kernel_rfl) ?_ _
    go_wp2_with fail
    go_ret
    exact ⟨_, _, rfl, by omega, by omega, by omega, by rw [EX.out]; exact hrow6, hs6, HB1.out.trans h6⟩
set_option maxRecDepth 100000 in
set_option maxHeartbeats 1600000 in
theorem new_NRGBA64 (W H L : Nat) (w : World) (hw : W ≤ 1000) (hh : H ≤ 1000) (hL : Hid (L = 8 * W * H)) :
    Calls Tryd.prog 36 #[.agg #[.int .i64 0, .int .i64 0, .int .i64 (W : Int), .int .i64 (H : Int)]] w (NewEnd 100 8 W H L w) := by
  obtain ⟨w1, hw1⟩ : ∃ w1, w1 = w.alloc (.cells #[.int .i64 0, .int .i64 0, .int .i64 (W : Int), .int .i64 (H : Int)] 88) := ⟨_, rfl⟩
  have hb1 : Chg (fun _ => False) w w1 := hw1 ▸ (Chg.refl _ _).alloc _
  have hrow : w1.heap[w.heap.size]? = some (.cells #[.int .i64 0, .int .i64 0, .int .i64 (W : Int), .int .i64 (H : Int)] 88 (0, 0)) := hw1 ▸ alloc_at w _
  have hlt : w.heap.size < w1.heap.size := by rw [hw1, size_alloc]; omega
  go_enter Tryd.func36, Tryd.ntmps36
  go_upto_region 1 with fail
  rw [← hw1]
  obtain ⟨N, hN⟩ : ∃ N, N = w.heap.size := ⟨_, rfl⟩
  rw [← hN] at hrow hlt ⊢
  have HB1 := Lib.hid hb1
  have HN := Lib.hid hN
  have HROW := Lib.hid hrow
  clear hw1 hb1 hN hrow
  have h0 : Chg (fun _ => False) w1 w1.drew := (Chg.refl _ _).drew
  refine wp_region_held_drew (S := fun w' => Chg (fun _ => False) w1 w') (by kernel_rfl) h0 (fun hHeld => ?_)
  refine take_at 0 (some 3) (v := ?_) rfl rfl (by kernel_rfl) (by kernel_rfl) (by kernel_rfl) (fun _ _ _ h => h) (Or.inl ⟨by rfl, ?_⟩) (by assumption) ?_
  rotate_left
  · intro w hSw
    obtain ⟨c0, c1, c2, c3⟩ := RcAt.of_row ((hSw.block N hlt (fun h => h)).trans HROW.out)
    go_simp
    first | done | with_reducible rfl
  simp only [Act.put, List.setIfInBounds_toArray, List.set_cons_succ, List.set_cons_zero]
  refine take_at 3 (some 6) (v := ?_) rfl rfl (by kernel_rfl) (by kernel_rfl) (by kernel_rfl) (fun _ _ _ h => h) (Or.inl ⟨by rfl, ?_⟩) (by assumption) ?_
  rotate_left
  · intro w hSw
    obtain ⟨c0, c1, c2, c3⟩ := RcAt.of_row ((hSw.block N hlt (fun h => h)).trans HROW.out)
    go_simp
    first | done | with_reducible rfl
  simp only [Act.put, List.setIfInBounds_toArray, List.set_cons_succ, List.set_cons_zero]
  refine take_at 6 (some 9) (v := ?_) rfl rfl (by kernel_rfl) (by kernel_rfl) (by kernel_rfl) (fun _ _ _ h => h) (Or.inl ⟨by rfl, ?_⟩) (by assumption) ?_
  rotate_left
  · intro w hSw
    obtain ⟨c0, c1, c2, c3⟩ := RcAt.of_row ((hSw.block N hlt (fun h => h)).trans HROW.out)
    go_simp
    first | done | with_reducible rfl
  simp only [Act.put, List.setIfInBounds_toArray, List.set_cons_succ, List.set_cons_zero]
  refine wpAnyH_ready (rs := [1]) (by kernel_rfl) (by simp) ?_
  refine AllReadyH.cons rfl (fun K hK => ?_) AllReadyH.nil
  go_simp
  refine (pblen_any 8 W H _ _ (by omega) hw hh).mono ?_
  rintro e w2 ⟨rfl, hc2⟩
  have h2 := h0.trans hc2
  rw [← hL.out]
  refine hK.out _ _ h2 (fun hHeld => ?_)
  clear hK K
  have hmk := make_zb L (by have := hL.out; have : 8 * W * H ≤ 8 * 1000 * 1000 := Nat.mul_le_mul (Nat.mul_le_mul (by omega) hw) hh; omega)
  have hN2 : w.heap.size < w1.heap.size := HN.out ▸ hlt
  have hsz2 := hc2.size
  have hsz1 : w1.drew.heap.size = w1.heap.size := rfl
  have ew : IntKind.i64.wrap (8 * (W : Int)) = 8 * (W : Int) := i64_in _ ⟨by omega, by omega⟩
  have EX : Hid (((8 * W : Nat) : Int) = 8 * (W : Int)) := Lib.hid (by omega)
  refine wpAnyH_ready (rs := [2, 4]) (by kernel_rfl) (by simp) ?_
  refine AllReadyH.cons rfl (fun K hK => ?_) (AllReadyH.cons rfl (fun K hK => ?_) AllReadyH.nil)
  · go_simp
    obtain ⟨w3, hw3⟩ : ∃ w3, w3 = w2.alloc (.cells (zb L) 5) := ⟨_, rfl⟩
    rw [← hw3]
    have h3 : Chg (fun _ => False) w1 w3 := hw3 ▸ h2.alloc _
    have hs3 : Seg w3 w2.heap.size [] [] (List.replicate L 0) := hw3 ▸ seg_zb w2 L
    have hsz3 : w2.heap.size < w3.heap.size := by rw [hw3, size_alloc]; omega
    clear hw3
    refine hK.out _ _ h3 (fun hHeld => ?_)
    clear hK K
    refine wpAnyH_ready (rs := [4]) (by kernel_rfl) (by simp) ?_
    refine AllReadyH.cons rfl (fun K hK => ?_) AllReadyH.nil
    go_simp
    refine (dx_any W H _ hw).mono ?_
    rintro e w5 ⟨rfl, hc5⟩
    have h5 := h3.trans hc5
    have hs5 := hs3.chg hc5 (fun h => h)
    have hsz5 := hc5.size
    refine hK.out _ _ h5 (fun hHeld => ?_)
    clear hK K
    refine take_at 5 (some 8) (v := ?_) rfl rfl (by kernel_rfl) (by kernel_rfl) (by kernel_rfl) (fun _ _ _ h => h) (Or.inl ⟨by rfl, ?_⟩) (by assumption) ?_
    rotate_left
    · intro w hSw
      (try dsimp only at hSw)
      go_simp
      first | done | with_reducible rfl
    simp only [Act.put, List.setIfInBounds_toArray, List.set_cons_succ, List.set_cons_zero]
    refine take_at 7 (some 10) (v := ?_) rfl rfl (by kernel_rfl) (by kernel_rfl) (by kernel_rfl) (fun _ _ _ h => h) (Or.inl ⟨by rfl, ?_⟩) (by assumption) ?_
    rotate_left
    · intro w hSw
      (try dsimp only at hSw)
      go_simp
      first | done | with_reducible rfl
    simp only [Act.put, List.setIfInBounds_toArray, List.set_cons_succ, List.set_cons_zero]
    refine wpAnyH_ready (rs := [8]) (by kernel_rfl) (by simp) ?_
    refine AllReadyH.cons rfl (fun K hK => ?_) AllReadyH.nil
    go_simp
    obtain ⟨w6, hw6⟩ : ∃ w6, w6 = w5.alloc (.cells #[.slice (some ⟨w2.heap.size, 0, none⟩) L L, .int .i64 (8 * (W : Int)), .int .i64 0, .int .i64 0, .int .i64 (W : Int), .int .i64 (H : Int)] 100) := ⟨_, rfl⟩
    rw [← hw6]
    have h6 : Chg (fun _ => False) w1 w6 := hw6 ▸ h5.alloc _
    have hrow6 : w6.heap[w5.heap.size]? = some (.cells #[.slice (some ⟨w2.heap.size, 0, none⟩) L L, .int .i64 (8 * (W : Int)), .int .i64 0, .int .i64 0, .int .i64 (W : Int), .int .i64 (H : Int)] 100 (0, 0)) := hw6 ▸ alloc_at _ _
    have hs6 : Seg w6 w2.heap.size [] [] (List.replicate L 0) := hw6 ▸ hs5.chg ((Chg.refl (fun _ => False) _).alloc _) (fun h => h)
    clear hw6
    refine hK.out _ _ h6 (fun hHeld => ?_)
    clear hK K
    refine take_at 9 (some 2) (v := ?_) rfl rfl (by kernel_rfl) (by kernel_rfl) (by kernel_rfl) (fun _ _ _ h => h) (Or.inl ⟨by rfl, ?_⟩) (by assumption) ?_
    rotate_left
    · intro w hSw
      (try dsimp only at hSw)
      go_simp
      first | done | with_reducible rfl
    simp only [Act.put, List.setIfInBounds_toArray, List.set_cons_succ, List.set_cons_zero]
    refine wpAnyH_done (by kernel_rfl) ?_ _
    go_wp2_with fail
    go_ret
    exact ⟨_, _, rfl, by omega, by omega, by omega, by rw [EX.out]; exact hrow6, hs6, HB1.out.trans h6⟩
  · go_simp
    refine (dx_any W H _ hw).mono ?_
    rintro e w4 ⟨rfl, hc4⟩
    have h4 := h2.trans hc4
    have hsz4 := hc4.size
    refine hK.out _ _ h4 (fun hHeld => ?_)
    clear hK K
    refine take_at 5 (some 8) (v := ?_) rfl rfl (by kernel_rfl) (by kernel_rfl) (by kernel_rfl) (fun _ _ _ h => h) (Or.inl ⟨by rfl, ?_⟩) (by assumption) ?_
    rotate_left
    · intro w hSw
      (try dsimp only at hSw)
      go_simp
      first | done | with_reducible rfl
    simp only [Act.put, List.setIfInBounds_toArray, List.set_cons_succ, List.set_cons_zero]
    refine wpAnyH_ready (rs := [2]) (by kernel_rfl) (by simp) ?_
    refine AllReadyH.cons rfl (fun K hK => ?_) AllReadyH.nil
    go_simp
    obtain ⟨w5, hw5⟩ : ∃ w5, w5 = w4.alloc (.cells (zb L) 5) := ⟨_, rfl⟩
    rw [← hw5]
    have h5 : Chg (fun _ => False) w1 w5 := hw5 ▸ h4.alloc _
    have hs5 : Seg w5 w4.heap.size [] [] (List.replicate L 0) := hw5 ▸ seg_zb w4 L
    have hsz5 : w4.heap.size < w5.heap.size := by rw [hw5, size_alloc]; omega
    clear hw5
    refine hK.out _ _ h5 (fun hHeld => ?_)
    clear hK K
    refine take_at 7 (some 10) (v := ?_) rfl rfl (by kernel_rfl) (by kernel_rfl) (by kernel_rfl) (fun _ _ _ h => h) (Or.inl ⟨by rfl, ?_⟩) (by assumption) ?_
    rotate_left
    · intro w hSw
      (try dsimp only at hSw)
      go_simp
      first | done | with_reducible rfl
    simp only [Act.put, List.setIfInBounds_toArray, List.set_cons_succ, List.set_cons_zero]
    refine wpAnyH_ready (rs := [8]) (by kernel_rfl) (by simp) ?_
    refine AllReadyH.cons rfl (fun K hK => ?_) AllReadyH.nil
    go_simp
    obtain ⟨w6, hw6⟩ : ∃ w6, w6 = w5.alloc (.cells #[.slice (some ⟨w4.heap.size, 0, none⟩) L L, .int .i64 (8 * (W : Int)), .int .i64 0, .int .i64 0, .int .i64 (W : Int), .int .i64 (H : Int)] 100) := ⟨_, rfl⟩
    rw [← hw6]
    have h6 : Chg (fun _ => False) w1 w6 := hw6 ▸ h5.alloc _
    have hrow6 : w6.heap[w5.heap.size]? = some (.cells #[.slice (some ⟨w4.heap.size, 0, none⟩) L L, .int .i64 (8 * (W : Int)), .int .i64 0, .int .i64 0, .int .i64 (W : Int), .int .i64 (H : Int)] 100 (0, 0)) := hw6 ▸ alloc_at _ _
    have hs6 : Seg w6 w4.heap.size [] [] (List.replicate L 0) := hw6 ▸ hs5.chg ((Chg.refl (fun _ => False) _).alloc _) (fun h => h)
    clear hw6
    refine hK.out _ _ h6 (fun hHeld => ?_)
    clear hK K
    refine take_at 9 (some 2) (v := ?_) rfl rfl (by kernel_rfl) (by kernel_rfl) (by kernel_rfl) (fun _ _ _ h => h) (Or.inl ⟨by rfl, ?_⟩) (by assumption) ?_
    rotate_left
    · intro w hSw
      (try dsimp only at hSw)
      go_simp
      first | done | with_reducible rfl
    simp only [Act.put, List.setIfInBounds_toArray, List.set_cons_succ, List.set_cons_zero]
    refine wpAnyH_done (by kernel_rfl) ?_ _
    go_wp2_with fail
    go_ret
    exact ⟨_, _, rfl, by omega, by omega, by omega, by rw [EX.out]; exact hrow6, hs6, HB1.out.trans h6⟩
set_option maxRecDepth 100000 in
set_option maxHeartbeats 1600000 in
theorem new_RGBA (W H L : Nat) (w : World) (hw : W ≤ 1000) (hh : H ≤ 1000) (hL : Hid (L = 4 * W * H)) :
    Calls Tryd.prog 34 #[.agg #[.int .i64 0, .int .i64 0, .int .i64 (W : Int), .int .i64 (H : Int)]] w (NewEnd 94 4 W H L w) := by
  obtain ⟨w1, hw1⟩ : ∃ w1, w1 = w.alloc (.cells #[.int .i64 0, .int .i64 0, .int .i64 (W : Int), .int .i64 (H : Int)] 88) := ⟨_, rfl⟩
  have hb1 : Chg (fun _ => False) w w1 := hw1 ▸ (Chg.refl _ _).alloc _
  have hrow : w1.heap[w.heap.size]? = some (.cells #[.int .i64 0, .int .i64 0, .int .i64 (W : Int), .int .i64 (H : Int)] 88 (0, 0)) := hw1 ▸ alloc_at w _
  have hlt : w.heap.size < w1.heap.size := by rw [hw1, size_alloc]; omega
  go_enter Tryd.func34, Tryd.ntmps34
  go_upto_region 1 with fail
  rw [← hw1]
  obtain ⟨N, hN⟩ : ∃ N, N = w.heap.size := ⟨_, rfl⟩
  rw [← hN] at hrow hlt ⊢
  have HB1 := Lib.hid hb1
  have HN := Lib.hid hN
  have HROW := Lib.hid hrow
  clear hw1 hb1 hN hrow
  have h0 : Chg (fun _ => False) w1 w1.drew := (Chg.refl _ _).drew
  refine wp_region_held_drew (S := fun w' => Chg (fun _ => False) w1 w') (by kernel_rfl) h0 (fun hHeld => ?_)
  refine take_at 0 (some 3) (v := ?_) rfl rfl (by kernel_rfl) (by kernel_rfl) (by kernel_rfl) (fun _ _ _ h => h) (Or.inl ⟨by rfl, ?_⟩) (by assumption) ?_
  rotate_left
  · intro w hSw
    obtain ⟨c0, c1, c2, c3⟩ := RcAt.of_row ((hSw.block N hlt (fun h => h)).trans HROW.out)
    go_simp
    first | done | with_reducible rfl
  simp only [Act.put, List.setIfInBounds_toArray, List.set_cons_succ, List.set_cons_zero]
  refine take_at 3 (some 6) (v := ?_) rfl rfl (by kernel_rfl) (by kernel_rfl) (by kernel_rfl) (fun _ _ _ h => h) (Or.inl ⟨by rfl, ?_⟩) (by assumption) ?_
  rotate_left
  · intro w hSw
    obtain ⟨c0, c1, c2, c3⟩ := RcAt.of_row ((hSw.block N hlt (fun h => h)).trans HROW.out)
    go_simp
    first | done | with_reducible rfl
  simp only [Act.put, List.setIfInBounds_toArray, List.set_cons_succ, List.set_cons_zero]
  refine take_at 6 (some 9) (v := ?_) rfl rfl (by kernel_rfl) (by kernel_rfl) (by kernel_rfl) (fun _ _ _ h => h) (Or.inl ⟨by rfl, ?_⟩) (by assumption) ?_
  rotate_left
  · intro w hSw
    obtain ⟨c0, c1, c2, c3⟩ := RcAt.of_row ((hSw.block N hlt (fun h => h)).trans HROW.out)
    go_simp
    first | done | with_reducible rfl
  simp only [Act.put, List.setIfInBounds_toArray, List.set_cons_succ, List.set_cons_zero]
  refine wpAnyH_ready (rs := [1]) (by kernel_rfl) (by simp) ?_
  refine AllReadyH.cons rfl (fun K hK => ?_) AllReadyH.nil
  go_simp
  refine (pblen_any 4 W H _ _ (by omega) hw hh).mono ?_
  rintro e w2 ⟨rfl, hc2⟩
  have h2 := h0.trans hc2
  rw [← hL.out]
  refine hK.out _ _ h2 (fun hHeld => ?_)
  clear hK K
  have hmk := make_zb L (by have := hL.out; have : 4 * W * H ≤ 8 * 1000 * 1000 := Nat.mul_le_mul (Nat.mul_le_mul (by omega) hw) hh; omega)
  have hN2 : w.heap.size < w1.heap.size := HN.out ▸ hlt
  have hsz2 := hc2.size
  have hsz1 : w1.drew.heap.size = w1.heap.size := rfl
  have ew : IntKind.i64.wrap (4 * (W : Int)) = 4 * (W : Int) := i64_in _ ⟨by omega, by omega⟩
  have EX : Hid (((4 * W : Nat) : Int) = 4 * (W : Int)) := Lib.hid (by omega)
  refine wpAnyH_ready (rs := [2, 4]) (by kernel_rfl) (by simp) ?_
  refine AllReadyH.cons rfl (fun K hK => ?_) (AllReadyH.cons rfl (fun K hK => ?_) AllReadyH.nil)
  · go_simp
    obtain ⟨w3, hw3⟩ : ∃ w3, w3 = w2.alloc (.cells (zb L) 5) := ⟨_, rfl⟩
    rw [← hw3]
    have h3 : Chg (fun _ => False) w1 w3 := hw3 ▸ h2.alloc _
    have hs3 : Seg w3 w2.heap.size [] [] (List.replicate L 0) := hw3 ▸ seg_zb w2 L
    have hsz3 : w2.heap.size < w3.heap.size := by rw [hw3, size_alloc]; omega
    clear hw3
    refine hK.out _ _ h3 (fun hHeld => ?_)
    clear hK K
    refine wpAnyH_ready (rs := [4]) (by kernel_rfl) (by simp) ?_
    refine AllReadyH.cons rfl (fun K hK => ?_) AllReadyH.nil
    go_simp
    refine (dx_any W H _ hw).mono ?_
    rintro e w5 ⟨rfl, hc5⟩
    have h5 := h3.trans hc5
    have hs5 := hs3.chg hc5 (fun h => h)
    have hsz5 := hc5.size
    refine hK.out _ _ h5 (fun hHeld => ?_)
    clear hK K
    refine take_at 5 (some 8) (v := ?_) rfl rfl (by kernel_rfl) (by kernel_rfl) (by kernel_rfl) (fun _ _ _ h => h) (Or.inl ⟨by rfl, ?_⟩) (by assumption) ?_
    rotate_left
    · intro w hSw
      (try dsimp only at hSw)
      go_simp
      first | done | with_reducible rfl
    simp only [Act.put, List.setIfInBounds_toArray, List.set_cons_succ, List.set_cons_zero]
    refine take_at 7 (some 10) (v := ?_) rfl rfl (by kernel_rfl) (by kernel_rfl) (by kernel_rfl) (fun _ _ _ h => h) (Or.inl ⟨by rfl, ?_⟩) (by assumption) ?_
    rotate_left
    · intro w hSw
      (try dsimp only at hSw)
      go_simp
      first | done | with_reducible rfl
    simp only [Act.put, List.setIfInBounds_toArray, List.set_cons_succ, List.set_cons_zero]
    refine wpAnyH_ready (rs := [8]) (by kernel_rfl) (by simp) ?_
    refine AllReadyH.cons rfl (fun K hK => ?_) AllReadyH.nil
    go_simp
    obtain ⟨w6, hw6⟩ : ∃ w6, w6 = w5.alloc (.cells #[.slice (some ⟨w2.heap.size, 0, none⟩) L L, .int .i64 (4 * (W : Int)), .int .i64 0, .int .i64 0, .int .i64 (W : Int), .int .i64 (H : Int)] 94) := ⟨_, rfl⟩
    rw [← hw6]
    have h6 : Chg (fun _ => False) w1 w6 := hw6 ▸ h5.alloc _
    have hrow6 : w6.heap[w5.heap.size]? = some (.cells #[.slice (some ⟨w2.heap.size, 0, none⟩) L L, .int .i64 (4 * (W : Int)), .int .i64 0, .int .i64 0, .int .i64 (W : Int), .int .i64 (H : Int)] 94 (0, 0)) := hw6 ▸ alloc_at _ _
    have hs6 : Seg w6 w2.heap.size [] [] (List.replicate L 0) := hw6 ▸ hs5.chg ((Chg.refl (fun _ => False) _).alloc _) (fun h => h)
    clear hw6
    refine hK.out _ _ h6 (fun hHeld => ?_)
    clear hK K
    refine take_at 9 (some 2) (v := ?_) rfl rfl (by kernel_rfl) (by kernel_rfl) (by kernel_rfl) (fun _ _ _ h => h) (Or.inl ⟨by rfl, ?_⟩) (by assumption) ?_
    rotate_left
    · intro w hSw
      (try dsimp only at hSw)
      go_simp
      first | done | with_reducible rfl
    simp only [Act.put, List.setIfInBounds_toArray, List.set_cons_succ, List.set_cons_zero]
    refine wpAnyH_done (by kernel_rfl) ?_ _
    go_wp2_with fail
    go_ret
    exact ⟨_, _, rfl, by omega, by omega, by omega, by rw [EX.out]; exact hrow6, hs6, HB1.out.trans h6⟩
  · go_simp
    refine (dx_any W H _ hw).mono ?_
    rintro e w4 ⟨rfl, hc4⟩
    have h4 := h2.trans hc4
    have hsz4 := hc4.size
    refine hK.out _ _ h4 (fun hHeld => ?_)
    clear hK K
    refine take_at 5 (some 8) (v := ?_) rfl rfl (by kernel_rfl) (by kernel_rfl) (by kernel_rfl) (fun _ _ _ h => h) (Or.inl ⟨by rfl, ?_⟩) (by assumption) ?_
    rotate_left
    · intro w hSw
      (try dsimp only at hSw)
      go_simp
      first | done | with_reducible rfl
    simp only [Act.put, List.setIfInBounds_toArray, List.set_cons_succ, List.set_cons_zero]
    refine wpAnyH_ready (rs := [2]) (by kernel_rfl) (by simp) ?_
    refine AllReadyH.cons rfl (fun K hK => ?_) AllReadyH.nil
    go_simp
    obtain ⟨w5, hw5⟩ : ∃ w5, w5 = w4.alloc (.cells (zb L) 5) := ⟨_, rfl⟩
    rw [← hw5]
    have h5 : Chg (fun _ => False) w1 w5 := hw5 ▸ h4.alloc _
    have hs5 : Seg w5 w4.heap.size [] [] (List.replicate L 0) := hw5 ▸ seg_zb w4 L
    have hsz5 : w4.heap.size < w5.heap.size := by rw [hw5, size_alloc]; omega
    clear hw5
    refine hK.out _ _ h5 (fun hHeld => ?_)
    clear hK K
    refine take_at 7 (some 10) (v := ?_) rfl rfl (by kernel_rfl) (by kernel_rfl) (by kernel_rfl) (fun _ _ _ h => h) (Or.inl ⟨by rfl, ?_⟩) (by assumption) ?_
    rotate_left
    · intro w hSw
      (try dsimp only at hSw)
      go_simp
      first | done | with_reducible rfl
    simp only [Act.put, List.setIfInBounds_toArray, List.set_cons_succ, List.set_cons_zero]
    refine wpAnyH_ready (rs := [8]) (by kernel_rfl) (by simp) ?_
    refine AllReadyH.cons rfl (fun K hK => ?_) AllReadyH.nil
    go_simp
    obtain ⟨w6, hw6⟩ : ∃ w6, w6 = w5.alloc (.cells #[.slice (some ⟨w4.heap.size, 0, none⟩) L L, .int .i64 (4 * (W : Int)), .int .i64 0, .int .i64 0, .int .i64 (W : Int), .int .i64 (H : Int)] 94) := ⟨_, rfl⟩
    rw [← hw6]
    have h6 : Chg (fun _ => False) w1 w6 := hw6 ▸ h5.alloc _
    have hrow6 : w6.heap[w5.heap.size]? = some (.cells #[.slice (some ⟨w4.heap.size, 0, none⟩) L L, .int .i64 (4 * (W : Int)), .int .i64 0, .int .i64 0, .int .i64 (W : Int), .int .i64 (H : Int)] 94 (0, 0)) := hw6 ▸ alloc_at _ _
    have hs6 : Seg w6 w4.heap.size [] [] (List.replicate L 0) := hw6 ▸ hs5.chg ((Chg.refl (fun _ => False) _).alloc _) (fun h => h)
    clear hw6
    refine hK.out _ _ h6 (fun hHeld => ?_)
    clear hK K
    refine take_at 9 (some 2) (v := ?_) rfl rfl (by kernel_rfl) (by kernel_rfl) (by kernel_rfl) (fun _ _ _ h => h) (Or.inl ⟨by rfl, ?_⟩) (by assumption) ?_
    rotate_left
    · intro w hSw
      (try dsimp only at hSw)
      go_simp
      first | done | with_reducible rfl
    simp only [Act.put, List.setIfInBounds_toArray, List.set_cons_succ, List.set_cons_zero]
    refine wpAnyH_done (by kernel_rfl) ?_ _
    go_wp2_with fail
    go_ret
    exact ⟨_, _, rfl, by omega, by omega, by omega, by rw [EX.out]; exact hrow6, hs6, HB1.out.trans h6⟩
set_option maxRecDepth 100000 in
set_option maxHeartbeats 1600000 in
theorem new_RGBA64 (W H L : Nat) (w : World) (hw : W ≤ 1000) (hh : H ≤ 1000) (hL : Hid (L = 8 * W * H)) :
    Calls Tryd.prog 38 #[.agg #[.int .i64 0, .int .i64 0, .int .i64 (W : Int), .int .i64 (H : Int)]] w (NewEnd 96 8 W H L w) := by
  obtain ⟨w1, hw1⟩ : ∃ w1, w1 = w.alloc (.cells #[.int .i64 0, .int .i64 0, .int .i64 (W : Int), .int .i64 (H : Int)] 88) := ⟨_, rfl⟩
  have hb1 : Chg (fun _ => False) w w1 := hw1 ▸ (Chg.refl _ _).alloc _
  have hrow : w1.heap[w.heap.size]? = some (.cells #[.int .i64 0, .int .i64 0, .int .i64 (W : Int), .int .i64 (H : Int)] 88 (0, 0)) := hw1 ▸ alloc_at w _
  have hlt : w.heap.size < w1.heap.size := by rw [hw1, size_alloc]; omega
  go_enter Tryd.func38, Tryd.ntmps38
  go_upto_region 1 with fail
  rw [← hw1]
  obtain ⟨N, hN⟩ : ∃ N, N = w.heap.size := ⟨_, rfl⟩
  rw [← hN] at hrow hlt ⊢
  have HB1 := Lib.hid hb1
  have HN := Lib.hid hN
  have HROW := Lib.hid hrow
  clear hw1 hb1 hN hrow
  have h0 : Chg (fun _ => False) w1 w1.drew := (Chg.refl _ _).drew
  refine wp_region_held_drew (S := fun w' => Chg (fun _ => False) w1 w') (by kernel_rfl) h0 (fun hHeld => ?_)
  refine take_at 0 (some 3) (v := ?_) rfl rfl (by kernel_rfl) (by kernel_rfl) (by kernel_rfl) (fun _ _ _ h => h) (Or.inl ⟨by rfl, ?_⟩) (by assumption) ?_
  rotate_left
  · intro w hSw
    obtain ⟨c0, c1, c2, c3⟩ := RcAt.of_row ((hSw.block N hlt (fun h => h)).trans HROW.out)
    go_simp
    first | done | with_reducible rfl
  simp only [Act.put, List.setIfInBounds_toArray, List.set_cons_succ, List.set_cons_zero]
  refine take_at 3 (some 6) (v := ?_) rfl rfl (by kernel_rfl) (by kernel_rfl) (by kernel_rfl) (fun _ _ _ h => h) (Or.inl ⟨by rfl, ?_⟩) (by assumption) ?_
  rotate_left
  · intro w hSw
    obtain ⟨c0, c1, c2, c3⟩ := RcAt.of_row ((hSw.block N hlt (fun h => h)).trans HROW.out)
    go_simp
    first | done | with_reducible rfl
  simp only [Act.put, List.setIfInBounds_toArray, List.set_cons_succ, List.set_cons_zero]
  refine take_at 6 (some 9) (v := ?_) rfl rfl (by kernel_rfl) (by kernel_rfl) (by kernel_rfl) (fun _ _ _ h => h) (Or.inl ⟨by rfl, ?_⟩) (by assumption) ?_
  rotate_left
  · intro w hSw
    obtain ⟨c0, c1, c2, c3⟩ := RcAt.of_row ((hSw.block N hlt (fun h => h)).trans HROW.out)
    go_simp
    first | done | with_reducible rfl
  simp only [Act.put, List.setIfInBounds_toArray, List.set_cons_succ, List.set_cons_zero]
  refine wpAnyH_ready (rs := [1]) (by kernel_rfl) (by simp) ?_
  refine AllReadyH.cons rfl (fun K hK => ?_) AllReadyH.nil
  go_simp
  refine (pblen_any 8 W H _ _ (by omega) hw hh).mono ?_
  rintro e w2 ⟨rfl, hc2⟩
  have h2 := h0.trans hc2
  rw [← hL.out]
  refine hK.out _ _ h2 (fun hHeld => ?_)
  clear hK K
  have hmk := make_zb L (by have := hL.out; have : 8 * W * H ≤ 8 * 1000 * 1000 := Nat.mul_le_mul (Nat.mul_le_mul (by omega) hw) hh; omega)
  have hN2 : w.heap.size < w1.heap.size := HN.out ▸ hlt
  have hsz2 := hc2.size
  have hsz1 : w1.drew.heap.size = w1.heap.size := rfl
  have ew : IntKind.i64.wrap (8 * (W : Int)) = 8 * (W : Int) := i64_in _ ⟨by omega, by omega⟩
  have EX : Hid (((8 * W : Nat) : Int) = 8 * (W : Int)) := Lib.hid (by omega)
  refine wpAnyH_ready (rs := [2, 4]) (by kernel_rfl) (by simp) ?_
  refine AllReadyH.cons rfl (fun K hK => ?_) (AllReadyH.cons rfl (fun K hK => ?_) AllReadyH.nil)
  · go_simp
    obtain ⟨w3, hw3⟩ : ∃ w3, w3 = w2.alloc (.cells (zb L) 5) := ⟨_, rfl⟩
    rw [← hw3]
    have h3 : Chg (fun _ => False) w1 w3 := hw3 ▸ h2.alloc _
    have hs3 : Seg w3 w2.heap.size [] [] (List.replicate L 0) := hw3 ▸ seg_zb w2 L
    have hsz3 : w2.heap.size < w3.heap.size := by rw [hw3, size_alloc]; omega
    clear hw3
    refine hK.out _ _ h3 (fun hHeld => ?_)
    clear hK K
    refine wpAnyH_ready (rs := [4]) (by kernel_rfl) (by simp) ?_
    refine AllReadyH.cons rfl (fun K hK => ?_) AllReadyH.nil
    go_simp
    refine (dx_any W H _ hw).mono ?_
    rintro e w5 ⟨rfl, hc5⟩
    have h5 := h3.trans hc5
    have hs5 := hs3.chg hc5 (fun h => h)
    have hsz5 := hc5.size
    refine hK.out _ _ h5 (fun hHeld => ?_)
    clear hK K
    refine take_at 5 (some 8) (v := ?_) rfl rfl (by kernel_rfl) (by kernel_rfl) (by kernel_rfl) (fun _ _ _ h => h) (Or.inl ⟨by rfl, ?_⟩) (by assumption) ?_
    rotate_left
    · intro w hSw
      (try dsimp only at hSw)
      go_simp
      first | done | with_reducible rfl
    simp only [Act.put, List.setIfInBounds_toArray, List.set_cons_succ, List.set_cons_zero]
    refine take_at 7 (some 10) (v := ?_) rfl rfl (by kernel_rfl) (by kernel_rfl) (by kernel_rfl) (fun _ _ _ h => h) (Or.inl ⟨by rfl, ?_⟩) (by assumption) ?_
    rotate_left
    · intro w hSw
      (try dsimp only at hSw)
      go_simp
      first | done | with_reducible rfl
    simp only [Act.put, List.setIfInBounds_toArray, List.set_cons_succ, List.set_cons_zero]
    refine wpAnyH_ready (rs := [8]) (by kernel_rfl) (by simp) ?_
    refine AllReadyH.cons rfl (fun K hK => ?_) AllReadyH.nil
    go_simp
    obtain ⟨w6, hw6⟩ : ∃ w6, w6 = w5.alloc (.cells #[.slice (some ⟨w2.heap.size, 0, none⟩) L L, .int .i64 (8 * (W : Int)), .int .i64 0, .int .i64 0, .int .i64 (W : Int), .int .i64 (H : Int)] 96) := ⟨_, rfl⟩
    rw [← hw6]
    have h6 : Chg (fun _ => False) w1 w6 := hw6 ▸ h5.alloc _
    have hrow6 : w6.heap[w5.heap.size]? = some (.cells #[.slice (some ⟨w2.heap.size, 0, none⟩) L L, .int .i64 (8 * (W : Int)), .int .i64 0, .int .i64 0, .int .i64 (W : Int), .int .i64 (H : Int)] 96 (0, 0)) := hw6 ▸ alloc_at _ _
    have hs6 : Seg w6 w2.heap.size [] [] (List.replicate L 0) := hw6 ▸ hs5.chg ((Chg.refl (fun _ => False) _).alloc _) (fun h => h)
    clear hw6
    refine hK.out _ _ h6 (fun hHeld => ?_)
    clear hK K
    refine take_at 9 (some 2) (v := ?_) rfl rfl (by kernel_rfl) (by kernel_rfl) (by kernel_rfl) (fun _ _ _ h => h) (Or.inl ⟨by rfl, ?_⟩) (by assumption) ?_
    rotate_left
    · intro w hSw
      (try dsimp only at hSw)
      go_simp
      first | done | with_reducible rfl
    simp only [Act.put, List.setIfInBounds_toArray, List.set_cons_succ, List.set_cons_zero]
    refine wpAnyH_done (by kernel_rfl) ?_ _
    go_wp2_with fail
    go_ret
    exact ⟨_, _, rfl, by omega, by omega, by omega, by rw [EX.out]; exact hrow6, hs6, HB1.out.trans h6⟩
  · go_simp
    refine (dx_any W H _ hw).mono ?_
    rintro e w4 ⟨rfl, hc4⟩
    have h4 := h2.trans hc4
    have hsz4 := hc4.size
    refine hK.out _ _ h4 (fun hHeld => ?_)
    clear hK K
    refine take_at 5 (some 8) (v := ?_) rfl rfl (by kernel_rfl) (by kernel_rfl) (by kernel_rfl) (fun _ _ _ h => h) (Or.inl ⟨by rfl, ?_⟩) (by assumption) ?_
    rotate_left
    · intro w hSw
      (try dsimp only at hSw)
      go_simp
      first | done | with_reducible rfl
    simp only [Act.put, List.setIfInBounds_toArray, List.set_cons_succ, List.set_cons_zero]
    refine wpAnyH_ready (rs := [2]) (by kernel_rfl) (by simp) ?_
    refine AllReadyH.cons rfl (fun K hK => ?_) AllReadyH.nil
    go_simp
    obtain ⟨w5, hw5⟩ : ∃ w5, w5 = w4.alloc (.cells (zb L) 5) := ⟨_, rfl⟩
    rw [← hw5]
    have h5 : Chg (fun _ => False) w1 w5 := hw5 ▸ h4.alloc _
    have hs5 : Seg w5 w4.heap.size [] [] (List.replicate L 0) := hw5 ▸ seg_zb w4 L
    have hsz5 : w4.heap.size < w5.heap.size := by rw [hw5, size_alloc]; omega
    clear hw5
    refine hK.out _ _ h5 (fun hHeld => ?_)
    clear hK K
    refine take_at 7 (some 10) (v := ?_) rfl rfl (by kernel_rfl) (by kernel_rfl) (by kernel_rfl) (fun _ _ _ h => h) (Or.inl ⟨by rfl, ?_⟩) (by assumption) ?_
    rotate_left
    · intro w hSw
      (try dsimp only at hSw)
      go_simp
      first | done | with_reducible rfl
    simp only [Act.put, List.setIfInBounds_toArray, List.set_cons_succ, List.set_cons_zero]
    refine wpAnyH_ready (rs := [8]) (by kernel_rfl) (by simp) ?_
    refine AllReadyH.cons rfl (fun K hK => ?_) AllReadyH.nil
    go_simp
    obtain ⟨w6, hw6⟩ : ∃ w6, w6 = w5.alloc (.cells #[.slice (some ⟨w4.heap.size, 0, none⟩) L L, .int .i64 (8 * (W : Int)), .int .i64 0, .int .i64 0, .int .i64 (W : Int), .int .i64 (H : Int)] 96) := ⟨_, rfl⟩
    rw [← hw6]
    have h6 : Chg (fun _ => False) w1 w6 := hw6 ▸ h5.alloc _
    have hrow6 : w6.heap[w5.heap.size]? = some (.cells #[.slice (some ⟨w4.heap.size, 0, none⟩) L L, .int .i64 (8 * (W : Int)), .int .i64 0, .int .i64 0, .int .i64 (W : Int), .int .i64 (H : Int)] 96 (0, 0)) := hw6 ▸ alloc_at _ _
    have hs6 : Seg w6 w4.heap.size [] [] (List.replicate L 0) := hw6 ▸ hs5.chg ((Chg.refl (fun _ => False) _).alloc _) (fun h => h)
    clear hw6
    refine hK.out _ _ h6 (fun hHeld => ?_)
    clear hK K
    refine take_at 9 (some 2) (v := ?_) rfl rfl (by kernel_rfl) (by kernel_rfl) (by kernel_rfl) (fun _ _ _ h => h) (Or.inl ⟨by rfl, ?_⟩) (by assumption) ?_
    rotate_left
    · intro w hSw
      (try dsimp only at hSw)
      go_simp
      first | done | with_reducible rfl
    simp only [Act.put, List.setIfInBounds_toArray, List.set_cons_succ, List.set_cons_zero]
    refine wpAnyH_done (by kernel_rfl) ?_ _
    go_wp2_with fail
    go_ret
    exact ⟨_, _, rfl, by omega, by omega, by omega, by rw [EX.out]; exact hrow6, hs6, HB1.out.trans h6⟩
set_option maxRecDepth 100000 in
set_option maxHeartbeats 1600000 in
theorem new_Gray (W H L : Nat) (w : World) (hw : W ≤ 1000) (hh : H ≤ 1000) (hL : Hid (L = 1 * W * H)) :
    Calls Tryd.prog 33 #[.agg #[.int .i64 0, .int .i64 0, .int .i64 (W : Int), .int .i64 (H : Int)]] w (NewEnd 90 1 W H L w) := by
  obtain ⟨w1, hw1⟩ : ∃ w1, w1 = w.alloc (.cells #[.int .i64 0, .int .i64 0, .int .i64 (W : Int), .int .i64 (H : Int)] 88) := ⟨_, rfl⟩
  have hb1 : Chg (fun _ => False) w w1 := hw1 ▸ (Chg.refl _ _).alloc _
  have hrow : w1.heap[w.heap.size]? = some (.cells #[.int .i64 0, .int .i64 0, .int .i64 (W : Int), .int .i64 (H : Int)] 88 (0, 0)) := hw1 ▸ alloc_at w _
  have hlt : w.heap.size < w1.heap.size := by rw [hw1, size_alloc]; omega
  go_enter Tryd.func33, Tryd.ntmps33
  go_upto_region 1 with fail
  rw [← hw1]
  obtain ⟨N, hN⟩ : ∃ N, N = w.heap.size := ⟨_, rfl⟩
  rw [← hN] at hrow hlt ⊢
  have HB1 := Lib.hid hb1
  have HN := Lib.hid hN
  have HROW := Lib.hid hrow
  clear hw1 hb1 hN hrow
  have h0 : Chg (fun _ => False) w1 w1.drew := (Chg.refl _ _).drew
  refine wp_region_held_drew (S := fun w' => Chg (fun _ => False) w1 w') (by kernel_rfl) h0 (fun hHeld => ?_)
  refine take_at 0 (some 3) (v := ?_) rfl rfl (by kernel_rfl) (by kernel_rfl) (by kernel_rfl) (fun _ _ _ h => h) (Or.inl ⟨by rfl, ?_⟩) (by assumption) ?_
  rotate_left
  · intro w hSw
    obtain ⟨c0, c1, c2, c3⟩ := RcAt.of_row ((hSw.block N hlt (fun h => h)).trans HROW.out)
    go_simp
    first | done | with_reducible rfl
  simp only [Act.put, List.setIfInBounds_toArray, List.set_cons_succ, List.set_cons_zero]
  refine take_at 3 (some 6) (v := ?_) rfl rfl (by kernel_rfl) (by kernel_rfl) (by kernel_rfl) (fun _ _ _ h => h) (Or.inl ⟨by rfl, ?_⟩) (by assumption) ?_
  rotate_left
  · intro w hSw
    obtain ⟨c0, c1, c2, c3⟩ := RcAt.of_row ((hSw.block N hlt (fun h => h)).trans HROW.out)
    go_simp
    first | done | with_reducible rfl
  simp only [Act.put, List.setIfInBounds_toArray, List.set_cons_succ, List.set_cons_zero]
  refine take_at 6 (some 9) (v := ?_) rfl rfl (by kernel_rfl) (by kernel_rfl) (by kernel_rfl) (fun _ _ _ h => h) (Or.inl ⟨by rfl, ?_⟩) (by assumption) ?_
  rotate_left
  · intro w hSw
    obtain ⟨c0, c1, c2, c3⟩ := RcAt.of_row ((hSw.block N hlt (fun h => h)).trans HROW.out)
    go_simp
    first | done | with_reducible rfl
  simp only [Act.put, List.setIfInBounds_toArray, List.set_cons_succ, List.set_cons_zero]
  refine wpAnyH_ready (rs := [1]) (by kernel_rfl) (by simp) ?_
  refine AllReadyH.cons rfl (fun K hK => ?_) AllReadyH.nil
  go_simp
  refine (pblen_any 1 W H _ _ (by omega) hw hh).mono ?_
  rintro e w2 ⟨rfl, hc2⟩
  have h2 := h0.trans hc2
  rw [← hL.out]
  refine hK.out _ _ h2 (fun hHeld => ?_)
  clear hK K
  have hmk := make_zb L (by have := hL.out; have : 1 * W * H ≤ 8 * 1000 * 1000 := Nat.mul_le_mul (Nat.mul_le_mul (by omega) hw) hh; omega)
  have hN2 : w.heap.size < w1.heap.size := HN.out ▸ hlt
  have hsz2 := hc2.size
  have hsz1 : w1.drew.heap.size = w1.heap.size := rfl
  have ew : IntKind.i64.wrap ((W : Int)) = (W : Int) := i64_in _ ⟨by omega, by omega⟩
  have EX : Hid (((1 * W : Nat) : Int) = (W : Int)) := Lib.hid (by omega)
  refine wpAnyH_ready (rs := [2, 4]) (by kernel_rfl) (by simp) ?_
  refine AllReadyH.cons rfl (fun K hK => ?_) (AllReadyH.cons rfl (fun K hK => ?_) AllReadyH.nil)
  · go_simp
    obtain ⟨w3, hw3⟩ : ∃ w3, w3 = w2.alloc (.cells (zb L) 5) := ⟨_, rfl⟩
    rw [← hw3]
    have h3 : Chg (fun _ => False) w1 w3 := hw3 ▸ h2.alloc _
    have hs3 : Seg w3 w2.heap.size [] [] (List.replicate L 0) := hw3 ▸ seg_zb w2 L
    have hsz3 : w2.heap.size < w3.heap.size := by rw [hw3, size_alloc]; omega
    clear hw3
    refine hK.out _ _ h3 (fun hHeld => ?_)
    clear hK K
    refine wpAnyH_ready (rs := [4]) (by kernel_rfl) (by simp) ?_
    refine AllReadyH.cons rfl (fun K hK => ?_) AllReadyH.nil
    go_simp
    refine (dx_any W H _ hw).mono ?_
    rintro e w5 ⟨rfl, hc5⟩
    have h5 := h3.trans hc5
    have hs5 := hs3.chg hc5 (fun h => h)
    have hsz5 := hc5.size
    refine hK.out _ _ h5 (fun hHeld => ?_)
    clear hK K
    refine take_at 5 (some 8) (v := ?_) rfl rfl (by kernel_rfl) (by kernel_rfl) (by kernel_rfl) (fun _ _ _ h => h) (Or.inl ⟨by rfl, ?_⟩) (by assumption) ?_
    rotate_left
    · intro w hSw
      (try dsimp only at hSw)
      go_simp
      first | done | with_reducible rfl
    simp only [Act.put, List.setIfInBounds_toArray, List.set_cons_succ, List.set_cons_zero]
    refine take_at 7 (some 10) (v := ?_) rfl rfl (by kernel_rfl) (by kernel_rfl) (by kernel_rfl) (fun _ _ _ h => h) (Or.inl ⟨by rfl, ?_⟩) (by assumption) ?_
    rotate_left
    · intro w hSw
      (try dsimp only at hSw)
      go_simp
      first | done | with_reducible rfl
    simp only [Act.put, List.setIfInBounds_toArray, List.set_cons_succ, List.set_cons_zero]
    refine wpAnyH_ready (rs := [8]) (by kernel_rfl) (by simp) ?_
    refine AllReadyH.cons rfl (fun K hK => ?_) AllReadyH.nil
    go_simp
    obtain ⟨w6, hw6⟩ : ∃ w6, w6 = w5.alloc (.cells #[.slice (some ⟨w2.heap.size, 0, none⟩) L L, .int .i64 ((W : Int)), .int .i64 0, .int .i64 0, .int .i64 (W : Int), .int .i64 (H : Int)] 90) := ⟨_, rfl⟩
    rw [← hw6]
    have h6 : Chg (fun _ => False) w1 w6 := hw6 ▸ h5.alloc _
    have hrow6 : w6.heap[w5.heap.size]? = some (.cells #[.slice (some ⟨w2.heap.size, 0, none⟩) L L, .int .i64 ((W : Int)), .int .i64 0, .int .i64 0, .int .i64 (W : Int), .int .i64 (H : Int)] 90 (0, 0)) := hw6 ▸ alloc_at _ _
    have hs6 : Seg w6 w2.heap.size [] [] (List.replicate L 0) := hw6 ▸ hs5.chg ((Chg.refl (fun _ => False) _).alloc _) (fun h => h)
    clear hw6
    refine hK.out _ _ h6 (fun hHeld => ?_)
    clear hK K
    refine take_at 9 (some 2) (v := ?_) rfl rfl (by kernel_rfl) (by kernel_rfl) (by kernel_rfl) (fun _ _ _ h => h) (Or.inl ⟨by rfl, ?_⟩) (by assumption) ?_
    rotate_left
    · intro w hSw
      (try dsimp only at hSw)
      go_simp
      first | done | with_reducible rfl
    simp only [Act.put, List.setIfInBounds_toArray, List.set_cons_succ, List.set_cons_zero]
    refine wpAnyH_done (by kernel_rfl) ?_ _
    go_wp2_with fail
    go_ret
    exact ⟨_, _, rfl, by omega, by omega, by omega, by rw [EX.out]; exact hrow6, hs6, HB1.out.trans h6⟩
  · go_simp
    refine (dx_any W H _ hw).mono ?_
    rintro e w4 ⟨rfl, hc4⟩
    have h4 := h2.trans hc4
    have hsz4 := hc4.size
    refine hK.out _ _ h4 (fun hHeld => ?_)
    clear hK K
    refine take_at 5 (some 8) (v := ?_) rfl rfl (by kernel_rfl) (by kernel_rfl) (by kernel_rfl) (fun _ _ _ h => h) (Or.inl ⟨by rfl, ?_⟩) (by assumption) ?_
    rotate_left
    · intro w hSw
      (try dsimp only at hSw)
      go_simp
      first | done | with_reducible rfl
    simp only [Act.put, List.setIfInBounds_toArray, List.set_cons_succ, List.set_cons_zero]
    refine wpAnyH_ready (rs := [2]) (by kernel_rfl) (by simp) ?_
    refine AllReadyH.cons rfl (fun K hK => ?_) AllReadyH.nil
    go_simp
    obtain ⟨w5, hw5⟩ : ∃ w5, w5 = w4.alloc (.cells (zb L) 5) := ⟨_, rfl⟩
    rw [← hw5]
    have h5 : Chg (fun _ => False) w1 w5 := hw5 ▸ h4.alloc _
    have hs5 : Seg w5 w4.heap.size [] [] (List.replicate L 0) := hw5 ▸ seg_zb w4 L
    have hsz5 : w4.heap.size < w5.heap.size := by rw [hw5, size_alloc]; omega
    clear hw5
    refine hK.out _ _ h5 (fun hHeld => ?_)
    clear hK K
    refine take_at 7 (some 10) (v := ?_) rfl rfl (by kernel_rfl) (by kernel_rfl) (by kernel_rfl) (fun _ _ _ h => h) (Or.inl ⟨by rfl, ?_⟩) (by assumption) ?_
    rotate_left
    · intro w hSw
      (try dsimp only at hSw)
      go_simp
      first | done | with_reducible rfl
    simp only [Act.put, List.setIfInBounds_toArray, List.set_cons_succ, List.set_cons_zero]
    refine wpAnyH_ready (rs := [8]) (by kernel_rfl) (by simp) ?_
    refine AllReadyH.cons rfl (fun K hK => ?_) AllReadyH.nil
    go_simp
    obtain ⟨w6, hw6⟩ : ∃ w6, w6 = w5.alloc (.cells #[.slice (some ⟨w4.heap.size, 0, none⟩) L L, .int .i64 ((W : Int)), .int .i64 0, .int .i64 0, .int .i64 (W : Int), .int .i64 (H : Int)] 90) := ⟨_, rfl⟩
    rw [← hw6]
    have h6 : Chg (fun _ => False) w1 w6 := hw6 ▸ h5.alloc _
    have hrow6 : w6.heap[w5.heap.size]? = some (.cells #[.slice (some ⟨w4.heap.size, 0, none⟩) L L, .int .i64 ((W : Int)), .int .i64 0, .int .i64 0, .int .i64 (W : Int), .int .i64 (H : Int)] 90 (0, 0)) := hw6 ▸ alloc_at _ _
    have hs6 : Seg w6 w4.heap.size [] [] (List.replicate L 0) := hw6 ▸ hs5.chg ((Chg.refl (fun _ => False) _).alloc _) (fun h => h)
    clear hw6
    refine hK.out _ _ h6 (fun hHeld => ?_)
    clear hK K
    refine take_at 9 (some 2) (v := ?_) rfl rfl (by kernel_rfl) (by kernel_rfl) (by kernel_rfl) (fun _ _ _ h => h) (Or.inl ⟨by rfl, ?_⟩) (by assumption) ?_
    rotate_left
    · intro w hSw
      (try dsimp only at hSw)
      go_simp
      first | done | with_reducible rfl
    simp only [Act.put, List.setIfInBounds_toArray, List.set_cons_succ, List.set_cons_zero]
    refine wpAnyH_done (by kernel_rfl) ?_ _
    go_wp2_with fail
    go_ret
    exact ⟨_, _, rfl, by omega, by omega, by omega, by rw [EX.out]; exact hrow6, hs6, HB1.out.trans h6⟩
set_option maxRecDepth 100000 in
set_option maxHeartbeats 1600000 in
theorem new_Gray16 (W H L : Nat) (w : World) (hw : W ≤ 1000) (hh : H ≤ 1000) (hL : Hid (L = 2 * W * H)) :
    Calls Tryd.prog 37 #[.agg #[.int .i64 0, .int .i64 0, .int .i64 (W : Int), .int .i64 (H : Int)]] w (NewEnd 92 2 W H L w) := by
  obtain ⟨w1, hw1⟩ : ∃ w1, w1 = w.alloc (.cells #[.int .i64 0, .int .i64 0, .int .i64 (W : Int), .int .i64 (H : Int)] 88) := ⟨_, rfl⟩
  have hb1 : Chg (fun _ => False) w w1 := hw1 ▸ (Chg.refl _ _).alloc _
  have hrow : w1.heap[w.heap.size]? = some (.cells #[.int .i64 0, .int .i64 0, .int .i64 (W : Int), .int .i64 (H : Int)] 88 (0, 0)) := hw1 ▸ alloc_at w _
  have hlt : w.heap.size < w1.heap.size := by rw [hw1, size_alloc]; omega
  go_enter Tryd.func37, Tryd.ntmps37
  go_upto_region 1 with fail
  rw [← hw1]
  obtain ⟨N, hN⟩ : ∃ N, N = w.heap.size := ⟨_, rfl⟩
  rw [← hN] at hrow hlt ⊢
  have HB1 := Lib.hid hb1
  have HN := Lib.hid hN
  have HROW := Lib.hid hrow
  clear hw1 hb1 hN hrow
  have h0 : Chg (fun _ => False) w1 w1.drew := (Chg.refl _ _).drew
  refine wp_region_held_drew (S := fun w' => Chg (fun _ => False) w1 w') (by kernel_rfl) h0 (fun hHeld => ?_)
  refine take_at 0 (some 3) (v := ?_) rfl rfl (by kernel_rfl) (by kernel_rfl) (by kernel_rfl) (fun _ _ _ h => h) (Or.inl ⟨by rfl, ?_⟩) (by assumption) ?_
  rotate_left
  · intro w hSw
    obtain ⟨c0, c1, c2, c3⟩ := RcAt.of_row ((hSw.block N hlt (fun h => h)).trans HROW.out)
    go_simp
    first | done | with_reducible rfl
  simp only [Act.put, List.setIfInBounds_toArray, List.set_cons_succ, List.set_cons_zero]
  refine take_at 3 (some 6) (v := ?_) rfl rfl (by kernel_rfl) (by kernel_rfl) (by kernel_rfl) (fun _ _ _ h => h) (Or.inl ⟨by rfl, ?_⟩) (by assumption) ?_
  rotate_left
  · intro w hSw
    obtain ⟨c0, c1, c2, c3⟩ := RcAt.of_row ((hSw.block N hlt (fun h => h)).trans HROW.out)
    go_simp
    first | done | with_reducible rfl
  simp only [Act.put, List.setIfInBounds_toArray, List.set_cons_succ, List.set_cons_zero]
  refine take_at 6 (some 9) (v := ?_) rfl rfl (by kernel_rfl) (by kernel_rfl) (by kernel_rfl) (fun _ _ _ h => h) (Or.inl ⟨by rfl, ?_⟩) (by assumption) ?_
  rotate_left
  · intro w hSw
    obtain ⟨c0, c1, c2, c3⟩ := RcAt.of_row ((hSw.block N hlt (fun h => h)).trans HROW.out)
    go_simp
    first | done | with_reducible rfl
  simp only [Act.put, List.setIfInBounds_toArray, List.set_cons_succ, List.set_cons_zero]
  refine wpAnyH_ready (rs := [1]) (by kernel_rfl) (by simp) ?_
  refine AllReadyH.cons rfl (fun K hK => ?_) AllReadyH.nil
  go_simp
  refine (pblen_any 2 W H _ _ (by omega) hw hh).mono ?_
  rintro e w2 ⟨rfl, hc2⟩
  have h2 := h0.trans hc2
  rw [← hL.out]
  refine hK.out _ _ h2 (fun hHeld => ?_)
  clear hK K
  have hmk := make_zb L (by have := hL.out; have : 2 * W * H ≤ 8 * 1000 * 1000 := Nat.mul_le_mul (Nat.mul_le_mul (by omega) hw) hh; omega)
  have hN2 : w.heap.size < w1.heap.size := HN.out ▸ hlt
  have hsz2 := hc2.size
  have hsz1 : w1.drew.heap.size = w1.heap.size := rfl
  have ew : IntKind.i64.wrap (2 * (W : Int)) = 2 * (W : Int) := i64_in _ ⟨by omega, by omega⟩
  have EX : Hid (((2 * W : Nat) : Int) = 2 * (W : Int)) := Lib.hid (by omega)
  refine wpAnyH_ready (rs := [2, 4]) (by kernel_rfl) (by simp) ?_
  refine AllReadyH.cons rfl (fun K hK => ?_) (AllReadyH.cons rfl (fun K hK => ?_) AllReadyH.nil)
  · go_simp
    obtain ⟨w3, hw3⟩ : ∃ w3, w3 = w2.alloc (.cells (zb L) 5) := ⟨_, rfl⟩
    rw [← hw3]
    have h3 : Chg (fun _ => False) w1 w3 := hw3 ▸ h2.alloc _
    have hs3 : Seg w3 w2.heap.size [] [] (List.replicate L 0) := hw3 ▸ seg_zb w2 L
    have hsz3 : w2.heap.size < w3.heap.size := by rw [hw3, size_alloc]; omega
    clear hw3
    refine hK.out _ _ h3 (fun hHeld => ?_)
    clear hK K
    refine wpAnyH_ready (rs := [4]) (by kernel_rfl) (by simp) ?_
    refine AllReadyH.cons rfl (fun K hK => ?_) AllReadyH.nil
    go_simp
    refine (dx_any W H _ hw).mono ?_
    rintro e w5 ⟨rfl, hc5⟩
    have h5 := h3.trans hc5
    have hs5 := hs3.chg hc5 (fun h => h)
    have hsz5 := hc5.size
    refine hK.out _ _ h5 (fun hHeld => ?_)
    clear hK K
    refine take_at 5 (some 8) (v := ?_) rfl rfl (by kernel_rfl) (by kernel_rfl) (by kernel_rfl) (fun _ _ _ h => h) (Or.inl ⟨by rfl, ?_⟩) (by assumption) ?_
    rotate_left
    · intro w hSw
      (try dsimp only at hSw)
      go_simp
      first | done | with_reducible rfl
    simp only [Act.put, List.setIfInBounds_toArray, List.set_cons_succ, List.set_cons_zero]
    refine take_at 7 (some 10) (v := ?_) rfl rfl (by kernel_rfl) (by kernel_rfl) (by kernel_rfl) (fun _ _ _ h => h) (Or.inl ⟨by rfl, ?_⟩) (by assumption) ?_
    rotate_left
    · intro w hSw
      (try dsimp only at hSw)
      go_simp
      first | done | with_reducible rfl
    simp only [Act.put, List.setIfInBounds_toArray, List.set_cons_succ, List.set_cons_zero]
    refine wpAnyH_ready (rs := [8]) (by kernel_rfl) (by simp) ?_
    refine AllReadyH.cons rfl (fun K hK => ?_) AllReadyH.nil
    go_simp
    obtain ⟨w6, hw6⟩ : ∃ w6, w6 = w5.alloc (.cells #[.slice (some ⟨w2.heap.size, 0, none⟩) L L, .int .i64 (2 * (W : Int)), .int .i64 0, .int .i64 0, .int .i64 (W : Int), .int .i64 (H : Int)] 92) := ⟨_, rfl⟩
    rw [← hw6]
    have h6 : Chg (fun _ => False) w1 w6 := hw6 ▸ h5.alloc _
    have hrow6 : w6.heap[w5.heap.size]? = some (.cells #[.slice (some ⟨w2.heap.size, 0, none⟩) L L, .int .i64 (2 * (W : Int)), .int .i64 0, .int .i64 0, .int .i64 (W : Int), .int .i64 (H : Int)] 92 (0, 0)) := hw6 ▸ alloc_at _ _
    have hs6 : Seg w6 w2.heap.size [] [] (List.replicate L 0) := hw6 ▸ hs5.chg ((Chg.refl (fun _ => False) _).alloc _) (fun h => h)
    clear hw6
    refine hK.out _ _ h6 (fun hHeld => ?_)
    clear hK K
    refine take_at 9 (some 2) (v := ?_) rfl rfl (by kernel_rfl) (by kernel_rfl) (by kernel_rfl) (fun _ _ _ h => h) (Or.inl ⟨by rfl, ?_⟩) (by assumption) ?_
    rotate_left
    · intro w hSw
      (try dsimp only at hSw)
      go_simp
      first | done | with_reducible rfl
    simp only [Act.put, List.setIfInBounds_toArray, List.set_cons_succ, List.set_cons_zero]
    refine wpAnyH_done (by kernel_rfl) ?_ _
    go_wp2_with fail
    go_ret
    exact ⟨_, _, rfl, by omega, by omega, by omega, by rw [EX.out]; exact hrow6, hs6, HB1.out.trans h6⟩
  · go_simp
    refine (dx_any W H _ hw).mono ?_
    rintro e w4 ⟨rfl, hc4⟩
    have h4 := h2.trans hc4
    have hsz4 := hc4.size
    refine hK.out _ _ h4 (fun hHeld => ?_)
    clear hK K
    refine take_at 5 (some 8) (v := ?_) rfl rfl (by kernel_rfl) (by kernel_rfl) (by kernel_rfl) (fun _ _ _ h => h) (Or.inl ⟨by rfl, ?_⟩) (by assumption) ?_
    rotate_left
    · intro w hSw
      (try dsimp only at hSw)
      go_simp
      first | done | with_reducible rfl
    simp only [Act.put, List.setIfInBounds_toArray, List.set_cons_succ, List.set_cons_zero]
    refine wpAnyH_ready (rs := [2]) (by kernel_rfl) (by simp) ?_
    refine AllReadyH.cons rfl (fun K hK => ?_) AllReadyH.nil
    go_simp
    obtain ⟨w5, hw5⟩ : ∃ w5, w5 = w4.alloc (.cells (zb L) 5) := ⟨_, rfl⟩
    rw [← hw5]
    have h5 : Chg (fun _ => False) w1 w5 := hw5 ▸ h4.alloc _
    have hs5 : Seg w5 w4.heap.size [] [] (List.replicate L 0) := hw5 ▸ seg_zb w4 L
    have hsz5 : w4.heap.size < w5.heap.size := by rw [hw5, size_alloc]; omega
    clear hw5
    refine hK.out _ _ h5 (fun hHeld => ?_)
    clear hK K
    refine take_at 7 (some 10) (v := ?_) rfl rfl (by kernel_rfl) (by kernel_rfl) (by kernel_rfl) (fun _ _ _ h => h) (Or.inl ⟨by rfl, ?_⟩) (by assumption) ?_
    rotate_left
    · intro w hSw
      (try dsimp only at hSw)
      go_simp
      first | done | with_reducible rfl
    simp only [Act.put, List.setIfInBounds_toArray, List.set_cons_succ, List.set_cons_zero]
    refine wpAnyH_ready (rs := [8]) (by kernel_rfl) (by simp) ?_
    refine AllReadyH.cons rfl (fun K hK => ?_) AllReadyH.nil
    go_simp
    obtain ⟨w6, hw6⟩ : ∃ w6, w6 = w5.alloc (.cells #[.slice (some ⟨w4.heap.size, 0, none⟩) L L, .int .i64 (2 * (W : Int)), .int .i64 0, .int .i64 0, .int .i64 (W : Int), .int .i64 (H : Int)] 92) := ⟨_, rfl⟩
    rw [← hw6]
    have h6 : Chg (fun _ => False) w1 w6 := hw6 ▸ h5.alloc _
    have hrow6 : w6.heap[w5.heap.size]? = some (.cells #[.slice (some ⟨w4.heap.size, 0, none⟩) L L, .int .i64 (2 * (W : Int)), .int .i64 0, .int .i64 0, .int .i64 (W : Int), .int .i64 (H : Int)] 92 (0, 0)) := hw6 ▸ alloc_at _ _
    have hs6 : Seg w6 w4.heap.size [] [] (List.replicate L 0) := hw6 ▸ hs5.chg ((Chg.refl (fun _ => False) _).alloc _) (fun h => h)
    clear hw6
    refine hK.out _ _ h6 (fun hHeld => ?_)
    clear hK K
    refine take_at 9 (some 2) (v := ?_) rfl rfl (by kernel_rfl) (by kernel_rfl) (by kernel_rfl) (fun _ _ _ h => h) (Or.inl ⟨by rfl, ?_⟩) (by assumption) ?_
    rotate_left
    · intro w hSw
      (try dsimp only at hSw)
      go_simp
      first | done | with_reducible rfl
    simp only [Act.put, List.setIfInBounds_toArray, List.set_cons_succ, List.set_cons_zero]
    refine wpAnyH_done (by kernel_rfl) ?_ _
    go_wp2_with fail
    go_ret
    exact ⟨_, _, rfl, by omega, by omega, by omega, by rw [EX.out]; exact hrow6, hs6, HB1.out.trans h6⟩
end Go.Proofs.YtkiibhpmembcgaaDoor
