/- The contract of the thin package's picture. Printed by gen/pic.py. -/
import Derived.Test.YtkiibhpmembcgaaDoorGBase
import Derived.Deep.DeepCutAuto
import Derived.Deep.CutBlock
import Derived.LoopTactic
import Derived.Outline
namespace Go.Proofs.YtkiibhpmembcgaaDoor
open Go.ChangeShapes Go.WideShapes Go.ChangeAt Go.RowKit Go.IntWalk

/-- A picture as a value: its kind, width, height, how far rows lie apart, its bytes, its palette. -/
def pcV (k W H S : Nat) (pv av : Value) : Value := .agg #[.int .i64 (k : Int), .int .i64 0, .int .i64 0, .int .i64 (W : Int), .int .i64 (H : Int), .int .i64 (S : Int), pv, av]
def PcEnd (k W H S : Nat) (l : List UInt8) (w : World) (e : Ending) (w' : World) : Prop :=
  ∃ v, e = .returned (pcV k W H S v (.slice none 0 0)) ∧ OwnB w' w.heap.size v l ∧ Below w.heap.size w w'
/-- A picture's block is written. -/
def put8 (w : World) (N k W H S : Nat) (pv av : Value) : World := (((((((w.setCell ⟨N, 0, none⟩ (.int .i64 (k : Int))).setCell ⟨N, 1, none⟩ (.int .i64 0)).setCell ⟨N, 2, none⟩ (.int .i64 0)).setCell ⟨N, 3, none⟩ (.int .i64 (W : Int))).setCell ⟨N, 4, none⟩ (.int .i64 (H : Int))).setCell ⟨N, 5, none⟩ (.int .i64 (S : Int))).setCell ⟨N, 6, none⟩ (pv)).setCell ⟨N, 7, none⟩ av
theorem put8_only (w : World) (N k W H S : Nat) (pv av : Value) : Only N w (put8 w N k W H S pv av) := ((((((((Only.refl _ _).setCell _ _).setCell _ _).setCell _ _).setCell _ _).setCell _ _).setCell _ _).setCell _ _).setCell _ _
def pcCells (k W H S : Nat) (pv av : Value) : Array Value := #[.int .i64 (k : Int), .int .i64 0, .int .i64 0, .int .i64 (W : Int), .int .i64 (H : Int), .int .i64 (S : Int), pv, av]
theorem put8_row (w : World) (N k W H S : Nat) (pv av : Value) (h0 : w.heap[N]? = some (.cells #[.int .i64 0, .int .i64 0, .int .i64 0, .int .i64 0, .int .i64 0, .int .i64 0, .slice none 0 0, .slice none 0 0] 35 (0, 0))) :
    (put8 w N k W H S pv av).heap[N]? = some (.cells (pcCells k W H S pv av) 35 (0, 0)) := by
  have h1 : (w.setCell ⟨N, 0, none⟩ (.int .i64 (k : Int))).heap[N]? = some (.cells #[.int .i64 (k : Int), .int .i64 0, .int .i64 0, .int .i64 0, .int .i64 0, .int .i64 0, .slice none 0 0, .slice none 0 0] 35 (0, 0)) := heap_setCell_same _ N 0 _ _ (.int .i64 (k : Int)) h0
  have h2 : ((w.setCell ⟨N, 0, none⟩ (.int .i64 (k : Int))).setCell ⟨N, 1, none⟩ (.int .i64 0)).heap[N]? = some (.cells #[.int .i64 (k : Int), .int .i64 0, .int .i64 0, .int .i64 0, .int .i64 0, .int .i64 0, .slice none 0 0, .slice none 0 0] 35 (0, 0)) := heap_setCell_same _ N 1 _ _ (.int .i64 0) h1
  have h3 : (((w.setCell ⟨N, 0, none⟩ (.int .i64 (k : Int))).setCell ⟨N, 1, none⟩ (.int .i64 0)).setCell ⟨N, 2, none⟩ (.int .i64 0)).heap[N]? = some (.cells #[.int .i64 (k : Int), .int .i64 0, .int .i64 0, .int .i64 0, .int .i64 0, .int .i64 0, .slice none 0 0, .slice none 0 0] 35 (0, 0)) := heap_setCell_same _ N 2 _ _ (.int .i64 0) h2
  have h4 : ((((w.setCell ⟨N, 0, none⟩ (.int .i64 (k : Int))).setCell ⟨N, 1, none⟩ (.int .i64 0)).setCell ⟨N, 2, none⟩ (.int .i64 0)).setCell ⟨N, 3, none⟩ (.int .i64 (W : Int))).heap[N]? = some (.cells #[.int .i64 (k : Int), .int .i64 0, .int .i64 0, .int .i64 (W : Int), .int .i64 0, .int .i64 0, .slice none 0 0, .slice none 0 0] 35 (0, 0)) := heap_setCell_same _ N 3 _ _ (.int .i64 (W : Int)) h3
  have h5 : (((((w.setCell ⟨N, 0, none⟩ (.int .i64 (k : Int))).setCell ⟨N, 1, none⟩ (.int .i64 0)).setCell ⟨N, 2, none⟩ (.int .i64 0)).setCell ⟨N, 3, none⟩ (.int .i64 (W : Int))).setCell ⟨N, 4, none⟩ (.int .i64 (H : Int))).heap[N]? = some (.cells #[.int .i64 (k : Int), .int .i64 0, .int .i64 0, .int .i64 (W : Int), .int .i64 (H : Int), .int .i64 0, .slice none 0 0, .slice none 0 0] 35 (0, 0)) := heap_setCell_same _ N 4 _ _ (.int .i64 (H : Int)) h4
  have h6 : ((((((w.setCell ⟨N, 0, none⟩ (.int .i64 (k : Int))).setCell ⟨N, 1, none⟩ (.int .i64 0)).setCell ⟨N, 2, none⟩ (.int .i64 0)).setCell ⟨N, 3, none⟩ (.int .i64 (W : Int))).setCell ⟨N, 4, none⟩ (.int .i64 (H : Int))).setCell ⟨N, 5, none⟩ (.int .i64 (S : Int))).heap[N]? = some (.cells #[.int .i64 (k : Int), .int .i64 0, .int .i64 0, .int .i64 (W : Int), .int .i64 (H : Int), .int .i64 (S : Int), .slice none 0 0, .slice none 0 0] 35 (0, 0)) := heap_setCell_same _ N 5 _ _ (.int .i64 (S : Int)) h5
  have h7 : (((((((w.setCell ⟨N, 0, none⟩ (.int .i64 (k : Int))).setCell ⟨N, 1, none⟩ (.int .i64 0)).setCell ⟨N, 2, none⟩ (.int .i64 0)).setCell ⟨N, 3, none⟩ (.int .i64 (W : Int))).setCell ⟨N, 4, none⟩ (.int .i64 (H : Int))).setCell ⟨N, 5, none⟩ (.int .i64 (S : Int))).setCell ⟨N, 6, none⟩ (pv)).heap[N]? = some (.cells #[.int .i64 (k : Int), .int .i64 0, .int .i64 0, .int .i64 (W : Int), .int .i64 (H : Int), .int .i64 (S : Int), pv, .slice none 0 0] 35 (0, 0)) := heap_setCell_same _ N 6 _ _ (pv) h6
  have h8 : ((((((((w.setCell ⟨N, 0, none⟩ (.int .i64 (k : Int))).setCell ⟨N, 1, none⟩ (.int .i64 0)).setCell ⟨N, 2, none⟩ (.int .i64 0)).setCell ⟨N, 3, none⟩ (.int .i64 (W : Int))).setCell ⟨N, 4, none⟩ (.int .i64 (H : Int))).setCell ⟨N, 5, none⟩ (.int .i64 (S : Int))).setCell ⟨N, 6, none⟩ (pv)).setCell ⟨N, 7, none⟩ av).heap[N]? = some (.cells #[.int .i64 (k : Int), .int .i64 0, .int .i64 0, .int .i64 (W : Int), .int .i64 (H : Int), .int .i64 (S : Int), pv, av] 35 (0, 0)) := heap_setCell_same _ N 7 _ _ av h7
  exact h8
theorem OwnB.only {w w' : World} {base b : Nat} {v : Value} {l : List UInt8} (h : OwnB w base v l) (k : Only b w w') (hne : ∀ g, v.ownBlock = some g → g ≠ b) : OwnB w' base v l := by
  refine ⟨h.1, ?_⟩
  rcases h.2 with h2 | ⟨g, cap, cur, hv, hg, hh, r⟩
  · exact Or.inl h2
  · exact Or.inr ⟨g, cap, cur, hv, hg, (k.block g (hne g (by rw [hv]; rfl))).trans hh, r⟩
set_option maxHeartbeats 1600000 in
set_option maxRecDepth 100000 in
theorem picture_any (k W H S n cap : Nat) (ad : Option Addr) (l : List UInt8) (w : World) (hl : Hid (l.length = n)) (hr : RB w ad l) (hn : n ≤ 1000000) (hnil : ad = none → n = 0 ∧ cap = 0) :
    Calls Tryd.prog 28 #[.int .i64 (k : Int), .agg #[.int .i64 0, .int .i64 0, .int .i64 (W : Int), .int .i64 (H : Int)], .int .i64 (S : Int), .slice ad n cap] w (PcEnd k W H S l w) := by
  obtain ⟨w1, hw1⟩ : ∃ w1, w1 = (w.alloc (.cells #[.int .i64 0, .int .i64 0, .int .i64 (W : Int), .int .i64 (H : Int)] 88)).alloc (.cells #[.int .i64 0, .int .i64 0, .int .i64 0, .int .i64 0, .int .i64 0, .int .i64 0, .slice none 0 0, .slice none 0 0] 35) := ⟨_, rfl⟩
  have hb1 : Below w.heap.size w w1 := hw1 ▸ ((Below.refl _ _).alloc (Nat.le_refl _) _).alloc (by rw [size_alloc]; omega) _
  have hz1 : w1.heap.size = w.heap.size + 2 := by rw [hw1, size_alloc, size_alloc]
  have hR : w1.heap[w.heap.size]? = some (.cells #[.int .i64 0, .int .i64 0, .int .i64 (W : Int), .int .i64 (H : Int)] 88 (0, 0)) := by
    rw [hw1]
    exact (((Below.refl (w.heap.size + 1) _).alloc (by rw [size_alloc]; omega) _).block _ (by omega)).trans (alloc_at _ _)
  have hS : w1.heap[w.heap.size + 1]? = some (.cells #[.int .i64 0, .int .i64 0, .int .i64 0, .int .i64 0, .int .i64 0, .int .i64 0, .slice none 0 0, .slice none 0 0] 35 (0, 0)) := by
    rw [hw1, ← size_alloc w (.cells #[.int .i64 0, .int .i64 0, .int .i64 (W : Int), .int .i64 (H : Int)] 88)]
    exact alloc_at _ _
  have HS := Lib.hid hS
  have hr1 := hr.below hb1
  have hrc : RcAt w.heap.size W H w1.drew := RcAt.of_row hR
  have HW1 := Lib.hid hw1
  have HB1 := Lib.hid hb1
  have HZ1 := Lib.hid hz1
  have HR1 := Lib.hid hr1
  clear hw1 hb1 hz1 hR hr hr1 hS
  go_enter Tryd.func28, Tryd.ntmps28
  go_upto_region 1 with fail
  rw [← HW1.out]
  have hlt : w.heap.size < w1.heap.size := by have := HZ1.out; omega
  have hlt2 : w.heap.size + 1 < w1.heap.size := by have := HZ1.out; omega
  refine wp_region_held_drew (S := fun w' => RcAt w.heap.size W H w') (by kernel_rfl) hrc (fun hHeld => ?_)
  refine take_at 0 (some 9) (v := ?_) rfl rfl (by kernel_rfl) (by kernel_rfl) (by kernel_rfl) (fun _ _ _ h => h) (Or.inl ⟨by rfl, ?_⟩) (by assumption) ?_
  rotate_left
  · intro w hSw
    obtain ⟨c0, c1, c2, c3⟩ := hSw
    go_simp
    first | done | with_reducible rfl
  simp only [Act.put, List.setIfInBounds_toArray, List.set_cons_succ, List.set_cons_zero]
  refine take_at 1 (some 10) (v := ?_) rfl rfl (by kernel_rfl) (by kernel_rfl) (by kernel_rfl) (fun _ _ _ h => h) (Or.inl ⟨by rfl, ?_⟩) (by assumption) ?_
  rotate_left
  · intro w hSw
    obtain ⟨c0, c1, c2, c3⟩ := hSw
    go_simp
    first | done | with_reducible rfl
  simp only [Act.put, List.setIfInBounds_toArray, List.set_cons_succ, List.set_cons_zero]
  refine take_at 2 (some 11) (v := ?_) rfl rfl (by kernel_rfl) (by kernel_rfl) (by kernel_rfl) (fun _ _ _ h => h) (Or.inl ⟨by rfl, ?_⟩) (by assumption) ?_
  rotate_left
  · intro w hSw
    obtain ⟨c0, c1, c2, c3⟩ := hSw
    go_simp
    first | done | with_reducible rfl
  simp only [Act.put, List.setIfInBounds_toArray, List.set_cons_succ, List.set_cons_zero]
  refine take_at 3 (some 12) (v := ?_) rfl rfl (by kernel_rfl) (by kernel_rfl) (by kernel_rfl) (fun _ _ _ h => h) (Or.inl ⟨by rfl, ?_⟩) (by assumption) ?_
  rotate_left
  · intro w hSw
    obtain ⟨c0, c1, c2, c3⟩ := hSw
    go_simp
    first | done | with_reducible rfl
  simp only [Act.put, List.setIfInBounds_toArray, List.set_cons_succ, List.set_cons_zero]
  refine take_at 4 (some 13) (v := ?_) rfl rfl (by kernel_rfl) (by kernel_rfl) (by kernel_rfl) (fun _ _ _ h => h) (Or.inl ⟨by rfl, ?_⟩) (by assumption) ?_
  rotate_left
  · intro w hSw
    obtain ⟨c0, c1, c2, c3⟩ := hSw
    go_simp
    first | done | with_reducible rfl
  simp only [Act.put, List.setIfInBounds_toArray, List.set_cons_succ, List.set_cons_zero]
  refine take_at 5 (some 14) (v := ?_) rfl rfl (by kernel_rfl) (by kernel_rfl) (by kernel_rfl) (fun _ _ _ h => h) (Or.inl ⟨by rfl, ?_⟩) (by assumption) ?_
  rotate_left
  · intro w hSw
    obtain ⟨c0, c1, c2, c3⟩ := hSw
    go_simp
    first | done | with_reducible rfl
  simp only [Act.put, List.setIfInBounds_toArray, List.set_cons_succ, List.set_cons_zero]
  refine take_at 6 (some 15) (v := ?_) rfl rfl (by kernel_rfl) (by kernel_rfl) (by kernel_rfl) (fun _ _ _ h => h) (Or.inl ⟨by rfl, ?_⟩) (by assumption) ?_
  rotate_left
  · intro w hSw
    obtain ⟨c0, c1, c2, c3⟩ := hSw
    go_simp
    first | done | with_reducible rfl
  simp only [Act.put, List.setIfInBounds_toArray, List.set_cons_succ, List.set_cons_zero]
  refine take_at 7 (some 16) (v := ?_) rfl rfl (by kernel_rfl) (by kernel_rfl) (by kernel_rfl) (fun _ _ _ h => h) (Or.inl ⟨by rfl, ?_⟩) (by assumption) ?_
  rotate_left
  · intro w hSw
    obtain ⟨c0, c1, c2, c3⟩ := hSw
    go_simp
    first | done | with_reducible rfl
  simp only [Act.put, List.setIfInBounds_toArray, List.set_cons_succ, List.set_cons_zero]
  refine take_at 8 (some 17) (v := ?_) rfl rfl (by kernel_rfl) (by kernel_rfl) (by kernel_rfl) (fun _ _ _ h => h) (Or.inl ⟨by rfl, ?_⟩) (by assumption) ?_
  rotate_left
  · intro w hSw
    obtain ⟨c0, c1, c2, c3⟩ := hSw
    go_simp
    first | done | with_reducible rfl
  simp only [Act.put, List.setIfInBounds_toArray, List.set_cons_succ, List.set_cons_zero]
  refine take_at 9 (some 18) (v := ?_) rfl rfl (by kernel_rfl) (by kernel_rfl) (by kernel_rfl) (fun _ _ _ h => h) (Or.inl ⟨by rfl, ?_⟩) (by assumption) ?_
  rotate_left
  · intro w hSw
    obtain ⟨c0, c1, c2, c3⟩ := hSw
    go_simp
    first | done | with_reducible rfl
  simp only [Act.put, List.setIfInBounds_toArray, List.set_cons_succ, List.set_cons_zero]
  refine take_at 10 (some 19) (v := ?_) rfl rfl (by kernel_rfl) (by kernel_rfl) (by kernel_rfl) (fun _ _ _ h => h) (Or.inl ⟨by rfl, ?_⟩) (by assumption) ?_
  rotate_left
  · intro w hSw
    obtain ⟨c0, c1, c2, c3⟩ := hSw
    go_simp
    first | done | with_reducible rfl
  simp only [Act.put, List.setIfInBounds_toArray, List.set_cons_succ, List.set_cons_zero]
  refine take_at 11 (some 20) (v := ?_) rfl rfl (by kernel_rfl) (by kernel_rfl) (by kernel_rfl) (fun _ _ _ h => h) (Or.inl ⟨by rfl, ?_⟩) (by assumption) ?_
  rotate_left
  · intro w hSw
    obtain ⟨c0, c1, c2, c3⟩ := hSw
    go_simp
    first | done | with_reducible rfl
  simp only [Act.put, List.setIfInBounds_toArray, List.set_cons_succ, List.set_cons_zero]
  refine take_at 12 (some 21) (v := ?_) rfl rfl (by kernel_rfl) (by kernel_rfl) (by kernel_rfl) (fun _ _ _ h => h) (Or.inl ⟨by rfl, ?_⟩) (by assumption) ?_
  rotate_left
  · intro w hSw
    obtain ⟨c0, c1, c2, c3⟩ := hSw
    go_simp
    first | done | with_reducible rfl
  simp only [Act.put, List.setIfInBounds_toArray, List.set_cons_succ, List.set_cons_zero]
  refine take_at 13 (some 22) (v := ?_) rfl rfl (by kernel_rfl) (by kernel_rfl) (by kernel_rfl) (fun _ _ _ h => h) (Or.inl ⟨by rfl, ?_⟩) (by assumption) ?_
  rotate_left
  · intro w hSw
    obtain ⟨c0, c1, c2, c3⟩ := hSw
    go_simp
    first | done | with_reducible rfl
  simp only [Act.put, List.setIfInBounds_toArray, List.set_cons_succ, List.set_cons_zero]
  refine take_at 14 (some 23) (v := ?_) rfl rfl (by kernel_rfl) (by kernel_rfl) (by kernel_rfl) (fun _ _ _ h => h) (Or.inl ⟨by rfl, ?_⟩) (by assumption) ?_
  rotate_left
  · intro w hSw
    obtain ⟨c0, c1, c2, c3⟩ := hSw
    go_simp
    first | done | with_reducible rfl
  simp only [Act.put, List.setIfInBounds_toArray, List.set_cons_succ, List.set_cons_zero]
  refine wpAnyH_ready (rs := [15]) (by kernel_rfl) (by simp) ?_
  refine AllReadyH.cons rfl (fun K hK => ?_) AllReadyH.nil
  go_simp
  go_wp2_with (go_at_call 20; refine (clone_any ad n cap l hl w1.drew (by omega) HR1.out hnil).mono ?_; rintro e w2 ⟨v, rfl, ho, hb, -⟩)
  obtain ⟨a2, n2, cap2, rfl, -⟩ := ho.shapeN
  have hrc2 : RcAt w.heap.size W H w2 := hrc.kept (hb.block _ hlt)
  have hlt3 : w.heap.size + 1 < w2.heap.size := Nat.lt_of_lt_of_le hlt2 hb.size
  have gS := Lib.hid ((hb.block (w.heap.size + 1) hlt2).trans HS.out)
  have z0 : w2.frozen? ⟨w.heap.size + 1, 0, none⟩ = false := frozen_of_row w2 _ 0 _ _ gS.out
  have e0 : w2.cell? ⟨w.heap.size + 1, 0, none⟩ = some (.int .i64 0) := (cell_of_row w2 _ 0 _ _ _ gS.out).trans rfl
  have z1 : w2.frozen? ⟨w.heap.size + 1, 1, none⟩ = false := frozen_of_row w2 _ 1 _ _ gS.out
  have e1 : w2.cell? ⟨w.heap.size + 1, 1, none⟩ = some (.int .i64 0) := (cell_of_row w2 _ 1 _ _ _ gS.out).trans rfl
  have z2 : w2.frozen? ⟨w.heap.size + 1, 2, none⟩ = false := frozen_of_row w2 _ 2 _ _ gS.out
  have e2 : w2.cell? ⟨w.heap.size + 1, 2, none⟩ = some (.int .i64 0) := (cell_of_row w2 _ 2 _ _ _ gS.out).trans rfl
  have z3 : w2.frozen? ⟨w.heap.size + 1, 3, none⟩ = false := frozen_of_row w2 _ 3 _ _ gS.out
  have e3 : w2.cell? ⟨w.heap.size + 1, 3, none⟩ = some (.int .i64 0) := (cell_of_row w2 _ 3 _ _ _ gS.out).trans rfl
  have z4 : w2.frozen? ⟨w.heap.size + 1, 4, none⟩ = false := frozen_of_row w2 _ 4 _ _ gS.out
  have e4 : w2.cell? ⟨w.heap.size + 1, 4, none⟩ = some (.int .i64 0) := (cell_of_row w2 _ 4 _ _ _ gS.out).trans rfl
  have z5 : w2.frozen? ⟨w.heap.size + 1, 5, none⟩ = false := frozen_of_row w2 _ 5 _ _ gS.out
  have e5 : w2.cell? ⟨w.heap.size + 1, 5, none⟩ = some (.int .i64 0) := (cell_of_row w2 _ 5 _ _ _ gS.out).trans rfl
  have z6 : w2.frozen? ⟨w.heap.size + 1, 6, none⟩ = false := frozen_of_row w2 _ 6 _ _ gS.out
  have e6 : w2.cell? ⟨w.heap.size + 1, 6, none⟩ = some (.slice none 0 0) := (cell_of_row w2 _ 6 _ _ _ gS.out).trans rfl
  have z7 : w2.frozen? ⟨w.heap.size + 1, 7, none⟩ = false := frozen_of_row w2 _ 7 _ _ gS.out
  have e7 : w2.cell? ⟨w.heap.size + 1, 7, none⟩ = some (.slice none 0 0) := (cell_of_row w2 _ 7 _ _ _ gS.out).trans rfl
  refine hK.out _ _ hrc2 (fun hHeld => ?_)
  clear hK K
  refine take_at 16 (some 25) (v := ?_) rfl rfl (by kernel_rfl) (by kernel_rfl) (by kernel_rfl) (fun _ _ _ h => h) (Or.inl ⟨by rfl, ?_⟩) (by assumption) ?_
  rotate_left
  · intro w hSw
    clear hSw
    go_simp
    first | done | with_reducible rfl
  simp only [Act.put, List.setIfInBounds_toArray, List.set_cons_succ, List.set_cons_zero]
  refine wpAnyH_ready (rs := [17]) (by kernel_rfl) (by simp) ?_
  refine AllReadyH.cons rfl (fun K hK => ?_) AllReadyH.nil
  go_simp
  rw [← put8]
  obtain ⟨w3, hw3⟩ : ∃ w3, w3 = put8 w2 (w.heap.size + 1) k W H S (.slice a2 n2 cap2) (.slice none 0 0) := ⟨_, rfl⟩
  rw [← hw3]
  have hon : Only (w.heap.size + 1) w2 w3 := hw3 ▸ put8_only _ _ _ _ _ _ _ _
  have hrow := put8_row w2 (w.heap.size + 1) k W H S (.slice a2 n2 cap2) (.slice none 0 0) gS.out
  rw [← hw3] at hrow
  have hrc3 := hrc2.kept (hon.block w.heap.size (by omega))
  have hne : ∀ g, (Value.slice a2 n2 cap2).ownBlock = some g → g ≠ w.heap.size + 1 := fun g hg => by
    have h1 : w1.drew.heap.size ≤ g := ownBlock_ge ho g hg
    have h2 : w1.drew.heap.size = w1.heap.size := rfl
    omega
  have HO : Hid (OwnB w3 w.heap.size (.slice a2 n2 cap2) l) := Lib.hid ((ho.mono (show w.heap.size ≤ w1.heap.size by omega)).only hon hne)
  have HB3 : Hid (Below w.heap.size w w3) := Lib.hid ((HB1.out.trans ((undrew hb).mono (show w.heap.size ≤ w1.heap.size by omega))).trans (hon.below (by omega)))
  have HROW := Lib.hid hrow
  clear ho hb hne hw3 hon hrow
  clear z0 e0
  clear z1 e1
  clear z2 e2
  clear z3 e3
  clear z4 e4
  clear z5 e5
  clear z6 e6
  clear z7 e7
  refine hK.out _ _ hrc3 (fun hHeld => ?_)
  clear hK K
  refine wpAnyH_done (by kernel_rfl) ?_ _
  have R := HROW.out
  have r0 := (cell_of_row w3 _ 0 _ _ _ R).trans (show (pcCells k W H S (.slice a2 n2 cap2) (.slice none 0 0))[0]? = some _ from rfl)
  have r1 := (cell_of_row w3 _ 1 _ _ _ R).trans (show (pcCells k W H S (.slice a2 n2 cap2) (.slice none 0 0))[1]? = some _ from rfl)
  have r2 := (cell_of_row w3 _ 2 _ _ _ R).trans (show (pcCells k W H S (.slice a2 n2 cap2) (.slice none 0 0))[2]? = some _ from rfl)
  have r3 := (cell_of_row w3 _ 3 _ _ _ R).trans (show (pcCells k W H S (.slice a2 n2 cap2) (.slice none 0 0))[3]? = some _ from rfl)
  have r4 := (cell_of_row w3 _ 4 _ _ _ R).trans (show (pcCells k W H S (.slice a2 n2 cap2) (.slice none 0 0))[4]? = some _ from rfl)
  have r5 := (cell_of_row w3 _ 5 _ _ _ R).trans (show (pcCells k W H S (.slice a2 n2 cap2) (.slice none 0 0))[5]? = some _ from rfl)
  have r6 := (cell_of_row w3 _ 6 _ _ _ R).trans (show (pcCells k W H S (.slice a2 n2 cap2) (.slice none 0 0))[6]? = some _ from rfl)
  have r7 := (cell_of_row w3 _ 7 _ _ _ R).trans (show (pcCells k W H S (.slice a2 n2 cap2) (.slice none 0 0))[7]? = some _ from rfl)
  clear R
  go_wp2_with fail
  refine bodyPost_ret (v := pcV k W H S (.slice a2 n2 cap2) (.slice none 0 0)) (by simp [results, Tryd.results28, go_sem, r0, r1, r2, r3, r4, r5, r6, r7]; rfl) rfl ⟨_, rfl, HO.out, HB3.out⟩
end Go.Proofs.YtkiibhpmembcgaaDoor
