/- The contract of pictureOf at each kind of picture. Printed by gen/picof.py. -/
import Derived.Test.YtkiibhpmembcgaaDoorPic
import Derived.Test.YtkiibhpmembcgaaDoorSh
import Derived.StillTailTactics
namespace Go.Proofs.YtkiibhpmembcgaaDoor
open Go.ChangeShapes Go.WideShapes Go.ChangeAt Go.RowKit Go.IntWalk

structure PoAt (g : Nat) (pv : Value) (W H S : Nat) (w : World) : Prop where
  c0 : w.cell? ⟨g, 0, none⟩ = some pv
  c1 : w.cell? ⟨g, 1, none⟩ = some (.int .i64 (S : Int))
  c2 : w.cell? ⟨g, 2, none⟩ = some (.int .i64 0)
  c3 : w.cell? ⟨g, 3, none⟩ = some (.int .i64 0)
  c4 : w.cell? ⟨g, 4, none⟩ = some (.int .i64 (W : Int))
  c5 : w.cell? ⟨g, 5, none⟩ = some (.int .i64 (H : Int))
theorem PoAt.of_row {g W H S : Nat} {pv : Value} {w : World} {T : TypeId} {more : List Value} (h : w.heap[g]? = some (.cells (imgC pv W H S ++ more).toArray T (0, 0))) : PoAt g pv W H S w :=
  ⟨(cell_of_row w g 0 _ _ _ h).trans rfl, (cell_of_row w g 1 _ _ _ h).trans rfl, (cell_of_row w g 2 _ _ _ h).trans rfl, (cell_of_row w g 3 _ _ _ h).trans rfl, (cell_of_row w g 4 _ _ _ h).trans rfl, (cell_of_row w g 5 _ _ _ h).trans rfl⟩
theorem PoAt.kept {g W H S : Nat} {pv : Value} {w w' : World} (h : PoAt g pv W H S w) (hk : w'.heap[g]? = w.heap[g]?) : PoAt g pv W H S w' :=
  ⟨(World.cell?_of_block (w := w) hk).trans h.c0, (World.cell?_of_block (w := w) hk).trans h.c1, (World.cell?_of_block (w := w) hk).trans h.c2, (World.cell?_of_block (w := w) hk).trans h.c3, (World.cell?_of_block (w := w) hk).trans h.c4, (World.cell?_of_block (w := w) hk).trans h.c5⟩
theorem PalAt.only {w w' : World} {P b : Nat} {S : List Sh} (h : PalAt w (some ⟨P, 0, none⟩) S) (k : Only b w w') (hne : P ≠ b) : PalAt w' (some ⟨P, 0, none⟩) S := fun hS => by
  obtain ⟨P', e, hc⟩ := h hS
  simp only [Option.some.injEq, Addr.mk.injEq, and_true] at e
  subst e
  refine ⟨P, rfl, fun j s hj => ?_⟩
  obtain ⟨T, hT, hcell⟩ := hc j s hj
  exact ⟨T, hT, by rw [k.cell (p := ⟨P, j, none⟩) hne]; exact hcell⟩
theorem PalAt.below {w w' : World} {ad : Option Addr} {S : List Sh} (h : PalAt w ad S) (hb : Below w.heap.size w w') : PalAt w' ad S := fun hne => by
  obtain ⟨P, e, hc⟩ := h hne
  refine ⟨P, e, fun j s hj => ?_⟩
  obtain ⟨T, hT, hcell⟩ := hc j s hj
  exact ⟨T, hT, by rw [hb.cell (p := ⟨P, j, none⟩) (World.block_lt_of_cell? w _ hcell)]; exact hcell⟩

theorem po1_yes (p : Option Addr) (w : World) : (Instr.typeAssert (.iface 83 (.pointer p)) 82 83 true).run Tryd.prog w = .ok (.tuple #[.pointer p, .bool true]) w := by kernel_rfl
set_option maxHeartbeats 3200000 in
set_option maxRecDepth 100000 in
theorem pictureOf_1 (W H S n cap g : Nat) (ad : Option Addr) (l : List UInt8) (w : World) (hg : w.heap[g]? = some (.cells (imgC (.slice ad n cap) W H S).toArray 90 (0, 0))) (hl : Hid (l.length = n)) (hr : RB w ad l) (hn : n ≤ 1000000) (hnil : ad = none → n = 0 ∧ cap = 0)
    : Calls Tryd.prog 24 #[.iface 83 (.pointer (some ⟨g, 0, none⟩))] w (PcEnd 1 W H S l w) := by
  have lg : g < w.heap.size := (Array.getElem?_eq_some_iff.1 hg).1
  obtain ⟨w1, hw1⟩ : ∃ w1, w1 = w.alloc (.cells #[.int .i64 0, .int .i64 0, .int .i64 0, .int .i64 0, .int .i64 0, .int .i64 0, .slice none 0 0, .slice none 0 0] 35) := ⟨_, rfl⟩
  have hb1 : Below w.heap.size w w1 := hw1 ▸ (Below.refl _ _).alloc (Nat.le_refl _) _
  have hz1 : w1.heap.size = w.heap.size + 1 := by rw [hw1, size_alloc]
  have hS : w1.heap[w.heap.size]? = some (.cells #[.int .i64 0, .int .i64 0, .int .i64 0, .int .i64 0, .int .i64 0, .int .i64 0, .slice none 0 0, .slice none 0 0] 35 (0, 0)) := by rw [hw1]; exact alloc_at _ _
  have H1 := (hb1.block g lg).trans hg
  have HR1 := Lib.hid (hr.below hb1)
  have HS := Lib.hid hS
  have HW1 := Lib.hid hw1
  have HB1 := Lib.hid hb1
  have HZ1 := Lib.hid hz1
  have HG := Lib.hid H1
  
  clear hw1 hb1 hz1 hS H1 hg hr
  have q0 := po1_yes
  go_enter Tryd.func24, Tryd.ntmps24
  go_upto_region 4 with fail
  rw [← HW1.out]
  have hlt : w.heap.size < w1.heap.size := by have := HZ1.out; omega
  have f0 : w1.cell? ⟨g, 0, none⟩ = some (.slice ad n cap) := (cell_of_row w1 g 0 _ _ _ HG.out).trans rfl
  have f1 : w1.cell? ⟨g, 1, none⟩ = some (.int .i64 (S : Int)) := (cell_of_row w1 g 1 _ _ _ HG.out).trans rfl
  have f2 : w1.cell? ⟨g, 2, none⟩ = some (.int .i64 0) := (cell_of_row w1 g 2 _ _ _ HG.out).trans rfl
  have f3 : w1.cell? ⟨g, 3, none⟩ = some (.int .i64 0) := (cell_of_row w1 g 3 _ _ _ HG.out).trans rfl
  have f4 : w1.cell? ⟨g, 4, none⟩ = some (.int .i64 (W : Int)) := (cell_of_row w1 g 4 _ _ _ HG.out).trans rfl
  have f5 : w1.cell? ⟨g, 5, none⟩ = some (.int .i64 (H : Int)) := (cell_of_row w1 g 5 _ _ _ HG.out).trans rfl
  go_still_tail 12, (by kernel_rfl)
  change wpList _ _ _ _ _ w1.drew
  clear f0 f1 f2 f3 f4 f5 q0
  obtain ⟨w2, hw2⟩ : ∃ w2, w2 = w1.drew := ⟨_, rfl⟩
  rw [← hw2]
  have HR2 : Hid (RB w2 ad l) := Lib.hid (hw2 ▸ HR1.out)
  have HB2 : Hid (Below w.heap.size w w2) := Lib.hid (hw2 ▸ bdrew HB1.out)
  have HZ2 : Hid (w2.heap.size = w.heap.size + 1) := Lib.hid (hw2 ▸ HZ1.out)
  have HS2 : Hid (w2.heap[w.heap.size]? = some (.cells #[.int .i64 0, .int .i64 0, .int .i64 0, .int .i64 0, .int .i64 0, .int .i64 0, .slice none 0 0, .slice none 0 0] 35 (0, 0))) := Lib.hid (hw2 ▸ HS.out)
  clear hw2 hlt
  go_wp2_with (go_at_call 28; refine (picture_any 1 W H S n cap ad l w2 hl HR2.out hn hnil).mono ?_; rintro e w3 ⟨v, he, ho, hb⟩; obtain ⟨a3, n3, c3, rfl, -⟩ := ho.shapeN; unfold pcV at he; subst he; have gS := Lib.hid ((hb.block w.heap.size (by rw [HZ2.out]; omega)).trans HS2.out); have hlt3 : w.heap.size < w3.heap.size := Nat.lt_of_lt_of_le (by rw [HZ2.out]; omega) hb.size; have z0 : w3.frozen? ⟨w.heap.size, 0, none⟩ = false := frozen_of_row w3 _ 0 _ _ gS.out; have e0 : w3.cell? ⟨w.heap.size, 0, none⟩ = some (Value.int .i64 0) := (cell_of_row w3 _ 0 _ _ _ gS.out).trans rfl; have z1 : w3.frozen? ⟨w.heap.size, 1, none⟩ = false := frozen_of_row w3 _ 1 _ _ gS.out; have e1 : w3.cell? ⟨w.heap.size, 1, none⟩ = some (Value.int .i64 0) := (cell_of_row w3 _ 1 _ _ _ gS.out).trans rfl; have z2 : w3.frozen? ⟨w.heap.size, 2, none⟩ = false := frozen_of_row w3 _ 2 _ _ gS.out; have e2 : w3.cell? ⟨w.heap.size, 2, none⟩ = some (Value.int .i64 0) := (cell_of_row w3 _ 2 _ _ _ gS.out).trans rfl; have z3 : w3.frozen? ⟨w.heap.size, 3, none⟩ = false := frozen_of_row w3 _ 3 _ _ gS.out; have e3 : w3.cell? ⟨w.heap.size, 3, none⟩ = some (Value.int .i64 0) := (cell_of_row w3 _ 3 _ _ _ gS.out).trans rfl; have z4 : w3.frozen? ⟨w.heap.size, 4, none⟩ = false := frozen_of_row w3 _ 4 _ _ gS.out; have e4 : w3.cell? ⟨w.heap.size, 4, none⟩ = some (Value.int .i64 0) := (cell_of_row w3 _ 4 _ _ _ gS.out).trans rfl; have z5 : w3.frozen? ⟨w.heap.size, 5, none⟩ = false := frozen_of_row w3 _ 5 _ _ gS.out; have e5 : w3.cell? ⟨w.heap.size, 5, none⟩ = some (Value.int .i64 0) := (cell_of_row w3 _ 5 _ _ _ gS.out).trans rfl; have z6 : w3.frozen? ⟨w.heap.size, 6, none⟩ = false := frozen_of_row w3 _ 6 _ _ gS.out; have e6 : w3.cell? ⟨w.heap.size, 6, none⟩ = some (Value.slice none 0 0) := (cell_of_row w3 _ 6 _ _ _ gS.out).trans rfl; have z7 : w3.frozen? ⟨w.heap.size, 7, none⟩ = false := frozen_of_row w3 _ 7 _ _ gS.out; have e7 : w3.cell? ⟨w.heap.size, 7, none⟩ = some (Value.slice none 0 0) := (cell_of_row w3 _ 7 _ _ _ gS.out).trans rfl)
  change bodyPost _ _ _ _ _ (put8 w3 w.heap.size 1 W H S (.slice a3 n3 c3) (.slice none 0 0))
  obtain ⟨w4, hw4⟩ : ∃ w4, w4 = put8 w3 w.heap.size 1 W H S (.slice a3 n3 c3) (.slice none 0 0) := ⟨_, rfl⟩
  rw [← hw4]
  have hon : Only w.heap.size w3 w4 := hw4 ▸ put8_only _ _ _ _ _ _ _ _
  have hrow := put8_row w3 w.heap.size 1 W H S (.slice a3 n3 c3) (.slice none 0 0) gS.out
  rw [← hw4] at hrow
  have hz2 := HZ2.out
  have hne : ∀ g, (Value.slice a3 n3 c3).ownBlock = some g → g ≠ w.heap.size := fun g hg => by
    have h1 : w2.heap.size ≤ g := ownBlock_ge ho g hg
    omega
  have HO := (ho.mono (show w.heap.size ≤ w2.heap.size by omega)).only hon hne
  have HB4 : Below w.heap.size w w4 := (HB2.out.trans (hb.mono (show w.heap.size ≤ w2.heap.size by omega))).trans (hon.below (by omega))
  clear hw4
  have r0 := (cell_of_row w4 _ 0 _ _ _ hrow).trans (show (pcCells 1 W H S (.slice a3 n3 c3) (.slice none 0 0))[0]? = some _ from rfl)
  have r1 := (cell_of_row w4 _ 1 _ _ _ hrow).trans (show (pcCells 1 W H S (.slice a3 n3 c3) (.slice none 0 0))[1]? = some _ from rfl)
  have r2 := (cell_of_row w4 _ 2 _ _ _ hrow).trans (show (pcCells 1 W H S (.slice a3 n3 c3) (.slice none 0 0))[2]? = some _ from rfl)
  have r3 := (cell_of_row w4 _ 3 _ _ _ hrow).trans (show (pcCells 1 W H S (.slice a3 n3 c3) (.slice none 0 0))[3]? = some _ from rfl)
  have r4 := (cell_of_row w4 _ 4 _ _ _ hrow).trans (show (pcCells 1 W H S (.slice a3 n3 c3) (.slice none 0 0))[4]? = some _ from rfl)
  have r5 := (cell_of_row w4 _ 5 _ _ _ hrow).trans (show (pcCells 1 W H S (.slice a3 n3 c3) (.slice none 0 0))[5]? = some _ from rfl)
  have r6 := (cell_of_row w4 _ 6 _ _ _ hrow).trans (show (pcCells 1 W H S (.slice a3 n3 c3) (.slice none 0 0))[6]? = some _ from rfl)
  have r7 := (cell_of_row w4 _ 7 _ _ _ hrow).trans (show (pcCells 1 W H S (.slice a3 n3 c3) (.slice none 0 0))[7]? = some _ from rfl)
  refine bodyPost_ret (v := pcV 1 W H S (.slice a3 n3 c3) (.slice none 0 0)) (by simp [results, Tryd.results24, go_sem, r0, r1, r2, r3, r4, r5, r6, r7]; rfl) rfl ⟨_, rfl, HO, HB4⟩
theorem po2_imageGray (p : Option Addr) (w : World) : (Instr.typeAssert (.iface 91 (.pointer p)) 82 83 true).run Tryd.prog w = .ok (.tuple #[.pointer none, .bool false]) w := by kernel_rfl
theorem po2_yes (p : Option Addr) (w : World) : (Instr.typeAssert (.iface 91 (.pointer p)) 82 91 true).run Tryd.prog w = .ok (.tuple #[.pointer p, .bool true]) w := by kernel_rfl
set_option maxHeartbeats 3200000 in
set_option maxRecDepth 100000 in
theorem pictureOf_2 (W H S n cap g : Nat) (ad : Option Addr) (l : List UInt8) (w : World) (hg : w.heap[g]? = some (.cells (imgC (.slice ad n cap) W H S).toArray 92 (0, 0))) (hl : Hid (l.length = n)) (hr : RB w ad l) (hn : n ≤ 1000000) (hnil : ad = none → n = 0 ∧ cap = 0)
    : Calls Tryd.prog 24 #[.iface 91 (.pointer (some ⟨g, 0, none⟩))] w (PcEnd 2 W H S l w) := by
  have lg : g < w.heap.size := (Array.getElem?_eq_some_iff.1 hg).1
  obtain ⟨w1, hw1⟩ : ∃ w1, w1 = w.alloc (.cells #[.int .i64 0, .int .i64 0, .int .i64 0, .int .i64 0, .int .i64 0, .int .i64 0, .slice none 0 0, .slice none 0 0] 35) := ⟨_, rfl⟩
  have hb1 : Below w.heap.size w w1 := hw1 ▸ (Below.refl _ _).alloc (Nat.le_refl _) _
  have hz1 : w1.heap.size = w.heap.size + 1 := by rw [hw1, size_alloc]
  have hS : w1.heap[w.heap.size]? = some (.cells #[.int .i64 0, .int .i64 0, .int .i64 0, .int .i64 0, .int .i64 0, .int .i64 0, .slice none 0 0, .slice none 0 0] 35 (0, 0)) := by rw [hw1]; exact alloc_at _ _
  have H1 := (hb1.block g lg).trans hg
  have HR1 := Lib.hid (hr.below hb1)
  have HS := Lib.hid hS
  have HW1 := Lib.hid hw1
  have HB1 := Lib.hid hb1
  have HZ1 := Lib.hid hz1
  have HG := Lib.hid H1
  
  clear hw1 hb1 hz1 hS H1 hg hr
  have q0 := po2_imageGray
  have q1 := po2_yes
  go_enter Tryd.func24, Tryd.ntmps24
  go_upto_region 7 with fail
  rw [← HW1.out]
  have hlt : w.heap.size < w1.heap.size := by have := HZ1.out; omega
  have f0 : w1.cell? ⟨g, 0, none⟩ = some (.slice ad n cap) := (cell_of_row w1 g 0 _ _ _ HG.out).trans rfl
  have f1 : w1.cell? ⟨g, 1, none⟩ = some (.int .i64 (S : Int)) := (cell_of_row w1 g 1 _ _ _ HG.out).trans rfl
  have f2 : w1.cell? ⟨g, 2, none⟩ = some (.int .i64 0) := (cell_of_row w1 g 2 _ _ _ HG.out).trans rfl
  have f3 : w1.cell? ⟨g, 3, none⟩ = some (.int .i64 0) := (cell_of_row w1 g 3 _ _ _ HG.out).trans rfl
  have f4 : w1.cell? ⟨g, 4, none⟩ = some (.int .i64 (W : Int)) := (cell_of_row w1 g 4 _ _ _ HG.out).trans rfl
  have f5 : w1.cell? ⟨g, 5, none⟩ = some (.int .i64 (H : Int)) := (cell_of_row w1 g 5 _ _ _ HG.out).trans rfl
  go_still_tail 12, (by kernel_rfl)
  change wpList _ _ _ _ _ w1.drew
  clear f0 f1 f2 f3 f4 f5 q0 q1
  obtain ⟨w2, hw2⟩ : ∃ w2, w2 = w1.drew := ⟨_, rfl⟩
  rw [← hw2]
  have HR2 : Hid (RB w2 ad l) := Lib.hid (hw2 ▸ HR1.out)
  have HB2 : Hid (Below w.heap.size w w2) := Lib.hid (hw2 ▸ bdrew HB1.out)
  have HZ2 : Hid (w2.heap.size = w.heap.size + 1) := Lib.hid (hw2 ▸ HZ1.out)
  have HS2 : Hid (w2.heap[w.heap.size]? = some (.cells #[.int .i64 0, .int .i64 0, .int .i64 0, .int .i64 0, .int .i64 0, .int .i64 0, .slice none 0 0, .slice none 0 0] 35 (0, 0))) := Lib.hid (hw2 ▸ HS.out)
  clear hw2 hlt
  go_wp2_with (go_at_call 28; refine (picture_any 2 W H S n cap ad l w2 hl HR2.out hn hnil).mono ?_; rintro e w3 ⟨v, he, ho, hb⟩; obtain ⟨a3, n3, c3, rfl, -⟩ := ho.shapeN; unfold pcV at he; subst he; have gS := Lib.hid ((hb.block w.heap.size (by rw [HZ2.out]; omega)).trans HS2.out); have hlt3 : w.heap.size < w3.heap.size := Nat.lt_of_lt_of_le (by rw [HZ2.out]; omega) hb.size; have z0 : w3.frozen? ⟨w.heap.size, 0, none⟩ = false := frozen_of_row w3 _ 0 _ _ gS.out; have e0 : w3.cell? ⟨w.heap.size, 0, none⟩ = some (Value.int .i64 0) := (cell_of_row w3 _ 0 _ _ _ gS.out).trans rfl; have z1 : w3.frozen? ⟨w.heap.size, 1, none⟩ = false := frozen_of_row w3 _ 1 _ _ gS.out; have e1 : w3.cell? ⟨w.heap.size, 1, none⟩ = some (Value.int .i64 0) := (cell_of_row w3 _ 1 _ _ _ gS.out).trans rfl; have z2 : w3.frozen? ⟨w.heap.size, 2, none⟩ = false := frozen_of_row w3 _ 2 _ _ gS.out; have e2 : w3.cell? ⟨w.heap.size, 2, none⟩ = some (Value.int .i64 0) := (cell_of_row w3 _ 2 _ _ _ gS.out).trans rfl; have z3 : w3.frozen? ⟨w.heap.size, 3, none⟩ = false := frozen_of_row w3 _ 3 _ _ gS.out; have e3 : w3.cell? ⟨w.heap.size, 3, none⟩ = some (Value.int .i64 0) := (cell_of_row w3 _ 3 _ _ _ gS.out).trans rfl; have z4 : w3.frozen? ⟨w.heap.size, 4, none⟩ = false := frozen_of_row w3 _ 4 _ _ gS.out; have e4 : w3.cell? ⟨w.heap.size, 4, none⟩ = some (Value.int .i64 0) := (cell_of_row w3 _ 4 _ _ _ gS.out).trans rfl; have z5 : w3.frozen? ⟨w.heap.size, 5, none⟩ = false := frozen_of_row w3 _ 5 _ _ gS.out; have e5 : w3.cell? ⟨w.heap.size, 5, none⟩ = some (Value.int .i64 0) := (cell_of_row w3 _ 5 _ _ _ gS.out).trans rfl; have z6 : w3.frozen? ⟨w.heap.size, 6, none⟩ = false := frozen_of_row w3 _ 6 _ _ gS.out; have e6 : w3.cell? ⟨w.heap.size, 6, none⟩ = some (Value.slice none 0 0) := (cell_of_row w3 _ 6 _ _ _ gS.out).trans rfl; have z7 : w3.frozen? ⟨w.heap.size, 7, none⟩ = false := frozen_of_row w3 _ 7 _ _ gS.out; have e7 : w3.cell? ⟨w.heap.size, 7, none⟩ = some (Value.slice none 0 0) := (cell_of_row w3 _ 7 _ _ _ gS.out).trans rfl)
  change bodyPost _ _ _ _ _ (put8 w3 w.heap.size 2 W H S (.slice a3 n3 c3) (.slice none 0 0))
  obtain ⟨w4, hw4⟩ : ∃ w4, w4 = put8 w3 w.heap.size 2 W H S (.slice a3 n3 c3) (.slice none 0 0) := ⟨_, rfl⟩
  rw [← hw4]
  have hon : Only w.heap.size w3 w4 := hw4 ▸ put8_only _ _ _ _ _ _ _ _
  have hrow := put8_row w3 w.heap.size 2 W H S (.slice a3 n3 c3) (.slice none 0 0) gS.out
  rw [← hw4] at hrow
  have hz2 := HZ2.out
  have hne : ∀ g, (Value.slice a3 n3 c3).ownBlock = some g → g ≠ w.heap.size := fun g hg => by
    have h1 : w2.heap.size ≤ g := ownBlock_ge ho g hg
    omega
  have HO := (ho.mono (show w.heap.size ≤ w2.heap.size by omega)).only hon hne
  have HB4 : Below w.heap.size w w4 := (HB2.out.trans (hb.mono (show w.heap.size ≤ w2.heap.size by omega))).trans (hon.below (by omega))
  clear hw4
  have r0 := (cell_of_row w4 _ 0 _ _ _ hrow).trans (show (pcCells 2 W H S (.slice a3 n3 c3) (.slice none 0 0))[0]? = some _ from rfl)
  have r1 := (cell_of_row w4 _ 1 _ _ _ hrow).trans (show (pcCells 2 W H S (.slice a3 n3 c3) (.slice none 0 0))[1]? = some _ from rfl)
  have r2 := (cell_of_row w4 _ 2 _ _ _ hrow).trans (show (pcCells 2 W H S (.slice a3 n3 c3) (.slice none 0 0))[2]? = some _ from rfl)
  have r3 := (cell_of_row w4 _ 3 _ _ _ hrow).trans (show (pcCells 2 W H S (.slice a3 n3 c3) (.slice none 0 0))[3]? = some _ from rfl)
  have r4 := (cell_of_row w4 _ 4 _ _ _ hrow).trans (show (pcCells 2 W H S (.slice a3 n3 c3) (.slice none 0 0))[4]? = some _ from rfl)
  have r5 := (cell_of_row w4 _ 5 _ _ _ hrow).trans (show (pcCells 2 W H S (.slice a3 n3 c3) (.slice none 0 0))[5]? = some _ from rfl)
  have r6 := (cell_of_row w4 _ 6 _ _ _ hrow).trans (show (pcCells 2 W H S (.slice a3 n3 c3) (.slice none 0 0))[6]? = some _ from rfl)
  have r7 := (cell_of_row w4 _ 7 _ _ _ hrow).trans (show (pcCells 2 W H S (.slice a3 n3 c3) (.slice none 0 0))[7]? = some _ from rfl)
  refine bodyPost_ret (v := pcV 2 W H S (.slice a3 n3 c3) (.slice none 0 0)) (by simp [results, Tryd.results24, go_sem, r0, r1, r2, r3, r4, r5, r6, r7]; rfl) rfl ⟨_, rfl, HO, HB4⟩
theorem po3_imageGray (p : Option Addr) (w : World) : (Instr.typeAssert (.iface 93 (.pointer p)) 82 83 true).run Tryd.prog w = .ok (.tuple #[.pointer none, .bool false]) w := by kernel_rfl
theorem po3_imageGray16 (p : Option Addr) (w : World) : (Instr.typeAssert (.iface 93 (.pointer p)) 82 91 true).run Tryd.prog w = .ok (.tuple #[.pointer none, .bool false]) w := by kernel_rfl
theorem po3_yes (p : Option Addr) (w : World) : (Instr.typeAssert (.iface 93 (.pointer p)) 82 93 true).run Tryd.prog w = .ok (.tuple #[.pointer p, .bool true]) w := by kernel_rfl
set_option maxHeartbeats 3200000 in
set_option maxRecDepth 100000 in
theorem pictureOf_3 (W H S n cap g : Nat) (ad : Option Addr) (l : List UInt8) (w : World) (hg : w.heap[g]? = some (.cells (imgC (.slice ad n cap) W H S).toArray 94 (0, 0))) (hl : Hid (l.length = n)) (hr : RB w ad l) (hn : n ≤ 1000000) (hnil : ad = none → n = 0 ∧ cap = 0)
    : Calls Tryd.prog 24 #[.iface 93 (.pointer (some ⟨g, 0, none⟩))] w (PcEnd 3 W H S l w) := by
  have lg : g < w.heap.size := (Array.getElem?_eq_some_iff.1 hg).1
  obtain ⟨w1, hw1⟩ : ∃ w1, w1 = w.alloc (.cells #[.int .i64 0, .int .i64 0, .int .i64 0, .int .i64 0, .int .i64 0, .int .i64 0, .slice none 0 0, .slice none 0 0] 35) := ⟨_, rfl⟩
  have hb1 : Below w.heap.size w w1 := hw1 ▸ (Below.refl _ _).alloc (Nat.le_refl _) _
  have hz1 : w1.heap.size = w.heap.size + 1 := by rw [hw1, size_alloc]
  have hS : w1.heap[w.heap.size]? = some (.cells #[.int .i64 0, .int .i64 0, .int .i64 0, .int .i64 0, .int .i64 0, .int .i64 0, .slice none 0 0, .slice none 0 0] 35 (0, 0)) := by rw [hw1]; exact alloc_at _ _
  have H1 := (hb1.block g lg).trans hg
  have HR1 := Lib.hid (hr.below hb1)
  have HS := Lib.hid hS
  have HW1 := Lib.hid hw1
  have HB1 := Lib.hid hb1
  have HZ1 := Lib.hid hz1
  have HG := Lib.hid H1
  
  clear hw1 hb1 hz1 hS H1 hg hr
  have q0 := po3_imageGray
  have q1 := po3_imageGray16
  have q2 := po3_yes
  go_enter Tryd.func24, Tryd.ntmps24
  go_upto_region 10 with fail
  rw [← HW1.out]
  have hlt : w.heap.size < w1.heap.size := by have := HZ1.out; omega
  have f0 : w1.cell? ⟨g, 0, none⟩ = some (.slice ad n cap) := (cell_of_row w1 g 0 _ _ _ HG.out).trans rfl
  have f1 : w1.cell? ⟨g, 1, none⟩ = some (.int .i64 (S : Int)) := (cell_of_row w1 g 1 _ _ _ HG.out).trans rfl
  have f2 : w1.cell? ⟨g, 2, none⟩ = some (.int .i64 0) := (cell_of_row w1 g 2 _ _ _ HG.out).trans rfl
  have f3 : w1.cell? ⟨g, 3, none⟩ = some (.int .i64 0) := (cell_of_row w1 g 3 _ _ _ HG.out).trans rfl
  have f4 : w1.cell? ⟨g, 4, none⟩ = some (.int .i64 (W : Int)) := (cell_of_row w1 g 4 _ _ _ HG.out).trans rfl
  have f5 : w1.cell? ⟨g, 5, none⟩ = some (.int .i64 (H : Int)) := (cell_of_row w1 g 5 _ _ _ HG.out).trans rfl
  go_still_tail 12, (by kernel_rfl)
  change wpList _ _ _ _ _ w1.drew
  clear f0 f1 f2 f3 f4 f5 q0 q1 q2
  obtain ⟨w2, hw2⟩ : ∃ w2, w2 = w1.drew := ⟨_, rfl⟩
  rw [← hw2]
  have HR2 : Hid (RB w2 ad l) := Lib.hid (hw2 ▸ HR1.out)
  have HB2 : Hid (Below w.heap.size w w2) := Lib.hid (hw2 ▸ bdrew HB1.out)
  have HZ2 : Hid (w2.heap.size = w.heap.size + 1) := Lib.hid (hw2 ▸ HZ1.out)
  have HS2 : Hid (w2.heap[w.heap.size]? = some (.cells #[.int .i64 0, .int .i64 0, .int .i64 0, .int .i64 0, .int .i64 0, .int .i64 0, .slice none 0 0, .slice none 0 0] 35 (0, 0))) := Lib.hid (hw2 ▸ HS.out)
  clear hw2 hlt
  go_wp2_with (go_at_call 28; refine (picture_any 3 W H S n cap ad l w2 hl HR2.out hn hnil).mono ?_; rintro e w3 ⟨v, he, ho, hb⟩; obtain ⟨a3, n3, c3, rfl, -⟩ := ho.shapeN; unfold pcV at he; subst he; have gS := Lib.hid ((hb.block w.heap.size (by rw [HZ2.out]; omega)).trans HS2.out); have hlt3 : w.heap.size < w3.heap.size := Nat.lt_of_lt_of_le (by rw [HZ2.out]; omega) hb.size; have z0 : w3.frozen? ⟨w.heap.size, 0, none⟩ = false := frozen_of_row w3 _ 0 _ _ gS.out; have e0 : w3.cell? ⟨w.heap.size, 0, none⟩ = some (Value.int .i64 0) := (cell_of_row w3 _ 0 _ _ _ gS.out).trans rfl; have z1 : w3.frozen? ⟨w.heap.size, 1, none⟩ = false := frozen_of_row w3 _ 1 _ _ gS.out; have e1 : w3.cell? ⟨w.heap.size, 1, none⟩ = some (Value.int .i64 0) := (cell_of_row w3 _ 1 _ _ _ gS.out).trans rfl; have z2 : w3.frozen? ⟨w.heap.size, 2, none⟩ = false := frozen_of_row w3 _ 2 _ _ gS.out; have e2 : w3.cell? ⟨w.heap.size, 2, none⟩ = some (Value.int .i64 0) := (cell_of_row w3 _ 2 _ _ _ gS.out).trans rfl; have z3 : w3.frozen? ⟨w.heap.size, 3, none⟩ = false := frozen_of_row w3 _ 3 _ _ gS.out; have e3 : w3.cell? ⟨w.heap.size, 3, none⟩ = some (Value.int .i64 0) := (cell_of_row w3 _ 3 _ _ _ gS.out).trans rfl; have z4 : w3.frozen? ⟨w.heap.size, 4, none⟩ = false := frozen_of_row w3 _ 4 _ _ gS.out; have e4 : w3.cell? ⟨w.heap.size, 4, none⟩ = some (Value.int .i64 0) := (cell_of_row w3 _ 4 _ _ _ gS.out).trans rfl; have z5 : w3.frozen? ⟨w.heap.size, 5, none⟩ = false := frozen_of_row w3 _ 5 _ _ gS.out; have e5 : w3.cell? ⟨w.heap.size, 5, none⟩ = some (Value.int .i64 0) := (cell_of_row w3 _ 5 _ _ _ gS.out).trans rfl; have z6 : w3.frozen? ⟨w.heap.size, 6, none⟩ = false := frozen_of_row w3 _ 6 _ _ gS.out; have e6 : w3.cell? ⟨w.heap.size, 6, none⟩ = some (Value.slice none 0 0) := (cell_of_row w3 _ 6 _ _ _ gS.out).trans rfl; have z7 : w3.frozen? ⟨w.heap.size, 7, none⟩ = false := frozen_of_row w3 _ 7 _ _ gS.out; have e7 : w3.cell? ⟨w.heap.size, 7, none⟩ = some (Value.slice none 0 0) := (cell_of_row w3 _ 7 _ _ _ gS.out).trans rfl)
  change bodyPost _ _ _ _ _ (put8 w3 w.heap.size 3 W H S (.slice a3 n3 c3) (.slice none 0 0))
  obtain ⟨w4, hw4⟩ : ∃ w4, w4 = put8 w3 w.heap.size 3 W H S (.slice a3 n3 c3) (.slice none 0 0) := ⟨_, rfl⟩
  rw [← hw4]
  have hon : Only w.heap.size w3 w4 := hw4 ▸ put8_only _ _ _ _ _ _ _ _
  have hrow := put8_row w3 w.heap.size 3 W H S (.slice a3 n3 c3) (.slice none 0 0) gS.out
  rw [← hw4] at hrow
  have hz2 := HZ2.out
  have hne : ∀ g, (Value.slice a3 n3 c3).ownBlock = some g → g ≠ w.heap.size := fun g hg => by
    have h1 : w2.heap.size ≤ g := ownBlock_ge ho g hg
    omega
  have HO := (ho.mono (show w.heap.size ≤ w2.heap.size by omega)).only hon hne
  have HB4 : Below w.heap.size w w4 := (HB2.out.trans (hb.mono (show w.heap.size ≤ w2.heap.size by omega))).trans (hon.below (by omega))
  clear hw4
  have r0 := (cell_of_row w4 _ 0 _ _ _ hrow).trans (show (pcCells 3 W H S (.slice a3 n3 c3) (.slice none 0 0))[0]? = some _ from rfl)
  have r1 := (cell_of_row w4 _ 1 _ _ _ hrow).trans (show (pcCells 3 W H S (.slice a3 n3 c3) (.slice none 0 0))[1]? = some _ from rfl)
  have r2 := (cell_of_row w4 _ 2 _ _ _ hrow).trans (show (pcCells 3 W H S (.slice a3 n3 c3) (.slice none 0 0))[2]? = some _ from rfl)
  have r3 := (cell_of_row w4 _ 3 _ _ _ hrow).trans (show (pcCells 3 W H S (.slice a3 n3 c3) (.slice none 0 0))[3]? = some _ from rfl)
  have r4 := (cell_of_row w4 _ 4 _ _ _ hrow).trans (show (pcCells 3 W H S (.slice a3 n3 c3) (.slice none 0 0))[4]? = some _ from rfl)
  have r5 := (cell_of_row w4 _ 5 _ _ _ hrow).trans (show (pcCells 3 W H S (.slice a3 n3 c3) (.slice none 0 0))[5]? = some _ from rfl)
  have r6 := (cell_of_row w4 _ 6 _ _ _ hrow).trans (show (pcCells 3 W H S (.slice a3 n3 c3) (.slice none 0 0))[6]? = some _ from rfl)
  have r7 := (cell_of_row w4 _ 7 _ _ _ hrow).trans (show (pcCells 3 W H S (.slice a3 n3 c3) (.slice none 0 0))[7]? = some _ from rfl)
  refine bodyPost_ret (v := pcV 3 W H S (.slice a3 n3 c3) (.slice none 0 0)) (by simp [results, Tryd.results24, go_sem, r0, r1, r2, r3, r4, r5, r6, r7]; rfl) rfl ⟨_, rfl, HO, HB4⟩
theorem po4_imageGray (p : Option Addr) (w : World) : (Instr.typeAssert (.iface 95 (.pointer p)) 82 83 true).run Tryd.prog w = .ok (.tuple #[.pointer none, .bool false]) w := by kernel_rfl
theorem po4_imageGray16 (p : Option Addr) (w : World) : (Instr.typeAssert (.iface 95 (.pointer p)) 82 91 true).run Tryd.prog w = .ok (.tuple #[.pointer none, .bool false]) w := by kernel_rfl
theorem po4_imageRGBA (p : Option Addr) (w : World) : (Instr.typeAssert (.iface 95 (.pointer p)) 82 93 true).run Tryd.prog w = .ok (.tuple #[.pointer none, .bool false]) w := by kernel_rfl
theorem po4_yes (p : Option Addr) (w : World) : (Instr.typeAssert (.iface 95 (.pointer p)) 82 95 true).run Tryd.prog w = .ok (.tuple #[.pointer p, .bool true]) w := by kernel_rfl
set_option maxHeartbeats 3200000 in
set_option maxRecDepth 100000 in
theorem pictureOf_4 (W H S n cap g : Nat) (ad : Option Addr) (l : List UInt8) (w : World) (hg : w.heap[g]? = some (.cells (imgC (.slice ad n cap) W H S).toArray 96 (0, 0))) (hl : Hid (l.length = n)) (hr : RB w ad l) (hn : n ≤ 1000000) (hnil : ad = none → n = 0 ∧ cap = 0)
    : Calls Tryd.prog 24 #[.iface 95 (.pointer (some ⟨g, 0, none⟩))] w (PcEnd 4 W H S l w) := by
  have lg : g < w.heap.size := (Array.getElem?_eq_some_iff.1 hg).1
  obtain ⟨w1, hw1⟩ : ∃ w1, w1 = w.alloc (.cells #[.int .i64 0, .int .i64 0, .int .i64 0, .int .i64 0, .int .i64 0, .int .i64 0, .slice none 0 0, .slice none 0 0] 35) := ⟨_, rfl⟩
  have hb1 : Below w.heap.size w w1 := hw1 ▸ (Below.refl _ _).alloc (Nat.le_refl _) _
  have hz1 : w1.heap.size = w.heap.size + 1 := by rw [hw1, size_alloc]
  have hS : w1.heap[w.heap.size]? = some (.cells #[.int .i64 0, .int .i64 0, .int .i64 0, .int .i64 0, .int .i64 0, .int .i64 0, .slice none 0 0, .slice none 0 0] 35 (0, 0)) := by rw [hw1]; exact alloc_at _ _
  have H1 := (hb1.block g lg).trans hg
  have HR1 := Lib.hid (hr.below hb1)
  have HS := Lib.hid hS
  have HW1 := Lib.hid hw1
  have HB1 := Lib.hid hb1
  have HZ1 := Lib.hid hz1
  have HG := Lib.hid H1
  
  clear hw1 hb1 hz1 hS H1 hg hr
  have q0 := po4_imageGray
  have q1 := po4_imageGray16
  have q2 := po4_imageRGBA
  have q3 := po4_yes
  go_enter Tryd.func24, Tryd.ntmps24
  go_upto_region 13 with fail
  rw [← HW1.out]
  have hlt : w.heap.size < w1.heap.size := by have := HZ1.out; omega
  have f0 : w1.cell? ⟨g, 0, none⟩ = some (.slice ad n cap) := (cell_of_row w1 g 0 _ _ _ HG.out).trans rfl
  have f1 : w1.cell? ⟨g, 1, none⟩ = some (.int .i64 (S : Int)) := (cell_of_row w1 g 1 _ _ _ HG.out).trans rfl
  have f2 : w1.cell? ⟨g, 2, none⟩ = some (.int .i64 0) := (cell_of_row w1 g 2 _ _ _ HG.out).trans rfl
  have f3 : w1.cell? ⟨g, 3, none⟩ = some (.int .i64 0) := (cell_of_row w1 g 3 _ _ _ HG.out).trans rfl
  have f4 : w1.cell? ⟨g, 4, none⟩ = some (.int .i64 (W : Int)) := (cell_of_row w1 g 4 _ _ _ HG.out).trans rfl
  have f5 : w1.cell? ⟨g, 5, none⟩ = some (.int .i64 (H : Int)) := (cell_of_row w1 g 5 _ _ _ HG.out).trans rfl
  go_still_tail 12, (by kernel_rfl)
  change wpList _ _ _ _ _ w1.drew
  clear f0 f1 f2 f3 f4 f5 q0 q1 q2 q3
  obtain ⟨w2, hw2⟩ : ∃ w2, w2 = w1.drew := ⟨_, rfl⟩
  rw [← hw2]
  have HR2 : Hid (RB w2 ad l) := Lib.hid (hw2 ▸ HR1.out)
  have HB2 : Hid (Below w.heap.size w w2) := Lib.hid (hw2 ▸ bdrew HB1.out)
  have HZ2 : Hid (w2.heap.size = w.heap.size + 1) := Lib.hid (hw2 ▸ HZ1.out)
  have HS2 : Hid (w2.heap[w.heap.size]? = some (.cells #[.int .i64 0, .int .i64 0, .int .i64 0, .int .i64 0, .int .i64 0, .int .i64 0, .slice none 0 0, .slice none 0 0] 35 (0, 0))) := Lib.hid (hw2 ▸ HS.out)
  clear hw2 hlt
  go_wp2_with (go_at_call 28; refine (picture_any 4 W H S n cap ad l w2 hl HR2.out hn hnil).mono ?_; rintro e w3 ⟨v, he, ho, hb⟩; obtain ⟨a3, n3, c3, rfl, -⟩ := ho.shapeN; unfold pcV at he; subst he; have gS := Lib.hid ((hb.block w.heap.size (by rw [HZ2.out]; omega)).trans HS2.out); have hlt3 : w.heap.size < w3.heap.size := Nat.lt_of_lt_of_le (by rw [HZ2.out]; omega) hb.size; have z0 : w3.frozen? ⟨w.heap.size, 0, none⟩ = false := frozen_of_row w3 _ 0 _ _ gS.out; have e0 : w3.cell? ⟨w.heap.size, 0, none⟩ = some (Value.int .i64 0) := (cell_of_row w3 _ 0 _ _ _ gS.out).trans rfl; have z1 : w3.frozen? ⟨w.heap.size, 1, none⟩ = false := frozen_of_row w3 _ 1 _ _ gS.out; have e1 : w3.cell? ⟨w.heap.size, 1, none⟩ = some (Value.int .i64 0) := (cell_of_row w3 _ 1 _ _ _ gS.out).trans rfl; have z2 : w3.frozen? ⟨w.heap.size, 2, none⟩ = false := frozen_of_row w3 _ 2 _ _ gS.out; have e2 : w3.cell? ⟨w.heap.size, 2, none⟩ = some (Value.int .i64 0) := (cell_of_row w3 _ 2 _ _ _ gS.out).trans rfl; have z3 : w3.frozen? ⟨w.heap.size, 3, none⟩ = false := frozen_of_row w3 _ 3 _ _ gS.out; have e3 : w3.cell? ⟨w.heap.size, 3, none⟩ = some (Value.int .i64 0) := (cell_of_row w3 _ 3 _ _ _ gS.out).trans rfl; have z4 : w3.frozen? ⟨w.heap.size, 4, none⟩ = false := frozen_of_row w3 _ 4 _ _ gS.out; have e4 : w3.cell? ⟨w.heap.size, 4, none⟩ = some (Value.int .i64 0) := (cell_of_row w3 _ 4 _ _ _ gS.out).trans rfl; have z5 : w3.frozen? ⟨w.heap.size, 5, none⟩ = false := frozen_of_row w3 _ 5 _ _ gS.out; have e5 : w3.cell? ⟨w.heap.size, 5, none⟩ = some (Value.int .i64 0) := (cell_of_row w3 _ 5 _ _ _ gS.out).trans rfl; have z6 : w3.frozen? ⟨w.heap.size, 6, none⟩ = false := frozen_of_row w3 _ 6 _ _ gS.out; have e6 : w3.cell? ⟨w.heap.size, 6, none⟩ = some (Value.slice none 0 0) := (cell_of_row w3 _ 6 _ _ _ gS.out).trans rfl; have z7 : w3.frozen? ⟨w.heap.size, 7, none⟩ = false := frozen_of_row w3 _ 7 _ _ gS.out; have e7 : w3.cell? ⟨w.heap.size, 7, none⟩ = some (Value.slice none 0 0) := (cell_of_row w3 _ 7 _ _ _ gS.out).trans rfl)
  change bodyPost _ _ _ _ _ (put8 w3 w.heap.size 4 W H S (.slice a3 n3 c3) (.slice none 0 0))
  obtain ⟨w4, hw4⟩ : ∃ w4, w4 = put8 w3 w.heap.size 4 W H S (.slice a3 n3 c3) (.slice none 0 0) := ⟨_, rfl⟩
  rw [← hw4]
  have hon : Only w.heap.size w3 w4 := hw4 ▸ put8_only _ _ _ _ _ _ _ _
  have hrow := put8_row w3 w.heap.size 4 W H S (.slice a3 n3 c3) (.slice none 0 0) gS.out
  rw [← hw4] at hrow
  have hz2 := HZ2.out
  have hne : ∀ g, (Value.slice a3 n3 c3).ownBlock = some g → g ≠ w.heap.size := fun g hg => by
    have h1 : w2.heap.size ≤ g := ownBlock_ge ho g hg
    omega
  have HO := (ho.mono (show w.heap.size ≤ w2.heap.size by omega)).only hon hne
  have HB4 : Below w.heap.size w w4 := (HB2.out.trans (hb.mono (show w.heap.size ≤ w2.heap.size by omega))).trans (hon.below (by omega))
  clear hw4
  have r0 := (cell_of_row w4 _ 0 _ _ _ hrow).trans (show (pcCells 4 W H S (.slice a3 n3 c3) (.slice none 0 0))[0]? = some _ from rfl)
  have r1 := (cell_of_row w4 _ 1 _ _ _ hrow).trans (show (pcCells 4 W H S (.slice a3 n3 c3) (.slice none 0 0))[1]? = some _ from rfl)
  have r2 := (cell_of_row w4 _ 2 _ _ _ hrow).trans (show (pcCells 4 W H S (.slice a3 n3 c3) (.slice none 0 0))[2]? = some _ from rfl)
  have r3 := (cell_of_row w4 _ 3 _ _ _ hrow).trans (show (pcCells 4 W H S (.slice a3 n3 c3) (.slice none 0 0))[3]? = some _ from rfl)
  have r4 := (cell_of_row w4 _ 4 _ _ _ hrow).trans (show (pcCells 4 W H S (.slice a3 n3 c3) (.slice none 0 0))[4]? = some _ from rfl)
  have r5 := (cell_of_row w4 _ 5 _ _ _ hrow).trans (show (pcCells 4 W H S (.slice a3 n3 c3) (.slice none 0 0))[5]? = some _ from rfl)
  have r6 := (cell_of_row w4 _ 6 _ _ _ hrow).trans (show (pcCells 4 W H S (.slice a3 n3 c3) (.slice none 0 0))[6]? = some _ from rfl)
  have r7 := (cell_of_row w4 _ 7 _ _ _ hrow).trans (show (pcCells 4 W H S (.slice a3 n3 c3) (.slice none 0 0))[7]? = some _ from rfl)
  refine bodyPost_ret (v := pcV 4 W H S (.slice a3 n3 c3) (.slice none 0 0)) (by simp [results, Tryd.results24, go_sem, r0, r1, r2, r3, r4, r5, r6, r7]; rfl) rfl ⟨_, rfl, HO, HB4⟩
theorem po5_imageGray (p : Option Addr) (w : World) : (Instr.typeAssert (.iface 97 (.pointer p)) 82 83 true).run Tryd.prog w = .ok (.tuple #[.pointer none, .bool false]) w := by kernel_rfl
theorem po5_imageGray16 (p : Option Addr) (w : World) : (Instr.typeAssert (.iface 97 (.pointer p)) 82 91 true).run Tryd.prog w = .ok (.tuple #[.pointer none, .bool false]) w := by kernel_rfl
theorem po5_imageRGBA (p : Option Addr) (w : World) : (Instr.typeAssert (.iface 97 (.pointer p)) 82 93 true).run Tryd.prog w = .ok (.tuple #[.pointer none, .bool false]) w := by kernel_rfl
theorem po5_imageRGBA64 (p : Option Addr) (w : World) : (Instr.typeAssert (.iface 97 (.pointer p)) 82 95 true).run Tryd.prog w = .ok (.tuple #[.pointer none, .bool false]) w := by kernel_rfl
theorem po5_yes (p : Option Addr) (w : World) : (Instr.typeAssert (.iface 97 (.pointer p)) 82 97 true).run Tryd.prog w = .ok (.tuple #[.pointer p, .bool true]) w := by kernel_rfl
set_option maxHeartbeats 3200000 in
set_option maxRecDepth 100000 in
theorem pictureOf_5 (W H S n cap g : Nat) (ad : Option Addr) (l : List UInt8) (w : World) (hg : w.heap[g]? = some (.cells (imgC (.slice ad n cap) W H S).toArray 98 (0, 0))) (hl : Hid (l.length = n)) (hr : RB w ad l) (hn : n ≤ 1000000) (hnil : ad = none → n = 0 ∧ cap = 0)
    : Calls Tryd.prog 24 #[.iface 97 (.pointer (some ⟨g, 0, none⟩))] w (PcEnd 5 W H S l w) := by
  have lg : g < w.heap.size := (Array.getElem?_eq_some_iff.1 hg).1
  obtain ⟨w1, hw1⟩ : ∃ w1, w1 = w.alloc (.cells #[.int .i64 0, .int .i64 0, .int .i64 0, .int .i64 0, .int .i64 0, .int .i64 0, .slice none 0 0, .slice none 0 0] 35) := ⟨_, rfl⟩
  have hb1 : Below w.heap.size w w1 := hw1 ▸ (Below.refl _ _).alloc (Nat.le_refl _) _
  have hz1 : w1.heap.size = w.heap.size + 1 := by rw [hw1, size_alloc]
  have hS : w1.heap[w.heap.size]? = some (.cells #[.int .i64 0, .int .i64 0, .int .i64 0, .int .i64 0, .int .i64 0, .int .i64 0, .slice none 0 0, .slice none 0 0] 35 (0, 0)) := by rw [hw1]; exact alloc_at _ _
  have H1 := (hb1.block g lg).trans hg
  have HR1 := Lib.hid (hr.below hb1)
  have HS := Lib.hid hS
  have HW1 := Lib.hid hw1
  have HB1 := Lib.hid hb1
  have HZ1 := Lib.hid hz1
  have HG := Lib.hid H1
  
  clear hw1 hb1 hz1 hS H1 hg hr
  have q0 := po5_imageGray
  have q1 := po5_imageGray16
  have q2 := po5_imageRGBA
  have q3 := po5_imageRGBA64
  have q4 := po5_yes
  go_enter Tryd.func24, Tryd.ntmps24
  go_upto_region 16 with fail
  rw [← HW1.out]
  have hlt : w.heap.size < w1.heap.size := by have := HZ1.out; omega
  have f0 : w1.cell? ⟨g, 0, none⟩ = some (.slice ad n cap) := (cell_of_row w1 g 0 _ _ _ HG.out).trans rfl
  have f1 : w1.cell? ⟨g, 1, none⟩ = some (.int .i64 (S : Int)) := (cell_of_row w1 g 1 _ _ _ HG.out).trans rfl
  have f2 : w1.cell? ⟨g, 2, none⟩ = some (.int .i64 0) := (cell_of_row w1 g 2 _ _ _ HG.out).trans rfl
  have f3 : w1.cell? ⟨g, 3, none⟩ = some (.int .i64 0) := (cell_of_row w1 g 3 _ _ _ HG.out).trans rfl
  have f4 : w1.cell? ⟨g, 4, none⟩ = some (.int .i64 (W : Int)) := (cell_of_row w1 g 4 _ _ _ HG.out).trans rfl
  have f5 : w1.cell? ⟨g, 5, none⟩ = some (.int .i64 (H : Int)) := (cell_of_row w1 g 5 _ _ _ HG.out).trans rfl
  go_still_tail 12, (by kernel_rfl)
  change wpList _ _ _ _ _ w1.drew
  clear f0 f1 f2 f3 f4 f5 q0 q1 q2 q3 q4
  obtain ⟨w2, hw2⟩ : ∃ w2, w2 = w1.drew := ⟨_, rfl⟩
  rw [← hw2]
  have HR2 : Hid (RB w2 ad l) := Lib.hid (hw2 ▸ HR1.out)
  have HB2 : Hid (Below w.heap.size w w2) := Lib.hid (hw2 ▸ bdrew HB1.out)
  have HZ2 : Hid (w2.heap.size = w.heap.size + 1) := Lib.hid (hw2 ▸ HZ1.out)
  have HS2 : Hid (w2.heap[w.heap.size]? = some (.cells #[.int .i64 0, .int .i64 0, .int .i64 0, .int .i64 0, .int .i64 0, .int .i64 0, .slice none 0 0, .slice none 0 0] 35 (0, 0))) := Lib.hid (hw2 ▸ HS.out)
  clear hw2 hlt
  go_wp2_with (go_at_call 28; refine (picture_any 5 W H S n cap ad l w2 hl HR2.out hn hnil).mono ?_; rintro e w3 ⟨v, he, ho, hb⟩; obtain ⟨a3, n3, c3, rfl, -⟩ := ho.shapeN; unfold pcV at he; subst he; have gS := Lib.hid ((hb.block w.heap.size (by rw [HZ2.out]; omega)).trans HS2.out); have hlt3 : w.heap.size < w3.heap.size := Nat.lt_of_lt_of_le (by rw [HZ2.out]; omega) hb.size; have z0 : w3.frozen? ⟨w.heap.size, 0, none⟩ = false := frozen_of_row w3 _ 0 _ _ gS.out; have e0 : w3.cell? ⟨w.heap.size, 0, none⟩ = some (Value.int .i64 0) := (cell_of_row w3 _ 0 _ _ _ gS.out).trans rfl; have z1 : w3.frozen? ⟨w.heap.size, 1, none⟩ = false := frozen_of_row w3 _ 1 _ _ gS.out; have e1 : w3.cell? ⟨w.heap.size, 1, none⟩ = some (Value.int .i64 0) := (cell_of_row w3 _ 1 _ _ _ gS.out).trans rfl; have z2 : w3.frozen? ⟨w.heap.size, 2, none⟩ = false := frozen_of_row w3 _ 2 _ _ gS.out; have e2 : w3.cell? ⟨w.heap.size, 2, none⟩ = some (Value.int .i64 0) := (cell_of_row w3 _ 2 _ _ _ gS.out).trans rfl; have z3 : w3.frozen? ⟨w.heap.size, 3, none⟩ = false := frozen_of_row w3 _ 3 _ _ gS.out; have e3 : w3.cell? ⟨w.heap.size, 3, none⟩ = some (Value.int .i64 0) := (cell_of_row w3 _ 3 _ _ _ gS.out).trans rfl; have z4 : w3.frozen? ⟨w.heap.size, 4, none⟩ = false := frozen_of_row w3 _ 4 _ _ gS.out; have e4 : w3.cell? ⟨w.heap.size, 4, none⟩ = some (Value.int .i64 0) := (cell_of_row w3 _ 4 _ _ _ gS.out).trans rfl; have z5 : w3.frozen? ⟨w.heap.size, 5, none⟩ = false := frozen_of_row w3 _ 5 _ _ gS.out; have e5 : w3.cell? ⟨w.heap.size, 5, none⟩ = some (Value.int .i64 0) := (cell_of_row w3 _ 5 _ _ _ gS.out).trans rfl; have z6 : w3.frozen? ⟨w.heap.size, 6, none⟩ = false := frozen_of_row w3 _ 6 _ _ gS.out; have e6 : w3.cell? ⟨w.heap.size, 6, none⟩ = some (Value.slice none 0 0) := (cell_of_row w3 _ 6 _ _ _ gS.out).trans rfl; have z7 : w3.frozen? ⟨w.heap.size, 7, none⟩ = false := frozen_of_row w3 _ 7 _ _ gS.out; have e7 : w3.cell? ⟨w.heap.size, 7, none⟩ = some (Value.slice none 0 0) := (cell_of_row w3 _ 7 _ _ _ gS.out).trans rfl)
  change bodyPost _ _ _ _ _ (put8 w3 w.heap.size 5 W H S (.slice a3 n3 c3) (.slice none 0 0))
  obtain ⟨w4, hw4⟩ : ∃ w4, w4 = put8 w3 w.heap.size 5 W H S (.slice a3 n3 c3) (.slice none 0 0) := ⟨_, rfl⟩
  rw [← hw4]
  have hon : Only w.heap.size w3 w4 := hw4 ▸ put8_only _ _ _ _ _ _ _ _
  have hrow := put8_row w3 w.heap.size 5 W H S (.slice a3 n3 c3) (.slice none 0 0) gS.out
  rw [← hw4] at hrow
  have hz2 := HZ2.out
  have hne : ∀ g, (Value.slice a3 n3 c3).ownBlock = some g → g ≠ w.heap.size := fun g hg => by
    have h1 : w2.heap.size ≤ g := ownBlock_ge ho g hg
    omega
  have HO := (ho.mono (show w.heap.size ≤ w2.heap.size by omega)).only hon hne
  have HB4 : Below w.heap.size w w4 := (HB2.out.trans (hb.mono (show w.heap.size ≤ w2.heap.size by omega))).trans (hon.below (by omega))
  clear hw4
  have r0 := (cell_of_row w4 _ 0 _ _ _ hrow).trans (show (pcCells 5 W H S (.slice a3 n3 c3) (.slice none 0 0))[0]? = some _ from rfl)
  have r1 := (cell_of_row w4 _ 1 _ _ _ hrow).trans (show (pcCells 5 W H S (.slice a3 n3 c3) (.slice none 0 0))[1]? = some _ from rfl)
  have r2 := (cell_of_row w4 _ 2 _ _ _ hrow).trans (show (pcCells 5 W H S (.slice a3 n3 c3) (.slice none 0 0))[2]? = some _ from rfl)
  have r3 := (cell_of_row w4 _ 3 _ _ _ hrow).trans (show (pcCells 5 W H S (.slice a3 n3 c3) (.slice none 0 0))[3]? = some _ from rfl)
  have r4 := (cell_of_row w4 _ 4 _ _ _ hrow).trans (show (pcCells 5 W H S (.slice a3 n3 c3) (.slice none 0 0))[4]? = some _ from rfl)
  have r5 := (cell_of_row w4 _ 5 _ _ _ hrow).trans (show (pcCells 5 W H S (.slice a3 n3 c3) (.slice none 0 0))[5]? = some _ from rfl)
  have r6 := (cell_of_row w4 _ 6 _ _ _ hrow).trans (show (pcCells 5 W H S (.slice a3 n3 c3) (.slice none 0 0))[6]? = some _ from rfl)
  have r7 := (cell_of_row w4 _ 7 _ _ _ hrow).trans (show (pcCells 5 W H S (.slice a3 n3 c3) (.slice none 0 0))[7]? = some _ from rfl)
  refine bodyPost_ret (v := pcV 5 W H S (.slice a3 n3 c3) (.slice none 0 0)) (by simp [results, Tryd.results24, go_sem, r0, r1, r2, r3, r4, r5, r6, r7]; rfl) rfl ⟨_, rfl, HO, HB4⟩
theorem po6_imageGray (p : Option Addr) (w : World) : (Instr.typeAssert (.iface 99 (.pointer p)) 82 83 true).run Tryd.prog w = .ok (.tuple #[.pointer none, .bool false]) w := by kernel_rfl
theorem po6_imageGray16 (p : Option Addr) (w : World) : (Instr.typeAssert (.iface 99 (.pointer p)) 82 91 true).run Tryd.prog w = .ok (.tuple #[.pointer none, .bool false]) w := by kernel_rfl
theorem po6_imageRGBA (p : Option Addr) (w : World) : (Instr.typeAssert (.iface 99 (.pointer p)) 82 93 true).run Tryd.prog w = .ok (.tuple #[.pointer none, .bool false]) w := by kernel_rfl
theorem po6_imageRGBA64 (p : Option Addr) (w : World) : (Instr.typeAssert (.iface 99 (.pointer p)) 82 95 true).run Tryd.prog w = .ok (.tuple #[.pointer none, .bool false]) w := by kernel_rfl
theorem po6_imageNRGBA (p : Option Addr) (w : World) : (Instr.typeAssert (.iface 99 (.pointer p)) 82 97 true).run Tryd.prog w = .ok (.tuple #[.pointer none, .bool false]) w := by kernel_rfl
theorem po6_yes (p : Option Addr) (w : World) : (Instr.typeAssert (.iface 99 (.pointer p)) 82 99 true).run Tryd.prog w = .ok (.tuple #[.pointer p, .bool true]) w := by kernel_rfl
set_option maxHeartbeats 3200000 in
set_option maxRecDepth 100000 in
theorem pictureOf_6 (W H S n cap g : Nat) (ad : Option Addr) (l : List UInt8) (w : World) (hg : w.heap[g]? = some (.cells (imgC (.slice ad n cap) W H S).toArray 100 (0, 0))) (hl : Hid (l.length = n)) (hr : RB w ad l) (hn : n ≤ 1000000) (hnil : ad = none → n = 0 ∧ cap = 0)
    : Calls Tryd.prog 24 #[.iface 99 (.pointer (some ⟨g, 0, none⟩))] w (PcEnd 6 W H S l w) := by
  have lg : g < w.heap.size := (Array.getElem?_eq_some_iff.1 hg).1
  obtain ⟨w1, hw1⟩ : ∃ w1, w1 = w.alloc (.cells #[.int .i64 0, .int .i64 0, .int .i64 0, .int .i64 0, .int .i64 0, .int .i64 0, .slice none 0 0, .slice none 0 0] 35) := ⟨_, rfl⟩
  have hb1 : Below w.heap.size w w1 := hw1 ▸ (Below.refl _ _).alloc (Nat.le_refl _) _
  have hz1 : w1.heap.size = w.heap.size + 1 := by rw [hw1, size_alloc]
  have hS : w1.heap[w.heap.size]? = some (.cells #[.int .i64 0, .int .i64 0, .int .i64 0, .int .i64 0, .int .i64 0, .int .i64 0, .slice none 0 0, .slice none 0 0] 35 (0, 0)) := by rw [hw1]; exact alloc_at _ _
  have H1 := (hb1.block g lg).trans hg
  have HR1 := Lib.hid (hr.below hb1)
  have HS := Lib.hid hS
  have HW1 := Lib.hid hw1
  have HB1 := Lib.hid hb1
  have HZ1 := Lib.hid hz1
  have HG := Lib.hid H1
  
  clear hw1 hb1 hz1 hS H1 hg hr
  have q0 := po6_imageGray
  have q1 := po6_imageGray16
  have q2 := po6_imageRGBA
  have q3 := po6_imageRGBA64
  have q4 := po6_imageNRGBA
  have q5 := po6_yes
  go_enter Tryd.func24, Tryd.ntmps24
  go_upto_region 19 with fail
  rw [← HW1.out]
  have hlt : w.heap.size < w1.heap.size := by have := HZ1.out; omega
  have f0 : w1.cell? ⟨g, 0, none⟩ = some (.slice ad n cap) := (cell_of_row w1 g 0 _ _ _ HG.out).trans rfl
  have f1 : w1.cell? ⟨g, 1, none⟩ = some (.int .i64 (S : Int)) := (cell_of_row w1 g 1 _ _ _ HG.out).trans rfl
  have f2 : w1.cell? ⟨g, 2, none⟩ = some (.int .i64 0) := (cell_of_row w1 g 2 _ _ _ HG.out).trans rfl
  have f3 : w1.cell? ⟨g, 3, none⟩ = some (.int .i64 0) := (cell_of_row w1 g 3 _ _ _ HG.out).trans rfl
  have f4 : w1.cell? ⟨g, 4, none⟩ = some (.int .i64 (W : Int)) := (cell_of_row w1 g 4 _ _ _ HG.out).trans rfl
  have f5 : w1.cell? ⟨g, 5, none⟩ = some (.int .i64 (H : Int)) := (cell_of_row w1 g 5 _ _ _ HG.out).trans rfl
  go_still_tail 12, (by kernel_rfl)
  change wpList _ _ _ _ _ w1.drew
  clear f0 f1 f2 f3 f4 f5 q0 q1 q2 q3 q4 q5
  obtain ⟨w2, hw2⟩ : ∃ w2, w2 = w1.drew := ⟨_, rfl⟩
  rw [← hw2]
  have HR2 : Hid (RB w2 ad l) := Lib.hid (hw2 ▸ HR1.out)
  have HB2 : Hid (Below w.heap.size w w2) := Lib.hid (hw2 ▸ bdrew HB1.out)
  have HZ2 : Hid (w2.heap.size = w.heap.size + 1) := Lib.hid (hw2 ▸ HZ1.out)
  have HS2 : Hid (w2.heap[w.heap.size]? = some (.cells #[.int .i64 0, .int .i64 0, .int .i64 0, .int .i64 0, .int .i64 0, .int .i64 0, .slice none 0 0, .slice none 0 0] 35 (0, 0))) := Lib.hid (hw2 ▸ HS.out)
  clear hw2 hlt
  go_wp2_with (go_at_call 28; refine (picture_any 6 W H S n cap ad l w2 hl HR2.out hn hnil).mono ?_; rintro e w3 ⟨v, he, ho, hb⟩; obtain ⟨a3, n3, c3, rfl, -⟩ := ho.shapeN; unfold pcV at he; subst he; have gS := Lib.hid ((hb.block w.heap.size (by rw [HZ2.out]; omega)).trans HS2.out); have hlt3 : w.heap.size < w3.heap.size := Nat.lt_of_lt_of_le (by rw [HZ2.out]; omega) hb.size; have z0 : w3.frozen? ⟨w.heap.size, 0, none⟩ = false := frozen_of_row w3 _ 0 _ _ gS.out; have e0 : w3.cell? ⟨w.heap.size, 0, none⟩ = some (Value.int .i64 0) := (cell_of_row w3 _ 0 _ _ _ gS.out).trans rfl; have z1 : w3.frozen? ⟨w.heap.size, 1, none⟩ = false := frozen_of_row w3 _ 1 _ _ gS.out; have e1 : w3.cell? ⟨w.heap.size, 1, none⟩ = some (Value.int .i64 0) := (cell_of_row w3 _ 1 _ _ _ gS.out).trans rfl; have z2 : w3.frozen? ⟨w.heap.size, 2, none⟩ = false := frozen_of_row w3 _ 2 _ _ gS.out; have e2 : w3.cell? ⟨w.heap.size, 2, none⟩ = some (Value.int .i64 0) := (cell_of_row w3 _ 2 _ _ _ gS.out).trans rfl; have z3 : w3.frozen? ⟨w.heap.size, 3, none⟩ = false := frozen_of_row w3 _ 3 _ _ gS.out; have e3 : w3.cell? ⟨w.heap.size, 3, none⟩ = some (Value.int .i64 0) := (cell_of_row w3 _ 3 _ _ _ gS.out).trans rfl; have z4 : w3.frozen? ⟨w.heap.size, 4, none⟩ = false := frozen_of_row w3 _ 4 _ _ gS.out; have e4 : w3.cell? ⟨w.heap.size, 4, none⟩ = some (Value.int .i64 0) := (cell_of_row w3 _ 4 _ _ _ gS.out).trans rfl; have z5 : w3.frozen? ⟨w.heap.size, 5, none⟩ = false := frozen_of_row w3 _ 5 _ _ gS.out; have e5 : w3.cell? ⟨w.heap.size, 5, none⟩ = some (Value.int .i64 0) := (cell_of_row w3 _ 5 _ _ _ gS.out).trans rfl; have z6 : w3.frozen? ⟨w.heap.size, 6, none⟩ = false := frozen_of_row w3 _ 6 _ _ gS.out; have e6 : w3.cell? ⟨w.heap.size, 6, none⟩ = some (Value.slice none 0 0) := (cell_of_row w3 _ 6 _ _ _ gS.out).trans rfl; have z7 : w3.frozen? ⟨w.heap.size, 7, none⟩ = false := frozen_of_row w3 _ 7 _ _ gS.out; have e7 : w3.cell? ⟨w.heap.size, 7, none⟩ = some (Value.slice none 0 0) := (cell_of_row w3 _ 7 _ _ _ gS.out).trans rfl)
  change bodyPost _ _ _ _ _ (put8 w3 w.heap.size 6 W H S (.slice a3 n3 c3) (.slice none 0 0))
  obtain ⟨w4, hw4⟩ : ∃ w4, w4 = put8 w3 w.heap.size 6 W H S (.slice a3 n3 c3) (.slice none 0 0) := ⟨_, rfl⟩
  rw [← hw4]
  have hon : Only w.heap.size w3 w4 := hw4 ▸ put8_only _ _ _ _ _ _ _ _
  have hrow := put8_row w3 w.heap.size 6 W H S (.slice a3 n3 c3) (.slice none 0 0) gS.out
  rw [← hw4] at hrow
  have hz2 := HZ2.out
  have hne : ∀ g, (Value.slice a3 n3 c3).ownBlock = some g → g ≠ w.heap.size := fun g hg => by
    have h1 : w2.heap.size ≤ g := ownBlock_ge ho g hg
    omega
  have HO := (ho.mono (show w.heap.size ≤ w2.heap.size by omega)).only hon hne
  have HB4 : Below w.heap.size w w4 := (HB2.out.trans (hb.mono (show w.heap.size ≤ w2.heap.size by omega))).trans (hon.below (by omega))
  clear hw4
  have r0 := (cell_of_row w4 _ 0 _ _ _ hrow).trans (show (pcCells 6 W H S (.slice a3 n3 c3) (.slice none 0 0))[0]? = some _ from rfl)
  have r1 := (cell_of_row w4 _ 1 _ _ _ hrow).trans (show (pcCells 6 W H S (.slice a3 n3 c3) (.slice none 0 0))[1]? = some _ from rfl)
  have r2 := (cell_of_row w4 _ 2 _ _ _ hrow).trans (show (pcCells 6 W H S (.slice a3 n3 c3) (.slice none 0 0))[2]? = some _ from rfl)
  have r3 := (cell_of_row w4 _ 3 _ _ _ hrow).trans (show (pcCells 6 W H S (.slice a3 n3 c3) (.slice none 0 0))[3]? = some _ from rfl)
  have r4 := (cell_of_row w4 _ 4 _ _ _ hrow).trans (show (pcCells 6 W H S (.slice a3 n3 c3) (.slice none 0 0))[4]? = some _ from rfl)
  have r5 := (cell_of_row w4 _ 5 _ _ _ hrow).trans (show (pcCells 6 W H S (.slice a3 n3 c3) (.slice none 0 0))[5]? = some _ from rfl)
  have r6 := (cell_of_row w4 _ 6 _ _ _ hrow).trans (show (pcCells 6 W H S (.slice a3 n3 c3) (.slice none 0 0))[6]? = some _ from rfl)
  have r7 := (cell_of_row w4 _ 7 _ _ _ hrow).trans (show (pcCells 6 W H S (.slice a3 n3 c3) (.slice none 0 0))[7]? = some _ from rfl)
  refine bodyPost_ret (v := pcV 6 W H S (.slice a3 n3 c3) (.slice none 0 0)) (by simp [results, Tryd.results24, go_sem, r0, r1, r2, r3, r4, r5, r6, r7]; rfl) rfl ⟨_, rfl, HO, HB4⟩
theorem po7_imageGray (p : Option Addr) (w : World) : (Instr.typeAssert (.iface 101 (.pointer p)) 82 83 true).run Tryd.prog w = .ok (.tuple #[.pointer none, .bool false]) w := by kernel_rfl
theorem po7_imageGray16 (p : Option Addr) (w : World) : (Instr.typeAssert (.iface 101 (.pointer p)) 82 91 true).run Tryd.prog w = .ok (.tuple #[.pointer none, .bool false]) w := by kernel_rfl
theorem po7_imageRGBA (p : Option Addr) (w : World) : (Instr.typeAssert (.iface 101 (.pointer p)) 82 93 true).run Tryd.prog w = .ok (.tuple #[.pointer none, .bool false]) w := by kernel_rfl
theorem po7_imageRGBA64 (p : Option Addr) (w : World) : (Instr.typeAssert (.iface 101 (.pointer p)) 82 95 true).run Tryd.prog w = .ok (.tuple #[.pointer none, .bool false]) w := by kernel_rfl
theorem po7_imageNRGBA (p : Option Addr) (w : World) : (Instr.typeAssert (.iface 101 (.pointer p)) 82 97 true).run Tryd.prog w = .ok (.tuple #[.pointer none, .bool false]) w := by kernel_rfl
theorem po7_imageNRGBA64 (p : Option Addr) (w : World) : (Instr.typeAssert (.iface 101 (.pointer p)) 82 99 true).run Tryd.prog w = .ok (.tuple #[.pointer none, .bool false]) w := by kernel_rfl
theorem po7_yes (p : Option Addr) (w : World) : (Instr.typeAssert (.iface 101 (.pointer p)) 82 101 true).run Tryd.prog w = .ok (.tuple #[.pointer p, .bool true]) w := by kernel_rfl
def Pc7End (W H S : Nat) (l : List UInt8) (SS : List Sh) (w : World) (e : Ending) (w' : World) : Prop :=
  ∃ v av, e = .returned (pcV 7 W H S v av) ∧ OwnB w' w.heap.size v l ∧ w'.ownsRow w.heap.size 64 4 av SS.length (shAll SS) ∧ Below w.heap.size w w'
set_option maxHeartbeats 3200000 in
set_option maxRecDepth 100000 in
theorem pictureOf_7 (W H S n cap g : Nat) (ad : Option Addr) (l : List UInt8) (pa pm pc : Nat) (SS : List Sh) (w : World) (hg : w.heap[g]? = some (.cells (imgC (.slice ad n cap) W H S ++ [Value.slice (some ⟨pa, 0, none⟩) pm pc]).toArray 103 (0, 0))) (hl : Hid (l.length = n)) (hr : RB w ad l) (hn : n ≤ 1000000) (hnil : ad = none → n = 0 ∧ cap = 0)
    (hSS : Hid (SS.length = pm)) (hpal : PalAt w (some ⟨pa, 0, none⟩) SS) (hpm : pm ≤ 1000) : Calls Tryd.prog 24 #[.iface 101 (.pointer (some ⟨g, 0, none⟩))] w (Pc7End W H S l SS w) := by
  have lg : g < w.heap.size := (Array.getElem?_eq_some_iff.1 hg).1
  obtain ⟨w1, hw1⟩ : ∃ w1, w1 = w.alloc (.cells #[.int .i64 0, .int .i64 0, .int .i64 0, .int .i64 0, .int .i64 0, .int .i64 0, .slice none 0 0, .slice none 0 0] 35) := ⟨_, rfl⟩
  have hb1 : Below w.heap.size w w1 := hw1 ▸ (Below.refl _ _).alloc (Nat.le_refl _) _
  have hz1 : w1.heap.size = w.heap.size + 1 := by rw [hw1, size_alloc]
  have hS : w1.heap[w.heap.size]? = some (.cells #[.int .i64 0, .int .i64 0, .int .i64 0, .int .i64 0, .int .i64 0, .int .i64 0, .slice none 0 0, .slice none 0 0] 35 (0, 0)) := by rw [hw1]; exact alloc_at _ _
  have H1 := (hb1.block g lg).trans hg
  have HR1 := Lib.hid (hr.below hb1)
  have HS := Lib.hid hS
  have HW1 := Lib.hid hw1
  have HB1 := Lib.hid hb1
  have HZ1 := Lib.hid hz1
  have HG := Lib.hid H1
  have HPAL := Lib.hid hpal
  clear hw1 hb1 hz1 hS H1 hg hr hpal
  have q0 := po7_imageGray
  have q1 := po7_imageGray16
  have q2 := po7_imageRGBA
  have q3 := po7_imageRGBA64
  have q4 := po7_imageNRGBA
  have q5 := po7_imageNRGBA64
  have q6 := po7_yes
  go_enter Tryd.func24, Tryd.ntmps24
  go_upto_region 22 with fail
  rw [← HW1.out]
  have hlt : w.heap.size < w1.heap.size := by have := HZ1.out; omega
  have hlg : g < w1.heap.size := by have := HZ1.out; omega
  have hz1 : w1.heap.size ≤ w.heap.size + 1 := by have := HZ1.out; omega
  have him : PoAt g (.slice ad n cap) W H S w1.drew := PoAt.of_row HG.out
  clear q0 q1 q2 q3 q4 q5 q6
  refine wp_region_held_drew (S := fun w' => PoAt g (.slice ad n cap) W H S w') (by kernel_rfl) him (fun hHeld => ?_)
  refine take_at 0 (some 111) (v := ?_) rfl rfl (by kernel_rfl) (by kernel_rfl) (by kernel_rfl) (fun _ _ _ h => h) (Or.inl ⟨by rfl, ?_⟩) (by assumption) ?_
  rotate_left
  · intro w hSw
    obtain ⟨c0, c1, c2, c3, c4, c5⟩ := hSw
    go_simp
    first | done | with_reducible rfl
  simp only [Act.put, List.setIfInBounds_toArray, List.set_cons_succ, List.set_cons_zero]
  refine take_at 1 (some 112) (v := ?_) rfl rfl (by kernel_rfl) (by kernel_rfl) (by kernel_rfl) (fun _ _ _ h => h) (Or.inl ⟨by rfl, ?_⟩) (by assumption) ?_
  rotate_left
  · intro w hSw
    obtain ⟨c0, c1, c2, c3, c4, c5⟩ := hSw
    go_simp
    first | done | with_reducible rfl
  simp only [Act.put, List.setIfInBounds_toArray, List.set_cons_succ, List.set_cons_zero]
  refine take_at 2 (some 113) (v := ?_) rfl rfl (by kernel_rfl) (by kernel_rfl) (by kernel_rfl) (fun _ _ _ h => h) (Or.inl ⟨by rfl, ?_⟩) (by assumption) ?_
  rotate_left
  · intro w hSw
    obtain ⟨c0, c1, c2, c3, c4, c5⟩ := hSw
    go_simp
    first | done | with_reducible rfl
  simp only [Act.put, List.setIfInBounds_toArray, List.set_cons_succ, List.set_cons_zero]
  refine take_at 3 (some 114) (v := ?_) rfl rfl (by kernel_rfl) (by kernel_rfl) (by kernel_rfl) (fun _ _ _ h => h) (Or.inl ⟨by rfl, ?_⟩) (by assumption) ?_
  rotate_left
  · intro w hSw
    obtain ⟨c0, c1, c2, c3, c4, c5⟩ := hSw
    go_simp
    first | done | with_reducible rfl
  simp only [Act.put, List.setIfInBounds_toArray, List.set_cons_succ, List.set_cons_zero]
  refine take_at 4 (some 115) (v := ?_) rfl rfl (by kernel_rfl) (by kernel_rfl) (by kernel_rfl) (fun _ _ _ h => h) (Or.inl ⟨by rfl, ?_⟩) (by assumption) ?_
  rotate_left
  · intro w hSw
    obtain ⟨c0, c1, c2, c3, c4, c5⟩ := hSw
    go_simp
    first | done | with_reducible rfl
  simp only [Act.put, List.setIfInBounds_toArray, List.set_cons_succ, List.set_cons_zero]
  refine take_at 5 (some 116) (v := ?_) rfl rfl (by kernel_rfl) (by kernel_rfl) (by kernel_rfl) (fun _ _ _ h => h) (Or.inl ⟨by rfl, ?_⟩) (by assumption) ?_
  rotate_left
  · intro w hSw
    obtain ⟨c0, c1, c2, c3, c4, c5⟩ := hSw
    go_simp
    first | done | with_reducible rfl
  simp only [Act.put, List.setIfInBounds_toArray, List.set_cons_succ, List.set_cons_zero]
  refine take_at 6 (some 117) (v := ?_) rfl rfl (by kernel_rfl) (by kernel_rfl) (by kernel_rfl) (fun _ _ _ h => h) (Or.inl ⟨by rfl, ?_⟩) (by assumption) ?_
  rotate_left
  · intro w hSw
    obtain ⟨c0, c1, c2, c3, c4, c5⟩ := hSw
    go_simp
    first | done | with_reducible rfl
  simp only [Act.put, List.setIfInBounds_toArray, List.set_cons_succ, List.set_cons_zero]
  refine take_at 7 (some 118) (v := ?_) rfl rfl (by kernel_rfl) (by kernel_rfl) (by kernel_rfl) (fun _ _ _ h => h) (Or.inl ⟨by rfl, ?_⟩) (by assumption) ?_
  rotate_left
  · intro w hSw
    obtain ⟨c0, c1, c2, c3, c4, c5⟩ := hSw
    go_simp
    first | done | with_reducible rfl
  simp only [Act.put, List.setIfInBounds_toArray, List.set_cons_succ, List.set_cons_zero]
  refine take_at 8 (some 119) (v := ?_) rfl rfl (by kernel_rfl) (by kernel_rfl) (by kernel_rfl) (fun _ _ _ h => h) (Or.inl ⟨by rfl, ?_⟩) (by assumption) ?_
  rotate_left
  · intro w hSw
    obtain ⟨c0, c1, c2, c3, c4, c5⟩ := hSw
    go_simp
    first | done | with_reducible rfl
  simp only [Act.put, List.setIfInBounds_toArray, List.set_cons_succ, List.set_cons_zero]
  refine take_at 9 (some 120) (v := ?_) rfl rfl (by kernel_rfl) (by kernel_rfl) (by kernel_rfl) (fun _ _ _ h => h) (Or.inl ⟨by rfl, ?_⟩) (by assumption) ?_
  rotate_left
  · intro w hSw
    obtain ⟨c0, c1, c2, c3, c4, c5⟩ := hSw
    go_simp
    first | done | with_reducible rfl
  simp only [Act.put, List.setIfInBounds_toArray, List.set_cons_succ, List.set_cons_zero]
  refine take_at 10 (some 121) (v := ?_) rfl rfl (by kernel_rfl) (by kernel_rfl) (by kernel_rfl) (fun _ _ _ h => h) (Or.inl ⟨by rfl, ?_⟩) (by assumption) ?_
  rotate_left
  · intro w hSw
    obtain ⟨c0, c1, c2, c3, c4, c5⟩ := hSw
    go_simp
    first | done | with_reducible rfl
  simp only [Act.put, List.setIfInBounds_toArray, List.set_cons_succ, List.set_cons_zero]
  refine take_at 11 (some 122) (v := ?_) rfl rfl (by kernel_rfl) (by kernel_rfl) (by kernel_rfl) (fun _ _ _ h => h) (Or.inl ⟨by rfl, ?_⟩) (by assumption) ?_
  rotate_left
  · intro w hSw
    obtain ⟨c0, c1, c2, c3, c4, c5⟩ := hSw
    go_simp
    first | done | with_reducible rfl
  simp only [Act.put, List.setIfInBounds_toArray, List.set_cons_succ, List.set_cons_zero]
  refine wpAnyH_ready (rs := [12, 13]) (by kernel_rfl) (by simp) ?_
  refine AllReadyH.cons rfl (fun K hK => ?_) (AllReadyH.cons rfl (fun K hK => ?_) AllReadyH.nil)
  · go_simp
    have HRc : Hid (RB w1.drew ad l) := HR1
    go_wp2_with (go_at_call 28; refine (picture_any 7 W H S n cap ad l w1.drew hl (by exact HRc.out) hn hnil).mono ?_; rintro e w3 ⟨v, he, ho, hb⟩; obtain ⟨a3, n3, c3, rfl, -⟩ := ho.shapeN; unfold pcV at he; subst he)
    have him3 := him.kept (hb.block g hlg)
    refine hK.out _ _ him3 (fun hHeld => ?_)
    clear hK K
    refine wpAnyH_ready (rs := [13]) (by kernel_rfl) (by simp) ?_
    refine AllReadyH.cons rfl (fun K hK => ?_) AllReadyH.nil
    go_simp
    obtain ⟨N2, hN2⟩ : ∃ N2, N2 = w3.heap.size := ⟨_, rfl⟩
    obtain ⟨w4, hw4⟩ : ∃ w4, w4 = w3.alloc (.cells #[.int .i64 0, .int .i64 0, .int .i64 0, .int .i64 0, .int .i64 0, .int .i64 0, .slice none 0 0, .slice none 0 0] 35) := ⟨_, rfl⟩
    rw [← hw4, ← hN2]
    have hb34 : Below w3.heap.size w3 w4 := hw4 ▸ (Below.refl _ _).alloc (Nat.le_refl _) _
    have hs3 : w1.heap.size ≤ w3.heap.size := hb.size
    have gS2 : w4.heap[N2]? = some (.cells #[.int .i64 0, .int .i64 0, .int .i64 0, .int .i64 0, .int .i64 0, .int .i64 0, .slice none 0 0, .slice none 0 0] 35 (0, 0)) := by rw [hw4, hN2]; exact alloc_at _ _
    have hb4 : Below w1.heap.size w1 w4 := (undrew hb).trans (hb34.mono hs3)
    have ho4 : OwnB w4 w1.heap.size (.slice a3 n3 c3) l := ho.below hb34
    have hnb : ∀ g, (Value.slice a3 n3 c3).ownBlock = some g → g ≠ N2 := fun g hg => by have := (World.ownsRow.lt ho g hg).2; omega
    have hN : w1.heap.size ≤ N2 := by rw [hN2]; exact hs3
    have hs4 : N2 < w4.heap.size := (Array.getElem?_eq_some_iff.1 gS2).1
    refine hK.out _ _ (him3.kept (hb34.block g (Nat.lt_of_lt_of_le hlg hs3))) (fun hHeld => ?_)
    clear hK K hw4 hN2 hb34 ho hb
    have z0 : w4.frozen? ⟨N2, 0, none⟩ = false := frozen_of_row w4 _ 0 _ _ gS2
    have e0 : w4.cell? ⟨N2, 0, none⟩ = some (Value.int .i64 0) := (cell_of_row w4 _ 0 _ _ _ gS2).trans rfl
    have z1 : w4.frozen? ⟨N2, 1, none⟩ = false := frozen_of_row w4 _ 1 _ _ gS2
    have e1 : w4.cell? ⟨N2, 1, none⟩ = some (Value.int .i64 0) := (cell_of_row w4 _ 1 _ _ _ gS2).trans rfl
    have z2 : w4.frozen? ⟨N2, 2, none⟩ = false := frozen_of_row w4 _ 2 _ _ gS2
    have e2 : w4.cell? ⟨N2, 2, none⟩ = some (Value.int .i64 0) := (cell_of_row w4 _ 2 _ _ _ gS2).trans rfl
    have z3 : w4.frozen? ⟨N2, 3, none⟩ = false := frozen_of_row w4 _ 3 _ _ gS2
    have e3 : w4.cell? ⟨N2, 3, none⟩ = some (Value.int .i64 0) := (cell_of_row w4 _ 3 _ _ _ gS2).trans rfl
    have z4 : w4.frozen? ⟨N2, 4, none⟩ = false := frozen_of_row w4 _ 4 _ _ gS2
    have e4 : w4.cell? ⟨N2, 4, none⟩ = some (Value.int .i64 0) := (cell_of_row w4 _ 4 _ _ _ gS2).trans rfl
    have z5 : w4.frozen? ⟨N2, 5, none⟩ = false := frozen_of_row w4 _ 5 _ _ gS2
    have e5 : w4.cell? ⟨N2, 5, none⟩ = some (Value.int .i64 0) := (cell_of_row w4 _ 5 _ _ _ gS2).trans rfl
    have z6 : w4.frozen? ⟨N2, 6, none⟩ = false := frozen_of_row w4 _ 6 _ _ gS2
    have e6 : w4.cell? ⟨N2, 6, none⟩ = some (Value.slice none 0 0) := (cell_of_row w4 _ 6 _ _ _ gS2).trans rfl
    have z7 : w4.frozen? ⟨N2, 7, none⟩ = false := frozen_of_row w4 _ 7 _ _ gS2
    have e7 : w4.cell? ⟨N2, 7, none⟩ = some (Value.slice none 0 0) := (cell_of_row w4 _ 7 _ _ _ gS2).trans rfl
    refine wpAnyH_ready (rs := [14]) (by kernel_rfl) (by simp) ?_
    refine AllReadyH.cons rfl (fun K hK => ?_) AllReadyH.nil
    go_simp
    obtain ⟨w5, hw5⟩ : ∃ w5, w5 = put8 w4 N2 7 W H S (.slice a3 n3 c3) (.slice none 0 0) := ⟨_, rfl⟩
    have hon : Only N2 w4 w5 := hw5 ▸ put8_only _ _ _ _ _ _ _ _
    have hrow := put8_row w4 N2 7 W H S (.slice a3 n3 c3) (.slice none 0 0) gS2
    rw [← hw5] at hrow
    change K _ (put8 w4 N2 7 W H S (.slice a3 n3 c3) (.slice none 0 0))
    rw [← hw5]
    refine hK.out _ _ (hHeld.kept (hon.block g (by omega))) (fun hHeld => ?_)
    clear hK K hw5
    refine wpAnyH_done (by kernel_rfl) ?_ _
    have hB5 : Below w1.heap.size w1 w5 := hb4.trans (hon.below hN)
    have HO5 : Hid (OwnB w5 w1.heap.size (.slice a3 n3 c3) l) := Lib.hid (ho4.only hon hnb)
    have HS5 : Hid (w5.heap[w.heap.size]? = some (.cells #[.int .i64 0, .int .i64 0, .int .i64 0, .int .i64 0, .int .i64 0, .int .i64 0, .slice none 0 0, .slice none 0 0] 35 (0, 0))) := Lib.hid ((hB5.block w.heap.size hlt).trans HS.out)
    have HG5 : Hid (w5.heap[g]? = _) := Lib.hid ((hB5.block g hlg).trans HG.out)
    have HPAL5 : Hid (PalAt w5 (some ⟨pa, 0, none⟩) SS) := Lib.hid (HPAL.out.below (HB1.out.trans (hB5.mono HB1.out.size)))
    have HB5 := Lib.hid hB5
    have HR5 := Lib.hid hrow
    have hs5 : N2 < w5.heap.size := by rw [hon.size]; exact hs4
    have hne2 : N2 ≠ w.heap.size := by omega
    clear him hon hrow hB5 hb4 ho4 gS2 hHeld z0 e0 z1 e1 z2 e2 z3 e3 z4 e4 z5 e5 z6 e6 z7 e7
    have p6 : w5.cell? ⟨g, 6, none⟩ = some (.slice (some ⟨pa, 0, none⟩) pm pc) := (cell_of_row w5 g 6 _ _ _ HG5.out).trans rfl
    go_wp2_with fail
    refine (shadesOf_any (some ⟨pa, 0, none⟩) pc SS pm w5 hSS HPAL5.out hpm).mono ?_
    rintro e w6 ⟨av, rfl, hoa, hb6⟩
    obtain ⟨a6, c6, rfl⟩ := ownsRow_slice hoa
    have gN := Lib.hid ((hb6.block N2 hs5).trans HR5.out)
    have gS := Lib.hid ((hb6.block w.heap.size (by omega)).trans HS5.out)
    have hlt6 : N2 < w6.heap.size := Nat.lt_of_lt_of_le hs5 hb6.size
    have hlt7 : w.heap.size < w6.heap.size := by omega
    have y0 : w6.frozen? ⟨w.heap.size, 0, none⟩ = false := frozen_of_row w6 _ 0 _ _ gS.out
    have x0 : w6.cell? ⟨w.heap.size, 0, none⟩ = some (Value.int .i64 0) := (cell_of_row w6 _ 0 _ _ _ gS.out).trans rfl
    have y1 : w6.frozen? ⟨w.heap.size, 1, none⟩ = false := frozen_of_row w6 _ 1 _ _ gS.out
    have x1 : w6.cell? ⟨w.heap.size, 1, none⟩ = some (Value.int .i64 0) := (cell_of_row w6 _ 1 _ _ _ gS.out).trans rfl
    have y2 : w6.frozen? ⟨w.heap.size, 2, none⟩ = false := frozen_of_row w6 _ 2 _ _ gS.out
    have x2 : w6.cell? ⟨w.heap.size, 2, none⟩ = some (Value.int .i64 0) := (cell_of_row w6 _ 2 _ _ _ gS.out).trans rfl
    have y3 : w6.frozen? ⟨w.heap.size, 3, none⟩ = false := frozen_of_row w6 _ 3 _ _ gS.out
    have x3 : w6.cell? ⟨w.heap.size, 3, none⟩ = some (Value.int .i64 0) := (cell_of_row w6 _ 3 _ _ _ gS.out).trans rfl
    have y4 : w6.frozen? ⟨w.heap.size, 4, none⟩ = false := frozen_of_row w6 _ 4 _ _ gS.out
    have x4 : w6.cell? ⟨w.heap.size, 4, none⟩ = some (Value.int .i64 0) := (cell_of_row w6 _ 4 _ _ _ gS.out).trans rfl
    have y5 : w6.frozen? ⟨w.heap.size, 5, none⟩ = false := frozen_of_row w6 _ 5 _ _ gS.out
    have x5 : w6.cell? ⟨w.heap.size, 5, none⟩ = some (Value.int .i64 0) := (cell_of_row w6 _ 5 _ _ _ gS.out).trans rfl
    have y6 : w6.frozen? ⟨w.heap.size, 6, none⟩ = false := frozen_of_row w6 _ 6 _ _ gS.out
    have x6 : w6.cell? ⟨w.heap.size, 6, none⟩ = some (Value.slice none 0 0) := (cell_of_row w6 _ 6 _ _ _ gS.out).trans rfl
    have y7 : w6.frozen? ⟨w.heap.size, 7, none⟩ = false := frozen_of_row w6 _ 7 _ _ gS.out
    have x7 : w6.cell? ⟨w.heap.size, 7, none⟩ = some (Value.slice none 0 0) := (cell_of_row w6 _ 7 _ _ _ gS.out).trans rfl
    have u0 := (cell_of_row w6 _ 0 _ _ _ gN.out).trans (show (pcCells 7 W H S (.slice a3 n3 c3) (.slice none 0 0))[0]? = some (.int .i64 7) from rfl)
    have u1 := (cell_of_row w6 _ 1 _ _ _ gN.out).trans (show (pcCells 7 W H S (.slice a3 n3 c3) (.slice none 0 0))[1]? = some (.int .i64 0) from rfl)
    have u2 := (cell_of_row w6 _ 2 _ _ _ gN.out).trans (show (pcCells 7 W H S (.slice a3 n3 c3) (.slice none 0 0))[2]? = some (.int .i64 0) from rfl)
    have u3 := (cell_of_row w6 _ 3 _ _ _ gN.out).trans (show (pcCells 7 W H S (.slice a3 n3 c3) (.slice none 0 0))[3]? = some (.int .i64 (W : Int)) from rfl)
    have u4 := (cell_of_row w6 _ 4 _ _ _ gN.out).trans (show (pcCells 7 W H S (.slice a3 n3 c3) (.slice none 0 0))[4]? = some (.int .i64 (H : Int)) from rfl)
    have u5 := (cell_of_row w6 _ 5 _ _ _ gN.out).trans (show (pcCells 7 W H S (.slice a3 n3 c3) (.slice none 0 0))[5]? = some (.int .i64 (S : Int)) from rfl)
    have u6 := (cell_of_row w6 _ 6 _ _ _ gN.out).trans (show (pcCells 7 W H S (.slice a3 n3 c3) (.slice none 0 0))[6]? = some (.slice a3 n3 c3) from rfl)
    have u7 := (cell_of_row w6 _ 7 _ _ _ gN.out).trans (show (pcCells 7 W H S (.slice a3 n3 c3) (.slice none 0 0))[7]? = some (.slice none 0 0) from rfl)
    have t7 : w6.frozen? ⟨N2, 7, none⟩ = false := frozen_of_row w6 _ 7 _ _ gN.out
    go_wp2_with fail
    obtain ⟨w7, hw7⟩ : ∃ w7, w7 = w6.setCell ⟨N2, 7, none⟩ (.slice a6 SS.length c6) := ⟨_, rfl⟩
    change bodyPost _ _ _ _ _ (put8 (w6.setCell ⟨N2, 7, none⟩ (.slice a6 SS.length c6)) w.heap.size 7 W H S (.slice a3 n3 c3) (.slice a6 SS.length c6))
    rw [← hw7]
    have on7 : Only N2 w6 w7 := hw7 ▸ (Only.refl _ _).setCell _ _
    obtain ⟨w8, hw8⟩ : ∃ w8, w8 = put8 w7 w.heap.size 7 W H S (.slice a3 n3 c3) (.slice a6 SS.length c6) := ⟨_, rfl⟩
    rw [← hw8]
    have on8 : Only w.heap.size w7 w8 := hw8 ▸ put8_only _ _ _ _ _ _ _ _
    have hrow := put8_row w7 w.heap.size 7 W H S (.slice a3 n3 c3) (.slice a6 SS.length c6) ((on7.block w.heap.size (Ne.symm hne2)).trans gS.out)
    rw [← hw8] at hrow
    have hsz5 : w1.heap.size ≤ w5.heap.size := HB5.out.size
    have hnb5 : ∀ g, (Value.slice a3 n3 c3).ownBlock = some g → g ≠ N2 ∧ g ≠ w.heap.size := fun g hg => ⟨hnb g hg, fun e => by have := ownBlock_ge HO5.out g hg; omega⟩
    have hna : ∀ g, (Value.slice a6 SS.length c6).ownBlock = some g → w5.heap.size ≤ g := fun g hg => (World.ownsRow.lt hoa g hg).1
    have HO8 : OwnB w8 w.heap.size (.slice a3 n3 c3) l := (((HO5.out.below hb6).mono (show w.heap.size ≤ w1.heap.size by omega)).only on7 (fun g hg => (hnb5 g hg).1)).only on8 (fun g hg => (hnb5 g hg).2)
    have HA8 : w8.ownsRow w.heap.size 64 4 (.slice a6 SS.length c6) SS.length (shAll SS) := ownsRow_only (ownsRow_only (ownsRow_mono hoa (show w.heap.size ≤ w5.heap.size by omega)) on7 (fun g hg => by have := hna g hg; omega)) on8 (fun g hg => by have := hna g hg; omega)
    have HB8 : Below w.heap.size w w8 := (((HB1.out.trans (HB5.out.mono (by omega))).trans (hb6.mono (by omega))).trans (on7.below (by omega))).trans (on8.below (by omega))
    clear hw7 hw8
    have r0 := (cell_of_row w8 _ 0 _ _ _ hrow).trans (show (pcCells 7 W H S (.slice a3 n3 c3) (.slice a6 SS.length c6))[0]? = some (.int .i64 7) from rfl)
    have r1 := (cell_of_row w8 _ 1 _ _ _ hrow).trans (show (pcCells 7 W H S (.slice a3 n3 c3) (.slice a6 SS.length c6))[1]? = some (.int .i64 0) from rfl)
    have r2 := (cell_of_row w8 _ 2 _ _ _ hrow).trans (show (pcCells 7 W H S (.slice a3 n3 c3) (.slice a6 SS.length c6))[2]? = some (.int .i64 0) from rfl)
    have r3 := (cell_of_row w8 _ 3 _ _ _ hrow).trans (show (pcCells 7 W H S (.slice a3 n3 c3) (.slice a6 SS.length c6))[3]? = some (.int .i64 (W : Int)) from rfl)
    have r4 := (cell_of_row w8 _ 4 _ _ _ hrow).trans (show (pcCells 7 W H S (.slice a3 n3 c3) (.slice a6 SS.length c6))[4]? = some (.int .i64 (H : Int)) from rfl)
    have r5 := (cell_of_row w8 _ 5 _ _ _ hrow).trans (show (pcCells 7 W H S (.slice a3 n3 c3) (.slice a6 SS.length c6))[5]? = some (.int .i64 (S : Int)) from rfl)
    have r6 := (cell_of_row w8 _ 6 _ _ _ hrow).trans (show (pcCells 7 W H S (.slice a3 n3 c3) (.slice a6 SS.length c6))[6]? = some (.slice a3 n3 c3) from rfl)
    have r7 := (cell_of_row w8 _ 7 _ _ _ hrow).trans (show (pcCells 7 W H S (.slice a3 n3 c3) (.slice a6 SS.length c6))[7]? = some (.slice a6 SS.length c6) from rfl)
    refine bodyPost_ret (v := pcV 7 W H S (.slice a3 n3 c3) (.slice a6 SS.length c6)) (by simp [results, Tryd.results24, go_sem, r0, r1, r2, r3, r4, r5, r6, r7]; rfl) rfl ⟨_, _, rfl, HO8, HA8, HB8⟩
  · go_simp
    obtain ⟨N2, hN2⟩ : ∃ N2, N2 = w1.heap.size := ⟨_, rfl⟩
    obtain ⟨wa, hwa⟩ : ∃ wa, wa = (w1.alloc (.cells #[.int .i64 0, .int .i64 0, .int .i64 0, .int .i64 0, .int .i64 0, .int .i64 0, .slice none 0 0, .slice none 0 0] 35)).drew := ⟨_, rfl⟩
    rw [← hwa, ← hN2]
    have hba : Below w1.heap.size w1 wa := hwa ▸ bdrew ((Below.refl _ _).alloc (Nat.le_refl _) _)
    have gSa : wa.heap[N2]? = some (.cells #[.int .i64 0, .int .i64 0, .int .i64 0, .int .i64 0, .int .i64 0, .int .i64 0, .slice none 0 0, .slice none 0 0] 35 (0, 0)) := by rw [hwa, hN2]; exact alloc_at _ _
    have hza : N2 + 1 ≤ wa.heap.size := by rw [hwa, hN2]; exact Nat.le_of_eq (size_alloc _ _).symm
    have hNa : w1.heap.size ≤ N2 := by omega
    have hNb : N2 ≤ w1.heap.size := by omega
    have hima := him.kept (w' := wa) (hba.block g hlg)
    refine hK.out _ _ hima (fun hHeld => ?_)
    clear hK K hwa hN2
    refine wpAnyH_ready (rs := [12]) (by kernel_rfl) (by simp) ?_
    refine AllReadyH.cons rfl (fun K hK => ?_) AllReadyH.nil
    go_simp
    have HRc : Hid (RB wa ad l) := Lib.hid (HR1.out.below hba)
    go_wp2_with (go_at_call 28; refine (picture_any 7 W H S n cap ad l wa hl (by exact HRc.out) hn hnil).mono ?_; rintro e w3 ⟨v, he, ho, hb⟩; obtain ⟨a3, n3, c3, rfl, -⟩ := ho.shapeN; unfold pcV at he; subst he)
    obtain ⟨w4, rfl⟩ : ∃ w4, w4 = w3 := ⟨_, rfl⟩
    have gS2 : w4.heap[N2]? = some (.cells #[.int .i64 0, .int .i64 0, .int .i64 0, .int .i64 0, .int .i64 0, .int .i64 0, .slice none 0 0, .slice none 0 0] 35 (0, 0)) := (hb.block N2 (by omega)).trans gSa
    have hb4 : Below w1.heap.size w1 w4 := hba.trans (hb.mono (by omega))
    have ho4 : OwnB w4 w1.heap.size (.slice a3 n3 c3) l := ho.mono (by omega)
    have hnb : ∀ g, (Value.slice a3 n3 c3).ownBlock = some g → g ≠ N2 := fun g hg => by have := ownBlock_ge ho g hg; omega
    have hN : w1.heap.size ≤ N2 := by omega
    have hs4 : N2 < w4.heap.size := (Array.getElem?_eq_some_iff.1 gS2).1
    refine hK.out _ _ (hima.kept (hb.block g (by omega))) (fun hHeld => ?_)
    clear hK K ho hb hba gSa hza hima
    have z0 : w4.frozen? ⟨N2, 0, none⟩ = false := frozen_of_row w4 _ 0 _ _ gS2
    have e0 : w4.cell? ⟨N2, 0, none⟩ = some (Value.int .i64 0) := (cell_of_row w4 _ 0 _ _ _ gS2).trans rfl
    have z1 : w4.frozen? ⟨N2, 1, none⟩ = false := frozen_of_row w4 _ 1 _ _ gS2
    have e1 : w4.cell? ⟨N2, 1, none⟩ = some (Value.int .i64 0) := (cell_of_row w4 _ 1 _ _ _ gS2).trans rfl
    have z2 : w4.frozen? ⟨N2, 2, none⟩ = false := frozen_of_row w4 _ 2 _ _ gS2
    have e2 : w4.cell? ⟨N2, 2, none⟩ = some (Value.int .i64 0) := (cell_of_row w4 _ 2 _ _ _ gS2).trans rfl
    have z3 : w4.frozen? ⟨N2, 3, none⟩ = false := frozen_of_row w4 _ 3 _ _ gS2
    have e3 : w4.cell? ⟨N2, 3, none⟩ = some (Value.int .i64 0) := (cell_of_row w4 _ 3 _ _ _ gS2).trans rfl
    have z4 : w4.frozen? ⟨N2, 4, none⟩ = false := frozen_of_row w4 _ 4 _ _ gS2
    have e4 : w4.cell? ⟨N2, 4, none⟩ = some (Value.int .i64 0) := (cell_of_row w4 _ 4 _ _ _ gS2).trans rfl
    have z5 : w4.frozen? ⟨N2, 5, none⟩ = false := frozen_of_row w4 _ 5 _ _ gS2
    have e5 : w4.cell? ⟨N2, 5, none⟩ = some (Value.int .i64 0) := (cell_of_row w4 _ 5 _ _ _ gS2).trans rfl
    have z6 : w4.frozen? ⟨N2, 6, none⟩ = false := frozen_of_row w4 _ 6 _ _ gS2
    have e6 : w4.cell? ⟨N2, 6, none⟩ = some (Value.slice none 0 0) := (cell_of_row w4 _ 6 _ _ _ gS2).trans rfl
    have z7 : w4.frozen? ⟨N2, 7, none⟩ = false := frozen_of_row w4 _ 7 _ _ gS2
    have e7 : w4.cell? ⟨N2, 7, none⟩ = some (Value.slice none 0 0) := (cell_of_row w4 _ 7 _ _ _ gS2).trans rfl
    refine wpAnyH_ready (rs := [14]) (by kernel_rfl) (by simp) ?_
    refine AllReadyH.cons rfl (fun K hK => ?_) AllReadyH.nil
    go_simp
    obtain ⟨w5, hw5⟩ : ∃ w5, w5 = put8 w4 N2 7 W H S (.slice a3 n3 c3) (.slice none 0 0) := ⟨_, rfl⟩
    have hon : Only N2 w4 w5 := hw5 ▸ put8_only _ _ _ _ _ _ _ _
    have hrow := put8_row w4 N2 7 W H S (.slice a3 n3 c3) (.slice none 0 0) gS2
    rw [← hw5] at hrow
    change K _ (put8 w4 N2 7 W H S (.slice a3 n3 c3) (.slice none 0 0))
    rw [← hw5]
    refine hK.out _ _ (hHeld.kept (hon.block g (by omega))) (fun hHeld => ?_)
    clear hK K hw5
    refine wpAnyH_done (by kernel_rfl) ?_ _
    have hB5 : Below w1.heap.size w1 w5 := hb4.trans (hon.below hN)
    have HO5 : Hid (OwnB w5 w1.heap.size (.slice a3 n3 c3) l) := Lib.hid (ho4.only hon hnb)
    have HS5 : Hid (w5.heap[w.heap.size]? = some (.cells #[.int .i64 0, .int .i64 0, .int .i64 0, .int .i64 0, .int .i64 0, .int .i64 0, .slice none 0 0, .slice none 0 0] 35 (0, 0))) := Lib.hid ((hB5.block w.heap.size hlt).trans HS.out)
    have HG5 : Hid (w5.heap[g]? = _) := Lib.hid ((hB5.block g hlg).trans HG.out)
    have HPAL5 : Hid (PalAt w5 (some ⟨pa, 0, none⟩) SS) := Lib.hid (HPAL.out.below (HB1.out.trans (hB5.mono HB1.out.size)))
    have HB5 := Lib.hid hB5
    have HR5 := Lib.hid hrow
    have hs5 : N2 < w5.heap.size := by rw [hon.size]; exact hs4
    have hne2 : N2 ≠ w.heap.size := by omega
    clear him hon hrow hB5 hb4 ho4 gS2 hHeld z0 e0 z1 e1 z2 e2 z3 e3 z4 e4 z5 e5 z6 e6 z7 e7
    have p6 : w5.cell? ⟨g, 6, none⟩ = some (.slice (some ⟨pa, 0, none⟩) pm pc) := (cell_of_row w5 g 6 _ _ _ HG5.out).trans rfl
    go_wp2_with fail
    refine (shadesOf_any (some ⟨pa, 0, none⟩) pc SS pm w5 hSS HPAL5.out hpm).mono ?_
    rintro e w6 ⟨av, rfl, hoa, hb6⟩
    obtain ⟨a6, c6, rfl⟩ := ownsRow_slice hoa
    have gN := Lib.hid ((hb6.block N2 hs5).trans HR5.out)
    have gS := Lib.hid ((hb6.block w.heap.size (by omega)).trans HS5.out)
    have hlt6 : N2 < w6.heap.size := Nat.lt_of_lt_of_le hs5 hb6.size
    have hlt7 : w.heap.size < w6.heap.size := by omega
    have y0 : w6.frozen? ⟨w.heap.size, 0, none⟩ = false := frozen_of_row w6 _ 0 _ _ gS.out
    have x0 : w6.cell? ⟨w.heap.size, 0, none⟩ = some (Value.int .i64 0) := (cell_of_row w6 _ 0 _ _ _ gS.out).trans rfl
    have y1 : w6.frozen? ⟨w.heap.size, 1, none⟩ = false := frozen_of_row w6 _ 1 _ _ gS.out
    have x1 : w6.cell? ⟨w.heap.size, 1, none⟩ = some (Value.int .i64 0) := (cell_of_row w6 _ 1 _ _ _ gS.out).trans rfl
    have y2 : w6.frozen? ⟨w.heap.size, 2, none⟩ = false := frozen_of_row w6 _ 2 _ _ gS.out
    have x2 : w6.cell? ⟨w.heap.size, 2, none⟩ = some (Value.int .i64 0) := (cell_of_row w6 _ 2 _ _ _ gS.out).trans rfl
    have y3 : w6.frozen? ⟨w.heap.size, 3, none⟩ = false := frozen_of_row w6 _ 3 _ _ gS.out
    have x3 : w6.cell? ⟨w.heap.size, 3, none⟩ = some (Value.int .i64 0) := (cell_of_row w6 _ 3 _ _ _ gS.out).trans rfl
    have y4 : w6.frozen? ⟨w.heap.size, 4, none⟩ = false := frozen_of_row w6 _ 4 _ _ gS.out
    have x4 : w6.cell? ⟨w.heap.size, 4, none⟩ = some (Value.int .i64 0) := (cell_of_row w6 _ 4 _ _ _ gS.out).trans rfl
    have y5 : w6.frozen? ⟨w.heap.size, 5, none⟩ = false := frozen_of_row w6 _ 5 _ _ gS.out
    have x5 : w6.cell? ⟨w.heap.size, 5, none⟩ = some (Value.int .i64 0) := (cell_of_row w6 _ 5 _ _ _ gS.out).trans rfl
    have y6 : w6.frozen? ⟨w.heap.size, 6, none⟩ = false := frozen_of_row w6 _ 6 _ _ gS.out
    have x6 : w6.cell? ⟨w.heap.size, 6, none⟩ = some (Value.slice none 0 0) := (cell_of_row w6 _ 6 _ _ _ gS.out).trans rfl
    have y7 : w6.frozen? ⟨w.heap.size, 7, none⟩ = false := frozen_of_row w6 _ 7 _ _ gS.out
    have x7 : w6.cell? ⟨w.heap.size, 7, none⟩ = some (Value.slice none 0 0) := (cell_of_row w6 _ 7 _ _ _ gS.out).trans rfl
    have u0 := (cell_of_row w6 _ 0 _ _ _ gN.out).trans (show (pcCells 7 W H S (.slice a3 n3 c3) (.slice none 0 0))[0]? = some (.int .i64 7) from rfl)
    have u1 := (cell_of_row w6 _ 1 _ _ _ gN.out).trans (show (pcCells 7 W H S (.slice a3 n3 c3) (.slice none 0 0))[1]? = some (.int .i64 0) from rfl)
    have u2 := (cell_of_row w6 _ 2 _ _ _ gN.out).trans (show (pcCells 7 W H S (.slice a3 n3 c3) (.slice none 0 0))[2]? = some (.int .i64 0) from rfl)
    have u3 := (cell_of_row w6 _ 3 _ _ _ gN.out).trans (show (pcCells 7 W H S (.slice a3 n3 c3) (.slice none 0 0))[3]? = some (.int .i64 (W : Int)) from rfl)
    have u4 := (cell_of_row w6 _ 4 _ _ _ gN.out).trans (show (pcCells 7 W H S (.slice a3 n3 c3) (.slice none 0 0))[4]? = some (.int .i64 (H : Int)) from rfl)
    have u5 := (cell_of_row w6 _ 5 _ _ _ gN.out).trans (show (pcCells 7 W H S (.slice a3 n3 c3) (.slice none 0 0))[5]? = some (.int .i64 (S : Int)) from rfl)
    have u6 := (cell_of_row w6 _ 6 _ _ _ gN.out).trans (show (pcCells 7 W H S (.slice a3 n3 c3) (.slice none 0 0))[6]? = some (.slice a3 n3 c3) from rfl)
    have u7 := (cell_of_row w6 _ 7 _ _ _ gN.out).trans (show (pcCells 7 W H S (.slice a3 n3 c3) (.slice none 0 0))[7]? = some (.slice none 0 0) from rfl)
    have t7 : w6.frozen? ⟨N2, 7, none⟩ = false := frozen_of_row w6 _ 7 _ _ gN.out
    go_wp2_with fail
    obtain ⟨w7, hw7⟩ : ∃ w7, w7 = w6.setCell ⟨N2, 7, none⟩ (.slice a6 SS.length c6) := ⟨_, rfl⟩
    change bodyPost _ _ _ _ _ (put8 (w6.setCell ⟨N2, 7, none⟩ (.slice a6 SS.length c6)) w.heap.size 7 W H S (.slice a3 n3 c3) (.slice a6 SS.length c6))
    rw [← hw7]
    have on7 : Only N2 w6 w7 := hw7 ▸ (Only.refl _ _).setCell _ _
    obtain ⟨w8, hw8⟩ : ∃ w8, w8 = put8 w7 w.heap.size 7 W H S (.slice a3 n3 c3) (.slice a6 SS.length c6) := ⟨_, rfl⟩
    rw [← hw8]
    have on8 : Only w.heap.size w7 w8 := hw8 ▸ put8_only _ _ _ _ _ _ _ _
    have hrow := put8_row w7 w.heap.size 7 W H S (.slice a3 n3 c3) (.slice a6 SS.length c6) ((on7.block w.heap.size (Ne.symm hne2)).trans gS.out)
    rw [← hw8] at hrow
    have hsz5 : w1.heap.size ≤ w5.heap.size := HB5.out.size
    have hnb5 : ∀ g, (Value.slice a3 n3 c3).ownBlock = some g → g ≠ N2 ∧ g ≠ w.heap.size := fun g hg => ⟨hnb g hg, fun e => by have := ownBlock_ge HO5.out g hg; omega⟩
    have hna : ∀ g, (Value.slice a6 SS.length c6).ownBlock = some g → w5.heap.size ≤ g := fun g hg => (World.ownsRow.lt hoa g hg).1
    have HO8 : OwnB w8 w.heap.size (.slice a3 n3 c3) l := (((HO5.out.below hb6).mono (show w.heap.size ≤ w1.heap.size by omega)).only on7 (fun g hg => (hnb5 g hg).1)).only on8 (fun g hg => (hnb5 g hg).2)
    have HA8 : w8.ownsRow w.heap.size 64 4 (.slice a6 SS.length c6) SS.length (shAll SS) := ownsRow_only (ownsRow_only (ownsRow_mono hoa (show w.heap.size ≤ w5.heap.size by omega)) on7 (fun g hg => by have := hna g hg; omega)) on8 (fun g hg => by have := hna g hg; omega)
    have HB8 : Below w.heap.size w w8 := (((HB1.out.trans (HB5.out.mono (by omega))).trans (hb6.mono (by omega))).trans (on7.below (by omega))).trans (on8.below (by omega))
    clear hw7 hw8
    have r0 := (cell_of_row w8 _ 0 _ _ _ hrow).trans (show (pcCells 7 W H S (.slice a3 n3 c3) (.slice a6 SS.length c6))[0]? = some (.int .i64 7) from rfl)
    have r1 := (cell_of_row w8 _ 1 _ _ _ hrow).trans (show (pcCells 7 W H S (.slice a3 n3 c3) (.slice a6 SS.length c6))[1]? = some (.int .i64 0) from rfl)
    have r2 := (cell_of_row w8 _ 2 _ _ _ hrow).trans (show (pcCells 7 W H S (.slice a3 n3 c3) (.slice a6 SS.length c6))[2]? = some (.int .i64 0) from rfl)
    have r3 := (cell_of_row w8 _ 3 _ _ _ hrow).trans (show (pcCells 7 W H S (.slice a3 n3 c3) (.slice a6 SS.length c6))[3]? = some (.int .i64 (W : Int)) from rfl)
    have r4 := (cell_of_row w8 _ 4 _ _ _ hrow).trans (show (pcCells 7 W H S (.slice a3 n3 c3) (.slice a6 SS.length c6))[4]? = some (.int .i64 (H : Int)) from rfl)
    have r5 := (cell_of_row w8 _ 5 _ _ _ hrow).trans (show (pcCells 7 W H S (.slice a3 n3 c3) (.slice a6 SS.length c6))[5]? = some (.int .i64 (S : Int)) from rfl)
    have r6 := (cell_of_row w8 _ 6 _ _ _ hrow).trans (show (pcCells 7 W H S (.slice a3 n3 c3) (.slice a6 SS.length c6))[6]? = some (.slice a3 n3 c3) from rfl)
    have r7 := (cell_of_row w8 _ 7 _ _ _ hrow).trans (show (pcCells 7 W H S (.slice a3 n3 c3) (.slice a6 SS.length c6))[7]? = some (.slice a6 SS.length c6) from rfl)
    refine bodyPost_ret (v := pcV 7 W H S (.slice a3 n3 c3) (.slice a6 SS.length c6)) (by simp [results, Tryd.results24, go_sem, r0, r1, r2, r3, r4, r5, r6, r7]; rfl) rfl ⟨_, _, rfl, HO8, HA8, HB8⟩

end Go.Proofs.YtkiibhpmembcgaaDoor
