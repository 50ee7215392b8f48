/- The contract of mergePassInto at one kind of picture. Printed by gen/mgmerge.py 7. -/
import Derived.Test.YtcfafomnoejemaaDoorMgCopy
import Derived.Test.YtcfafomnoejemaaDoorMgImg
import Derived.StillTailTactics
import Derived.Deep.QuietTactic
import Derived.BigQuiet
namespace Go.Proofs.YtcfafomnoejemaaDoor
open Go.ChangeShapes Go.WideShapes Go.ChangeAt Go.RowKit Go.IntWalk


theorem as7_imageAlpha (p : Option Addr) (w : World) : (Instr.typeAssert (.iface 61 (.pointer p)) 67 83 true).run Tryd.prog w = .ok (.tuple #[.pointer none, .bool false]) w := by kernel_rfl
theorem as7_imageAlpha16 (p : Option Addr) (w : World) : (Instr.typeAssert (.iface 61 (.pointer p)) 67 85 true).run Tryd.prog w = .ok (.tuple #[.pointer none, .bool false]) w := by kernel_rfl
theorem as7_imageGray (p : Option Addr) (w : World) : (Instr.typeAssert (.iface 61 (.pointer p)) 67 48 true).run Tryd.prog w = .ok (.tuple #[.pointer none, .bool false]) w := by kernel_rfl
theorem as7_imageGray16 (p : Option Addr) (w : World) : (Instr.typeAssert (.iface 61 (.pointer p)) 67 51 true).run Tryd.prog w = .ok (.tuple #[.pointer none, .bool false]) w := by kernel_rfl
theorem as7_imageNRGBA (p : Option Addr) (w : World) : (Instr.typeAssert (.iface 61 (.pointer p)) 67 57 true).run Tryd.prog w = .ok (.tuple #[.pointer none, .bool false]) w := by kernel_rfl
theorem as7_imageNRGBA64 (p : Option Addr) (w : World) : (Instr.typeAssert (.iface 61 (.pointer p)) 67 59 true).run Tryd.prog w = .ok (.tuple #[.pointer none, .bool false]) w := by kernel_rfl
theorem as7_yes (p : Option Addr) (w : World) : (Instr.typeAssert (.iface 61 (.pointer p)) 67 61 true).run Tryd.prog w = .ok (.tuple #[.pointer p, .bool true]) w := by kernel_rfl
theorem as7_one (p : Option Addr) (w : World) : (Instr.typeAssert (.iface 61 (.pointer p)) 67 61 false).run Tryd.prog w = .ok (.pointer p) w := by kernel_rfl
theorem nilAhead_b7 (a : Addr) (w : World) : (nilAhead 217 61 (.pointer (some a)) "Bounds").run Tryd.prog w = .ok (some false) w := by kernel_rfl
theorem method_b7 (a : Addr) (w : World) : (method 217 61 (.pointer (some a)) "Bounds").run Tryd.prog w = .ok (56, .pointer (some a)) w := by kernel_rfl
theorem bounds_7 (g W H S : Nat) (v pv : Value) (w : World) (h : w.heap[g]? = some (.cells (imgC v W H S ++ [pv]).toArray 66 (0, 0))) :
    Calls Tryd.prog 56 #[.pointer (some ⟨g, 0, none⟩)] w fun e w' => e = .returned (.agg #[.int .i64 0, .int .i64 0, .int .i64 (W : Int), .int .i64 (H : Int)]) ∧ Below w.heap.size w w' := by
  have hg : g < w.heap.size := (Array.getElem?_eq_some_iff.1 h).1
  have c2 : w.cell? ⟨g, 2, none⟩ = some (.int .i64 0) := by rw [cell_of_row w g 2 _ _ _ h]; rfl
  have c3 : w.cell? ⟨g, 3, none⟩ = some (.int .i64 0) := by rw [cell_of_row w g 3 _ _ _ h]; rfl
  have c4 : w.cell? ⟨g, 4, none⟩ = some (.int .i64 (W : Int)) := by rw [cell_of_row w g 4 _ _ _ h]; rfl
  have c5 : w.cell? ⟨g, 5, none⟩ = some (.int .i64 (H : Int)) := by rw [cell_of_row w g 5 _ _ _ h]; rfl
  clear h
  go_enter Tryd.func56, Tryd.ntmps56
  go_wp2_with fail
  refine bodyPost_ret (v := .agg #[.int .i64 0, .int .i64 0, .int .i64 (W : Int), .int .i64 (H : Int)]) (by simp [results, Tryd.results56, go_sem]) rfl ⟨rfl, ?_⟩
  repeat (first | exact Below.refl _ _ | refine Below.alloc ?_ (by first | exact Nat.le_refl _ | ((repeat (first | rw [size_alloc] | rw [size_set])) <;> omega)) _ | refine Below.setCell ?_ (by first | exact Nat.le_refl _ | ((repeat (first | rw [size_alloc] | rw [size_set])) <;> omega)) _)

set_option maxHeartbeats 3200000 in
set_option maxRecDepth 100000 in
theorem merge_7 (p : Nat) (q : Pt) (W H pw ph L1 S1 S2 g1 p1 cap1 g2 p2 m2 cap2 a1 c1 a2 c2 : Nat) (post : List Value) (B src : List UInt8) (dv : Value) (w : World)
    (F : Hid (Fits q W H 1 pw ph)) (hp : p < 7) (hq : Hid (q = ptOf p)) (hI : Inter w) (hS1 : Hid (S1 = W * 1)) (hL1 : Hid (L1 = W * H * 1)) (hB : Hid (B.length = L1)) (hsl : Hid (src.length = pw * ph * 1)) (hm2 : Hid (m2 = pw * ph * 1))
    (h1 : w.heap[g1]? = some (.cells (imgC (.slice (some ⟨p1, 0, none⟩) L1 cap1) W H S1 ++ [Value.slice (some ⟨a1, 0, none⟩) 256 c1]).toArray 66 (0, 0))) (h2 : w.heap[g2]? = some (.cells (imgC (.slice (some ⟨p2, 0, none⟩) m2 cap2) pw ph S2 ++ [Value.slice (some ⟨a2, 0, none⟩) 256 c2]).toArray 66 (0, 0)))
    (hs : Seg w p1 [] post B) (hr : RB w (some ⟨p2, 0, none⟩) src) (hc1 : L1 ≤ cap1) (hc2 : m2 ≤ cap2) (hne : p1 ≠ p2) :
    Calls Tryd.prog 14 #[dv, .iface 61 (.pointer (some ⟨g1, 0, none⟩)), .iface 61 (.pointer (some ⟨g2, 0, none⟩)), .int .i64 (p : Int)] w (MgEnd q W 1 pw ph p1 post B src w) := by
  have lg1 : g1 < w.heap.size := (Array.getElem?_eq_some_iff.1 h1).1
  have lg2 : g2 < w.heap.size := (Array.getElem?_eq_some_iff.1 h2).1
  have lp1 := hs.lt
  obtain ⟨G, o, hI0, hIp⟩ := hI
  obtain ⟨hi0, hi1, hi2, hi3⟩ := hIp p hp
  rw [← hq.out] at hi0 hi1 hi2 hi3
  obtain ⟨X, Y, DX, DY⟩ := q
  simp only at hi0 hi1 hi2 hi3
  have d0 : w.cell? ⟨g1, 0, none⟩ = some (.slice (some ⟨p1, 0, none⟩) L1 cap1) := by rw [cell_of_row w g1 0 _ _ _ h1]; rfl
  have d1 : w.cell? ⟨g1, 1, none⟩ = some (.int .i64 (S1 : Int)) := by rw [cell_of_row w g1 1 _ _ _ h1]; rfl
  have d2 : w.cell? ⟨g1, 2, none⟩ = some (.int .i64 0) := by rw [cell_of_row w g1 2 _ _ _ h1]; rfl
  have d3 : w.cell? ⟨g1, 3, none⟩ = some (.int .i64 0) := by rw [cell_of_row w g1 3 _ _ _ h1]; rfl
  have d4 : w.cell? ⟨g1, 4, none⟩ = some (.int .i64 (W : Int)) := by rw [cell_of_row w g1 4 _ _ _ h1]; rfl
  have d5 : w.cell? ⟨g1, 5, none⟩ = some (.int .i64 (H : Int)) := by rw [cell_of_row w g1 5 _ _ _ h1]; rfl
  have e0 : w.cell? ⟨g2, 0, none⟩ = some (.slice (some ⟨p2, 0, none⟩) m2 cap2) := by rw [cell_of_row w g2 0 _ _ _ h2]; rfl
  have lG : G < w.heap.size := World.block_lt_of_cell? w _ hi0
  obtain ⟨w3, hw3⟩ : ∃ w3, w3 = (w.alloc (.cells #[.int .i64 (DX : Int), .int .i64 (DY : Int), .int .i64 (X : Int), .int .i64 (Y : Int)] 81)).alloc (.cells #[.int .i64 0, .int .i64 0, .int .i64 0, .int .i64 0] 47) := ⟨_, rfl⟩
  have hb3 : Below w.heap.size w w3 := hw3 ▸ ((Below.refl _ _).alloc (Nat.le_refl _) _).alloc (by rw [size_alloc]; omega) _
  have hz3 : w3.heap.size = w.heap.size + 2 := by rw [hw3, size_alloc, size_alloc]
  have hrow0 : w3.heap[w.heap.size]? = some (.cells #[.int .i64 (DX : Int), .int .i64 (DY : Int), .int .i64 (X : Int), .int .i64 (Y : Int)] 81 (0, 0)) := by
    rw [hw3]
    exact (((Below.refl (w.heap.size + 1) _).alloc (by rw [size_alloc]; omega) _).block _ (by omega)).trans (alloc_at _ _)
  have hrow1 : w3.heap[w.heap.size + 1]? = some (.cells #[.int .i64 0, .int .i64 0, .int .i64 0, .int .i64 0] 47 (0, 0)) := by
    rw [hw3, ← size_alloc w (.cells #[.int .i64 (DX : Int), .int .i64 (DY : Int), .int .i64 (X : Int), .int .i64 (Y : Int)] 81)]
    exact alloc_at _ _
  have H1 : Hid (w3.heap[g1]? = some (.cells (imgC (.slice (some ⟨p1, 0, none⟩) L1 cap1) W H S1 ++ [Value.slice (some ⟨a1, 0, none⟩) 256 c1]).toArray 66 (0, 0))) := Lib.hid ((hb3.block g1 lg1).trans h1)
  have H2 : Hid (w3.heap[g2]? = some (.cells (imgC (.slice (some ⟨p2, 0, none⟩) m2 cap2) pw ph S2 ++ [Value.slice (some ⟨a2, 0, none⟩) 256 c2]).toArray 66 (0, 0))) := Lib.hid ((hb3.block g2 lg2).trans h2)
  have HSEG := Lib.hid (hs.below hb3 lp1)
  have ip0 : (0 : Int) ≤ (p : Int) := by omega
  have ip1 : (p : Int) < 7 := by omega
  have q0 := as7_imageAlpha
  have q1 := as7_imageAlpha16
  have q2 := as7_imageGray
  have q3 := as7_imageGray16
  have q4 := as7_imageNRGBA
  have q5 := as7_imageNRGBA64
  have hna := nilAhead_b7
  have hme := method_b7
  have HRR := Lib.hid hr
  have qy := as7_yes
  have qo := as7_one
  have HW3 := Lib.hid hw3
  have HB3 := Lib.hid hb3
  have HZ3 := Lib.hid hz3
  have HROW0 := Lib.hid hrow0
  have HROW1 := Lib.hid hrow1
  clear h1 h2 hs hIp hw3 hb3 hz3 hrow0 hrow1 hr
  go_enter Tryd.func14, Tryd.ntmps14
  go_upto_region 41 with fail
  rw [← HW3.out]
  have hsz : w.heap.size + 1 < w3.heap.size := by have := HZ3.out; omega
  have f0 : w3.cell? ⟨g1, 0, none⟩ = some (.slice (some ⟨p1, 0, none⟩) L1 cap1) := by rw [cell_of_row w3 g1 0 _ _ _ H1.out]; rfl
  have f1 : w3.cell? ⟨g1, 1, none⟩ = some (.int .i64 (S1 : Int)) := by rw [cell_of_row w3 g1 1 _ _ _ H1.out]; rfl
  have f2 : w3.cell? ⟨g1, 2, none⟩ = some (.int .i64 0) := by rw [cell_of_row w3 g1 2 _ _ _ H1.out]; rfl
  have f3 : w3.cell? ⟨g1, 3, none⟩ = some (.int .i64 0) := by rw [cell_of_row w3 g1 3 _ _ _ H1.out]; rfl
  have f4 : w3.cell? ⟨g1, 4, none⟩ = some (.int .i64 (W : Int)) := by rw [cell_of_row w3 g1 4 _ _ _ H1.out]; rfl
  have f5 : w3.cell? ⟨g1, 5, none⟩ = some (.int .i64 (H : Int)) := by rw [cell_of_row w3 g1 5 _ _ _ H1.out]; rfl
  have s0 : w3.cell? ⟨w.heap.size + 1, 0, none⟩ = some (.int .i64 0) := by rw [cell_of_row w3 _ 0 _ _ _ HROW1.out]; rfl
  have s1 : w3.cell? ⟨w.heap.size + 1, 1, none⟩ = some (.int .i64 0) := by rw [cell_of_row w3 _ 1 _ _ _ HROW1.out]; rfl
  have s2 : w3.cell? ⟨w.heap.size + 1, 2, none⟩ = some (.int .i64 0) := by rw [cell_of_row w3 _ 2 _ _ _ HROW1.out]; rfl
  have s3 : w3.cell? ⟨w.heap.size + 1, 3, none⟩ = some (.int .i64 0) := by rw [cell_of_row w3 _ 3 _ _ _ HROW1.out]; rfl
  have z0 : w3.frozen? ⟨w.heap.size + 1, 0, none⟩ = false := frozen_of_row w3 _ 0 _ _ HROW1.out
  have z1 : w3.frozen? ⟨w.heap.size + 1, 1, none⟩ = false := frozen_of_row w3 _ 1 _ _ HROW1.out
  have z2 : w3.frozen? ⟨w.heap.size + 1, 2, none⟩ = false := frozen_of_row w3 _ 2 _ _ HROW1.out
  have z3 : w3.frozen? ⟨w.heap.size + 1, 3, none⟩ = false := frozen_of_row w3 _ 3 _ _ HROW1.out
  go_still_tail 14, (by kernel_rfl)
  change wpList _ _ _ _ _ w3.drew
  obtain ⟨w4, hw4⟩ : ∃ w4, w4 = w3.drew := ⟨_, rfl⟩
  rw [← hw4]
  have G1 : Hid (w4.heap[g1]? = some (.cells (imgC (.slice (some ⟨p1, 0, none⟩) L1 cap1) W H S1 ++ [Value.slice (some ⟨a1, 0, none⟩) 256 c1]).toArray 66 (0, 0))) := Lib.hid (hw4 ▸ H1.out)
  have G2 : Hid (w4.heap[g2]? = some (.cells (imgC (.slice (some ⟨p2, 0, none⟩) m2 cap2) pw ph S2 ++ [Value.slice (some ⟨a2, 0, none⟩) 256 c2]).toArray 66 (0, 0))) := Lib.hid (hw4 ▸ H2.out)
  have HSEG4 : Hid (Seg w4 p1 [] post B) := Lib.hid (hw4 ▸ HSEG.out)
  have HB4 : Hid (Below w.heap.size w w4) := Lib.hid (hw4 ▸ bel_drew HB3.out)
  have HZ4 : Hid (w4.heap.size = w.heap.size + 2) := Lib.hid (hw4 ▸ HZ3.out)
  have HI4 : Hid (w4.heap[w.heap.size]? = some (.cells #[.int .i64 (DX : Int), .int .i64 (DY : Int), .int .i64 (X : Int), .int .i64 (Y : Int)] 81 (0, 0))) := Lib.hid (hw4 ▸ HROW0.out)
  have hR4 : w4.heap[w.heap.size + 1]? = some (.cells #[.int .i64 0, .int .i64 0, .int .i64 0, .int .i64 0] 47 (0, 0)) := hw4 ▸ HROW1.out
  clear hw4 f0 f1 f2 f3 f4 f5 s0 s1 s2 s3 z0 z1 z2 z3 H1 H2 HSEG HB3 HROW0 HROW1 HW3 HZ3 hsz
  have hsz : w.heap.size + 1 < w4.heap.size := by have := HZ4.out; omega
  have s0 : w4.cell? ⟨w.heap.size + 1, 0, none⟩ = some (.int .i64 0) := by rw [cell_of_row w4 _ 0 _ _ _ hR4]; rfl
  have s1 : w4.cell? ⟨w.heap.size + 1, 1, none⟩ = some (.int .i64 0) := by rw [cell_of_row w4 _ 1 _ _ _ hR4]; rfl
  have s2 : w4.cell? ⟨w.heap.size + 1, 2, none⟩ = some (.int .i64 0) := by rw [cell_of_row w4 _ 2 _ _ _ hR4]; rfl
  have s3 : w4.cell? ⟨w.heap.size + 1, 3, none⟩ = some (.int .i64 0) := by rw [cell_of_row w4 _ 3 _ _ _ hR4]; rfl
  have z0 : w4.frozen? ⟨w.heap.size + 1, 0, none⟩ = false := frozen_of_row w4 _ 0 _ _ hR4
  have z1 : w4.frozen? ⟨w.heap.size + 1, 1, none⟩ = false := frozen_of_row w4 _ 1 _ _ hR4
  have z2 : w4.frozen? ⟨w.heap.size + 1, 2, none⟩ = false := frozen_of_row w4 _ 2 _ _ hR4
  have z3 : w4.frozen? ⟨w.heap.size + 1, 3, none⟩ = false := frozen_of_row w4 _ 3 _ _ hR4
  obtain ⟨u5, hw5⟩ : ∃ w5, w5 = rectTo w4 (w.heap.size + 1) W H := ⟨_, rfl⟩
  have hon : Only (w.heap.size + 1) w4 u5 := hw5 ▸ rectTo_only _ _ _ _
  have hR5 := rectTo_row w4 (w.heap.size + 1) W H hR4
  rw [← hw5] at hR5
  have HW5 := Lib.hid hw5
  have HR5 := Lib.hid hR5
  have HON := Lib.hid hon
  clear hw5 hR5 hon hR4
  go_upto_region 43 with fail
  rw [← rectTo, ← HW5.out]
  have q6 : u5.cell? ⟨g1, 6, none⟩ = some (.slice (some ⟨a1, 0, none⟩) 256 c1) := by rw [HON.out.cell (p := ⟨g1, 6, none⟩) (show g1 ≠ w.heap.size + 1 by omega), cell_of_row w4 g1 6 _ _ _ G1.out]; rfl
  have q7 : u5.cell? ⟨g2, 6, none⟩ = some (.slice (some ⟨a2, 0, none⟩) 256 c2) := by rw [HON.out.cell (p := ⟨g2, 6, none⟩) (show g2 ≠ w.heap.size + 1 by omega), cell_of_row w4 g2 6 _ _ _ G2.out]; rfl
  go_quiet (fail)
  obtain ⟨w5, hw5⟩ : ∃ w5, w5 = u5.drewN nq := ⟨_, rfl⟩
  rw [← hw5]
  have HR5' : Hid (w5.heap[w.heap.size + 1]? = some (.cells #[.int .i64 0, .int .i64 0, .int .i64 (W : Int), .int .i64 (H : Int)] 47 (0, 0))) := Lib.hid (by rw [hw5]; exact HR5.out)
  have HON' : Hid (Only (w.heap.size + 1) w4 w5) := Lib.hid (by rw [hw5]; exact HON.out.drewN nq)
  clear HR5 HON q6 q7 HW5 hw5
  obtain ⟨HR5, HON⟩ := And.intro HR5' HON'
  clear HR5' HON'
  go_upto_region 55 with fail
  have K2 : Hid (w5.heap[g2]? = some (.cells (imgC (.slice (some ⟨p2, 0, none⟩) m2 cap2) pw ph S2 ++ [Value.slice (some ⟨a2, 0, none⟩) 256 c2]).toArray 66 (0, 0))) := Lib.hid ((HON.out.block g2 (by omega)).trans G2.out)
  have HB5 : Hid (Below w.heap.size w w5) := Lib.hid (HB4.out.trans (HON.out.below (by omega)))
  have HZ5 : Hid (w5.heap.size = w.heap.size + 2) := Lib.hid (HON.out.size.trans HZ4.out)
  have HSEG5 : Hid (Seg w5 p1 [] post B) := Lib.hid (HSEG4.out.only HON.out (by omega))
  have HI5 : Hid (w5.heap[w.heap.size]? = some (.cells #[.int .i64 (DX : Int), .int .i64 (DY : Int), .int .i64 (X : Int), .int .i64 (Y : Int)] 81 (0, 0))) := Lib.hid ((HON.out.block _ (by omega)).trans HI4.out)
  clear s0 s1 s2 s3 z0 z1 z2 z3 hsz HSEG4 HI4 HB4 HZ4 HON G1 G2 d0 d1 d2 d3 d4 d5 e0 hi0 hi1 hi2 hi3 hI0
  go_upto_region 56 with (go_at_call 56; refine (bounds_7 g2 pw ph S2 _ _ w5 K2.out).mono ?_; rintro e w6 ⟨rfl, hb6⟩)
  obtain ⟨w7, hw7⟩ : ∃ w7, w7 = w6.alloc (.cells #[.int .i64 0, .int .i64 0, .int .i64 (pw : Int), .int .i64 (ph : Int)] 47) := ⟨_, rfl⟩
  rw [← hw7]
  have hz6 : w.heap.size + 2 ≤ w6.heap.size := by rw [← HZ5.out]; exact hb6.size
  have hb7 : Below w5.heap.size w5 w7 := hw7 ▸ hb6.alloc hb6.size _
  have HB7 : Hid (Below w.heap.size w w7) := Lib.hid (HB5.out.trans (hb7.mono HB5.out.size))
  have HSEG7 : Hid (Seg w7 p1 [] post B) := Lib.hid (HSEG5.out.below hb7 (by rw [HZ5.out]; omega))
  have HRB7 : Hid (RB w7 (some ⟨p2, 0, none⟩) src) := Lib.hid (HRR.out.below HB7.out)
  have HI7 : Hid (w7.heap[w.heap.size]? = some (.cells #[.int .i64 (DX : Int), .int .i64 (DY : Int), .int .i64 (X : Int), .int .i64 (Y : Int)] 81 (0, 0))) := Lib.hid ((hb7.block _ (by rw [HZ5.out]; omega)).trans HI5.out)
  have HR7 : Hid (w7.heap[w.heap.size + 1]? = some (.cells #[.int .i64 0, .int .i64 0, .int .i64 (W : Int), .int .i64 (H : Int)] 47 (0, 0))) := Lib.hid ((hb7.block _ (by rw [HZ5.out]; omega)).trans HR5.out)
  have HN7 : Hid (w7.heap[w6.heap.size]? = some (.cells #[.int .i64 0, .int .i64 0, .int .i64 (pw : Int), .int .i64 (ph : Int)] 47 (0, 0))) := Lib.hid (by rw [hw7]; exact alloc_at _ _)
  obtain ⟨N7, hN7⟩ : ∃ N7, N7 = w6.heap.size := ⟨_, rfl⟩
  rw [← hN7] at HN7 hz6 ⊢
  have hz7 : N7 < w7.heap.size := (Array.getElem?_eq_some_iff.1 HN7.out).1
  have HHN := Lib.hid hN7
  clear hw7 hb7 hb6 HB5 HZ5 HSEG5 HI5 HR5 K2 hN7 HRR
  have b1 : w7.cell? ⟨N7, 1, none⟩ = some (.int .i64 0) := by rw [cell_of_row w7 _ 1 _ _ _ HN7.out]; rfl
  go_upto_region 57 with fail
  clear b1
  have hph : ph ≤ 40 := F.out.ph
  have hpw : pw ≤ 40 := F.out.pw
  have ne0 : w.heap.size ≠ p1 := by omega
  have ne1 : w.heap.size + 1 ≠ p1 := by omega
  have ne2 : N7 ≠ p1 := by omega
  go_loopw [24, 26] (fun iv yv wr => ∃ y i : Nat, y ≤ ph ∧ yv = .int .i64 (y : Int) ∧ iv = .int .i64 (i : Int) ∧ Hid (i = srcAt pw 1 y 0) ∧ Only p1 w7 wr ∧ Seg wr p1 [] post (allM ⟨X, Y, DX, DY⟩ W 1 pw src y B)) (fun _ yv _ => ph - (intOf yv).toNat)
  case atStart => exact ⟨0, 0, Nat.zero_le _, rfl, rfl, Lib.hid (by simp [srcAt]), Only.refl _ _, HSEG7.out⟩
  case round =>
    obtain ⟨y, i, hy, rfl, rfl, HIX, hon, hseg⟩ := hrel
    have b1 : wr.cell? ⟨N7, 3, none⟩ = some (.int .i64 (ph : Int)) := by rw [hon.cell (p := ⟨N7, 3, none⟩) ne2, cell_of_row w7 _ 3 _ _ _ HN7.out]; rfl
    have lN : N7 < wr.heap.size := by rw [hon.size]; exact hz7
    by_cases hlt : y < ph
    · have j0 : wr.cell? ⟨w.heap.size, 0, none⟩ = some (.int .i64 (DX : Int)) := by rw [hon.cell (p := ⟨w.heap.size, 0, none⟩) ne0, cell_of_row w7 _ 0 _ _ _ HI7.out]; rfl
      have j1 : wr.cell? ⟨w.heap.size, 1, none⟩ = some (.int .i64 (DY : Int)) := by rw [hon.cell (p := ⟨w.heap.size, 1, none⟩) ne0, cell_of_row w7 _ 1 _ _ _ HI7.out]; rfl
      have j2 : wr.cell? ⟨w.heap.size, 2, none⟩ = some (.int .i64 (X : Int)) := by rw [hon.cell (p := ⟨w.heap.size, 2, none⟩) ne0, cell_of_row w7 _ 2 _ _ _ HI7.out]; rfl
      have j3 : wr.cell? ⟨w.heap.size, 3, none⟩ = some (.int .i64 (Y : Int)) := by rw [hon.cell (p := ⟨w.heap.size, 3, none⟩) ne0, cell_of_row w7 _ 3 _ _ _ HI7.out]; rfl
      have r0 : wr.cell? ⟨w.heap.size + 1, 0, none⟩ = some (.int .i64 0) := by rw [hon.cell (p := ⟨w.heap.size + 1, 0, none⟩) ne1, cell_of_row w7 _ 0 _ _ _ HR7.out]; rfl
      have r1 : wr.cell? ⟨w.heap.size + 1, 1, none⟩ = some (.int .i64 0) := by rw [hon.cell (p := ⟨w.heap.size + 1, 1, none⟩) ne1, cell_of_row w7 _ 1 _ _ _ HR7.out]; rfl
      have c0 : wr.cell? ⟨N7, 0, none⟩ = some (.int .i64 0) := by rw [hon.cell (p := ⟨N7, 0, none⟩) ne2, cell_of_row w7 _ 0 _ _ _ HN7.out]; rfl
      obtain ⟨yd, hyd⟩ : ∃ yd, yd = y * DY := ⟨_, rfl⟩
      obtain ⟨r, hr⟩ : ∃ r, r = yd + Y := ⟨_, rfl⟩
      obtain ⟨rs, hrs⟩ : ∃ rs, rs = r * S1 := ⟨_, rfl⟩
      obtain ⟨xn, hxn⟩ : ∃ xn, xn = X * 1 := ⟨_, rfl⟩
      obtain ⟨d, hd⟩ : ∃ d, d = rs + xn := ⟨_, rfl⟩
      have hrH : r < H := by have := F.out.y y hlt; simp only at this; omega
      have hH := F.out.h
      have hW := F.out.w
      have hX := F.out.ok.x
      simp only at hX
      have hS1' := hS1.out
      have hrs2 : rs ≤ 40 * 320 := by rw [hrs]; exact Nat.mul_le_mul (by omega) (by omega)
      have m1 : (y : Int) * (DY : Int) = (yd : Int) := by rw [hyd]; rfl
      have m2' : (yd : Int) + (Y : Int) = (r : Int) := by rw [hr]; rfl
      have m3 : (r : Int) * (S1 : Int) = (rs : Int) := by rw [hrs]; rfl
      have m4 : (X : Int) * 1 = (xn : Int) := by rw [hxn]; rfl
      have m5 : (rs : Int) + (xn : Int) = (d : Int) := by rw [hd]; rfl
      have v1 : IntKind.i64.wrap (yd : Int) = (yd : Int) := i64_in _ ⟨by omega, by omega⟩
      have v2 : IntKind.i64.wrap (r : Int) = (r : Int) := i64_in _ ⟨by omega, by omega⟩
      have v3 : IntKind.i64.wrap (rs : Int) = (rs : Int) := i64_in _ ⟨by omega, by omega⟩
      have v4 : IntKind.i64.wrap (X : Int) = (X : Int) := i64_in _ ⟨by omega, by omega⟩
      have v5 : IntKind.i64.wrap (xn : Int) = (xn : Int) := i64_in _ ⟨by omega, by omega⟩
      have v6 : IntKind.i64.wrap (d : Int) = (d : Int) := i64_in _ ⟨by omega, by omega⟩
      have HYD := Lib.hid hyd
      have HRR2 := Lib.hid hr
      have HRS := Lib.hid hrs
      have HXN := Lib.hid hxn
      have HD := Lib.hid hd
      have HON7 := Lib.hid hon
      have HSG := Lib.hid hseg
      clear hyd hr hrs hxn hd hon hseg hS1'
      go_upto_region 61 with fail
      clear j0 j1 j2 j3 r0 r1 c0 b1 lN m1 m2' m3 m4 m5 v1 v2 v3 v4 v5
      go_loopw [24, 28] (fun iv xv wr => ∃ x i : Nat, x ≤ pw ∧ xv = .int .i64 (x : Int) ∧ iv = .int .i64 (i : Int) ∧ Hid (i = srcAt pw 1 y x) ∧ Only p1 w7 wr ∧ Seg wr p1 [] post (rowM ⟨X, Y, DX, DY⟩ W 1 pw src y x (allM ⟨X, Y, DX, DY⟩ W 1 pw src y B))) (fun _ xv _ => pw - (intOf xv).toNat)
      case atStart => exact ⟨0, i, Nat.zero_le _, rfl, rfl, HIX, HON7.out, HSG.out⟩
      case round =>
        obtain ⟨x, i2, hx, rfl, rfl, HIX2, hon, hseg⟩ := hrel
        have b0 : wr.cell? ⟨N7, 2, none⟩ = some (.int .i64 (pw : Int)) := by rw [hon.cell (p := ⟨N7, 2, none⟩) ne2, cell_of_row w7 _ 2 _ _ _ HN7.out]; rfl
        have lN : N7 < wr.heap.size := by rw [hon.size]; exact hz7
        by_cases hxl : x < pw
        · have j0 : wr.cell? ⟨w.heap.size, 0, none⟩ = some (.int .i64 (DX : Int)) := by rw [hon.cell (p := ⟨w.heap.size, 0, none⟩) ne0, cell_of_row w7 _ 0 _ _ _ HI7.out]; rfl
          obtain ⟨xd, hxd⟩ : ∃ xd, xd = x * DX := ⟨_, rfl⟩
          have hxW : X + xd < W := by rw [hxd]; exact F.out.x x hxl
          obtain ⟨xe, hxe⟩ : ∃ xe, xe = xd * 1 := ⟨_, rfl⟩
          obtain ⟨e, he⟩ : ∃ e, e = d + xe := ⟨_, rfl⟩
          obtain ⟨i3, hi3⟩ : ∃ i3, i3 = i2 + 1 := ⟨_, rfl⟩
          have hE : Hid (e = dstAt ⟨X, Y, DX, DY⟩ W 1 y x) := Lib.hid (by
            have e1 := dst_eq ⟨X, Y, DX, DY⟩ W 1 y x r (by rw [HRR2.out, HYD.out, Nat.add_comm])
            rw [← e1, he, hxe, hxd, HD.out, HXN.out, HRS.out, hS1.out])
          have hE2 : e + 1 ≤ L1 := by rw [hE.out, hL1.out]; exact F.out.dst hlt hxl
          have hI3 : i3 ≤ m2 := by rw [hi3, HIX2.out, hm2.out]; exact F.out.src hlt hxl
          have hLB : L1 ≤ 40 * 40 * 8 := by
            rw [hL1.out]
            exact Nat.mul_le_mul (Nat.mul_le_mul F.out.w F.out.h) F.out.n
          have hMB : m2 ≤ 40 * 40 * 8 := by
            rw [hm2.out]
            exact Nat.mul_le_mul (Nat.mul_le_mul F.out.pw F.out.ph) F.out.n
          have m1 : (x : Int) * (DX : Int) = (xd : Int) := by rw [hxd]; rfl
          have m2' : (xd : Int) * 1 = (xe : Int) := by rw [hxe]; rfl
          have m3 : (d : Int) + (xe : Int) = (e : Int) := by rw [he]; rfl
          have m4 : (i2 : Int) + 1 = (i3 : Int) := by rw [hi3]; rfl
          have v1 : IntKind.i64.wrap (xd : Int) = (xd : Int) := i64_in _ ⟨by omega, by omega⟩
          have v2 : IntKind.i64.wrap (xe : Int) = (xe : Int) := i64_in _ ⟨by omega, by omega⟩
          have v3 : IntKind.i64.wrap (e : Int) = (e : Int) := i64_in _ ⟨by omega, by omega⟩
          have v4 : IntKind.i64.wrap (i3 : Int) = (i3 : Int) := i64_in _ ⟨by omega, by omega⟩
          have o1 : (0 : Int) ≤ (e : Int) := by omega
          have o2 : (e : Int) ≤ (L1 : Int) := by omega
          have o3 : (0 : Int) ≤ (i2 : Int) := by omega
          have o4 : (i2 : Int) ≤ (i3 : Int) := by omega
          have o5 : (i3 : Int) ≤ (cap2 : Int) := by omega
          have ne3 : ¬ cap1 = e := by omega
          have ne4 : ¬ cap2 = i2 := by omega
          have HI3 := Lib.hid hi3
          have HONX := Lib.hid hon
          have HSX := Lib.hid hseg
          clear hxd hxe he hi3 hon hseg
          obtain ⟨M, hM⟩ : ∃ M, M = rowM ⟨X, Y, DX, DY⟩ W 1 pw src y x (allM ⟨X, Y, DX, DY⟩ W 1 pw src y B) := ⟨_, rfl⟩
          obtain ⟨px, hpx⟩ : ∃ px, px = pix src pw 1 y x := ⟨_, rfl⟩
          have hpl : px.length = 1 := by rw [hpx]; exact F.out.pix_len hsl.out hlt hxl
          have hMl : M.length = L1 := by rw [hM, F.out.row_len hsl.out hlt (F.out.all_len hsl.out (by rw [hB.out, hL1.out]) y (by omega)) x hx, hL1.out]
          have HRW : Hid (wr.drew.heap[p1]? = some (.cells (cellsB M ++ post).toArray 5 (0, 0))) := Lib.hid (by rw [hM]; exact HSX.out.whole)
          have HSRC : Hid (∀ j v, (cellsB px)[j]? = some v → wr.drew.cell? ((⟨p2, i2, none⟩ : Addr).add j) = some v) := Lib.hid (by
            rw [hpx, HIX2.out]
            exact src_of ((HRB7.out.only HONX.out (Ne.symm hne)).pix pw 1 y x))
          have HCN : Hid ((cellsB px).length = Nat.min (i3 - i2) (L1 - e)) := Lib.hid (by rw [cellsB_length, hpl, HI3.out]; exact (by omega : 1 = min (i2 + 1 - i2) (L1 - e)))
          have HFIT : Hid (e + (cellsB px).length ≤ (cellsB M ++ post).length) := Lib.hid (by rw [List.length_append, cellsB_length, cellsB_length, hpl, hMl]; omega)
          have HNX : Hid (rowM ⟨X, Y, DX, DY⟩ W 1 pw src y (x + 1) (allM ⟨X, Y, DX, DY⟩ W 1 pw src y B) = splice M e px) := Lib.hid (by rw [rowM, ← hM, ← hpx, ← hE.out])
          have HOF : Hid (e + px.length ≤ M.length) := Lib.hid (by rw [hpl, hMl]; exact hE2)
          clear hM hpx hpl hMl
          go_upto_region 64 with fail
          go_region_law (refine step_copy_only rfl (.tmp 288) (.tmp 294) 22 22 rfl 5 (by kernel_rfl) (by kernel_rfl) p1 e (L1 - e) (cap1 - e) ⟨p2, i2, none⟩ (i3 - i2) (cap2 - i2) (by simp [Act.eval, Act.put]) (by simp [Act.eval, Act.put]) (cellsB M ++ post) 5 HRW.out (cellsB px) HCN.out HSRC.out HFIT.out (cellsB_one _) ?_; intro wn HG hon2)
          all_goals
            have hs9 : Hid (Seg wn p1 [] post (rowM ⟨X, Y, DX, DY⟩ W 1 pw src y (x + 1) (allM ⟨X, Y, DX, DY⟩ W 1 pw src y B))) := Lib.hid (by rw [HNX.out]; exact Seg.ofSplice HOF.out HG.out)
            have ho9 : Hid (Only p1 w7 wn) := Lib.hid (HONX.out.drew.trans hon2)
            clear HG hon2
            go_wp2_with fail
            go_roundw
            case rel => exact ⟨x + 1, i3, by omega, by go_num, by go_num, Lib.hid (by rw [HI3.out, HIX2.out, src_next]), ho9.out, hs9.out⟩
            case measure => simp [intOf]; omega
        · obtain rfl : pw = x := by omega
          have HONX := Lib.hid hon
          have HSX := Lib.hid hseg
          clear hon hseg
          go_wp2_with fail
          go_roundw
          case rel => exact ⟨y + 1, i2, by omega, by go_num, rfl, Lib.hid (by rw [HIX2.out, src_row]), HONX.out, HSX.out⟩
          case measure => simp [intOf]; omega
    · obtain rfl : ph = y := by omega
      have HON7 := Lib.hid hon
      have HSG := Lib.hid hseg
      clear hon hseg
      go_wp2_with fail
      go_end0
      exact ⟨rfl, w7, HB7.out, HON7.out, HSG.out⟩
end Go.Proofs.YtcfafomnoejemaaDoor
