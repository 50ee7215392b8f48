/- The contract of ZZReadTransparency at a sample that is clear. -/
import Derived.Test.YtiiipmcjbibgoaaDoorRdTrns
namespace Go.Proofs.YtiiipmcjbibgoaaDoor
open Go.ChangeShapes Go.WideShapes Go.ChangeAt Go.RowKit Go.IntWalk

set_option maxHeartbeats 3200000 in
set_option maxRecDepth 100000 in
theorem zzReadSample_any (k n sb so mc : Nat) (l : List UInt8) (w : World) (hl : Hid (l.length = n + 4)) (hr : RB w (some ⟨sb, so, none⟩) l) (hmc : n + 4 ≤ mc) (ht : Tab w) (hk : samKind k) :
    Calls Tryd.prog 30 #[.int .i64 (k : Int), .slice none 0 0, .int .u32 (n : Int), .slice (some ⟨sb, so, none⟩) (n + 4) mc] w (ZSamEnd l n k w) := by
  have hsb : sb < w.heap.size := hr.lt (by have := hl.out; intro e; rw [e] at this; simp at this)
  have htb := ht.lt
  obtain ⟨u0, hu0⟩ : ∃ u, u = w.alloc (.cells #[.int .u8 0, .int .u8 0, .int .u8 0, .int .u8 0, .int .u8 0, .int .u8 0] 66) := ⟨_, rfl⟩
  have hs0 : u0.heap.size = w.heap.size + 1 := by rw [hu0, size_alloc]
  have hb0 : Below w.heap.size w u0 := by rw [hu0]; exact (Below.refl _ _).alloc (Nat.le_refl _) _
  have hz0 : u0.heap[w.heap.size]? = some (.cells #[.int .u8 0, .int .u8 0, .int .u8 0, .int .u8 0, .int .u8 0, .int .u8 0] 66 (0, 0)) := by rw [hu0]; exact heap_alloc_new w _
  obtain ⟨u2, hu2⟩ : ∃ u, u = (u0.alloc (.cells #[.slice (some ⟨sb, so, none⟩) (n + 4) mc, .int .i64 0, .int .i64 (-1)] 120)).alloc (.cells #[.int .u32 0] 83) := ⟨_, rfl⟩
  have hs2 : u2.heap.size = w.heap.size + 1 + 1 + 1 := by rw [hu2, size_alloc, size_alloc, hs0]
  have hb2 : Below u0.heap.size u0 u2 := by rw [hu2]; exact ((Below.refl _ _).alloc (Nat.le_refl _) _).alloc (by rw [size_alloc]; omega) _
  have hR2 : u2.heap[w.heap.size + 1]? = some (.cells #[.slice (some ⟨sb, so, none⟩) (n + 4) mc, .int .i64 0, .int .i64 (-1)] 120 (0, 0)) := by
    rw [hu2, heap_alloc_old _ _ (by rw [size_alloc, hs0]; omega)]
    have := heap_alloc_new u0 (.cells #[.slice (some ⟨sb, so, none⟩) (n + 4) mc, .int .i64 0, .int .i64 (-1)] 120)
    rw [hs0] at this
    exact this
  have hC2 : u2.heap[w.heap.size + 1 + 1]? = some (.cells #[.int .u32 0] 83 (0, 0)) := by
    rw [hu2]
    have := heap_alloc_new (u0.alloc (.cells #[.slice (some ⟨sb, so, none⟩) (n + 4) mc, .int .i64 0, .int .i64 (-1)] 120)) (.cells #[.int .u32 0] 83)
    rw [size_alloc, hs0] at this
    exact this
  have hbw2 : Below w.heap.size w u2 := hb0.trans (hb2.mono hb0.size)
  obtain ⟨H1, L⟩ := start_rdg (w.heap.size + 1) (w.heap.size + 1) (w.heap.size + 1 + 1) sb so (n + 4) mc (k : Int) 0 (.slice none 0 0) l u2 hR2 hC2 (hr.below hbw2) (ht.below hbw2) (by omega) (by omega) (by omega) (by omega) (by omega)
  have hz2 : u2.heap[w.heap.size]? = some (.cells #[.int .u8 0, .int .u8 0, .int .u8 0, .int .u8 0, .int .u8 0, .int .u8 0] 66 (0, 0)) := (hb2.block _ (by omega)).trans hz0
  have HS2 := Lib.hid hs2
  have HZ2 := Lib.hid hz2
  have HB2 := Lib.hid hbw2
  have HS0 := Lib.hid hs0
  clear hb0 hb2 hR2 hC2 hbw2 hz2 hs2 hz0 hsb htb hr ht hs0
  go_enter Tryd.func30, Tryd.ntmps30
  go_upto_region 1 with fail
  rw [← hu0]
  clear hu0
  go_upto_region 2 with (first
    | (go_at_call 37; refine (newReader_any (some ⟨sb, so, none⟩) (n + 4) mc u0).mono ?_; rintro e w' ⟨rfl, rfl⟩)
    | (refine wpList_build_given rfl 90 #[(0, .tmp 16), (2, .tmp 17), (7, .tmp 18), (6, .tmp 20)] rfl #[(0, .iface 79 (.pointer (some ⟨u0.heap.size, 0, none⟩))), (2, .pointer (some ⟨u0.heap.size + 1, 0, none⟩)), (7, .int .i64 (k : Int)), (6, .slice none 0 0)] (.agg (dC u0.heap.size (u0.heap.size + 1) k 0 (.slice none 0 0))) ?_ (build_clear u0.heap.size (u0.heap.size + 1) k none 0 0 _) ?_; (· simp [Act.eval])))
  rw [← hu2, HS0.out]
  clear hu2
  obtain ⟨w3, hw3⟩ : ∃ w3, w3 = u2.alloc (.cells (dC (w.heap.size + 1) (w.heap.size + 1 + 1) k 0 (.slice none 0 0)) 90) := ⟨_, rfl⟩
  have hb3 : Below w.heap.size w w3 := by rw [hw3]; exact HB2.out.alloc HB2.out.size _
  have hz3 : w3.heap[w.heap.size]? = some (.cells #[.int .u8 0, .int .u8 0, .int .u8 0, .int .u8 0, .int .u8 0, .int .u8 0] 66 (0, 0)) := by
    rw [hw3, heap_alloc_old _ _ (by rw [HS2.out]; omega)]; exact HZ2.out
  rw [← hw3] at H1 ⊢
  rw [HS2.out] at H1 L
  clear hw3
  generalize hB : w.heap.size + 1 + 1 + 1 = b at H1 L ⊢
  generalize hC : w.heap.size + 1 + 1 = C at H1 L ⊢
  generalize hR : w.heap.size + 1 = R at H1 L ⊢
  generalize hG : w.heap.size = G at H1 L hb3 hz3 ⊢
  have HG := Lib.hid hG
  have HNE := Lib.hid (show G < R from by omega)
  have HB3 := Lib.hid hb3
  have HZ3 := Lib.hid hz3
  clear hB hC hR hG HS0 HS2 HZ2 HB2 hb3 hz3
  have k2 : w3.cell? ⟨b, 2, none⟩ = some (.pointer (some ⟨C, 0, none⟩)) := H1.dec.pre_cell 2 (by rw [← H1.ec]; rfl)
  have H2 := H1.below ((Below.refl _ _).alloc (Nat.le_refl _) (.cells (cellsB trnsName).toArray 5 (4, 5)))
  have hb2 : Hid (Below G w (w3.alloc (.cells (cellsB trnsName).toArray 5 (4, 5)))) := Lib.hid (HB3.out.alloc (by have := HB3.out.size; rw [HG.out] at this; exact this) _)
  have HZ4 : Hid ((w3.alloc (.cells (cellsB trnsName).toArray 5 (4, 5))).heap[G]? = some (.cells #[.int .u8 0, .int .u8 0, .int .u8 0, .int .u8 0, .int .u8 0, .int .u8 0] 66 (0, 0))) := Lib.hid (by
    rw [heap_alloc_old _ _ (row_lt HZ3.out)]; exact HZ3.out)
  have kc := fun (w : World) (C : Array Value) (n c : Nat) => Lib.run_convert_bytes_const (P := Tryd.prog) w 22 5 C n c Tryd.underlying22 Tryd.underlying5
  have hrn := RB.litF w3 trnsName 5 (4, 5)
  go_wp2_with fail
  refine (writeSum_any R b R C sb so (n + 4) mc l _ 0 0 (some ⟨w3.heap.size, 0, none⟩) 4 4 trnsName _ L H2 (Lib.hid rfl) hrn (by omega)).mono ?_
  rintro e w4 ⟨rfl, H4, hb4⟩
  have hb5 : Below G w w4 := hb2.out.trans (hb4.mono (Nat.le_of_lt HNE.out))
  have HZ5 : Hid (w4.heap[G]? = some (.cells #[.int .u8 0, .int .u8 0, .int .u8 0, .int .u8 0, .int .u8 0, .int .u8 0] 66 (0, 0))) := Lib.hid ((hb4.block G HNE.out).trans HZ4.out)
  clear kc hrn H1 H2 hb2 hb4 k2 HB3 HZ3 HZ4
  have HB5 := Lib.hid hb5
  clear hb5
  go_wp2_with fail
  refine (sam_any R b R C sb so mc n k _ l _ w4 L H4 hl hmc hk rfl rfl rfl).mono ?_
  rintro e w5 ⟨v, tr, ut, rfl, htold, htl, htr, q7, q6, hb6⟩
  have HB6 : Hid (Below G w w5) := Lib.hid (HB5.out.trans (hb6.mono (Nat.le_of_lt HNE.out)))
  have hz6 : w5.heap[G]? = some (.cells #[.int .u8 0, .int .u8 0, .int .u8 0, .int .u8 0, .int .u8 0, .int .u8 0] 66 (0, 0)) := (hb6.block G HNE.out).trans HZ5.out
  obtain ⟨x0, x1, x2, x3, x4, x5, hsix, c0, c1, c2, c3, c4, c5⟩ := six_cells htr htl
  have z0 : w5.cell? ⟨G, 0, none⟩ = some (.int .u8 0) := by rw [cell_of_row w5 G 0 _ _ _ hz6]; rfl
  have f0 : w5.frozen? ⟨G, 0, none⟩ = false := frozen_of_row w5 G 0 _ _ hz6
  have z1 : w5.cell? ⟨G, 1, none⟩ = some (.int .u8 0) := by rw [cell_of_row w5 G 1 _ _ _ hz6]; rfl
  have f1 : w5.frozen? ⟨G, 1, none⟩ = false := frozen_of_row w5 G 1 _ _ hz6
  have z2 : w5.cell? ⟨G, 2, none⟩ = some (.int .u8 0) := by rw [cell_of_row w5 G 2 _ _ _ hz6]; rfl
  have f2 : w5.frozen? ⟨G, 2, none⟩ = false := frozen_of_row w5 G 2 _ _ hz6
  have z3 : w5.cell? ⟨G, 3, none⟩ = some (.int .u8 0) := by rw [cell_of_row w5 G 3 _ _ _ hz6]; rfl
  have f3 : w5.frozen? ⟨G, 3, none⟩ = false := frozen_of_row w5 G 3 _ _ hz6
  have z4 : w5.cell? ⟨G, 4, none⟩ = some (.int .u8 0) := by rw [cell_of_row w5 G 4 _ _ _ hz6]; rfl
  have f4 : w5.frozen? ⟨G, 4, none⟩ = false := frozen_of_row w5 G 4 _ _ hz6
  have z5 : w5.cell? ⟨G, 5, none⟩ = some (.int .u8 0) := by rw [cell_of_row w5 G 5 _ _ _ hz6]; rfl
  have f5 : w5.frozen? ⟨G, 5, none⟩ = false := frozen_of_row w5 G 5 _ _ hz6
  have HT := Lib.hid htold
  have HSIX := Lib.hid hsix
  have HTL := Lib.hid htl
  have HZ6 := Lib.hid hz6
  clear htold hsix htl htr hb6 HB5 HZ5 hz6 H4
  go_upto_region 4 with fail
  have hbG : b ≠ G := by have := L.b0; have := HNE.out; omega
  have hGb : G ≠ b := Ne.symm hbG
  go_region_held3 (fun w' => w'.cell? ⟨b, 6, none⟩ = some (.slice none 0 0) ∧ w'.cell? ⟨b, 779, none⟩ = some (.bool ut) ∧ w'.cell? ⟨b, 780, none⟩ = some (.int .u8 (x0 : Int)) ∧ w'.cell? ⟨b, 781, none⟩ = some (.int .u8 (x1 : Int)) ∧ w'.cell? ⟨b, 782, none⟩ = some (.int .u8 (x2 : Int)) ∧ w'.cell? ⟨b, 783, none⟩ = some (.int .u8 (x3 : Int)) ∧ w'.cell? ⟨b, 784, none⟩ = some (.int .u8 (x4 : Int)) ∧ w'.cell? ⟨b, 785, none⟩ = some (.int .u8 (x5 : Int))) (go_keep) (fail)
  go_wp2_with fail
  trace "a"
  have hrow8 := put6_row (.int .u8 (x0 : Int)) (.int .u8 (x1 : Int)) (.int .u8 (x2 : Int)) (.int .u8 (x3 : Int)) (.int .u8 (x4 : Int)) (.int .u8 (x5 : Int)) HZ6.out
  have hb8 := HB6.out.trans ((put6_only w5 G (.int .u8 (x0 : Int)) (.int .u8 (x1 : Int)) (.int .u8 (x2 : Int)) (.int .u8 (x3 : Int)) (.int .u8 (x4 : Int)) (.int .u8 (x5 : Int))).below (Nat.le_refl _))
  unfold put6 at hrow8 hb8
  obtain ⟨u1, hu1⟩ : ∃ u1, u1 = (((((w5.setCell ⟨G, 0, none⟩ (.int .u8 (x0 : Int))).setCell ⟨G, 1, none⟩ (.int .u8 (x1 : Int))).setCell ⟨G, 2, none⟩ (.int .u8 (x2 : Int))).setCell ⟨G, 3, none⟩ (.int .u8 (x3 : Int))).setCell ⟨G, 4, none⟩ (.int .u8 (x4 : Int))).setCell ⟨G, 5, none⟩ (.int .u8 (x5 : Int)) := ⟨_, rfl⟩
  rw [← hu1] at hrow8 hb8 ⊢
  trace "b"
  clear hu1
  have hb9 : Below G w u1.drew := ⟨hb8.os, hb8.tape, hb8.output, hb8.size, hb8.block⟩
  have hrow9 : u1.drew.heap[G]? = _ := hrow8
  trace "c"
  refine bodyPost_ret (zz_results _ _ G (.slice none 0 0) (.bool ut) v _ _ _ _ _ _ rfl rfl rfl rfl hrow9) rfl ?_
  refine ⟨v, tr, ut, by rw [HSIX.out], HT.out, HTL.out, ?_⟩
  rw [HG.out]
  exact hb9
end Go.Proofs.YtiiipmcjbibgoaaDoor
