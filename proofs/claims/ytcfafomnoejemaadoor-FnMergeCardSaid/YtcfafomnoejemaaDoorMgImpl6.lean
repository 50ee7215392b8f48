/- The contracts of ZZMerge and of the thin package's Merge at one kind of picture. Printed by gen/mgimpl.py 6. -/
import Derived.Test.YtcfafomnoejemaaDoorMgMerge6
import Derived.Test.YtcfafomnoejemaaDoorPicOf
import Derived.Test.YtcfafomnoejemaaDoorMgImg7
namespace Go.Proofs.YtcfafomnoejemaaDoor
open Go.ChangeShapes Go.WideShapes Go.ChangeAt Go.RowKit Go.IntWalk

set_option maxHeartbeats 3200000 in
set_option maxRecDepth 100000 in
theorem zzMerge_6 (p : Nat) (q : Pt) (W H pw ph L1 S1 S2 g1 p1 cap1 g2 p2 m2 cap2 : Nat) (post : List Value) (B src : List UInt8) (w : World)
    (F : Hid (Fits q W H 8 pw ph)) (hp : p < 7) (hq : Hid (q = ptOf p)) (hI : Inter w) (hS1 : Hid (S1 = W * 8)) (hL1 : Hid (L1 = W * H * 8)) (hB : Hid (B.length = L1)) (hsl : Hid (src.length = pw * ph * 8)) (hm2 : Hid (m2 = pw * ph * 8))
    (h1 : w.heap[g1]? = some (.cells (imgC (.slice (some ⟨p1, 0, none⟩) L1 cap1) W H S1).toArray 60 (0, 0))) (h2 : w.heap[g2]? = some (.cells (imgC (.slice (some ⟨p2, 0, none⟩) m2 cap2) pw ph S2).toArray 60 (0, 0)))
    (hs : Seg w p1 [] post B) (hr : RB w (some ⟨p2, 0, none⟩) src) (hc1 : L1 ≤ cap1) (hc2 : m2 ≤ cap2) (hne : p1 ≠ p2) :
    Calls Tryd.prog 10 #[.iface 59 (.pointer (some ⟨g1, 0, none⟩)), .iface 59 (.pointer (some ⟨g2, 0, none⟩)), .int .i64 (p : Int)] w (MgEnd q W 8 pw ph p1 post B src w) := by
  have HH1 := Lib.hid h1
  have HH2 := Lib.hid h2
  have HSS := Lib.hid hs
  have HRR := Lib.hid hr
  have HII := Lib.hid hI
  clear h1 h2 hs hr hI
  have hz := zero_dec
  obtain ⟨w1, hw1⟩ : ∃ w1, w1 = w.alloc (.cells decZ.toArray 76) := ⟨_, rfl⟩
  have hb1 : Below w.heap.size w w1 := hw1 ▸ (Below.refl _ _).alloc (Nat.le_refl _) _
  have hii := inter_below HII.out hb1
  have HW1 := Lib.hid hw1
  have HB1 := Lib.hid hb1
  have G1 := Lib.hid ((hb1.block g1 (Array.getElem?_eq_some_iff.1 HH1.out).1).trans HH1.out)
  have G2 := Lib.hid ((hb1.block g2 (Array.getElem?_eq_some_iff.1 HH2.out).1).trans HH2.out)
  have HS1 := Lib.hid (HSS.out.below hb1 HSS.out.lt)
  have HR1 := Lib.hid (HRR.out.below hb1)
  have HI1 := Lib.hid hii
  clear hw1 hb1 hii
  go_enter Tryd.func10, Tryd.ntmps10
  go_wp2_with fail
  rw [← HW1.out]
  refine (merge_6 p q W H pw ph L1 S1 S2 g1 p1 cap1 g2 p2 m2 cap2 post B src _ w1 F hp hq HI1.out hS1 hL1 hB hsl hm2 G1.out G2.out HS1.out HR1.out hc1 hc2 hne).mono ?_
  rintro e w2 ⟨rfl, wm, hbm, hom, hsm⟩
  go_wp2_with fail
  go_end0
  exact ⟨rfl, wm, HB1.out.trans (hbm.mono HB1.out.size), hom, hsm⟩

/-- Two pictures in boxes. -/
structure Bx6 (b : Nat) (x y : Array Value) (w : World) : Prop where
  one : w.heap[b]? = some (.cells x 34 (0, 0))
  two : w.heap[b + 1]? = some (.cells y 34 (0, 0))
def Mgr6End (W H S1 : Nat) (l : List UInt8) (w : World) (e : Ending) (w' : World) : Prop :=
  ∃ v a6 n6 c6, e = .returned (pcV 6 W H S1 v (.slice a6 n6 c6)) ∧ OwnB w' w.heap.size v l ∧ Below w.heap.size w w'
set_option maxHeartbeats 6400000 in
set_option maxRecDepth 100000 in
theorem implMerge_6 (p : Nat) (q : Pt) (W H pw ph L1 S1 S2 cap1 m2 cap2 : Nat) (ad1 ad2 : Option Addr) (av1 av2 : Value) (B src : List UInt8) (w : World)
    (F : Hid (Fits q W H 8 pw ph)) (hp : p < 7) (hq : Hid (q = ptOf p)) (hI : Inter w) (hS1 : Hid (S1 = W * 8)) (hL1 : Hid (L1 = W * H * 8)) (hB : Hid (B.length = L1)) (hsl : Hid (src.length = pw * ph * 8)) (hm2 : Hid (m2 = pw * ph * 8))
    (hr1 : RB w ad1 B) (hr2 : RB w ad2 src) (hL : 0 < L1) (hn1 : ad1 ≠ none) (hn2 : ad2 ≠ none) :
    Calls Tryd.prog 8 #[pcV 6 W H S1 (.slice ad1 L1 cap1) (av1), pcV 6 pw ph S2 (.slice ad2 m2 cap2) (av2), .int .i64 (p : Int)] w (Mgr6End W H S1 (allM q W 8 pw src ph B) w) := by
  have E1 : pcV 6 W H S1 (.slice ad1 L1 cap1) (av1) = .agg #[.int .i64 6, .int .i64 0, .int .i64 0, .int .i64 (W : Int), .int .i64 (H : Int), .int .i64 (S1 : Int), .slice ad1 L1 cap1, av1] := rfl
  have E2 : pcV 6 pw ph S2 (.slice ad2 m2 cap2) (av2) = .agg #[.int .i64 6, .int .i64 0, .int .i64 0, .int .i64 (pw : Int), .int .i64 (ph : Int), .int .i64 (S2 : Int), .slice ad2 m2 cap2, av2] := rfl
  rw [E1, E2]
  clear E1 E2
  have hLB : L1 ≤ 40 * 40 * 8 := by rw [hL1.out]; exact Nat.mul_le_mul (Nat.mul_le_mul F.out.w F.out.h) F.out.n
  have hMB : m2 ≤ 40 * 40 * 8 := by rw [hm2.out]; exact Nat.mul_le_mul (Nat.mul_le_mul F.out.pw F.out.ph) F.out.n
  obtain ⟨w1, hw1⟩ : ∃ w1, w1 = ((w.alloc (.cells #[.int .i64 6, .int .i64 0, .int .i64 0, .int .i64 (W : Int), .int .i64 (H : Int), .int .i64 (S1 : Int), .slice ad1 L1 cap1, av1] 34)).alloc (.cells #[.int .i64 6, .int .i64 0, .int .i64 0, .int .i64 (pw : Int), .int .i64 (ph : Int), .int .i64 (S2 : Int), .slice ad2 m2 cap2, av2] 34)).alloc (.cells #[.int .i64 0, .int .i64 0, .int .i64 0, .int .i64 0, .int .i64 0, .int .i64 0, .slice none 0 0, .slice none 0 0] 34) := ⟨_, rfl⟩
  have hb1 : Below w.heap.size w w1 := hw1 ▸ (((Below.refl _ _).alloc (Nat.le_refl _) _).alloc (by rw [size_alloc]; omega) _).alloc (by rw [size_alloc, size_alloc]; omega) _
  have hz1 : w1.heap.size = w.heap.size + 3 := by rw [hw1, size_alloc, size_alloc, size_alloc]
  have hx1 : w1.heap[w.heap.size]? = some (.cells #[.int .i64 6, .int .i64 0, .int .i64 0, .int .i64 (W : Int), .int .i64 (H : Int), .int .i64 (S1 : Int), .slice ad1 L1 cap1, av1] 34 (0, 0)) := by
    rw [hw1, heap_alloc_old _ _ (by rw [size_alloc, size_alloc]; omega), heap_alloc_old _ _ (by rw [size_alloc]; omega)]
    exact alloc_at _ _
  have hx2 : w1.heap[w.heap.size + 1]? = some (.cells #[.int .i64 6, .int .i64 0, .int .i64 0, .int .i64 (pw : Int), .int .i64 (ph : Int), .int .i64 (S2 : Int), .slice ad2 m2 cap2, av2] 34 (0, 0)) := by
    rw [hw1, heap_alloc_old _ _ (by rw [size_alloc, size_alloc]; omega), ← size_alloc w (.cells #[.int .i64 6, .int .i64 0, .int .i64 0, .int .i64 (W : Int), .int .i64 (H : Int), .int .i64 (S1 : Int), .slice ad1 L1 cap1, av1] 34)]
    exact alloc_at _ _
  have hx3 : w1.heap[w.heap.size + 2]? = some (.cells #[.int .i64 0, .int .i64 0, .int .i64 0, .int .i64 0, .int .i64 0, .int .i64 0, .slice none 0 0, .slice none 0 0] 34 (0, 0)) := by
    have e : ((w.alloc (.cells #[.int .i64 6, .int .i64 0, .int .i64 0, .int .i64 (W : Int), .int .i64 (H : Int), .int .i64 (S1 : Int), .slice ad1 L1 cap1, av1] 34)).alloc (.cells #[.int .i64 6, .int .i64 0, .int .i64 0, .int .i64 (pw : Int), .int .i64 (ph : Int), .int .i64 (S2 : Int), .slice ad2 m2 cap2, av2] 34)).heap.size = w.heap.size + 2 := by rw [size_alloc, size_alloc]
    rw [hw1, ← e]
    exact alloc_at _ _
  have hbx : Bx6 w.heap.size #[.int .i64 6, .int .i64 0, .int .i64 0, .int .i64 (W : Int), .int .i64 (H : Int), .int .i64 (S1 : Int), .slice ad1 L1 cap1, av1] #[.int .i64 6, .int .i64 0, .int .i64 0, .int .i64 (pw : Int), .int .i64 (ph : Int), .int .i64 (S2 : Int), .slice ad2 m2 cap2, av2] w1.drew := ⟨hx1, hx2⟩
  have HX3 := Lib.hid hx3
  have HR1 := Lib.hid (hr1.below hb1)
  have HR2 := Lib.hid (hr2.below hb1)
  have HI1 := Lib.hid (inter_below hI hb1)
  
  
  have HW1 := Lib.hid hw1
  have HB1 := Lib.hid hb1
  have hza : w1.heap.size ≤ w.heap.size + 3 := by omega
  have hzb : w.heap.size + 3 ≤ w1.heap.size := by omega
  have HN1 := Lib.hid hn1
  have HN2 := Lib.hid hn2
  clear hx1 hx2 hx3 hw1 hb1 hz1 hr1 hr2 hI hn1 hn2
  go_enter Tryd.func8, Tryd.ntmps8
  go_upto_region 1 with fail
  rw [← HW1.out]
  refine wp_region_held_drew (S := fun w' => Bx6 w.heap.size #[.int .i64 6, .int .i64 0, .int .i64 0, .int .i64 (W : Int), .int .i64 (H : Int), .int .i64 (S1 : Int), .slice ad1 L1 cap1, av1] #[.int .i64 6, .int .i64 0, .int .i64 0, .int .i64 (pw : Int), .int .i64 (ph : Int), .int .i64 (S2 : Int), .slice ad2 m2 cap2, av2] w') (by kernel_rfl) hbx (fun hHeld => ?_)
  refine take_at 0 (some 9) (v := ?_) rfl rfl (by kernel_rfl) (by kernel_rfl) (by kernel_rfl) (fun _ _ _ h => h) (Or.inl ⟨by rfl, ?_⟩) (by assumption) ?_
  rotate_left
  · intro w hSw
    have c0 := (cell_of_row w _ 0 _ _ _ hSw.one).trans (show (#[.int .i64 6, .int .i64 0, .int .i64 0, .int .i64 (W : Int), .int .i64 (H : Int), .int .i64 (S1 : Int), .slice ad1 L1 cap1, av1] : Array Value)[0]? = some (.int .i64 6) from rfl); have c1 := (cell_of_row w _ 1 _ _ _ hSw.one).trans (show (#[.int .i64 6, .int .i64 0, .int .i64 0, .int .i64 (W : Int), .int .i64 (H : Int), .int .i64 (S1 : Int), .slice ad1 L1 cap1, av1] : Array Value)[1]? = some (.int .i64 0) from rfl); have c2 := (cell_of_row w _ 2 _ _ _ hSw.one).trans (show (#[.int .i64 6, .int .i64 0, .int .i64 0, .int .i64 (W : Int), .int .i64 (H : Int), .int .i64 (S1 : Int), .slice ad1 L1 cap1, av1] : Array Value)[2]? = some (.int .i64 0) from rfl); have c3 := (cell_of_row w _ 3 _ _ _ hSw.one).trans (show (#[.int .i64 6, .int .i64 0, .int .i64 0, .int .i64 (W : Int), .int .i64 (H : Int), .int .i64 (S1 : Int), .slice ad1 L1 cap1, av1] : Array Value)[3]? = some (.int .i64 (W : Int)) from rfl); have c4 := (cell_of_row w _ 4 _ _ _ hSw.one).trans (show (#[.int .i64 6, .int .i64 0, .int .i64 0, .int .i64 (W : Int), .int .i64 (H : Int), .int .i64 (S1 : Int), .slice ad1 L1 cap1, av1] : Array Value)[4]? = some (.int .i64 (H : Int)) from rfl); have c5 := (cell_of_row w _ 5 _ _ _ hSw.one).trans (show (#[.int .i64 6, .int .i64 0, .int .i64 0, .int .i64 (W : Int), .int .i64 (H : Int), .int .i64 (S1 : Int), .slice ad1 L1 cap1, av1] : Array Value)[5]? = some (.int .i64 (S1 : Int)) from rfl); have c6 := (cell_of_row w _ 6 _ _ _ hSw.one).trans (show (#[.int .i64 6, .int .i64 0, .int .i64 0, .int .i64 (W : Int), .int .i64 (H : Int), .int .i64 (S1 : Int), .slice ad1 L1 cap1, av1] : Array Value)[6]? = some (.slice ad1 L1 cap1) from rfl); have c7 := (cell_of_row w _ 7 _ _ _ hSw.one).trans (show (#[.int .i64 6, .int .i64 0, .int .i64 0, .int .i64 (W : Int), .int .i64 (H : Int), .int .i64 (S1 : Int), .slice ad1 L1 cap1, av1] : Array Value)[7]? = some (av1) from rfl)
    go_simp
    first | done | with_reducible rfl
  simp only [Act.put, List.setIfInBounds_toArray, List.set_cons_succ, List.set_cons_zero]
  refine take_at 2 (some 11) (v := ?_) rfl rfl (by kernel_rfl) (by kernel_rfl) (by kernel_rfl) (fun _ _ _ h => h) (Or.inl ⟨by rfl, ?_⟩) (by assumption) ?_
  rotate_left
  · intro w hSw
    have c0 := (cell_of_row w _ 0 _ _ _ hSw.two).trans (show (#[.int .i64 6, .int .i64 0, .int .i64 0, .int .i64 (pw : Int), .int .i64 (ph : Int), .int .i64 (S2 : Int), .slice ad2 m2 cap2, av2] : Array Value)[0]? = some (.int .i64 6) from rfl); have c1 := (cell_of_row w _ 1 _ _ _ hSw.two).trans (show (#[.int .i64 6, .int .i64 0, .int .i64 0, .int .i64 (pw : Int), .int .i64 (ph : Int), .int .i64 (S2 : Int), .slice ad2 m2 cap2, av2] : Array Value)[1]? = some (.int .i64 0) from rfl); have c2 := (cell_of_row w _ 2 _ _ _ hSw.two).trans (show (#[.int .i64 6, .int .i64 0, .int .i64 0, .int .i64 (pw : Int), .int .i64 (ph : Int), .int .i64 (S2 : Int), .slice ad2 m2 cap2, av2] : Array Value)[2]? = some (.int .i64 0) from rfl); have c3 := (cell_of_row w _ 3 _ _ _ hSw.two).trans (show (#[.int .i64 6, .int .i64 0, .int .i64 0, .int .i64 (pw : Int), .int .i64 (ph : Int), .int .i64 (S2 : Int), .slice ad2 m2 cap2, av2] : Array Value)[3]? = some (.int .i64 (pw : Int)) from rfl); have c4 := (cell_of_row w _ 4 _ _ _ hSw.two).trans (show (#[.int .i64 6, .int .i64 0, .int .i64 0, .int .i64 (pw : Int), .int .i64 (ph : Int), .int .i64 (S2 : Int), .slice ad2 m2 cap2, av2] : Array Value)[4]? = some (.int .i64 (ph : Int)) from rfl); have c5 := (cell_of_row w _ 5 _ _ _ hSw.two).trans (show (#[.int .i64 6, .int .i64 0, .int .i64 0, .int .i64 (pw : Int), .int .i64 (ph : Int), .int .i64 (S2 : Int), .slice ad2 m2 cap2, av2] : Array Value)[5]? = some (.int .i64 (S2 : Int)) from rfl); have c6 := (cell_of_row w _ 6 _ _ _ hSw.two).trans (show (#[.int .i64 6, .int .i64 0, .int .i64 0, .int .i64 (pw : Int), .int .i64 (ph : Int), .int .i64 (S2 : Int), .slice ad2 m2 cap2, av2] : Array Value)[6]? = some (.slice ad2 m2 cap2) from rfl); have c7 := (cell_of_row w _ 7 _ _ _ hSw.two).trans (show (#[.int .i64 6, .int .i64 0, .int .i64 0, .int .i64 (pw : Int), .int .i64 (ph : Int), .int .i64 (S2 : Int), .slice ad2 m2 cap2, av2] : Array Value)[7]? = some (av2) from rfl)
    go_simp
    first | done | with_reducible rfl
  simp only [Act.put, List.setIfInBounds_toArray, List.set_cons_succ, List.set_cons_zero]
  refine wpAnyH_ready (rs := [1]) (by kernel_rfl) (by simp) ?_
  refine AllReadyH.cons rfl (fun K hK => ?_) AllReadyH.nil
  go_simp
  refine (imageOf_6 W H S1 L1 cap1 ad1 (av1) B w1.drew hB (by exact HR1.out) (by omega) (fun e => absurd e HN1.out)).mono ?_
  rintro e w2 ⟨v1, g1, rfl, hg1, ho1, hvg1, hge1, hnn1, hb2⟩
  have hdr : w1.drew.heap.size = w1.heap.size := rfl
  have hbx2 : Bx6 w.heap.size #[.int .i64 6, .int .i64 0, .int .i64 0, .int .i64 (W : Int), .int .i64 (H : Int), .int .i64 (S1 : Int), .slice ad1 L1 cap1, av1] #[.int .i64 6, .int .i64 0, .int .i64 0, .int .i64 (pw : Int), .int .i64 (ph : Int), .int .i64 (S2 : Int), .slice ad2 m2 cap2, av2] w2 := ⟨(hb2.block w.heap.size (by omega)).trans hbx.one, (hb2.block (w.heap.size + 1) (by omega)).trans hbx.two⟩
  refine hK.out _ _ hbx2 (fun hHeld => ?_)
  clear hK K
  refine wpAnyH_ready (rs := [3]) (by kernel_rfl) (by simp) ?_
  refine AllReadyH.cons rfl (fun K hK => ?_) AllReadyH.nil
  go_simp
  have h12 := hb2.size
  have hr22 : RB w2 ad2 src := (RB.below (w := w1.drew) HR2.out hb2)
  refine (imageOf_6 pw ph S2 m2 cap2 ad2 (av2) src w2 (Lib.hid (hsl.out.trans hm2.out.symm)) hr22 (by omega) (fun e => absurd e HN2.out)).mono ?_
  rintro e w3 ⟨v2, g2, rfl, hg2, ho2, hvg2, hge2, hnn2, hb3⟩
  have hbx3 : Bx6 w.heap.size #[.int .i64 6, .int .i64 0, .int .i64 0, .int .i64 (W : Int), .int .i64 (H : Int), .int .i64 (S1 : Int), .slice ad1 L1 cap1, av1] #[.int .i64 6, .int .i64 0, .int .i64 0, .int .i64 (pw : Int), .int .i64 (ph : Int), .int .i64 (S2 : Int), .slice ad2 m2 cap2, av2] w3 := ⟨(hb3.block w.heap.size (by omega)).trans hbx2.one, (hb3.block (w.heap.size + 1) (by omega)).trans hbx2.two⟩
  refine hK.out _ _ hbx3 (fun hHeld => ?_)
  clear hK K
  refine take_at 4 (some 7) (v := ?_) rfl rfl (by kernel_rfl) (by kernel_rfl) (by kernel_rfl) (fun _ _ _ h => h) (Or.inl ⟨by rfl, ?_⟩) (by assumption) ?_
  rotate_left
  · intro w hSw
    clear hSw
    go_simp
    first | done | with_reducible rfl
  simp only [Act.put, List.setIfInBounds_toArray, List.set_cons_succ, List.set_cons_zero]
  refine take_at 5 (some 8) (v := ?_) rfl rfl (by kernel_rfl) (by kernel_rfl) (by kernel_rfl) (fun _ _ _ h => h) (Or.inl ⟨by rfl, ?_⟩) (by assumption) ?_
  rotate_left
  · intro w hSw
    clear hSw
    go_simp
    first | done | with_reducible rfl
  simp only [Act.put, List.setIfInBounds_toArray, List.set_cons_succ, List.set_cons_zero]
  refine wpAnyH_done (by kernel_rfl) ?_ _
  have hBne : B ≠ [] := fun e => by have := hB.out; rw [e] at this; simp at this; omega
  obtain ⟨p1, n1, cap3, post, rfl, hl1, hp1, hnc1, hcm1, hseg, hback⟩ := ho1.seg hBne
  obtain rfl : L1 = n1 := by have h1 := hl1.out; have h2 := hB.out; omega
  obtain ⟨ad3, n2, cap4, rfl, hl2, hrs2, hnc2, hcm2, hnil2, hsome2⟩ := ho2.shapeN
  obtain rfl : m2 = n2 := by have h1 := hl2.out; have h2 := hsl.out; have h3 := hm2.out; omega
  obtain ⟨⟨p2, o2, s2⟩, rfl⟩ : ∃ a, ad3 = some a := by
    cases ad3 with
    | none => exact absurd (by obtain ⟨e1, e2⟩ := hnil2 rfl; rw [e1, e2]) (hnn2 HN2.out)
    | some a => exact ⟨a, rfl⟩
  obtain ⟨hp2a, hp2b, hp2c, hp2d⟩ := hsome2 _ rfl
  simp only at hp2a hp2b hp2c hp2d
  subst hp2c hp2d
  have lp1 := hseg.lt
  have lg1 : g1 < w2.heap.size := (Array.getElem?_eq_some_iff.1 hg1).1
  have ng1 : g1 ≠ p1 := fun e => hvg1 (by rw [e]; rfl)
  have h12 := hb2.size
  have h23 := hb3.size
  have G1 := Lib.hid ((hb3.block g1 lg1).trans hg1)
  have G2 := Lib.hid hg2
  have HSG := Lib.hid (hseg.below hb3 lp1)
  have HRS := Lib.hid hrs2
  have HB13 : Hid (Below w1.heap.size w1 w3) := Lib.hid ((undrew hb2).trans (hb3.mono (by omega)))
  have HI3 := Lib.hid (inter_below HI1.out HB13.out)
  have HX := Lib.hid ((HB13.out.block (w.heap.size + 2) (by omega)).trans HX3.out)
  have hgw : w.heap.size + 2 < g1 := by omega
  have hpw' : w.heap.size + 2 < p1 := by omega

  clear hvg1 hg1 hseg hb2 hb3 ho1 ho2 hrs2 hbx hbx2 hbx3 hg2 hvg2 hge2 hnil2 hsome2 hback hHeld hnn1 hnn2 hge1
  go_wp2_with fail
  refine (zzMerge_6 p q W H pw ph L1 S1 S2 g1 p1 cap3 g2 p2 m2 cap4 post B src w3 F hp hq HI3.out hS1 hL1 hB hsl hm2 G1.out G2.out HSG.out HRS.out hnc1 hnc2 (by omega)).mono ?_
  rintro e w4 ⟨rfl, wm, hbm, hom, hsm⟩
  have h34 : w3.heap.size ≤ w4.heap.size := by rw [hom.size]; exact hbm.size
  have G4 := Lib.hid ((hom.block g1 ng1).trans ((hbm.block g1 (by omega)).trans G1.out))
  have HX4 := Lib.hid ((hom.block (w.heap.size + 2) (by omega)).trans ((hbm.block (w.heap.size + 2) (by omega)).trans HX.out))
  have HL4 : Hid ((allM q W 8 pw src ph B).length = L1) := Lib.hid (by rw [F.out.all_len hsl.out (by rw [hB.out, hL1.out]) ph (Nat.le_refl _), hL1.out])
  have HR4 := Lib.hid (hsm.rb (o := 0) rfl)
  have HB4 : Hid (Below w.heap.size w w4) := Lib.hid (((HB1.out.trans (HB13.out.mono (by omega))).trans (hbm.mono (by omega))).trans (hom.below (by omega)))
  
  obtain ⟨M, hM⟩ : ∃ M, M = allM q W 8 pw src ph B := ⟨_, rfl⟩
  rw [← hM] at HL4 HR4
  have HM := Lib.hid hM
  clear hbm hom hsm hM G1 G2 HSG HRS HI3 HX
  go_wp2_with fail
  refine (pictureOf_6 W H S1 L1 cap3 g1 (some ⟨p1, 0, none⟩) M w4 G4.out HL4 HR4.out (by omega) (by intro h; cases h)).mono ?_
  rintro e w5 ⟨v5, he, ho5, hb5⟩
  obtain ⟨a5, n5, c5, rfl, -⟩ := ho5.shapeN
  
  unfold pcV at he
  subst he
  have gS := Lib.hid ((hb5.block (w.heap.size + 2) (by omega)).trans HX4.out)
  have h45 := hb5.size
  have hlt5 : w.heap.size + 1 + 1 < w5.heap.size := by omega
  have z0 : w5.frozen? ⟨w.heap.size + 1 + 1, 0, none⟩ = false := frozen_of_row w5 _ 0 _ _ gS.out
  have e0 : w5.cell? ⟨w.heap.size + 1 + 1, 0, none⟩ = some (Value.int .i64 0) := (cell_of_row w5 _ 0 _ _ _ gS.out).trans rfl
  have z1 : w5.frozen? ⟨w.heap.size + 1 + 1, 1, none⟩ = false := frozen_of_row w5 _ 1 _ _ gS.out
  have e1 : w5.cell? ⟨w.heap.size + 1 + 1, 1, none⟩ = some (Value.int .i64 0) := (cell_of_row w5 _ 1 _ _ _ gS.out).trans rfl
  have z2 : w5.frozen? ⟨w.heap.size + 1 + 1, 2, none⟩ = false := frozen_of_row w5 _ 2 _ _ gS.out
  have e2 : w5.cell? ⟨w.heap.size + 1 + 1, 2, none⟩ = some (Value.int .i64 0) := (cell_of_row w5 _ 2 _ _ _ gS.out).trans rfl
  have z3 : w5.frozen? ⟨w.heap.size + 1 + 1, 3, none⟩ = false := frozen_of_row w5 _ 3 _ _ gS.out
  have e3 : w5.cell? ⟨w.heap.size + 1 + 1, 3, none⟩ = some (Value.int .i64 0) := (cell_of_row w5 _ 3 _ _ _ gS.out).trans rfl
  have z4 : w5.frozen? ⟨w.heap.size + 1 + 1, 4, none⟩ = false := frozen_of_row w5 _ 4 _ _ gS.out
  have e4 : w5.cell? ⟨w.heap.size + 1 + 1, 4, none⟩ = some (Value.int .i64 0) := (cell_of_row w5 _ 4 _ _ _ gS.out).trans rfl
  have z5 : w5.frozen? ⟨w.heap.size + 1 + 1, 5, none⟩ = false := frozen_of_row w5 _ 5 _ _ gS.out
  have e5 : w5.cell? ⟨w.heap.size + 1 + 1, 5, none⟩ = some (Value.int .i64 0) := (cell_of_row w5 _ 5 _ _ _ gS.out).trans rfl
  have z6 : w5.frozen? ⟨w.heap.size + 1 + 1, 6, none⟩ = false := frozen_of_row w5 _ 6 _ _ gS.out
  have e6 : w5.cell? ⟨w.heap.size + 1 + 1, 6, none⟩ = some (Value.slice none 0 0) := (cell_of_row w5 _ 6 _ _ _ gS.out).trans rfl
  have z7 : w5.frozen? ⟨w.heap.size + 1 + 1, 7, none⟩ = false := frozen_of_row w5 _ 7 _ _ gS.out
  have e7 : w5.cell? ⟨w.heap.size + 1 + 1, 7, none⟩ = some (Value.slice none 0 0) := (cell_of_row w5 _ 7 _ _ _ gS.out).trans rfl
  go_wp2_with fail
  change bodyPost _ _ _ _ _ (put8 w5 (w.heap.size + 2) 6 W H S1 (.slice a5 n5 c5) (.slice none 0 0))
  obtain ⟨w6, hw6⟩ : ∃ w6, w6 = put8 w5 (w.heap.size + 2) 6 W H S1 (.slice a5 n5 c5) (.slice none 0 0) := ⟨_, rfl⟩
  rw [← hw6]
  have hon : Only (w.heap.size + 2) w5 w6 := hw6 ▸ put8_only _ _ _ _ _ _ _ _
  have hrow := put8_row w5 (w.heap.size + 2) 6 W H S1 (.slice a5 n5 c5) (.slice none 0 0) gS.out
  rw [← hw6] at hrow
  have hne : ∀ g, (Value.slice a5 n5 c5).ownBlock = some g → g ≠ w.heap.size + 2 := fun g hg => by have := ownBlock_ge ho5 g hg; omega
  have HO := (ho5.mono (show w.heap.size ≤ w4.heap.size by omega)).only hon hne
  have HB6 : Below w.heap.size w w6 := (HB4.out.trans (hb5.mono (by omega))).trans (hon.below (by omega))
  clear hw6
  have r0 : w6.cell? ⟨w.heap.size + 1 + 1, 0, none⟩ = _ := (cell_of_row w6 _ 0 _ _ _ hrow).trans (show (pcCells 6 W H S1 (.slice a5 n5 c5) (.slice none 0 0))[0]? = some _ from rfl)
  have r1 : w6.cell? ⟨w.heap.size + 1 + 1, 1, none⟩ = _ := (cell_of_row w6 _ 1 _ _ _ hrow).trans (show (pcCells 6 W H S1 (.slice a5 n5 c5) (.slice none 0 0))[1]? = some _ from rfl)
  have r2 : w6.cell? ⟨w.heap.size + 1 + 1, 2, none⟩ = _ := (cell_of_row w6 _ 2 _ _ _ hrow).trans (show (pcCells 6 W H S1 (.slice a5 n5 c5) (.slice none 0 0))[2]? = some _ from rfl)
  have r3 : w6.cell? ⟨w.heap.size + 1 + 1, 3, none⟩ = _ := (cell_of_row w6 _ 3 _ _ _ hrow).trans (show (pcCells 6 W H S1 (.slice a5 n5 c5) (.slice none 0 0))[3]? = some _ from rfl)
  have r4 : w6.cell? ⟨w.heap.size + 1 + 1, 4, none⟩ = _ := (cell_of_row w6 _ 4 _ _ _ hrow).trans (show (pcCells 6 W H S1 (.slice a5 n5 c5) (.slice none 0 0))[4]? = some _ from rfl)
  have r5 : w6.cell? ⟨w.heap.size + 1 + 1, 5, none⟩ = _ := (cell_of_row w6 _ 5 _ _ _ hrow).trans (show (pcCells 6 W H S1 (.slice a5 n5 c5) (.slice none 0 0))[5]? = some _ from rfl)
  have r6 : w6.cell? ⟨w.heap.size + 1 + 1, 6, none⟩ = _ := (cell_of_row w6 _ 6 _ _ _ hrow).trans (show (pcCells 6 W H S1 (.slice a5 n5 c5) (.slice none 0 0))[6]? = some _ from rfl)
  have r7 : w6.cell? ⟨w.heap.size + 1 + 1, 7, none⟩ = _ := (cell_of_row w6 _ 7 _ _ _ hrow).trans (show (pcCells 6 W H S1 (.slice a5 n5 c5) (.slice none 0 0))[7]? = some _ from rfl)
  refine bodyPost_ret (v := pcV 6 W H S1 (.slice a5 n5 c5) (.slice none 0 0)) (by simp [results, Tryd.results8, go_sem, r0, r1, r2, r3, r4, r5, r6, r7]; rfl) rfl ⟨_, _, _, _, rfl, by rw [← HM.out]; exact HO, HB6⟩
end Go.Proofs.YtcfafomnoejemaaDoor
