/- The contract of imageOf at the kind with a palette. Printed by gen/mgimg7.py. -/
import Derived.Test.YtcfafomnoejemaaDoorMgImg
import Derived.Test.YtcfafomnoejemaaDoorPicOf
import Derived.Test.YtcfafomnoejemaaDoorMgCopy
namespace Go.Proofs.YtcfafomnoejemaaDoor
open Go.ChangeShapes Go.WideShapes Go.ChangeAt Go.RowKit Go.IntWalk

/-- The cells of a decoder that nothing has been told. -/
def decZ : List Value := [.nilIface, .nilIface, .pointer none, .int .i64 0, .int .i64 0, .int .i64 0, .slice none 0 0, .int .i64 0, .int .i64 0, .int .u32 0] ++ List.replicate 768 (.int .u8 0) ++ [.int .i64 0, .bool false] ++ List.replicate 6 (.int .u8 0)
theorem zero_dec (w : World) : (zeroValue 76).run Tryd.prog w = .ok (.agg decZ.toArray) w := by kernel_rfl
theorem inter_below {w w' : World} (h : Inter w) (hb : Below w.heap.size w w') : Inter w' := by
  obtain ⟨G, o, h0, hp⟩ := h
  have k : ∀ {a : Addr} {v : Value}, w.cell? a = some v → w'.cell? a = some v := fun {a v} h => by rw [hb.cell (World.block_lt_of_cell? w _ h)]; exact h
  exact ⟨G, o, k h0, fun p hp7 => ⟨k (hp p hp7).1, k (hp p hp7).2.1, k (hp p hp7).2.2.1, k (hp p hp7).2.2.2⟩⟩
/-- Colors of the call's own, as a palette. -/
theorem pal_of_owns {w : World} {base m : Nat} {v : Value} {S : List Sh} (h : w.ownsRow base 89 1 v m (S.map ngV)) (hS : S.length = m) (hm : 0 < m) :
    ∃ P c, v = .slice (some ⟨P, 0, none⟩) m c ∧ base ≤ P ∧ P < w.heap.size ∧ PalAt w (some ⟨P, 0, none⟩) S := by
  rcases h.2 with ⟨rfl, hn⟩ | ⟨g, cap, cur, rfl, hb, hg, r⟩
  · omega
  · refine ⟨g, cap, rfl, hb, (Array.getElem?_eq_some_iff.1 hg).1, fun _ => ⟨g, rfl, fun j s hj => ⟨79, Or.inr rfl, ?_⟩⟩⟩
    have hjl := (List.getElem?_eq_some_iff.1 hj).1
    have hc := World.ownsRow.cellAt (w := w) h j (by omega)
    rw [hc, List.getElem?_map, hj]
    rfl
def Img7End (ad : Option Addr) (W H S m : Nat) (l : List UInt8) (SS : List Sh) (w : World) (e : Ending) (w' : World) : Prop :=
  ∃ v g P pc, e = .returned (.iface 61 (.pointer (some ⟨g, 0, none⟩))) ∧ w'.heap[g]? = some (.cells (imgC v W H S ++ [Value.slice (some ⟨P, 0, none⟩) m pc]).toArray 66 (0, 0)) ∧ OwnB w' w.heap.size v l ∧ v.ownBlock ≠ some g ∧ v.ownBlock ≠ some P ∧ w.heap.size ≤ g ∧ (ad ≠ none → v ≠ .slice none 0 0) ∧
    w.heap.size ≤ P ∧ P < w'.heap.size ∧ PalAt w' (some ⟨P, 0, none⟩) SS ∧ Below w.heap.size w w'
structure Ld7 (b c : Nat) (W H S : Nat) (av : Value) (w : World) : Prop where
  s : w.cell? ⟨b, 5, none⟩ = some (.int .i64 (S : Int))
  a : w.cell? ⟨b, 7, none⟩ = some av
  r : RcAt c W H w
theorem Ld7.kept {b c W H S : Nat} {av : Value} {w w' : World} (h : Ld7 b c W H S av w) (h1 : w'.heap[b]? = w.heap[b]?) (h2 : w'.heap[c]? = w.heap[c]?) : Ld7 b c W H S av w' :=
  ⟨(World.cell?_of_block (w := w) h1).trans h.s, (World.cell?_of_block (w := w) h1).trans h.a, h.r.kept h2⟩
set_option maxHeartbeats 1600000 in
set_option maxRecDepth 100000 in
theorem imageOf_7 (W H S n cap m pcap : Nat) (ad ap : Option Addr) (l : List UInt8) (SS : List Sh) (w : World) (hl : Hid (l.length = n)) (hr : RB w ad l) (hn : n ≤ 100000) (hnil : ad = none → n = 0 ∧ cap = 0)
    (hSS : Hid (InS w ap m pcap SS)) (hm0 : 0 < m) (hm : m ≤ 1000) :
    Calls Tryd.prog 9 #[pcV 7 W H S (.slice ad n cap) (.slice ap m pcap)] w (Img7End ad W H S m l SS w) := by
  have E : pcV 7 W H S (.slice ad n cap) (.slice ap m pcap) = .agg #[.int .i64 7, .int .i64 0, .int .i64 0, .int .i64 (W : Int), .int .i64 (H : Int), .int .i64 (S : Int), .slice ad n cap, .slice ap m pcap] := rfl
  rw [E]
  clear E
  obtain ⟨w1, hw1⟩ : ∃ w1, w1 = w.alloc (.cells #[.int .i64 7, .int .i64 0, .int .i64 0, .int .i64 (W : Int), .int .i64 (H : Int), .int .i64 (S : Int), .slice ad n cap, .slice ap m pcap] 34) := ⟨_, rfl⟩
  have hb1 : Below w.heap.size w w1 := hw1 ▸ (Below.refl _ _).alloc (Nat.le_refl _) _
  have hs1 : w1.heap.size = w.heap.size + 1 := by rw [hw1, size_alloc]
  have hc : w1.heap[w.heap.size]? = some (.cells #[.int .i64 7, .int .i64 0, .int .i64 0, .int .i64 (W : Int), .int .i64 (H : Int), .int .i64 (S : Int), .slice ad n cap, .slice ap m pcap] 34 (0, 0)) := by
    rw [hw1]
    exact alloc_at _ _
  have k6 : w1.cell? ⟨w.heap.size, 6, none⟩ = some (.slice ad n cap) := (cell_of_row w1 _ 6 _ _ _ hc).trans rfl
  have HW1 := Lib.hid hw1
  have HC := Lib.hid hc
  have HB1 := Lib.hid hb1
  have HS1 := Lib.hid hs1
  have hr1 := hr.below hb1
  have HIS := Lib.hid (hSS.out.below hb1)
  clear hw1 hc hb1 hs1 hr hSS
  go_enter Tryd.func9, Tryd.ntmps9
  go_upto_region 1 with fail
  rw [← HW1.out]
  go_upto_region 2 with (go_at_call 12; refine (clone_any ad n cap l hl w1 (by omega) hr1 hnil).mono ?_; rintro e w2 ⟨v, rfl, ho, hb, hnl⟩)
  have HNL : Hid (ad ≠ none → v ≠ .slice none 0 0) := Lib.hid (fun h e => h (hnl.1 e))
  clear hnl
  obtain ⟨a2, n2, cap2, rfl, -⟩ := ho.shapeN
  have hlt : w.heap.size < w2.heap.size := by have := HS1.out; have := hb.size; omega
  have hc2 : w2.heap[w.heap.size]? = some (.cells #[.int .i64 7, .int .i64 0, .int .i64 0, .int .i64 (W : Int), .int .i64 (H : Int), .int .i64 (S : Int), .slice ad n cap, .slice ap m pcap] 34 (0, 0)) := (hb.block _ (by rw [HS1.out]; omega)).trans HC.out
  have c0 : w2.cell? ⟨w.heap.size, 0, none⟩ = some (.int .i64 7) := (cell_of_row w2 _ 0 _ _ _ hc2).trans rfl
  have c1 : w2.cell? ⟨w.heap.size, 1, none⟩ = some (.int .i64 0) := (cell_of_row w2 _ 1 _ _ _ hc2).trans rfl
  have c2 : w2.cell? ⟨w.heap.size, 2, none⟩ = some (.int .i64 0) := (cell_of_row w2 _ 2 _ _ _ hc2).trans rfl
  have c3 : w2.cell? ⟨w.heap.size, 3, none⟩ = some (.int .i64 (W : Int)) := (cell_of_row w2 _ 3 _ _ _ hc2).trans rfl
  have c4 : w2.cell? ⟨w.heap.size, 4, none⟩ = some (.int .i64 (H : Int)) := (cell_of_row w2 _ 4 _ _ _ hc2).trans rfl
  have c5 : w2.cell? ⟨w.heap.size, 5, none⟩ = some (.int .i64 (S : Int)) := (cell_of_row w2 _ 5 _ _ _ hc2).trans rfl
  have HC2 := Lib.hid hc2
  have HO := Lib.hid ho
  have HB2 := Lib.hid hb
  clear ho hb hc2 k6 hr1
  go_upto_region 17 with fail
  clear c0 c1 c2 c3 c4 c5
  obtain ⟨w3, hw3⟩ : ∃ w3, w3 = w2.alloc (.cells #[.int .i64 0, .int .i64 0, .int .i64 (W : Int), .int .i64 (H : Int)] 47) := ⟨_, rfl⟩
  rw [← hw3]
  obtain ⟨N4, hN4⟩ : ∃ N4, N4 = w2.heap.size := ⟨_, rfl⟩
  rw [← hN4]
  have hb3 : Below w2.heap.size w2 w3 := hw3 ▸ (Below.refl _ _).alloc (Nat.le_refl _) _
  have hR : w3.heap[N4]? = some (.cells #[.int .i64 0, .int .i64 0, .int .i64 (W : Int), .int .i64 (H : Int)] 47 (0, 0)) := by rw [hw3, hN4]; exact alloc_at _ _
  have hs3 : N4 < w3.heap.size := (Array.getElem?_eq_some_iff.1 hR).1
  have hN0 : w.heap.size < N4 := by rw [hN4]; exact hlt
  have h13 : Below w1.heap.size w1 w3 := HB2.out.trans (hb3.mono HB2.out.size)
  have hP3 := (hb3.block w.heap.size hlt).trans HC2.out
  have HIS3 := Lib.hid (HIS.out.below h13)
  have hld : Ld7 w.heap.size N4 W H S (.slice ap m pcap) w3.drew := ⟨(cell_of_row w3 _ 5 _ _ _ hP3).trans rfl, (cell_of_row w3 _ 7 _ _ _ hP3).trans rfl, RcAt.of_row hR⟩
  have HO3 := Lib.hid (HO.out.below hb3)
  have HB3 : Hid (Below w.heap.size w w3) := Lib.hid (HB1.out.trans (h13.mono HB1.out.size))
  have h1le : w.heap.size ≤ w1.heap.size := HB1.out.size
  have h1le2 : w1.heap.size ≤ w3.heap.size := h13.size
  clear hw3 hN4 hb3 hR h13 hP3
  refine wp_region_held_drew (S := fun w' => Ld7 w.heap.size N4 W H S (.slice ap m pcap) w') (by kernel_rfl) hld (fun hHeld => ?_)
  refine take_at 0 (some 77) (v := ?_) rfl rfl (by kernel_rfl) (by kernel_rfl) (by kernel_rfl) (fun _ _ _ h => h) (Or.inl ⟨by rfl, ?_⟩) (by assumption) ?_
  rotate_left
  · intro w hSw
    obtain ⟨s5, s7, c0, c1, c2, c3⟩ := hSw
    go_simp
    first | done | with_reducible rfl
  simp only [Act.put, List.setIfInBounds_toArray, List.set_cons_succ, List.set_cons_zero]
  refine take_at 1 (some 78) (v := ?_) rfl rfl (by kernel_rfl) (by kernel_rfl) (by kernel_rfl) (fun _ _ _ h => h) (Or.inl ⟨by rfl, ?_⟩) (by assumption) ?_
  rotate_left
  · intro w hSw
    obtain ⟨s5, s7, c0, c1, c2, c3⟩ := hSw
    go_simp
    first | done | with_reducible rfl
  simp only [Act.put, List.setIfInBounds_toArray, List.set_cons_succ, List.set_cons_zero]
  refine take_at 2 (some 79) (v := ?_) rfl rfl (by kernel_rfl) (by kernel_rfl) (by kernel_rfl) (fun _ _ _ h => h) (Or.inl ⟨by rfl, ?_⟩) (by assumption) ?_
  rotate_left
  · intro w hSw
    obtain ⟨s5, s7, c0, c1, c2, c3⟩ := hSw
    go_simp
    first | done | with_reducible rfl
  simp only [Act.put, List.setIfInBounds_toArray, List.set_cons_succ, List.set_cons_zero]
  refine take_at 3 (some 80) (v := ?_) rfl rfl (by kernel_rfl) (by kernel_rfl) (by kernel_rfl) (fun _ _ _ h => h) (Or.inl ⟨by rfl, ?_⟩) (by assumption) ?_
  rotate_left
  · intro w hSw
    obtain ⟨s5, s7, c0, c1, c2, c3⟩ := hSw
    go_simp
    first | done | with_reducible rfl
  simp only [Act.put, List.setIfInBounds_toArray, List.set_cons_succ, List.set_cons_zero]
  refine take_at 4 (some 81) (v := ?_) rfl rfl (by kernel_rfl) (by kernel_rfl) (by kernel_rfl) (fun _ _ _ h => h) (Or.inl ⟨by rfl, ?_⟩) (by assumption) ?_
  rotate_left
  · intro w hSw
    obtain ⟨s5, s7, c0, c1, c2, c3⟩ := hSw
    go_simp
    first | done | with_reducible rfl
  simp only [Act.put, List.setIfInBounds_toArray, List.set_cons_succ, List.set_cons_zero]
  refine take_at 5 (some 82) (v := ?_) rfl rfl (by kernel_rfl) (by kernel_rfl) (by kernel_rfl) (fun _ _ _ h => h) (Or.inl ⟨by rfl, ?_⟩) (by assumption) ?_
  rotate_left
  · intro w hSw
    obtain ⟨s5, s7, c0, c1, c2, c3⟩ := hSw
    go_simp
    first | done | with_reducible rfl
  simp only [Act.put, List.setIfInBounds_toArray, List.set_cons_succ, List.set_cons_zero]
  refine wpAnyH_ready (rs := [6]) (by kernel_rfl) (by simp) ?_
  refine AllReadyH.cons rfl (fun K hK => ?_) AllReadyH.nil
  go_simp
  refine (paletteOf_any ap m pcap SS w3.drew (Lib.hid (HIS3.out.below (bdrew (Below.refl _ _)))) hm).mono ?_
  rintro e w4 ⟨pv, rfl, hop, hb4⟩
  obtain ⟨P, pc, rfl, hPge, hPlt, hpal⟩ := pal_of_owns hop HIS3.out.hlen.out hm0
  have hld4 := hld.kept (hb4.block w.heap.size (show w.heap.size < w3.drew.heap.size by show _ < w3.heap.size; omega)) (hb4.block N4 hs3)
  refine hK.out _ _ hld4 (fun hHeld => ?_)
  clear hK K
  refine take_at 7 (some 84) (v := ?_) rfl rfl (by kernel_rfl) (by kernel_rfl) (by kernel_rfl) (fun _ _ _ h => h) (Or.inl ⟨by rfl, ?_⟩) (by assumption) ?_
  rotate_left
  · intro w hSw
    clear hSw
    go_simp
    first | done | with_reducible rfl
  simp only [Act.put, List.setIfInBounds_toArray, List.set_cons_succ, List.set_cons_zero]
  refine wpAnyH_ready (rs := [8]) (by kernel_rfl) (by simp) ?_
  refine AllReadyH.cons rfl (fun K hK => ?_) AllReadyH.nil
  go_simp
  have hld5 := hld4.kept (w' := w4.alloc (.cells #[.slice a2 n2 cap2, .int .i64 (S : Int), .int .i64 0, .int .i64 0, .int .i64 (W : Int), .int .i64 (H : Int), .slice (some ⟨P, 0, none⟩) m pc] 66)) (heap_alloc_old w4 _ (by have : w3.heap.size ≤ w4.heap.size := hb4.size; omega)) (heap_alloc_old w4 _ (by have : w3.heap.size ≤ w4.heap.size := hb4.size; omega))
  refine hK.out _ _ hld5 (fun hHeld => ?_)
  clear hK K
  refine take_at 9 (some 86) (v := ?_) rfl rfl (by kernel_rfl) (by kernel_rfl) (by kernel_rfl) (fun _ _ _ h => h) (Or.inl ⟨by rfl, ?_⟩) (by assumption) ?_
  rotate_left
  · intro w hSw
    clear hSw
    go_simp
    first | done | with_reducible rfl
  simp only [Act.put, List.setIfInBounds_toArray, List.set_cons_succ, List.set_cons_zero]
  refine take_at 10 (some 2) (v := ?_) rfl rfl (by kernel_rfl) (by kernel_rfl) (by kernel_rfl) (fun _ _ _ h => h) (Or.inl ⟨by rfl, ?_⟩) (by assumption) ?_
  rotate_left
  · intro w hSw
    clear hSw
    go_simp
    first | done | with_reducible rfl
  simp only [Act.put, List.setIfInBounds_toArray, List.set_cons_succ, List.set_cons_zero]
  refine wpAnyH_done (by kernel_rfl) ?_ _
  have h34 : w3.heap.size ≤ w4.heap.size := hb4.size
  have hb5 : Below w4.heap.size w4 (w4.alloc (.cells #[.slice a2 n2 cap2, .int .i64 (S : Int), .int .i64 0, .int .i64 0, .int .i64 (W : Int), .int .i64 (H : Int), .slice (some ⟨P, 0, none⟩) m pc] 66)) := (Below.refl _ _).alloc (Nat.le_refl _) _
  have HO5 := ((HO3.out.below (undrew hb4)).below hb5).mono h1le
  have HB5 : Below w.heap.size w _ := (HB3.out.trans ((undrew hb4).mono (show w.heap.size ≤ w3.heap.size by omega))).trans (hb5.mono (show w.heap.size ≤ w4.heap.size by omega))
  have hx : ∀ b, (Value.slice a2 n2 cap2).ownBlock = some b → b < w3.heap.size := fun b hb => (World.ownsRow.lt HO3.out b hb).2
  have hPge' : w3.heap.size ≤ P := hPge
  go_wp2_with fail
  go_ret
  refine ⟨_, w4.heap.size, P, pc, rfl, alloc_at _ _, HO5, fun e => ?_, fun e => ?_, by omega, HNL.out, by omega, by rw [size_alloc]; omega, hpal.below hb5, HB5⟩
  · have := hx _ e; omega
  · have := hx _ e; omega
end Go.Proofs.YtcfafomnoejemaaDoor
