/- The contract of the laws' dotsOf: the pixels of a picture. Printed by gen/dotsof.py. -/
import Derived.Test.YtkiibhpmembcgaaGreatDoorSpSame
import Derived.Test.YtkiibhpmembcgaaGreatDoorGPicD
import Derived.Test.YtkiibhpmembcgaaGreatDoorPicDots3
import Derived.Test.YtkiibhpmembcgaaGreatDoorPicDots4
import Derived.Test.YtkiibhpmembcgaaGreatDoorPicDots6
import Derived.Test.YtkiibhpmembcgaaGreatDoorSpDotsP
import Derived.Test.YtkiibhpmembcgaaGreatDoorPic
namespace Go.Proofs.YtkiibhpmembcgaaGreatDoor
open Go.ChangeShapes Go.WideShapes Go.ChangeAt Go.RowKit Go.IntWalk

theorem OwnD.palD {w : World} {base : Nat} {v : Value} {l : List Dt} (h : OwnD w base v l) : ∃ ad cap, v = .slice ad l.length cap ∧ PalD w ad l := by
  obtain ⟨ad, cap, e, -, -, -, hc⟩ := h.shape
  exact ⟨ad, cap, e, hc⟩
/-- PictureDots, at any kind. -/
theorem pictureDots_any (k W H S L cap pn pc : Nat) (ad pa : Option Addr) (P : List Dt) (l : List UInt8) (w : World) (h1 : 1 ≤ k) (h7 : k ≤ 7) (hW : W ≤ 40) (hH : H ≤ 40) (hS : Hid (S = W * nK k)) (hL : Hid (L = H * S)) (hl : Hid (l.length = L)) (hr : RB w ad l) (hcap : L ≤ cap)
    (hP : PalD w pa P) (hpn : Hid (P.length = pn)) (hpb : k = 7 → ∀ b ∈ l, b.toNat < pn) (hpm : pn ≤ 1000) :
    Calls Tryz.prog 31 #[.int .i64 (k : Int), .int .i64 (W : Int), .int .i64 (H : Int), .int .i64 (S : Int), .slice ad L cap, .slice pa pn pc] w (PdEnd k P W H S l w) := by
  rcases (by omega : k = 1 ∨ k = 2 ∨ k = 3 ∨ k = 4 ∨ k = 5 ∨ k = 6 ∨ k = 7) with rfl | rfl | rfl | rfl | rfl | rfl | rfl
  · exact pictureDots_1 W H S L cap pn pc ad pa P l w hW hH hS hL hl hr hcap
  · exact pictureDots_2 W H S L cap pn pc ad pa P l w hW hH hS hL hl hr hcap
  · exact pictureDots_3 W H S L cap pn pc ad pa P l w hW hH hS hL hl hr hcap
  · exact pictureDots_4 W H S L cap pn pc ad pa P l w hW hH hS hL hl hr hcap
  · exact pictureDots_5 W H S L cap pn pc ad pa P l w hW hH hS hL hl hr hcap
  · exact pictureDots_6 W H S L cap pn pc ad pa P l w hW hH hS hL hl hr hcap
  · exact pictureDots_7 W H S L cap pn pc ad pa P l w hW hH hS hL hl hr hcap hP hpn (hpb rfl) hpm
def DoEnd (k W H S : Nat) (l : List UInt8) (SS : List Sh) (w : World) (e : Ending) (w' : World) : Prop :=
  ∃ v, e = .returned (.tuple #[v, .bool true]) ∧ OwnD w' w.heap.size v ((List.range (H * W)).map (dotAt k (SS.map dtS) (nK k) W S l)) ∧ Below w.heap.size w w'
structure PcAt (w : World) (b k W H S : Nat) (pv av : Value) : Prop where
  c0 : w.cell? ⟨b, 0, none⟩ = some (.int .i64 (k : Int))
  c1 : w.cell? ⟨b, 1, none⟩ = some (.int .i64 0)
  c2 : w.cell? ⟨b, 2, none⟩ = some (.int .i64 0)
  c3 : w.cell? ⟨b, 3, none⟩ = some (.int .i64 (W : Int))
  c4 : w.cell? ⟨b, 4, none⟩ = some (.int .i64 (H : Int))
  c5 : w.cell? ⟨b, 5, none⟩ = some (.int .i64 (S : Int))
  c6 : w.cell? ⟨b, 6, none⟩ = some pv
  c7 : w.cell? ⟨b, 7, none⟩ = some av
theorem PcAt.of_row {w : World} {b k W H S : Nat} {pv av : Value} {T : TypeId} (h : w.heap[b]? = some (.cells (pcCells k W H S pv av) T (0, 0))) : PcAt w b k W H S pv av :=
  ⟨(cell_of_row w b 0 _ _ _ h).trans rfl, (cell_of_row w b 1 _ _ _ h).trans rfl, (cell_of_row w b 2 _ _ _ h).trans rfl, (cell_of_row w b 3 _ _ _ h).trans rfl, (cell_of_row w b 4 _ _ _ h).trans rfl, (cell_of_row w b 5 _ _ _ h).trans rfl, (cell_of_row w b 6 _ _ _ h).trans rfl, (cell_of_row w b 7 _ _ _ h).trans rfl⟩
theorem PcAt.kept {w w' : World} {b k W H S : Nat} {pv av : Value} (h : PcAt w b k W H S pv av) (hk : w'.heap[b]? = w.heap[b]?) : PcAt w' b k W H S pv av :=
  ⟨(World.cell?_of_block (w := w) hk).trans h.c0, (World.cell?_of_block (w := w) hk).trans h.c1, (World.cell?_of_block (w := w) hk).trans h.c2, (World.cell?_of_block (w := w) hk).trans h.c3, (World.cell?_of_block (w := w) hk).trans h.c4, (World.cell?_of_block (w := w) hk).trans h.c5, (World.cell?_of_block (w := w) hk).trans h.c6, (World.cell?_of_block (w := w) hk).trans h.c7⟩
set_option maxHeartbeats 3200000 in
set_option maxRecDepth 100000 in
theorem dotsOf_any (k W H S L cap an ac : Nat) (ad aa : Option Addr) (SS : List Sh) (l : List UInt8) (w : World) (h1 : 1 ≤ k) (h7 : k ≤ 7) (hW : W ≤ 40) (hH : H ≤ 40) (hS : Hid (S = W * nK k)) (hL : Hid (L = H * S)) (hl : Hid (l.length = L)) (hr : RB w ad l) (hcap : L ≤ cap)
    (hSS : Hid (InS w aa an ac SS)) (hpb : k = 7 → ∀ b ∈ l, b.toNat < SS.length) (hpm : an ≤ 1000) :
    Calls Tryz.prog 17 #[pcV k W H S (.slice ad L cap) (.slice aa an ac)] w (DoEnd k W H S l SS w) := by
  obtain ⟨N, hN⟩ : ∃ N, N = w.heap.size := ⟨_, rfl⟩
  obtain ⟨w1, hw1⟩ : ∃ w1, w1 = w.alloc (.cells (pcCells k W H S (.slice ad L cap) (.slice aa an ac)) 43) := ⟨_, rfl⟩
  have hb1 : Below w.heap.size w w1 := hw1 ▸ (Below.refl _ _).alloc (Nat.le_refl _) _
  have hp1 : PcAt w1.drew N k W H S (.slice ad L cap) (.slice aa an ac) := PcAt.of_row (T := 43) (show w1.heap[N]? = _ by rw [hw1, hN]; exact alloc_at _ _)
  have lN : N < w1.heap.size := by rw [hw1, size_alloc, hN]; omega
  have HW1 := Lib.hid hw1
  have HN := Lib.hid hN
  have HB1 := Lib.hid hb1
  have HR := Lib.hid (hr.below hb1)
  have HSS1 := Lib.hid (hSS.out.below hb1)
  have hv1 : IntKind.i64.wrap (W : Int) = (W : Int) := i64_in _ ⟨by omega, by omega⟩
  have hv2 : IntKind.i64.wrap (H : Int) = (H : Int) := i64_in _ ⟨by omega, by omega⟩
  clear hw1 hN hb1 hr
  change Calls _ _ #[.agg (pcCells k W H S (.slice ad L cap) (.slice aa an ac))] _ _
  unfold pcCells
  go_enter Tryz.func17, Tryz.ntmps17
  go_upto_region 1 with fail
  rw [← HN.out]
  change Code.wp _ _ _ _ (w.alloc (.cells (pcCells k W H S (.slice ad L cap) (.slice aa an ac)) 43))
  rw [← HW1.out]
  refine wp_region_held_drew (S := fun w' => PcAt w' N k W H S (.slice ad L cap) (.slice aa an ac)) (by kernel_rfl) hp1 (fun hHeld => ?_)
  refine take_at 0 (some 4) (v := ?_) rfl rfl (by kernel_rfl) (by kernel_rfl) (by kernel_rfl) (fun _ _ _ h => h) (Or.inl ⟨by rfl, ?_⟩) (by assumption) ?_
  rotate_left
  · intro w hSw
    obtain ⟨c0, c1, c2, c3, c4, c5, c6, c7⟩ := hSw
    go_simp
    first | done | with_reducible rfl
  simp only [Act.put, List.setIfInBounds_toArray, List.set_cons_succ, List.set_cons_zero]
  refine take_at 1 (some 5) (v := ?_) rfl rfl (by kernel_rfl) (by kernel_rfl) (by kernel_rfl) (fun _ _ _ h => h) (Or.inl ⟨by rfl, ?_⟩) (by assumption) ?_
  rotate_left
  · intro w hSw
    obtain ⟨c0, c1, c2, c3, c4, c5, c6, c7⟩ := hSw
    go_simp
    first | done | with_reducible rfl
  simp only [Act.put, List.setIfInBounds_toArray, List.set_cons_succ, List.set_cons_zero]
  refine take_at 2 (some 6) (v := ?_) rfl rfl (by kernel_rfl) (by kernel_rfl) (by kernel_rfl) (fun _ _ _ h => h) (Or.inl ⟨by rfl, ?_⟩) (by assumption) ?_
  rotate_left
  · intro w hSw
    obtain ⟨c0, c1, c2, c3, c4, c5, c6, c7⟩ := hSw
    go_simp
    first | done | with_reducible rfl
  simp only [Act.put, List.setIfInBounds_toArray, List.set_cons_succ, List.set_cons_zero]
  refine take_at 3 (some 7) (v := ?_) rfl rfl (by kernel_rfl) (by kernel_rfl) (by kernel_rfl) (fun _ _ _ h => h) (Or.inl ⟨by rfl, ?_⟩) (by assumption) ?_
  rotate_left
  · intro w hSw
    obtain ⟨c0, c1, c2, c3, c4, c5, c6, c7⟩ := hSw
    go_simp
    first | done | with_reducible rfl
  simp only [Act.put, List.setIfInBounds_toArray, List.set_cons_succ, List.set_cons_zero]
  refine take_at 4 (some 8) (v := ?_) rfl rfl (by kernel_rfl) (by kernel_rfl) (by kernel_rfl) (fun _ _ _ h => h) (Or.inl ⟨by rfl, ?_⟩) (by assumption) ?_
  rotate_left
  · intro w hSw
    obtain ⟨c0, c1, c2, c3, c4, c5, c6, c7⟩ := hSw
    go_simp
    first | done | with_reducible rfl
  simp only [Act.put, List.setIfInBounds_toArray, List.set_cons_succ, List.set_cons_zero]
  refine take_at 5 (some 9) (v := ?_) rfl rfl (by kernel_rfl) (by kernel_rfl) (by kernel_rfl) (fun _ _ _ h => h) (Or.inl ⟨by rfl, ?_⟩) (by assumption) ?_
  rotate_left
  · intro w hSw
    obtain ⟨c0, c1, c2, c3, c4, c5, c6, c7⟩ := hSw
    go_simp
    first | done | with_reducible rfl
  simp only [Act.put, List.setIfInBounds_toArray, List.set_cons_succ, List.set_cons_zero]
  refine take_at 6 (some 10) (v := ?_) rfl rfl (by kernel_rfl) (by kernel_rfl) (by kernel_rfl) (fun _ _ _ h => h) (Or.inl ⟨by rfl, ?_⟩) (by assumption) ?_
  rotate_left
  · intro w hSw
    obtain ⟨c0, c1, c2, c3, c4, c5, c6, c7⟩ := hSw
    go_simp
    first | done | with_reducible rfl
  simp only [Act.put, List.setIfInBounds_toArray, List.set_cons_succ, List.set_cons_zero]
  refine take_at 7 (some 11) (v := ?_) rfl rfl (by kernel_rfl) (by kernel_rfl) (by kernel_rfl) (fun _ _ _ h => h) (Or.inl ⟨by rfl, ?_⟩) (by assumption) ?_
  rotate_left
  · intro w hSw
    obtain ⟨c0, c1, c2, c3, c4, c5, c6, c7⟩ := hSw
    go_simp
    first | done | with_reducible rfl
  simp only [Act.put, List.setIfInBounds_toArray, List.set_cons_succ, List.set_cons_zero]
  refine take_at 8 (some 12) (v := ?_) rfl rfl (by kernel_rfl) (by kernel_rfl) (by kernel_rfl) (fun _ _ _ h => h) (Or.inl ⟨by rfl, ?_⟩) (by assumption) ?_
  rotate_left
  · intro w hSw
    obtain ⟨c0, c1, c2, c3, c4, c5, c6, c7⟩ := hSw
    go_simp
    first | done | with_reducible rfl
  simp only [Act.put, List.setIfInBounds_toArray, List.set_cons_succ, List.set_cons_zero]
  refine take_at 9 (some 13) (v := ?_) rfl rfl (by kernel_rfl) (by kernel_rfl) (by kernel_rfl) (fun _ _ _ h => h) (Or.inl ⟨by rfl, ?_⟩) (by assumption) ?_
  rotate_left
  · intro w hSw
    obtain ⟨c0, c1, c2, c3, c4, c5, c6, c7⟩ := hSw
    go_simp
    first | done | with_reducible rfl
  simp only [Act.put, List.setIfInBounds_toArray, List.set_cons_succ, List.set_cons_zero]
  refine take_at 10 (some 14) (v := ?_) rfl rfl (by kernel_rfl) (by kernel_rfl) (by kernel_rfl) (fun _ _ _ h => h) (Or.inl ⟨by rfl, ?_⟩) (by assumption) ?_
  rotate_left
  · intro w hSw
    obtain ⟨c0, c1, c2, c3, c4, c5, c6, c7⟩ := hSw
    go_simp
    first | done | with_reducible rfl
  simp only [Act.put, List.setIfInBounds_toArray, List.set_cons_succ, List.set_cons_zero]
  refine take_at 11 (some 15) (v := ?_) rfl rfl (by kernel_rfl) (by kernel_rfl) (by kernel_rfl) (fun _ _ _ h => h) (Or.inl ⟨by rfl, ?_⟩) (by assumption) ?_
  rotate_left
  · intro w hSw
    obtain ⟨c0, c1, c2, c3, c4, c5, c6, c7⟩ := hSw
    go_simp
    first | done | with_reducible rfl
  simp only [Act.put, List.setIfInBounds_toArray, List.set_cons_succ, List.set_cons_zero]
  refine take_at 12 (some 16) (v := ?_) rfl rfl (by kernel_rfl) (by kernel_rfl) (by kernel_rfl) (fun _ _ _ h => h) (Or.inl ⟨by rfl, ?_⟩) (by assumption) ?_
  rotate_left
  · intro w hSw
    obtain ⟨c0, c1, c2, c3, c4, c5, c6, c7⟩ := hSw
    go_simp
    first | done | with_reducible rfl
  simp only [Act.put, List.setIfInBounds_toArray, List.set_cons_succ, List.set_cons_zero]
  refine take_at 13 (some 17) (v := ?_) rfl rfl (by kernel_rfl) (by kernel_rfl) (by kernel_rfl) (fun _ _ _ h => h) (Or.inl ⟨by rfl, ?_⟩) (by assumption) ?_
  rotate_left
  · intro w hSw
    obtain ⟨c0, c1, c2, c3, c4, c5, c6, c7⟩ := hSw
    go_simp
    first | done | with_reducible rfl
  simp only [Act.put, List.setIfInBounds_toArray, List.set_cons_succ, List.set_cons_zero]
  refine take_at 14 (some 18) (v := ?_) rfl rfl (by kernel_rfl) (by kernel_rfl) (by kernel_rfl) (fun _ _ _ h => h) (Or.inl ⟨by rfl, ?_⟩) (by assumption) ?_
  rotate_left
  · intro w hSw
    obtain ⟨c0, c1, c2, c3, c4, c5, c6, c7⟩ := hSw
    go_simp
    first | done | with_reducible rfl
  simp only [Act.put, List.setIfInBounds_toArray, List.set_cons_succ, List.set_cons_zero]
  refine take_at 15 (some 19) (v := ?_) rfl rfl (by kernel_rfl) (by kernel_rfl) (by kernel_rfl) (fun _ _ _ h => h) (Or.inl ⟨by rfl, ?_⟩) (by assumption) ?_
  rotate_left
  · intro w hSw
    obtain ⟨c0, c1, c2, c3, c4, c5, c6, c7⟩ := hSw
    go_simp
    first | done | with_reducible rfl
  simp only [Act.put, List.setIfInBounds_toArray, List.set_cons_succ, List.set_cons_zero]
  refine take_at 16 (some 20) (v := ?_) rfl rfl (by kernel_rfl) (by kernel_rfl) (by kernel_rfl) (fun _ _ _ h => h) (Or.inl ⟨by rfl, ?_⟩) (by assumption) ?_
  rotate_left
  · intro w hSw
    obtain ⟨c0, c1, c2, c3, c4, c5, c6, c7⟩ := hSw
    go_simp
    first | done | with_reducible rfl
  simp only [Act.put, List.setIfInBounds_toArray, List.set_cons_succ, List.set_cons_zero]
  refine take_at 17 (some 21) (v := ?_) rfl rfl (by kernel_rfl) (by kernel_rfl) (by kernel_rfl) (fun _ _ _ h => h) (Or.inl ⟨by rfl, ?_⟩) (by assumption) ?_
  rotate_left
  · intro w hSw
    obtain ⟨c0, c1, c2, c3, c4, c5, c6, c7⟩ := hSw
    go_simp
    first | done | with_reducible rfl
  simp only [Act.put, List.setIfInBounds_toArray, List.set_cons_succ, List.set_cons_zero]
  refine wpAnyH_ready (rs := [18]) (by kernel_rfl) (by simp) ?_
  refine AllReadyH.cons rfl (fun K hK => ?_) AllReadyH.nil
  go_simp
  refine (dots_any aa an ac SS w1.drew (Lib.hid (HSS1.out.below (bdrew (Below.refl _ _)))) hpm).mono ?_
  rintro e w2 ⟨v2, rfl, ho2, hb2⟩
  obtain ⟨pa2, pc2, rfl, hP2⟩ := ho2.palD
  have hp2 := hp1.kept (hb2.block N lN)
  refine hK.out _ _ hp2 (fun hHeld => ?_)
  clear hK K
  refine wpAnyH_ready (rs := [19]) (by kernel_rfl) (by simp) ?_
  refine AllReadyH.cons rfl (fun K hK => ?_) AllReadyH.nil
  go_simp
  refine (pictureDots_any k W H S L cap SS.length pc2 ad pa2 (SS.map dtS) l w2 h1 h7 hW hH hS hL hl (HR.out.below (w := w1.drew) hb2) hcap hP2 (Lib.hid (by rw [List.length_map])) hpb (by rw [hSS.out.hlen.out]; exact hpm)).mono ?_
  rintro e w3 ⟨v3, rfl, ho3, hb3⟩
  have hp3 := hp2.kept (hb3.block N (Nat.lt_of_lt_of_le lN hb2.size))
  refine hK.out _ _ hp3 (fun hHeld => ?_)
  clear hK K
  refine take_at 20 (some 24) (v := ?_) rfl rfl (by kernel_rfl) (by kernel_rfl) (by kernel_rfl) (fun _ _ _ h => h) (Or.inl ⟨by rfl, ?_⟩) (by assumption) ?_
  rotate_left
  · intro w hSw
    (try dsimp only at hSw)
    go_simp
    first | done | with_reducible rfl
  simp only [Act.put, List.setIfInBounds_toArray, List.set_cons_succ, List.set_cons_zero]
  refine take_at 21 (some 25) (v := ?_) rfl rfl (by kernel_rfl) (by kernel_rfl) (by kernel_rfl) (fun _ _ _ h => h) (Or.inl ⟨by rfl, ?_⟩) (by assumption) ?_
  rotate_left
  · intro w hSw
    (try dsimp only at hSw)
    go_simp
    first | done | with_reducible rfl
  simp only [Act.put, List.setIfInBounds_toArray, List.set_cons_succ, List.set_cons_zero]
  refine take_at 22 (some 2) (v := ?_) rfl rfl (by kernel_rfl) (by kernel_rfl) (by kernel_rfl) (fun _ _ _ h => h) (Or.inl ⟨by rfl, ?_⟩) (by assumption) ?_
  rotate_left
  · intro w hSw
    (try dsimp only at hSw)
    go_simp
    first | done | with_reducible rfl
  simp only [Act.put, List.setIfInBounds_toArray, List.set_cons_succ, List.set_cons_zero]
  refine take_at 23 (some 3) (v := ?_) rfl rfl (by kernel_rfl) (by kernel_rfl) (by kernel_rfl) (fun _ _ _ h => h) (Or.inl ⟨by rfl, ?_⟩) (by assumption) ?_
  rotate_left
  · intro w hSw
    (try dsimp only at hSw)
    go_simp
    first | done | with_reducible rfl
  simp only [Act.put, List.setIfInBounds_toArray, List.set_cons_succ, List.set_cons_zero]
  refine wpAnyH_done (by kernel_rfl) ?_ _
  have h12 := hb2.size
  have HB3 : Hid (Below w.heap.size w w3) := Lib.hid (HB1.out.trans (((undrew hb2).trans (hb3.mono hb2.size)).mono HB1.out.size))
  have HO3 : Hid (OwnD w3 w.heap.size v3 _) := Lib.hid (ho3.mono (Nat.le_trans HB1.out.size hb2.size))
  clear hb2 hb3 ho2 ho3 hp1 hp2 hp3 hP2 hHeld
  go_wp2_with fail
  go_ret2
  exact ⟨v3, rfl, HO3.out, HB3.out⟩
end Go.Proofs.YtkiibhpmembcgaaGreatDoor
