/- The decoder's parsetRNS at a sample that is clear. -/
import Derived.Test.YtiiipmcjbibgoaaDoorTrns
namespace Go.Proofs.YtiiipmcjbibgoaaDoor
open Go.ChangeShapes Go.WideShapes Go.ChangeAt Go.RowKit Go.IntWalk

/-- Bytes are laid over the head of the six. -/
def DecV.clear (d : DecV) (p : List UInt8) : DecV := { d with tr := p ++ d.tr.drop p.length }
theorem clear_cells (d : DecV) (p : List UInt8) (ht : d.tmp.length = 768) : splice d.cells 780 (cellsB p) = (d.clear p).cells := by
  have e0 : d.cells = (d.pre ++ (cellsB d.tmp ++ [d.lace, d.ut])) ++ cellsB d.tr := by simp [DecV.cells, DecV.post]
  have l0 : (d.pre ++ (cellsB d.tmp ++ [d.lace, d.ut])).length = 780 := by simp [d.pre_length, cellsB_length, ht]
  unfold splice
  rw [e0, List.take_append_of_le_length (by omega), List.take_of_length_le (by omega), List.drop_append, List.drop_of_length_le (by omega), l0, List.nil_append, Nat.add_sub_cancel_left]
  simp [DecV.cells, DecV.post, DecV.pre, DecV.clear, cellsB]
theorem Rdg.copyTr {base b R C sb so m mc : Nat} {l : List UInt8} {w : World} {d : DecV} {i c : Nat} (L : Pl base b R C sb) (h : Rdg b R C sb so m mc l w d i c) (p : List UInt8) (hp : p.length ≤ 6) :
    Rdg b R C sb so m mc l (w.setRow b (d.cells.toArray.toList.take 780 ++ (cellsB p ++ d.cells.toArray.toList.drop (780 + (cellsB p).length))).toArray) (d.clear p) i c ∧
    Only b w (w.setRow b (d.cells.toArray.toList.take 780 ++ (cellsB p ++ d.cells.toArray.toList.drop (780 + (cellsB p).length))).toArray) := by
  have O : Only b w (w.setRow b (d.cells.toArray.toList.take 780 ++ (cellsB p ++ d.cells.toArray.toList.drop (780 + (cellsB p).length))).toArray) := ⟨rfl, rfl, rfl, by simp [World.setRow], fun k hk => setRow_other w b k _ hk⟩
  have h0 := L.b0
  have hs := L.s0
  have ht := L.t0
  refine ⟨⟨⟨?_, h.dec.tl, ?_⟩, h.er, h.ec, h.rd.only O (Ne.symm L.bR), (O.block C (Ne.symm L.bC)).trans h.cr, h.hc, h.src.only O (by omega), h.tab.only2 (O.two1 b) (by omega) (by omega)⟩, O⟩
  · rw [setRow_heap w b _ _ _ _ h.dec.row, ← clear_cells d p h.dec.tl]
    rfl
  · have := h.dec.trl
    simp [DecV.clear, this]; omega
def ClearEnd (base b : Nat) (l : List UInt8) (n c : Nat) (w : World) (e : Ending) (w' : World) : Prop :=
  ∃ tr, e = .returned (sumV (crcFrom c (l.take n)) ((l.drop n).take 4)) ∧ RB w' (some ⟨b, 780, none⟩) tr ∧ tr.length = 6 ∧ tr.take n = l.take n ∧ w'.cell? ⟨b, 779, none⟩ = some (.bool true) ∧ w'.cell? ⟨b, 6, none⟩ = some (.slice none 0 0) ∧ Below base w w'

set_option maxHeartbeats 6400000 in
set_option maxRecDepth 100000 in
theorem trns_gray (base b R C sb so mc k c : Nat) (l : List UInt8) (d : DecV) (w : World) (L : Pl base b R C sb) (h : Rdg b R C sb so (2 + 4) mc l w d 0 c)
    (hl : Hid (l.length = 2 + 4)) (hmc : 2 + 4 ≤ mc) (hk : k = 4 ∨ k = 12) (e2 : d.cb = .int .i64 (k : Int)) (e0 : d.pal = .slice none 0 0) (eu : d.ut = .bool false) :
    Calls Tryd.prog 40 #[.pointer (some ⟨b, 0, none⟩), .int .u32 2] w (ClearEnd base b l 2 c w) := by
  have k7 : w.cell? ⟨b, 7, none⟩ = some (.int .i64 (k : Int)) := h.dec.pre_cell 7 (by rw [← e2]; rfl)
  have k0 : w.cell? ⟨b, 0, none⟩ = some (.iface 79 (.pointer (some ⟨R, 0, none⟩))) := h.dec.pre_cell 0 (by rw [← h.er]; rfl)
  have H1 := h.drew
  have E2 := Lib.hid e2
  have E0 := Lib.hid e0
  have EU := Lib.hid eu
  clear e2 e0 eu
  obtain ⟨p, hp⟩ : ∃ p, p = (l.drop 0).take 2 := ⟨_, rfl⟩
  have hpl : p.length = 2 := by have := hl.out; rw [hp]; simp; omega
  have HPN := Lib.hid hpl
  have HP := Lib.hid hp
  clear hpl hp
  rcases hk with rfl | rfl
  all_goals
    go_enter Tryd.func40, Tryd.ntmps40
    go_wp2_with fail
    go_region_with ((go_at_call 46; refine (readTmp_any base b R C sb so _ mc _ l d 0 c w.drew L H1 hl hmc (by omega) (by omega) (by omega) (by omega)).mono ?_; rintro e w2 ⟨rfl, H2, hb2⟩))
    clear k0 k7 h H1
    rw [← HP.out] at H2
    have k2 : w2.cell? ⟨b, 2, none⟩ = some (.pointer (some ⟨C, 0, none⟩)) := H2.dec.pre_cell 2 (by rw [← H2.ec]; rfl)
    go_wp2_with fail
    go_still_tail 9, (by kernel_rfl)
    change wpList _ _ _ _ _ w2.drew
    have H3 := H2.drew
    obtain ⟨w3, hw3⟩ : ∃ w3, w3 = w2.drew := ⟨_, rfl⟩
    have hb3 : Below base w w3 := by rw [hw3]; exact ⟨hb2.os, hb2.tape, hb2.output, hb2.size, hb2.block⟩
    rw [← hw3] at H3 ⊢
    clear hw3 k2 H2 hb2
    have hrp : RB w3 (some ⟨b, 10, none⟩) p := by
      have := H3.dec.tmpAt.take p.length
      rw [over_take] at this
      exact this
    go_wp2_with fail
    refine (writeSum_any base b R C sb so _ mc l (d.over p) _ c (some ⟨b, 10, none⟩) _ 768 p w3 L H3 HPN hrp (by omega)).mono ?_
    rintro e w4 ⟨rfl, H4, hb4⟩
    have HB4 := Lib.hid (hb3.trans (hb4.mono (Nat.le_refl _)))
    clear hrp hb3 hb4 H3
    go_wp2_with fail
    go_still_tail 9, (by kernel_rfl)
    change wpList _ _ _ _ _ w4.drew
    have H5 := H4.drew
    obtain ⟨w5, hw5⟩ : ∃ w5, w5 = w4.drew := ⟨_, rfl⟩
    have HB5 : Hid (Below base w w5) := Lib.hid (by rw [hw5]; have hb2 := HB4.out; exact ⟨hb2.os, hb2.tape, hb2.output, hb2.size, hb2.block⟩)
    rw [← hw5] at H5 ⊢
    clear hw5 H4 HB4
    have hrp : RB w5 (some ⟨b, 10, none⟩) p := by
      have := H5.dec.tmpAt.take p.length
      rw [over_take] at this
      exact this
    obtain ⟨H6, O6⟩ := H5.copyTr L p (by have := HPN.out; omega)
    obtain ⟨w6, hw6⟩ : ∃ w6, w6 = w5.setRow b ((d.over p).cells.toArray.toList.take 780 ++ (cellsB p ++ (d.over p).cells.toArray.toList.drop (780 + (cellsB p).length))).toArray := ⟨_, rfl⟩
    rw [← hw6] at H6 O6
    have HW6 := Lib.hid hw6
    have HB6 : Hid (Below base w w6) := Lib.hid (HB5.out.trans (O6.below L.b0))
    have hlen : (d.over p).cells.length = 786 := by
      have h1 := H5.dec.tl
      have h2 := H5.dec.trl
      change (d.over p).tmp.length = 768 at h1
      change (d.over p).tr.length = 6 at h2
      simp [DecV.cells, DecV.post, DecV.pre_length, cellsB_length, h1, h2]
    have HLEN := Lib.hid hlen
    have HSRC := Lib.hid (src_of hrp)
    have H5' := Lib.hid H5.dec.row
    clear hw6 hrp H5 O6 hlen
    refine wpList_copy_own rfl (.tmp 56) (.tmp 61) 22 22 rfl 5 (by kernel_rfl) (by kernel_rfl) b 780 6 6 ⟨b, 10, none⟩ 2 768 rfl rfl (d.over p).cells.toArray 90 H5'.out (cellsB p) (by rw [cellsB_length, HPN.out]; rfl) HSRC.out (by rw [cellsB_length, HPN.out]; simp [HLEN.out]) (cellsB_one p) ?_
    rw [← HW6.out, cellsB_length, HPN.out]
    have k7 : w6.cell? ⟨b, 7, none⟩ = some d.cb := H6.dec.pre_cell 7 rfl
    rw [E2.out] at k7
    have ku : w6.cell? ⟨b, 779, none⟩ = some (.bool false) := by rw [H6.dec.utAt]; exact congrArg some EU.out
    have fu := H6.dec.frozen 779
    have H7 := H6.setUt L (.bool true)
    have HB7 : Hid (Below base w (w6.setCell ⟨b, 779, none⟩ (.bool true))) := Lib.hid (HB6.out.setCell (p := ⟨b, 779, none⟩) L.b0 _)
    clear H6 HSRC H5' HLEN
    go_wp2_with fail
    refine (verify2_any base b R C sb so _ mc l _ _ (crcFrom c p) _ L H7 hl hmc (by omega) (by omega)).mono ?_
    rintro e w8 ⟨rfl, H8, hb8, o8⟩
    go_wp2_with fail
    go_ret
    refine ⟨p ++ d.tr.drop p.length, ?_, H8.dec.trAt, H8.dec.trl, ?_, H8.dec.utAt, H8.dec.pre_cell 6 (by rw [← E0.out]; rfl), HB7.out.trans (hb8.mono (Nat.le_refl _))⟩
    · rw [HP.out, List.drop_zero] <;> rfl
    · exact (List.take_left' (l₁ := p) (l₂ := d.tr.drop p.length) HPN.out).trans (by rw [HP.out, List.drop_zero])

set_option maxHeartbeats 6400000 in
set_option maxRecDepth 100000 in
theorem trns_true (base b R C sb so mc k c : Nat) (l : List UInt8) (d : DecV) (w : World) (L : Pl base b R C sb) (h : Rdg b R C sb so (6 + 4) mc l w d 0 c)
    (hl : Hid (l.length = 6 + 4)) (hmc : 6 + 4 ≤ mc) (hk : k = 6 ∨ k = 14) (e2 : d.cb = .int .i64 (k : Int)) (e0 : d.pal = .slice none 0 0) (eu : d.ut = .bool false) :
    Calls Tryd.prog 40 #[.pointer (some ⟨b, 0, none⟩), .int .u32 6] w (ClearEnd base b l 6 c w) := by
  have k7 : w.cell? ⟨b, 7, none⟩ = some (.int .i64 (k : Int)) := h.dec.pre_cell 7 (by rw [← e2]; rfl)
  have k0 : w.cell? ⟨b, 0, none⟩ = some (.iface 79 (.pointer (some ⟨R, 0, none⟩))) := h.dec.pre_cell 0 (by rw [← h.er]; rfl)
  have H1 := h.drew
  have E2 := Lib.hid e2
  have E0 := Lib.hid e0
  have EU := Lib.hid eu
  clear e2 e0 eu
  obtain ⟨p, hp⟩ : ∃ p, p = (l.drop 0).take 6 := ⟨_, rfl⟩
  have hpl : p.length = 6 := by have := hl.out; rw [hp]; simp; omega
  have HPN := Lib.hid hpl
  have HP := Lib.hid hp
  clear hpl hp
  rcases hk with rfl | rfl
  all_goals
    go_enter Tryd.func40, Tryd.ntmps40
    go_wp2_with fail
    go_region_with ((go_at_call 46; refine (readTmp_any base b R C sb so _ mc _ l d 0 c w.drew L H1 hl hmc (by omega) (by omega) (by omega) (by omega)).mono ?_; rintro e w2 ⟨rfl, H2, hb2⟩))
    clear k0 k7 h H1
    rw [← HP.out] at H2
    have k2 : w2.cell? ⟨b, 2, none⟩ = some (.pointer (some ⟨C, 0, none⟩)) := H2.dec.pre_cell 2 (by rw [← H2.ec]; rfl)
    go_wp2_with fail
    go_still_tail 9, (by kernel_rfl)
    change wpList _ _ _ _ _ w2.drew
    have H3 := H2.drew
    obtain ⟨w3, hw3⟩ : ∃ w3, w3 = w2.drew := ⟨_, rfl⟩
    have hb3 : Below base w w3 := by rw [hw3]; exact ⟨hb2.os, hb2.tape, hb2.output, hb2.size, hb2.block⟩
    rw [← hw3] at H3 ⊢
    clear hw3 k2 H2 hb2
    have hrp : RB w3 (some ⟨b, 10, none⟩) p := by
      have := H3.dec.tmpAt.take p.length
      rw [over_take] at this
      exact this
    go_wp2_with fail
    refine (writeSum_any base b R C sb so _ mc l (d.over p) _ c (some ⟨b, 10, none⟩) _ 768 p w3 L H3 HPN hrp (by omega)).mono ?_
    rintro e w4 ⟨rfl, H4, hb4⟩
    have HB4 := Lib.hid (hb3.trans (hb4.mono (Nat.le_refl _)))
    clear hrp hb3 hb4 H3
    go_wp2_with fail
    go_still_tail 9, (by kernel_rfl)
    change wpList _ _ _ _ _ w4.drew
    have H5 := H4.drew
    obtain ⟨w5, hw5⟩ : ∃ w5, w5 = w4.drew := ⟨_, rfl⟩
    have HB5 : Hid (Below base w w5) := Lib.hid (by rw [hw5]; have hb2 := HB4.out; exact ⟨hb2.os, hb2.tape, hb2.output, hb2.size, hb2.block⟩)
    rw [← hw5] at H5 ⊢
    clear hw5 H4 HB4
    have hrp : RB w5 (some ⟨b, 10, none⟩) p := by
      have := H5.dec.tmpAt.take p.length
      rw [over_take] at this
      exact this
    obtain ⟨H6, O6⟩ := H5.copyTr L p (by have := HPN.out; omega)
    obtain ⟨w6, hw6⟩ : ∃ w6, w6 = w5.setRow b ((d.over p).cells.toArray.toList.take 780 ++ (cellsB p ++ (d.over p).cells.toArray.toList.drop (780 + (cellsB p).length))).toArray := ⟨_, rfl⟩
    rw [← hw6] at H6 O6
    have HW6 := Lib.hid hw6
    have HB6 : Hid (Below base w w6) := Lib.hid (HB5.out.trans (O6.below L.b0))
    have hlen : (d.over p).cells.length = 786 := by
      have h1 := H5.dec.tl
      have h2 := H5.dec.trl
      change (d.over p).tmp.length = 768 at h1
      change (d.over p).tr.length = 6 at h2
      simp [DecV.cells, DecV.post, DecV.pre_length, cellsB_length, h1, h2]
    have HLEN := Lib.hid hlen
    have HSRC := Lib.hid (src_of hrp)
    have H5' := Lib.hid H5.dec.row
    clear hw6 hrp H5 O6 hlen
    refine wpList_copy_own rfl (.tmp 138) (.tmp 143) 22 22 rfl 5 (by kernel_rfl) (by kernel_rfl) b 780 6 6 ⟨b, 10, none⟩ 6 768 rfl rfl (d.over p).cells.toArray 90 H5'.out (cellsB p) (by rw [cellsB_length, HPN.out]; rfl) HSRC.out (by rw [cellsB_length, HPN.out]; simp [HLEN.out]) (cellsB_one p) ?_
    rw [← HW6.out, cellsB_length, HPN.out]
    have k7 : w6.cell? ⟨b, 7, none⟩ = some d.cb := H6.dec.pre_cell 7 rfl
    rw [E2.out] at k7
    have ku : w6.cell? ⟨b, 779, none⟩ = some (.bool false) := by rw [H6.dec.utAt]; exact congrArg some EU.out
    have fu := H6.dec.frozen 779
    have H7 := H6.setUt L (.bool true)
    have HB7 : Hid (Below base w (w6.setCell ⟨b, 779, none⟩ (.bool true))) := Lib.hid (HB6.out.setCell (p := ⟨b, 779, none⟩) L.b0 _)
    clear H6 HSRC H5' HLEN
    go_wp2_with fail
    refine (verify2_any base b R C sb so _ mc l _ _ (crcFrom c p) _ L H7 hl hmc (by omega) (by omega)).mono ?_
    rintro e w8 ⟨rfl, H8, hb8, o8⟩
    go_wp2_with fail
    go_ret
    refine ⟨p ++ d.tr.drop p.length, ?_, H8.dec.trAt, H8.dec.trl, ?_, H8.dec.utAt, H8.dec.pre_cell 6 (by rw [← E0.out]; rfl), HB7.out.trans (hb8.mono (Nat.le_refl _))⟩
    · rw [HP.out, List.drop_zero] <;> rfl
    · exact (List.take_left' (l₁ := p) (l₂ := d.tr.drop p.length) HPN.out).trans (by rw [HP.out, List.drop_zero])
end Go.Proofs.YtiiipmcjbibgoaaDoor
