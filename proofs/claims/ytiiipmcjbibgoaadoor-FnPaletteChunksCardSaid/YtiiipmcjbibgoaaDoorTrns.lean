/- The decoder's parsetRNS: what is refused before a byte is read, and the laws of its last fields. -/
import Derived.Test.YtiiipmcjbibgoaaDoorPlte3
import Derived.Laws.CopyOwn
namespace Go.Proofs.YtiiipmcjbibgoaaDoor
open Go.ChangeShapes Go.WideShapes Go.ChangeAt Go.RowKit Go.IntWalk

def clearLenV : Value := .iface 94 (.string ⟨#[98, 97, 100, 32, 116, 82, 78, 83, 32, 108, 101, 110, 103, 116, 104]⟩)
def clearKindV : Value := .iface 94 (.string ⟨#[116, 82, 78, 83, 44, 32, 99, 111, 108, 111, 114, 32, 116, 121, 112, 101, 32, 109, 105, 115, 109, 97, 116, 99, 104]⟩)
/-- Refused before a byte is read: alpha beside alpha, and a sample of another size. -/
def clearBad (k n : Nat) : Prop := (k = 5 ∨ k = 11 ∨ k = 13 ∨ k = 15) ∨ ((k = 4 ∨ k = 12) ∧ n ≠ 2) ∨ ((k = 6 ∨ k = 14) ∧ n ≠ 6)

set_option maxRecDepth 100000 in
theorem trns_bad (b n k : Nat) (hbad : clearBad k n) (w : World) (hc : w.cell? ⟨b, 7, none⟩ = some (.int .i64 (k : Int))) :
    Calls Tryd.prog 40 #[.pointer (some ⟨b, 0, none⟩), .int .u32 (n : Int)] w fun e w' => (∃ s, e = .returned (.iface 94 (.string s))) ∧ w = w' := by
  rcases hbad with hk | ⟨hk, hn⟩ | ⟨hk, hn⟩
  · rcases hk with rfl | rfl | rfl | rfl
    all_goals
      go_enter Tryd.func40, Tryd.ntmps40
      go_wp2_with fail
      go_ret
      exact ⟨⟨_, rfl⟩, rfl⟩
  · have y : ((n : Int) != 2) = true := by simp; omega
    rcases hk with rfl | rfl
    all_goals
      go_enter Tryd.func40, Tryd.ntmps40
      go_wp2_with fail
      go_ret
      exact ⟨⟨_, rfl⟩, rfl⟩
  · have y : ((n : Int) != 6) = true := by simp; omega
    rcases hk with rfl | rfl
    all_goals
      go_enter Tryd.func40, Tryd.ntmps40
      go_wp2_with fail
      go_ret
      exact ⟨⟨_, rfl⟩, rfl⟩

theorem Rdg.setUt {base b R C sb so m mc : Nat} {l : List UInt8} {w : World} {d : DecV} {i c : Nat} (L : Pl base b R C sb) (h : Rdg b R C sb so m mc l w d i c) (v : Value) :
    Rdg b R C sb so m mc l (w.setCell ⟨b, 779, none⟩ v) { d with ut := v } i c := by
  have O : Only b w (w.setCell ⟨b, 779, none⟩ v) := (Only.refl _ _).setCell _ _
  have h0 := L.b0
  have hs := L.s0
  have ht := L.t0
  refine ⟨⟨?_, h.dec.tl, h.dec.trl⟩, h.er, h.ec, h.rd.only O (Ne.symm L.bR), (O.block C (Ne.symm L.bC)).trans h.cr, h.hc, h.src.only O (by omega), h.tab.only2 (O.two1 b) (by omega) (by omega)⟩
  rw [heap_setCell_same w b 779 _ _ v h.dec.row]
  congr 2
  apply Array.toList_inj.1
  simp only [Array.toList_setIfInBounds, DecV.cells]
  rw [List.set_append_right _ _ (by rw [d.pre_length]; omega), d.pre_length, List.set_append_right _ _ (by rw [cellsB_length, h.dec.tl]; omega), cellsB_length, h.dec.tl]
  rfl
theorem Dec.utAt {w : World} {b : Nat} {d : DecV} (h : Dec w b d) : w.cell? ⟨b, 779, none⟩ = some d.ut := by
  rw [cell_of_row w b _ _ _ _ h.row]
  simp only [DecV.cells, List.getElem?_toArray]
  rw [List.getElem?_append_right (by rw [d.pre_length]; omega), d.pre_length, List.getElem?_append_right (by rw [cellsB_length, h.tl]; omega), cellsB_length, h.tl]
  rfl
theorem Dec.trAt {w : World} {b : Nat} {d : DecV} (h : Dec w b d) : RB w (some ⟨b, 780, none⟩) d.tr := by
  intro _
  refine ⟨b, 780, rfl, fun j hj => ?_⟩
  rw [cell_of_row w b _ _ _ _ h.row]
  simp only [DecV.cells, List.getElem?_toArray]
  rw [List.getElem?_append_right (by rw [d.pre_length]; omega), d.pre_length, List.getElem?_append_right (by rw [cellsB_length, h.tl]; omega), cellsB_length, h.tl, show 780 + j - 10 - 768 = j + 2 by omega]
  simp [DecV.post, cellsB, List.getD, hj]
end Go.Proofs.YtiiipmcjbibgoaaDoor
