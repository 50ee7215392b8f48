/- The thin package's Pass, kind by kind. Printed by gen/impk.py. -/
import Derived.Test.YtkiibhpmembcgaaDoorImplPass
namespace Go.Proofs.YtkiibhpmembcgaaDoor
open Go.ChangeShapes Go.WideShapes Go.ChangeAt Go.RowKit Go.IntWalk

/-- No palette stands beside the picture. -/
def noAv (_ : Nat) (av : Value) (_ : World) : Prop := av = .slice none 0 0
theorem picOk_1 : PicOk 90 83 1 (fun _ => []) (fun _ _ => True) noAv := by
  intro W H S g bx L pal l w _ hg hr hl hL
  refine (pictureOf_1 W H S L L g (some ⟨bx, 0, none⟩) l w (by simpa [picG] using hg) hl hr hL (by intro h; cases h)).mono ?_
  rintro e w' ⟨v, he, ho, hb⟩
  exact ⟨v, none, 0, 0, he, ho, rfl, hb⟩
theorem pneq_1 (p : Option Addr) (w : World) : (binOp .eql 52 (.iface 83 (.pointer p)) .nilIface).run Tryd.prog w = .ok (.bool false) w := by kernel_rfl
theorem picOk_2 : PicOk 92 91 2 (fun _ => []) (fun _ _ => True) noAv := by
  intro W H S g bx L pal l w _ hg hr hl hL
  refine (pictureOf_2 W H S L L g (some ⟨bx, 0, none⟩) l w (by simpa [picG] using hg) hl hr hL (by intro h; cases h)).mono ?_
  rintro e w' ⟨v, he, ho, hb⟩
  exact ⟨v, none, 0, 0, he, ho, rfl, hb⟩
theorem pneq_2 (p : Option Addr) (w : World) : (binOp .eql 52 (.iface 91 (.pointer p)) .nilIface).run Tryd.prog w = .ok (.bool false) w := by kernel_rfl
theorem picOk_3 : PicOk 94 93 3 (fun _ => []) (fun _ _ => True) noAv := by
  intro W H S g bx L pal l w _ hg hr hl hL
  refine (pictureOf_3 W H S L L g (some ⟨bx, 0, none⟩) l w (by simpa [picG] using hg) hl hr hL (by intro h; cases h)).mono ?_
  rintro e w' ⟨v, he, ho, hb⟩
  exact ⟨v, none, 0, 0, he, ho, rfl, hb⟩
theorem pneq_3 (p : Option Addr) (w : World) : (binOp .eql 52 (.iface 93 (.pointer p)) .nilIface).run Tryd.prog w = .ok (.bool false) w := by kernel_rfl
theorem picOk_4 : PicOk 96 95 4 (fun _ => []) (fun _ _ => True) noAv := by
  intro W H S g bx L pal l w _ hg hr hl hL
  refine (pictureOf_4 W H S L L g (some ⟨bx, 0, none⟩) l w (by simpa [picG] using hg) hl hr hL (by intro h; cases h)).mono ?_
  rintro e w' ⟨v, he, ho, hb⟩
  exact ⟨v, none, 0, 0, he, ho, rfl, hb⟩
theorem pneq_4 (p : Option Addr) (w : World) : (binOp .eql 52 (.iface 95 (.pointer p)) .nilIface).run Tryd.prog w = .ok (.bool false) w := by kernel_rfl
theorem picOk_5 : PicOk 98 97 5 (fun _ => []) (fun _ _ => True) noAv := by
  intro W H S g bx L pal l w _ hg hr hl hL
  refine (pictureOf_5 W H S L L g (some ⟨bx, 0, none⟩) l w (by simpa [picG] using hg) hl hr hL (by intro h; cases h)).mono ?_
  rintro e w' ⟨v, he, ho, hb⟩
  exact ⟨v, none, 0, 0, he, ho, rfl, hb⟩
theorem pneq_5 (p : Option Addr) (w : World) : (binOp .eql 52 (.iface 97 (.pointer p)) .nilIface).run Tryd.prog w = .ok (.bool false) w := by kernel_rfl
theorem picOk_6 : PicOk 100 99 6 (fun _ => []) (fun _ _ => True) noAv := by
  intro W H S g bx L pal l w _ hg hr hl hL
  refine (pictureOf_6 W H S L L g (some ⟨bx, 0, none⟩) l w (by simpa [picG] using hg) hl hr hL (by intro h; cases h)).mono ?_
  rintro e w' ⟨v, he, ho, hb⟩
  exact ⟨v, none, 0, 0, he, ho, rfl, hb⟩
theorem pneq_6 (p : Option Addr) (w : World) : (binOp .eql 52 (.iface 99 (.pointer p)) .nilIface).run Tryd.prog w = .ok (.bool false) w := by kernel_rfl
end Go.Proofs.YtkiibhpmembcgaaDoor
