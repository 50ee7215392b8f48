/- The thin package's Pass, kind by kind. Printed by gen/impk.py. -/
import Derived.Test.YtkiibhpmembcgaaGreatDoorImplPass
namespace Go.Proofs.YtkiibhpmembcgaaGreatDoor
open Go.ChangeShapes Go.WideShapes Go.ChangeAt Go.RowKit Go.IntWalk

/-- No palette stands beside the picture. -/
def noAv (_ : Nat) (av : Value) (_ : World) : Prop := av = .slice none 0 0
theorem picOk_1 : PicOk 103 96 1 (fun _ => []) (fun _ _ => True) noAv := by
  intro W H S g bx L pal l w _ hg hr hl hL
  refine (pictureOf_1 W H S L L g (some ⟨bx, 0, none⟩) l w (by simpa [picG] using hg) hl hr hL (by intro h; cases h)).mono ?_
  rintro e w' ⟨v, he, ho, hb⟩
  exact ⟨v, none, 0, 0, he, ho, rfl, hb⟩
theorem pneq_1 (p : Option Addr) (w : World) : (binOp .eql 67 (.iface 96 (.pointer p)) .nilIface).run Tryz.prog w = .ok (.bool false) w := by kernel_rfl
theorem picOk_2 : PicOk 105 104 2 (fun _ => []) (fun _ _ => True) noAv := by
  intro W H S g bx L pal l w _ hg hr hl hL
  refine (pictureOf_2 W H S L L g (some ⟨bx, 0, none⟩) l w (by simpa [picG] using hg) hl hr hL (by intro h; cases h)).mono ?_
  rintro e w' ⟨v, he, ho, hb⟩
  exact ⟨v, none, 0, 0, he, ho, rfl, hb⟩
theorem pneq_2 (p : Option Addr) (w : World) : (binOp .eql 67 (.iface 104 (.pointer p)) .nilIface).run Tryz.prog w = .ok (.bool false) w := by kernel_rfl
theorem picOk_3 : PicOk 107 106 3 (fun _ => []) (fun _ _ => True) noAv := by
  intro W H S g bx L pal l w _ hg hr hl hL
  refine (pictureOf_3 W H S L L g (some ⟨bx, 0, none⟩) l w (by simpa [picG] using hg) hl hr hL (by intro h; cases h)).mono ?_
  rintro e w' ⟨v, he, ho, hb⟩
  exact ⟨v, none, 0, 0, he, ho, rfl, hb⟩
theorem pneq_3 (p : Option Addr) (w : World) : (binOp .eql 67 (.iface 106 (.pointer p)) .nilIface).run Tryz.prog w = .ok (.bool false) w := by kernel_rfl
theorem picOk_4 : PicOk 109 108 4 (fun _ => []) (fun _ _ => True) noAv := by
  intro W H S g bx L pal l w _ hg hr hl hL
  refine (pictureOf_4 W H S L L g (some ⟨bx, 0, none⟩) l w (by simpa [picG] using hg) hl hr hL (by intro h; cases h)).mono ?_
  rintro e w' ⟨v, he, ho, hb⟩
  exact ⟨v, none, 0, 0, he, ho, rfl, hb⟩
theorem pneq_4 (p : Option Addr) (w : World) : (binOp .eql 67 (.iface 108 (.pointer p)) .nilIface).run Tryz.prog w = .ok (.bool false) w := by kernel_rfl
theorem picOk_5 : PicOk 111 110 5 (fun _ => []) (fun _ _ => True) noAv := by
  intro W H S g bx L pal l w _ hg hr hl hL
  refine (pictureOf_5 W H S L L g (some ⟨bx, 0, none⟩) l w (by simpa [picG] using hg) hl hr hL (by intro h; cases h)).mono ?_
  rintro e w' ⟨v, he, ho, hb⟩
  exact ⟨v, none, 0, 0, he, ho, rfl, hb⟩
theorem pneq_5 (p : Option Addr) (w : World) : (binOp .eql 67 (.iface 110 (.pointer p)) .nilIface).run Tryz.prog w = .ok (.bool false) w := by kernel_rfl
theorem picOk_6 : PicOk 113 112 6 (fun _ => []) (fun _ _ => True) noAv := by
  intro W H S g bx L pal l w _ hg hr hl hL
  refine (pictureOf_6 W H S L L g (some ⟨bx, 0, none⟩) l w (by simpa [picG] using hg) hl hr hL (by intro h; cases h)).mono ?_
  rintro e w' ⟨v, he, ho, hb⟩
  exact ⟨v, none, 0, 0, he, ho, rfl, hb⟩
theorem pneq_6 (p : Option Addr) (w : World) : (binOp .eql 67 (.iface 112 (.pointer p)) .nilIface).run Tryz.prog w = .ok (.bool false) w := by kernel_rfl
end Go.Proofs.YtkiibhpmembcgaaGreatDoor
