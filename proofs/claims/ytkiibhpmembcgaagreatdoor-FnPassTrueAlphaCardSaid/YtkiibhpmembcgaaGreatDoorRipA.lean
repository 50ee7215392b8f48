/- readImagePass, kind by kind. Printed by gen/ripk.py. -/
import Derived.Test.YtkiibhpmembcgaaGreatDoorGRip
import Derived.Test.YtkiibhpmembcgaaGreatDoorRipConvA
import Derived.Test.YtkiibhpmembcgaaGreatDoorRipConvB
import Derived.Test.YtkiibhpmembcgaaGreatDoorRipConvC
import Derived.Test.YtkiibhpmembcgaaGreatDoorRipConvD
namespace Go.Proofs.YtkiibhpmembcgaaGreatDoor
open Go.ChangeShapes Go.WideShapes Go.ChangeAt Go.RowKit Go.IntWalk

set_option maxRecDepth 100000 in
theorem rip_GA8 (b W0 H0 : Nat) (laced : Bool) (p : Nat) (l : List UInt8) (R sb so m mc B : Nat) (dv : DecV) (w : World) (hin : RipIn 111 b W0 H0 4 8 laced p 5 l R sb so m mc B dv w) :
    Calls Tryz.prog 33 #[.pointer (some ⟨b, 0, none⟩), (.iface 90 (.pointer (some ⟨R, 0, none⟩))), .int .i64 (p : Int), .bool false] w (RipEnd 111 110 W0 H0 4 8 [] laced p l [] R w) := by
  refine rip_gen 111 110 b W0 H0 4 8 [] laced p 5 15 16 (fun _ => 0) l [] R sb so m mc B dv w hin rfl ?_ ?_
  · intro W H st n p L a w Q hD h hw hh hL hQ
    exact p13_GA8 b W H L st n (.iface 90 (.pointer (some ⟨R, 0, none⟩))) p a w Q h (Dec.pre_cell ⟨hD, hin.dec.tl, hin.dec.trl⟩ 7 (by simp [DecV.pre, hin.cb])) hw hh hL (fun a' w' g bx hm h2 => hQ a' w' g bx hm.hg hm.hbx hm.ne hm.row hm.seg hm.chg h2)
  · intro g bx W H L S hW1 hW hH hS hL bc bp y row p pre a w0 Q hk hD hG hci hq
    exact conv_GA8 (mkV b (.iface 90 (.pointer (some ⟨R, 0, none⟩))) 110 15 g W H (stN 4 8) (rbN 4 8 W)) bc bp y (y * 0) g bx L S row p pre a w0 Q hk rfl hci hq
set_option maxRecDepth 100000 in
theorem rip_GA16 (b W0 H0 : Nat) (laced : Bool) (p : Nat) (l : List UInt8) (R sb so m mc B : Nat) (dv : DecV) (w : World) (hin : RipIn 113 b W0 H0 4 16 laced p 13 l R sb so m mc B dv w) :
    Calls Tryz.prog 33 #[.pointer (some ⟨b, 0, none⟩), (.iface 90 (.pointer (some ⟨R, 0, none⟩))), .int .i64 (p : Int), .bool false] w (RipEnd 113 112 W0 H0 4 16 [] laced p l [] R w) := by
  refine rip_gen 113 112 b W0 H0 4 16 [] laced p 13 18 32 (fun _ => 0) l [] R sb so m mc B dv w hin rfl ?_ ?_
  · intro W H st n p L a w Q hD h hw hh hL hQ
    exact p13_GA16 b W H L st n (.iface 90 (.pointer (some ⟨R, 0, none⟩))) p a w Q h (Dec.pre_cell ⟨hD, hin.dec.tl, hin.dec.trl⟩ 7 (by simp [DecV.pre, hin.cb])) hw hh hL (fun a' w' g bx hm h2 => hQ a' w' g bx hm.hg hm.hbx hm.ne hm.row hm.seg hm.chg h2)
  · intro g bx W H L S hW1 hW hH hS hL bc bp y row p pre a w0 Q hk hD hG hci hq
    exact conv_GA16 (mkV b (.iface 90 (.pointer (some ⟨R, 0, none⟩))) 112 18 g W H (stN 4 16) (rbN 4 16 W)) bc bp y (y * 0) g bx L S row p pre a w0 Q hk rfl hci hq
set_option maxRecDepth 100000 in
theorem rip_TCA8 (b W0 H0 : Nat) (laced : Bool) (p : Nat) (l : List UInt8) (R sb so m mc B : Nat) (dv : DecV) (w : World) (hin : RipIn 111 b W0 H0 6 8 laced p 11 l R sb so m mc B dv w) :
    Calls Tryz.prog 33 #[.pointer (some ⟨b, 0, none⟩), (.iface 90 (.pointer (some ⟨R, 0, none⟩))), .int .i64 (p : Int), .bool false] w (RipEnd 111 110 W0 H0 6 8 [] laced p l [] R w) := by
  refine rip_gen 111 110 b W0 H0 6 8 [] laced p 11 15 32 (fun S => S) l [] R sb so m mc B dv w hin rfl ?_ ?_
  · intro W H st n p L a w Q hD h hw hh hL hQ
    exact p13_TCA8 b W H L st n (.iface 90 (.pointer (some ⟨R, 0, none⟩))) p a w Q h (Dec.pre_cell ⟨hD, hin.dec.tl, hin.dec.trl⟩ 7 (by simp [DecV.pre, hin.cb])) hw hh hL (fun a' w' g bx hm h2 => hQ a' w' g bx hm.hg hm.hbx hm.ne hm.row hm.seg hm.chg h2)
  · intro g bx W H L S hW1 hW hH hS hL bc bp y row p pre a w0 Q hk hD hG hci hq
    exact conv_TCA8 (mkV b (.iface 90 (.pointer (some ⟨R, 0, none⟩))) 110 15 g W H (stN 6 8) (rbN 6 8 W)) bc bp y (y * S) g bx L S row p pre a w0 Q hk rfl hci rfl hq
set_option maxRecDepth 100000 in
theorem rip_TCA16 (b W0 H0 : Nat) (laced : Bool) (p : Nat) (l : List UInt8) (R sb so m mc B : Nat) (dv : DecV) (w : World) (hin : RipIn 113 b W0 H0 6 16 laced p 15 l R sb so m mc B dv w) :
    Calls Tryz.prog 33 #[.pointer (some ⟨b, 0, none⟩), (.iface 90 (.pointer (some ⟨R, 0, none⟩))), .int .i64 (p : Int), .bool false] w (RipEnd 113 112 W0 H0 6 16 [] laced p l [] R w) := by
  refine rip_gen 113 112 b W0 H0 6 16 [] laced p 15 18 64 (fun _ => 0) l [] R sb so m mc B dv w hin rfl ?_ ?_
  · intro W H st n p L a w Q hD h hw hh hL hQ
    exact p13_TCA16 b W H L st n (.iface 90 (.pointer (some ⟨R, 0, none⟩))) p a w Q h (Dec.pre_cell ⟨hD, hin.dec.tl, hin.dec.trl⟩ 7 (by simp [DecV.pre, hin.cb])) hw hh hL (fun a' w' g bx hm h2 => hQ a' w' g bx hm.hg hm.hbx hm.ne hm.row hm.seg hm.chg h2)
  · intro g bx W H L S hW1 hW hH hS hL bc bp y row p pre a w0 Q hk hD hG hci hq
    exact conv_TCA16 (mkV b (.iface 90 (.pointer (some ⟨R, 0, none⟩))) 112 18 g W H (stN 6 16) (rbN 6 16 W)) bc bp y (y * 0) g bx L S row p pre a w0 Q hk rfl hci hq
end Go.Proofs.YtkiibhpmembcgaaGreatDoor
