/- readImagePass, kind by kind. Printed by gen/ripk.py. readImagePass, kind by kind. Printed by gen/ripk.py. readImagePass, kind by kind. Printed by gen/ripk.py. -/
import Derived.Test.YtkiibhpmembcgaaDoorGRip
import Derived.Test.YtkiibhpmembcgaaDoorGFew
import Derived.Test.YtkiibhpmembcgaaDoorRipConvB
import Derived.Test.YtkiibhpmembcgaaDoorRipConvC
import Derived.Test.YtkiibhpmembcgaaDoorRipConvD
import Derived.Test.YtkiibhpmembcgaaDoorGPro
import Derived.Test.YtkiibhpmembcgaaDoorGRipG
import Derived.Test.YtkiibhpmembcgaaDoorRipConvF
import Derived.Test.YtkiibhpmembcgaaDoorRipConvE
import Derived.Test.YtkiibhpmembcgaaDoorRipConvI
import Derived.Test.YtkiibhpmembcgaaDoorRipConvH
namespace Go.Proofs.YtkiibhpmembcgaaDoor
open Go.ChangeShapes Go.WideShapes Go.ChangeAt Go.RowKit Go.IntWalk

set_option maxRecDepth 100000 in
theorem rip_GA8 (b W0 H0 : Nat) (laced : Bool) (p : Nat) (l : List UInt8) (R sb so m mc B : Nat) (dv : DecV) (w : World) (hin : RipIn 98 b W0 H0 4 8 laced p 5 l R sb so m mc B dv w) :
    Calls Tryd.prog 26 #[.pointer (some ⟨b, 0, none⟩), (.iface 77 (.pointer (some ⟨R, 0, none⟩))), .int .i64 (p : Int), .bool false] w (RipEnd 98 97 W0 H0 4 8 [] laced p l [] R w) := by
  refine rip_gen 98 97 b W0 H0 4 8 [] laced p 5 15 16 (fun _ => 0) l [] R sb so m mc B dv w hin rfl ?_ ?_
  · intro W H st n p L a w Q hD h hw hh hL hQ
    exact p13_GA8 b W H L st n (.iface 77 (.pointer (some ⟨R, 0, none⟩))) p a w Q h (Dec.pre_cell ⟨hD, hin.dec.tl, hin.dec.trl⟩ 7 (by simp [DecV.pre, hin.cb])) hw hh hL (fun a' w' g bx hm h2 => hQ a' w' g bx hm.hg hm.hbx hm.ne hm.row hm.seg hm.chg h2)
  · intro g bx W H L S hW1 hW hH hS hL bc bp y row p pre a w0 Q hk hD hG hci hq
    exact conv_GA8 (mkV b (.iface 77 (.pointer (some ⟨R, 0, none⟩))) 97 15 g W H (stN 4 8) (rbN 4 8 W)) bc bp y (y * 0) g bx L S row p pre a w0 Q hk rfl hci hq
set_option maxRecDepth 100000 in
theorem rip_GA16 (b W0 H0 : Nat) (laced : Bool) (p : Nat) (l : List UInt8) (R sb so m mc B : Nat) (dv : DecV) (w : World) (hin : RipIn 100 b W0 H0 4 16 laced p 13 l R sb so m mc B dv w) :
    Calls Tryd.prog 26 #[.pointer (some ⟨b, 0, none⟩), (.iface 77 (.pointer (some ⟨R, 0, none⟩))), .int .i64 (p : Int), .bool false] w (RipEnd 100 99 W0 H0 4 16 [] laced p l [] R w) := by
  refine rip_gen 100 99 b W0 H0 4 16 [] laced p 13 18 32 (fun _ => 0) l [] R sb so m mc B dv w hin rfl ?_ ?_
  · intro W H st n p L a w Q hD h hw hh hL hQ
    exact p13_GA16 b W H L st n (.iface 77 (.pointer (some ⟨R, 0, none⟩))) p a w Q h (Dec.pre_cell ⟨hD, hin.dec.tl, hin.dec.trl⟩ 7 (by simp [DecV.pre, hin.cb])) hw hh hL (fun a' w' g bx hm h2 => hQ a' w' g bx hm.hg hm.hbx hm.ne hm.row hm.seg hm.chg h2)
  · intro g bx W H L S hW1 hW hH hS hL bc bp y row p pre a w0 Q hk hD hG hci hq
    exact conv_GA16 (mkV b (.iface 77 (.pointer (some ⟨R, 0, none⟩))) 99 18 g W H (stN 4 16) (rbN 4 16 W)) bc bp y (y * 0) g bx L S row p pre a w0 Q hk rfl hci hq
set_option maxRecDepth 100000 in
theorem rip_TCA8 (b W0 H0 : Nat) (laced : Bool) (p : Nat) (l : List UInt8) (R sb so m mc B : Nat) (dv : DecV) (w : World) (hin : RipIn 98 b W0 H0 6 8 laced p 11 l R sb so m mc B dv w) :
    Calls Tryd.prog 26 #[.pointer (some ⟨b, 0, none⟩), (.iface 77 (.pointer (some ⟨R, 0, none⟩))), .int .i64 (p : Int), .bool false] w (RipEnd 98 97 W0 H0 6 8 [] laced p l [] R w) := by
  refine rip_gen 98 97 b W0 H0 6 8 [] laced p 11 15 32 (fun S => S) l [] R sb so m mc B dv w hin rfl ?_ ?_
  · intro W H st n p L a w Q hD h hw hh hL hQ
    exact p13_TCA8 b W H L st n (.iface 77 (.pointer (some ⟨R, 0, none⟩))) p a w Q h (Dec.pre_cell ⟨hD, hin.dec.tl, hin.dec.trl⟩ 7 (by simp [DecV.pre, hin.cb])) hw hh hL (fun a' w' g bx hm h2 => hQ a' w' g bx hm.hg hm.hbx hm.ne hm.row hm.seg hm.chg h2)
  · intro g bx W H L S hW1 hW hH hS hL bc bp y row p pre a w0 Q hk hD hG hci hq
    exact conv_TCA8 (mkV b (.iface 77 (.pointer (some ⟨R, 0, none⟩))) 97 15 g W H (stN 6 8) (rbN 6 8 W)) bc bp y (y * S) g bx L S row p pre a w0 Q hk rfl hci rfl hq
set_option maxRecDepth 100000 in
theorem rip_TCA16 (b W0 H0 : Nat) (laced : Bool) (p : Nat) (l : List UInt8) (R sb so m mc B : Nat) (dv : DecV) (w : World) (hin : RipIn 100 b W0 H0 6 16 laced p 15 l R sb so m mc B dv w) :
    Calls Tryd.prog 26 #[.pointer (some ⟨b, 0, none⟩), (.iface 77 (.pointer (some ⟨R, 0, none⟩))), .int .i64 (p : Int), .bool false] w (RipEnd 100 99 W0 H0 6 16 [] laced p l [] R w) := by
  refine rip_gen 100 99 b W0 H0 6 16 [] laced p 15 18 64 (fun _ => 0) l [] R sb so m mc B dv w hin rfl ?_ ?_
  · intro W H st n p L a w Q hD h hw hh hL hQ
    exact p13_TCA16 b W H L st n (.iface 77 (.pointer (some ⟨R, 0, none⟩))) p a w Q h (Dec.pre_cell ⟨hD, hin.dec.tl, hin.dec.trl⟩ 7 (by simp [DecV.pre, hin.cb])) hw hh hL (fun a' w' g bx hm h2 => hQ a' w' g bx hm.hg hm.hbx hm.ne hm.row hm.seg hm.chg h2)
  · intro g bx W H L S hW1 hW hH hS hL bc bp y row p pre a w0 Q hk hD hG hci hq
    exact conv_TCA16 (mkV b (.iface 77 (.pointer (some ⟨R, 0, none⟩))) 99 18 g W H (stN 6 16) (rbN 6 16 W)) bc bp y (y * 0) g bx L S row p pre a w0 Q hk rfl hci hq
end Go.Proofs.YtkiibhpmembcgaaDoor
namespace Go.Proofs.YtkiibhpmembcgaaDoor
open Go.ChangeShapes Go.WideShapes Go.ChangeAt Go.RowKit Go.IntWalk

set_option maxRecDepth 100000 in
theorem rip_G1 (b W0 H0 : Nat) (laced : Bool) (p : Nat) (l : List UInt8) (R sb so m mc B : Nat) (dv : DecV) (w : World) (hin : RipIn 90 b W0 H0 0 1 laced p 1 l R sb so m mc B dv w) (hut : dv.ut = .bool false) (hdp : dv.dp = .int .i64 1) :
    Calls Tryd.prog 26 #[.pointer (some ⟨b, 0, none⟩), (.iface 77 (.pointer (some ⟨R, 0, none⟩))), .int .i64 (p : Int), .bool false] w (RipEnd 90 83 W0 H0 0 1 [] laced p l [] R w) := by
  refine rip_gen 90 83 b W0 H0 0 1 [] laced p 1 12 1 (fun _ => 0) l [] R sb so m mc B dv w hin rfl ?_ ?_
  · intro W H st n p L a w Q hD h hw hh hL hQ
    exact p13_G1 b W H L st n (.iface 77 (.pointer (some ⟨R, 0, none⟩))) p a w Q h (Dec.pre_cell ⟨hD, hin.dec.tl, hin.dec.trl⟩ 7 (by simp [DecV.pre, hin.cb])) (Dec.ut ⟨hD, hin.dec.tl, hin.dec.trl⟩ |>.trans (by rw [hut])) (Dec.pre_cell ⟨hD, hin.dec.tl, hin.dec.trl⟩ 5 (by simp [DecV.pre, hdp])) hw hh hL (fun a' w' g bx hm h2 => hQ a' w' g bx hm.hg hm.hbx hm.ne hm.row hm.seg hm.chg h2)
  · intro g bx W H L S hW1 hW hH hS hL bc bp y row p pre a w0 Q hk hD hG hci hq
    exact conv_G1 (mkV b (.iface 77 (.pointer (some ⟨R, 0, none⟩))) 83 12 g W H (stN 0 1) (rbN 0 1 W)) bc bp y (y * 0) g bx L S row p pre a w0 Q hk (Dec.ut ⟨hD, hin.dec.tl, hin.dec.trl⟩ |>.trans (by rw [hut])) rfl hci hq
set_option maxRecDepth 100000 in
theorem rip_G2 (b W0 H0 : Nat) (laced : Bool) (p : Nat) (l : List UInt8) (R sb so m mc B : Nat) (dv : DecV) (w : World) (hin : RipIn 90 b W0 H0 0 2 laced p 2 l R sb so m mc B dv w) (hut : dv.ut = .bool false) (hdp : dv.dp = .int .i64 2) :
    Calls Tryd.prog 26 #[.pointer (some ⟨b, 0, none⟩), (.iface 77 (.pointer (some ⟨R, 0, none⟩))), .int .i64 (p : Int), .bool false] w (RipEnd 90 83 W0 H0 0 2 [] laced p l [] R w) := by
  refine rip_gen 90 83 b W0 H0 0 2 [] laced p 2 12 2 (fun _ => 0) l [] R sb so m mc B dv w hin rfl ?_ ?_
  · intro W H st n p L a w Q hD h hw hh hL hQ
    exact p13_G2 b W H L st n (.iface 77 (.pointer (some ⟨R, 0, none⟩))) p a w Q h (Dec.pre_cell ⟨hD, hin.dec.tl, hin.dec.trl⟩ 7 (by simp [DecV.pre, hin.cb])) (Dec.ut ⟨hD, hin.dec.tl, hin.dec.trl⟩ |>.trans (by rw [hut])) (Dec.pre_cell ⟨hD, hin.dec.tl, hin.dec.trl⟩ 5 (by simp [DecV.pre, hdp])) hw hh hL (fun a' w' g bx hm h2 => hQ a' w' g bx hm.hg hm.hbx hm.ne hm.row hm.seg hm.chg h2)
  · intro g bx W H L S hW1 hW hH hS hL bc bp y row p pre a w0 Q hk hD hG hci hq
    exact conv_G2 (mkV b (.iface 77 (.pointer (some ⟨R, 0, none⟩))) 83 12 g W H (stN 0 2) (rbN 0 2 W)) bc bp y (y * 0) g bx L S row p pre a w0 Q hk (Dec.ut ⟨hD, hin.dec.tl, hin.dec.trl⟩ |>.trans (by rw [hut])) rfl hci hq
set_option maxRecDepth 100000 in
theorem rip_G4 (b W0 H0 : Nat) (laced : Bool) (p : Nat) (l : List UInt8) (R sb so m mc B : Nat) (dv : DecV) (w : World) (hin : RipIn 90 b W0 H0 0 4 laced p 3 l R sb so m mc B dv w) (hut : dv.ut = .bool false) (hdp : dv.dp = .int .i64 4) :
    Calls Tryd.prog 26 #[.pointer (some ⟨b, 0, none⟩), (.iface 77 (.pointer (some ⟨R, 0, none⟩))), .int .i64 (p : Int), .bool false] w (RipEnd 90 83 W0 H0 0 4 [] laced p l [] R w) := by
  refine rip_gen 90 83 b W0 H0 0 4 [] laced p 3 12 4 (fun _ => 0) l [] R sb so m mc B dv w hin rfl ?_ ?_
  · intro W H st n p L a w Q hD h hw hh hL hQ
    exact p13_G4 b W H L st n (.iface 77 (.pointer (some ⟨R, 0, none⟩))) p a w Q h (Dec.pre_cell ⟨hD, hin.dec.tl, hin.dec.trl⟩ 7 (by simp [DecV.pre, hin.cb])) (Dec.ut ⟨hD, hin.dec.tl, hin.dec.trl⟩ |>.trans (by rw [hut])) (Dec.pre_cell ⟨hD, hin.dec.tl, hin.dec.trl⟩ 5 (by simp [DecV.pre, hdp])) hw hh hL (fun a' w' g bx hm h2 => hQ a' w' g bx hm.hg hm.hbx hm.ne hm.row hm.seg hm.chg h2)
  · intro g bx W H L S hW1 hW hH hS hL bc bp y row p pre a w0 Q hk hD hG hci hq
    exact conv_G4 (mkV b (.iface 77 (.pointer (some ⟨R, 0, none⟩))) 83 12 g W H (stN 0 4) (rbN 0 4 W)) bc bp y (y * 0) g bx L S row p pre a w0 Q hk (Dec.ut ⟨hD, hin.dec.tl, hin.dec.trl⟩ |>.trans (by rw [hut])) rfl hci hq
set_option maxRecDepth 100000 in
theorem rip_G8 (b W0 H0 : Nat) (laced : Bool) (p : Nat) (l : List UInt8) (R sb so m mc B : Nat) (dv : DecV) (w : World) (hin : RipIn 90 b W0 H0 0 8 laced p 4 l R sb so m mc B dv w) (hut : dv.ut = .bool false) (hdp : dv.dp = .int .i64 8) :
    Calls Tryd.prog 26 #[.pointer (some ⟨b, 0, none⟩), (.iface 77 (.pointer (some ⟨R, 0, none⟩))), .int .i64 (p : Int), .bool false] w (RipEnd 90 83 W0 H0 0 8 [] laced p l [] R w) := by
  refine rip_gen 90 83 b W0 H0 0 8 [] laced p 4 12 8 (fun S => S) l [] R sb so m mc B dv w hin rfl ?_ ?_
  · intro W H st n p L a w Q hD h hw hh hL hQ
    exact p13_G8 b W H L st n (.iface 77 (.pointer (some ⟨R, 0, none⟩))) p a w Q h (Dec.pre_cell ⟨hD, hin.dec.tl, hin.dec.trl⟩ 7 (by simp [DecV.pre, hin.cb])) (Dec.ut ⟨hD, hin.dec.tl, hin.dec.trl⟩ |>.trans (by rw [hut])) (Dec.pre_cell ⟨hD, hin.dec.tl, hin.dec.trl⟩ 5 (by simp [DecV.pre, hdp])) hw hh hL (fun a' w' g bx hm h2 => hQ a' w' g bx hm.hg hm.hbx hm.ne hm.row hm.seg hm.chg h2)
  · intro g bx W H L S hW1 hW hH hS hL bc bp y row p pre a w0 Q hk hD hG hci hq
    exact conv_G8 (mkV b (.iface 77 (.pointer (some ⟨R, 0, none⟩))) 83 12 g W H (stN 0 8) (rbN 0 8 W)) bc bp y (y * S) g bx L S row p pre a w0 Q hk (Dec.ut ⟨hD, hin.dec.tl, hin.dec.trl⟩ |>.trans (by rw [hut])) rfl hci rfl hq
set_option maxRecDepth 100000 in
theorem rip_G16 (b W0 H0 : Nat) (laced : Bool) (p : Nat) (l : List UInt8) (R sb so m mc B : Nat) (dv : DecV) (w : World) (hin : RipIn 92 b W0 H0 0 16 laced p 12 l R sb so m mc B dv w) (hut : dv.ut = .bool false) :
    Calls Tryd.prog 26 #[.pointer (some ⟨b, 0, none⟩), (.iface 77 (.pointer (some ⟨R, 0, none⟩))), .int .i64 (p : Int), .bool false] w (RipEnd 92 91 W0 H0 0 16 [] laced p l [] R w) := by
  refine rip_gen 92 91 b W0 H0 0 16 [] laced p 12 16 16 (fun _ => 0) l [] R sb so m mc B dv w hin rfl ?_ ?_
  · intro W H st n p L a w Q hD h hw hh hL hQ
    exact p13_G16 b W H L st n (.iface 77 (.pointer (some ⟨R, 0, none⟩))) p a w Q h (Dec.pre_cell ⟨hD, hin.dec.tl, hin.dec.trl⟩ 7 (by simp [DecV.pre, hin.cb])) (Dec.ut ⟨hD, hin.dec.tl, hin.dec.trl⟩ |>.trans (by rw [hut])) hw hh hL (fun a' w' g bx hm h2 => hQ a' w' g bx hm.hg hm.hbx hm.ne hm.row hm.seg hm.chg h2)
  · intro g bx W H L S hW1 hW hH hS hL bc bp y row p pre a w0 Q hk hD hG hci hq
    exact conv_G16 (mkV b (.iface 77 (.pointer (some ⟨R, 0, none⟩))) 91 16 g W H (stN 0 16) (rbN 0 16 W)) bc bp y (y * 0) g bx L S row p pre a w0 Q hk (Dec.ut ⟨hD, hin.dec.tl, hin.dec.trl⟩ |>.trans (by rw [hut])) rfl hci hq
end Go.Proofs.YtkiibhpmembcgaaDoor
namespace Go.Proofs.YtkiibhpmembcgaaDoor
open Go.ChangeShapes Go.WideShapes Go.ChangeAt Go.RowKit Go.IntWalk

set_option maxRecDepth 100000 in
theorem rip_TC8 (b W0 H0 : Nat) (laced : Bool) (p : Nat) (l : List UInt8) (R sb so m mc B : Nat) (dv : DecV) (w : World) (hin : RipIn 94 b W0 H0 2 8 laced p 6 l R sb so m mc B dv w) (hut : dv.ut = .bool false) :
    Calls Tryd.prog 26 #[.pointer (some ⟨b, 0, none⟩), (.iface 77 (.pointer (some ⟨R, 0, none⟩))), .int .i64 (p : Int), .bool false] w (RipEnd 94 93 W0 H0 2 8 [] laced p l [] R w) := by
  refine rip_gen 94 93 b W0 H0 2 8 [] laced p 6 13 24 (fun S => S) l [] R sb so m mc B dv w hin rfl ?_ ?_
  · intro W H st n p L a w Q hD h hw hh hL hQ
    exact p13_TC8 b W H L st n (.iface 77 (.pointer (some ⟨R, 0, none⟩))) p a w Q h (Dec.pre_cell ⟨hD, hin.dec.tl, hin.dec.trl⟩ 7 (by simp [DecV.pre, hin.cb])) (Dec.ut ⟨hD, hin.dec.tl, hin.dec.trl⟩ |>.trans (by rw [hut])) hw hh hL (fun a' w' g bx hm h2 => hQ a' w' g bx hm.hg hm.hbx hm.ne hm.row hm.seg hm.chg h2)
  · intro g bx W H L S hW1 hW hH hS hL bc bp y row p pre a w0 Q hk hD hG hci hq
    exact conv_TC8 (mkV b (.iface 77 (.pointer (some ⟨R, 0, none⟩))) 93 13 g W H (stN 2 8) (rbN 2 8 W)) bc bp y (y * S) g bx L S row p pre a w0 Q hk (Dec.ut ⟨hD, hin.dec.tl, hin.dec.trl⟩ |>.trans (by rw [hut])) rfl hci rfl hq
set_option maxRecDepth 100000 in
theorem rip_TC16 (b W0 H0 : Nat) (laced : Bool) (p : Nat) (l : List UInt8) (R sb so m mc B : Nat) (dv : DecV) (w : World) (hin : RipIn 96 b W0 H0 2 16 laced p 14 l R sb so m mc B dv w) (hut : dv.ut = .bool false) :
    Calls Tryd.prog 26 #[.pointer (some ⟨b, 0, none⟩), (.iface 77 (.pointer (some ⟨R, 0, none⟩))), .int .i64 (p : Int), .bool false] w (RipEnd 96 95 W0 H0 2 16 [] laced p l [] R w) := by
  refine rip_gen 96 95 b W0 H0 2 16 [] laced p 14 17 48 (fun _ => 0) l [] R sb so m mc B dv w hin rfl ?_ ?_
  · intro W H st n p L a w Q hD h hw hh hL hQ
    exact p13_TC16 b W H L st n (.iface 77 (.pointer (some ⟨R, 0, none⟩))) p a w Q h (Dec.pre_cell ⟨hD, hin.dec.tl, hin.dec.trl⟩ 7 (by simp [DecV.pre, hin.cb])) (Dec.ut ⟨hD, hin.dec.tl, hin.dec.trl⟩ |>.trans (by rw [hut])) hw hh hL (fun a' w' g bx hm h2 => hQ a' w' g bx hm.hg hm.hbx hm.ne hm.row hm.seg hm.chg h2)
  · intro g bx W H L S hW1 hW hH hS hL bc bp y row p pre a w0 Q hk hD hG hci hq
    exact conv_TC16 (mkV b (.iface 77 (.pointer (some ⟨R, 0, none⟩))) 95 17 g W H (stN 2 16) (rbN 2 16 W)) bc bp y (y * 0) g bx L S row p pre a w0 Q hk (Dec.ut ⟨hD, hin.dec.tl, hin.dec.trl⟩ |>.trans (by rw [hut])) rfl hci hq
end Go.Proofs.YtkiibhpmembcgaaDoor
