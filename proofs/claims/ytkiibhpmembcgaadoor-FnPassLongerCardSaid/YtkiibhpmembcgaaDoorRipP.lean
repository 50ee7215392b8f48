/- readImagePass, kind by kind. Printed by gen/ripk.py. -/
import Derived.Test.YtkiibhpmembcgaaDoorGRip
import Derived.Test.YtkiibhpmembcgaaDoorProP
import Derived.Test.YtkiibhpmembcgaaDoorRipP1
import Derived.Test.YtkiibhpmembcgaaDoorRipP2
import Derived.Test.YtkiibhpmembcgaaDoorRipP4
import Derived.Test.YtkiibhpmembcgaaDoorRipP8
namespace Go.Proofs.YtkiibhpmembcgaaDoor
open Go.ChangeShapes Go.WideShapes Go.ChangeAt Go.RowKit Go.IntWalk

set_option maxRecDepth 100000 in
theorem rip_P1 (b W0 H0 : Nat) (laced : Bool) (p : Nat) (l : List UInt8) (R sb so m mc B : Nat) (pa : Option Addr) (pk : Nat) (dv : DecV) (w : World) (hin : RipIn 103 b W0 H0 3 1 laced p 7 l R sb so m mc B dv w) (hdp : dv.dp = .int .i64 1) (hpl : dv.pal = .slice pa 2 pk) :
    Calls Tryd.prog 26 #[.pointer (some ⟨b, 0, none⟩), (.iface 77 (.pointer (some ⟨R, 0, none⟩))), .int .i64 (p : Int), .bool false] w (RipEnd 103 101 W0 H0 3 1 [] laced p l [.slice pa 2 pk] R w) := by
  refine rip_gen 103 101 b W0 H0 3 1 [] laced p 7 14 1 (fun _ => 0) l [.slice pa 2 pk] R sb so m mc B dv w hin rfl ?_ ?_
  · intro W H st n p L a w Q hD h hw hh hL hQ
    exact p13_P1 b W H L st n pa 2 pk (.iface 77 (.pointer (some ⟨R, 0, none⟩))) p a w Q h (Dec.pre_cell ⟨hD, hin.dec.tl, hin.dec.trl⟩ 7 (by simp [DecV.pre, hin.cb])) (Dec.pre_cell ⟨hD, hin.dec.tl, hin.dec.trl⟩ 5 (by simp [DecV.pre, hdp])) (Dec.pre_cell ⟨hD, hin.dec.tl, hin.dec.trl⟩ 6 (by simp [DecV.pre, hpl])) hw hh hL (fun a' w' g bx h1 h2 h3 h4 h5 h6 h7 => hQ a' w' g bx h1 h2 h3 h4 h5 h6 h7)
  · intro g bx W H L S hW1 hW hH hS hL bc bp y row p pre a w0 Q hk hD hG hci hq
    exact conv_P1 (mkV b (.iface 77 (.pointer (some ⟨R, 0, none⟩))) 101 14 g W H (stN 3 1) (rbN 3 1 W)) bc bp y (y * 0) g bx L S row p pre a w0 Q hk pa pk ((cell_of_row w0 g 6 _ _ _ hG).trans rfl) rfl hci hq
set_option maxRecDepth 100000 in
theorem rip_P2 (b W0 H0 : Nat) (laced : Bool) (p : Nat) (l : List UInt8) (R sb so m mc B : Nat) (pa : Option Addr) (pk : Nat) (dv : DecV) (w : World) (hin : RipIn 103 b W0 H0 3 2 laced p 8 l R sb so m mc B dv w) (hdp : dv.dp = .int .i64 2) (hpl : dv.pal = .slice pa 4 pk) :
    Calls Tryd.prog 26 #[.pointer (some ⟨b, 0, none⟩), (.iface 77 (.pointer (some ⟨R, 0, none⟩))), .int .i64 (p : Int), .bool false] w (RipEnd 103 101 W0 H0 3 2 [] laced p l [.slice pa 4 pk] R w) := by
  refine rip_gen 103 101 b W0 H0 3 2 [] laced p 8 14 2 (fun _ => 0) l [.slice pa 4 pk] R sb so m mc B dv w hin rfl ?_ ?_
  · intro W H st n p L a w Q hD h hw hh hL hQ
    exact p13_P2 b W H L st n pa 4 pk (.iface 77 (.pointer (some ⟨R, 0, none⟩))) p a w Q h (Dec.pre_cell ⟨hD, hin.dec.tl, hin.dec.trl⟩ 7 (by simp [DecV.pre, hin.cb])) (Dec.pre_cell ⟨hD, hin.dec.tl, hin.dec.trl⟩ 5 (by simp [DecV.pre, hdp])) (Dec.pre_cell ⟨hD, hin.dec.tl, hin.dec.trl⟩ 6 (by simp [DecV.pre, hpl])) hw hh hL (fun a' w' g bx h1 h2 h3 h4 h5 h6 h7 => hQ a' w' g bx h1 h2 h3 h4 h5 h6 h7)
  · intro g bx W H L S hW1 hW hH hS hL bc bp y row p pre a w0 Q hk hD hG hci hq
    exact conv_P2 (mkV b (.iface 77 (.pointer (some ⟨R, 0, none⟩))) 101 14 g W H (stN 3 2) (rbN 3 2 W)) bc bp y (y * 0) g bx L S row p pre a w0 Q hk pa pk ((cell_of_row w0 g 6 _ _ _ hG).trans rfl) rfl hci hq
set_option maxRecDepth 100000 in
theorem rip_P4 (b W0 H0 : Nat) (laced : Bool) (p : Nat) (l : List UInt8) (R sb so m mc B : Nat) (pa : Option Addr) (pk : Nat) (dv : DecV) (w : World) (hin : RipIn 103 b W0 H0 3 4 laced p 9 l R sb so m mc B dv w) (hdp : dv.dp = .int .i64 4) (hpl : dv.pal = .slice pa 16 pk) :
    Calls Tryd.prog 26 #[.pointer (some ⟨b, 0, none⟩), (.iface 77 (.pointer (some ⟨R, 0, none⟩))), .int .i64 (p : Int), .bool false] w (RipEnd 103 101 W0 H0 3 4 [] laced p l [.slice pa 16 pk] R w) := by
  refine rip_gen 103 101 b W0 H0 3 4 [] laced p 9 14 4 (fun _ => 0) l [.slice pa 16 pk] R sb so m mc B dv w hin rfl ?_ ?_
  · intro W H st n p L a w Q hD h hw hh hL hQ
    exact p13_P4 b W H L st n pa 16 pk (.iface 77 (.pointer (some ⟨R, 0, none⟩))) p a w Q h (Dec.pre_cell ⟨hD, hin.dec.tl, hin.dec.trl⟩ 7 (by simp [DecV.pre, hin.cb])) (Dec.pre_cell ⟨hD, hin.dec.tl, hin.dec.trl⟩ 5 (by simp [DecV.pre, hdp])) (Dec.pre_cell ⟨hD, hin.dec.tl, hin.dec.trl⟩ 6 (by simp [DecV.pre, hpl])) hw hh hL (fun a' w' g bx h1 h2 h3 h4 h5 h6 h7 => hQ a' w' g bx h1 h2 h3 h4 h5 h6 h7)
  · intro g bx W H L S hW1 hW hH hS hL bc bp y row p pre a w0 Q hk hD hG hci hq
    exact conv_P4 (mkV b (.iface 77 (.pointer (some ⟨R, 0, none⟩))) 101 14 g W H (stN 3 4) (rbN 3 4 W)) bc bp y (y * 0) g bx L S row p pre a w0 Q hk pa pk ((cell_of_row w0 g 6 _ _ _ hG).trans rfl) rfl hci hq
set_option maxRecDepth 100000 in
theorem rip_P8 (b W0 H0 : Nat) (laced : Bool) (p : Nat) (l : List UInt8) (R sb so m mc B : Nat) (pa : Option Addr) (pk : Nat) (dv : DecV) (w : World) (hin : RipIn 103 b W0 H0 3 8 laced p 10 l R sb so m mc B dv w) (hdp : dv.dp = .int .i64 8) (hpl : dv.pal = .slice pa 256 pk) :
    Calls Tryd.prog 26 #[.pointer (some ⟨b, 0, none⟩), (.iface 77 (.pointer (some ⟨R, 0, none⟩))), .int .i64 (p : Int), .bool false] w (RipEnd 103 101 W0 H0 3 8 [] laced p l [.slice pa 256 pk] R w) := by
  refine rip_gen 103 101 b W0 H0 3 8 [] laced p 10 14 8 (fun S => S) l [.slice pa 256 pk] R sb so m mc B dv w hin rfl ?_ ?_
  · intro W H st n p L a w Q hD h hw hh hL hQ
    exact p13_P8 b W H L st n pa 256 pk (.iface 77 (.pointer (some ⟨R, 0, none⟩))) p a w Q h (Dec.pre_cell ⟨hD, hin.dec.tl, hin.dec.trl⟩ 7 (by simp [DecV.pre, hin.cb])) (Dec.pre_cell ⟨hD, hin.dec.tl, hin.dec.trl⟩ 5 (by simp [DecV.pre, hdp])) (Dec.pre_cell ⟨hD, hin.dec.tl, hin.dec.trl⟩ 6 (by simp [DecV.pre, hpl])) hw hh hL (fun a' w' g bx h1 h2 h3 h4 h5 h6 h7 => hQ a' w' g bx h1 h2 h3 h4 h5 h6 h7)
  · intro g bx W H L S hW1 hW hH hS hL bc bp y row p pre a w0 Q hk hD hG hci hq
    exact conv_P8 (mkV b (.iface 77 (.pointer (some ⟨R, 0, none⟩))) 101 14 g W H (stN 3 8) (rbN 3 8 W)) bc bp y (y * S) g bx L S row p pre a w0 Q hk pa pk ((cell_of_row w0 g 6 _ _ _ hG).trans rfl) rfl hci rfl hq
end Go.Proofs.YtkiibhpmembcgaaDoor
