/- readImagePass, kind by kind. Printed by gen/ripk.py. readImagePass, kind by kind. Printed by gen/ripk.py. The thin package's Pass, kind by kind. Printed by gen/impk.py. The thin package's Pass, kind by kind. Printed by gen/impk.py. -/
import Derived.Test.YtkiibhpmembcgaaGreatDoorGRip
import Derived.Test.YtkiibhpmembcgaaGreatDoorGPro
import Derived.Test.YtkiibhpmembcgaaGreatDoorGRipG
import Derived.Test.YtkiibhpmembcgaaGreatDoorRipConvF
import Derived.Test.YtkiibhpmembcgaaGreatDoorRipConvE
import Derived.Test.YtkiibhpmembcgaaGreatDoorGClr
import Derived.Test.YtkiibhpmembcgaaGreatDoorRipConvG
import Derived.Test.YtkiibhpmembcgaaGreatDoorRipConvJ
import Derived.Test.YtkiibhpmembcgaaGreatDoorImplPass
import Derived.Test.YtkiibhpmembcgaaGreatDoorImpPic
namespace Go.Proofs.YtkiibhpmembcgaaGreatDoor
open Go.ChangeShapes Go.WideShapes Go.ChangeAt Go.RowKit Go.IntWalk

set_option maxRecDepth 100000 in
theorem rip_G1 (b W0 H0 : Nat) (laced : Bool) (p : Nat) (l : List UInt8) (R sb so m mc B : Nat) (dv : DecV) (w : World) (hin : RipIn 103 b W0 H0 0 1 laced p 1 l R sb so m mc B dv w) (hut : dv.ut = .bool false) (hdp : dv.dp = .int .i64 1) :
    Calls Tryz.prog 33 #[.pointer (some ⟨b, 0, none⟩), (.iface 90 (.pointer (some ⟨R, 0, none⟩))), .int .i64 (p : Int), .bool false] w (RipEnd 103 96 W0 H0 0 1 [] laced p l [] R w) := by
  refine rip_gen 103 96 b W0 H0 0 1 [] laced p 1 12 1 (fun _ => 0) l [] R sb so m mc B dv w hin rfl ?_ ?_
  · intro W H st n p L a w Q hD h hw hh hL hQ
    exact p13_G1 b W H L st n (.iface 90 (.pointer (some ⟨R, 0, none⟩))) p a w Q h (Dec.pre_cell ⟨hD, hin.dec.tl, hin.dec.trl⟩ 7 (by simp [DecV.pre, hin.cb])) (Dec.ut ⟨hD, hin.dec.tl, hin.dec.trl⟩ |>.trans (by rw [hut])) (Dec.pre_cell ⟨hD, hin.dec.tl, hin.dec.trl⟩ 5 (by simp [DecV.pre, hdp])) hw hh hL (fun a' w' g bx hm h2 => hQ a' w' g bx hm.hg hm.hbx hm.ne hm.row hm.seg hm.chg h2)
  · intro g bx W H L S hW1 hW hH hS hL bc bp y row p pre a w0 Q hk hD hG hci hq
    exact conv_G1 (mkV b (.iface 90 (.pointer (some ⟨R, 0, none⟩))) 96 12 g W H (stN 0 1) (rbN 0 1 W)) bc bp y (y * 0) g bx L S row p pre a w0 Q hk (Dec.ut ⟨hD, hin.dec.tl, hin.dec.trl⟩ |>.trans (by rw [hut])) rfl hci hq
set_option maxRecDepth 100000 in
theorem rip_G2 (b W0 H0 : Nat) (laced : Bool) (p : Nat) (l : List UInt8) (R sb so m mc B : Nat) (dv : DecV) (w : World) (hin : RipIn 103 b W0 H0 0 2 laced p 2 l R sb so m mc B dv w) (hut : dv.ut = .bool false) (hdp : dv.dp = .int .i64 2) :
    Calls Tryz.prog 33 #[.pointer (some ⟨b, 0, none⟩), (.iface 90 (.pointer (some ⟨R, 0, none⟩))), .int .i64 (p : Int), .bool false] w (RipEnd 103 96 W0 H0 0 2 [] laced p l [] R w) := by
  refine rip_gen 103 96 b W0 H0 0 2 [] laced p 2 12 2 (fun _ => 0) l [] R sb so m mc B dv w hin rfl ?_ ?_
  · intro W H st n p L a w Q hD h hw hh hL hQ
    exact p13_G2 b W H L st n (.iface 90 (.pointer (some ⟨R, 0, none⟩))) p a w Q h (Dec.pre_cell ⟨hD, hin.dec.tl, hin.dec.trl⟩ 7 (by simp [DecV.pre, hin.cb])) (Dec.ut ⟨hD, hin.dec.tl, hin.dec.trl⟩ |>.trans (by rw [hut])) (Dec.pre_cell ⟨hD, hin.dec.tl, hin.dec.trl⟩ 5 (by simp [DecV.pre, hdp])) hw hh hL (fun a' w' g bx hm h2 => hQ a' w' g bx hm.hg hm.hbx hm.ne hm.row hm.seg hm.chg h2)
  · intro g bx W H L S hW1 hW hH hS hL bc bp y row p pre a w0 Q hk hD hG hci hq
    exact conv_G2 (mkV b (.iface 90 (.pointer (some ⟨R, 0, none⟩))) 96 12 g W H (stN 0 2) (rbN 0 2 W)) bc bp y (y * 0) g bx L S row p pre a w0 Q hk (Dec.ut ⟨hD, hin.dec.tl, hin.dec.trl⟩ |>.trans (by rw [hut])) rfl hci hq
set_option maxRecDepth 100000 in
theorem rip_G4 (b W0 H0 : Nat) (laced : Bool) (p : Nat) (l : List UInt8) (R sb so m mc B : Nat) (dv : DecV) (w : World) (hin : RipIn 103 b W0 H0 0 4 laced p 3 l R sb so m mc B dv w) (hut : dv.ut = .bool false) (hdp : dv.dp = .int .i64 4) :
    Calls Tryz.prog 33 #[.pointer (some ⟨b, 0, none⟩), (.iface 90 (.pointer (some ⟨R, 0, none⟩))), .int .i64 (p : Int), .bool false] w (RipEnd 103 96 W0 H0 0 4 [] laced p l [] R w) := by
  refine rip_gen 103 96 b W0 H0 0 4 [] laced p 3 12 4 (fun _ => 0) l [] R sb so m mc B dv w hin rfl ?_ ?_
  · intro W H st n p L a w Q hD h hw hh hL hQ
    exact p13_G4 b W H L st n (.iface 90 (.pointer (some ⟨R, 0, none⟩))) p a w Q h (Dec.pre_cell ⟨hD, hin.dec.tl, hin.dec.trl⟩ 7 (by simp [DecV.pre, hin.cb])) (Dec.ut ⟨hD, hin.dec.tl, hin.dec.trl⟩ |>.trans (by rw [hut])) (Dec.pre_cell ⟨hD, hin.dec.tl, hin.dec.trl⟩ 5 (by simp [DecV.pre, hdp])) hw hh hL (fun a' w' g bx hm h2 => hQ a' w' g bx hm.hg hm.hbx hm.ne hm.row hm.seg hm.chg h2)
  · intro g bx W H L S hW1 hW hH hS hL bc bp y row p pre a w0 Q hk hD hG hci hq
    exact conv_G4 (mkV b (.iface 90 (.pointer (some ⟨R, 0, none⟩))) 96 12 g W H (stN 0 4) (rbN 0 4 W)) bc bp y (y * 0) g bx L S row p pre a w0 Q hk (Dec.ut ⟨hD, hin.dec.tl, hin.dec.trl⟩ |>.trans (by rw [hut])) rfl hci hq
set_option maxRecDepth 100000 in
theorem rip_G8 (b W0 H0 : Nat) (laced : Bool) (p : Nat) (l : List UInt8) (R sb so m mc B : Nat) (dv : DecV) (w : World) (hin : RipIn 103 b W0 H0 0 8 laced p 4 l R sb so m mc B dv w) (hut : dv.ut = .bool false) (hdp : dv.dp = .int .i64 8) :
    Calls Tryz.prog 33 #[.pointer (some ⟨b, 0, none⟩), (.iface 90 (.pointer (some ⟨R, 0, none⟩))), .int .i64 (p : Int), .bool false] w (RipEnd 103 96 W0 H0 0 8 [] laced p l [] R w) := by
  refine rip_gen 103 96 b W0 H0 0 8 [] laced p 4 12 8 (fun S => S) l [] R sb so m mc B dv w hin rfl ?_ ?_
  · intro W H st n p L a w Q hD h hw hh hL hQ
    exact p13_G8 b W H L st n (.iface 90 (.pointer (some ⟨R, 0, none⟩))) p a w Q h (Dec.pre_cell ⟨hD, hin.dec.tl, hin.dec.trl⟩ 7 (by simp [DecV.pre, hin.cb])) (Dec.ut ⟨hD, hin.dec.tl, hin.dec.trl⟩ |>.trans (by rw [hut])) (Dec.pre_cell ⟨hD, hin.dec.tl, hin.dec.trl⟩ 5 (by simp [DecV.pre, hdp])) hw hh hL (fun a' w' g bx hm h2 => hQ a' w' g bx hm.hg hm.hbx hm.ne hm.row hm.seg hm.chg h2)
  · intro g bx W H L S hW1 hW hH hS hL bc bp y row p pre a w0 Q hk hD hG hci hq
    exact conv_G8 (mkV b (.iface 90 (.pointer (some ⟨R, 0, none⟩))) 96 12 g W H (stN 0 8) (rbN 0 8 W)) bc bp y (y * S) g bx L S row p pre a w0 Q hk (Dec.ut ⟨hD, hin.dec.tl, hin.dec.trl⟩ |>.trans (by rw [hut])) rfl hci rfl hq
set_option maxRecDepth 100000 in
theorem rip_G16 (b W0 H0 : Nat) (laced : Bool) (p : Nat) (l : List UInt8) (R sb so m mc B : Nat) (dv : DecV) (w : World) (hin : RipIn 105 b W0 H0 0 16 laced p 12 l R sb so m mc B dv w) (hut : dv.ut = .bool false) :
    Calls Tryz.prog 33 #[.pointer (some ⟨b, 0, none⟩), (.iface 90 (.pointer (some ⟨R, 0, none⟩))), .int .i64 (p : Int), .bool false] w (RipEnd 105 104 W0 H0 0 16 [] laced p l [] R w) := by
  refine rip_gen 105 104 b W0 H0 0 16 [] laced p 12 16 16 (fun _ => 0) l [] R sb so m mc B dv w hin rfl ?_ ?_
  · intro W H st n p L a w Q hD h hw hh hL hQ
    exact p13_G16 b W H L st n (.iface 90 (.pointer (some ⟨R, 0, none⟩))) p a w Q h (Dec.pre_cell ⟨hD, hin.dec.tl, hin.dec.trl⟩ 7 (by simp [DecV.pre, hin.cb])) (Dec.ut ⟨hD, hin.dec.tl, hin.dec.trl⟩ |>.trans (by rw [hut])) hw hh hL (fun a' w' g bx hm h2 => hQ a' w' g bx hm.hg hm.hbx hm.ne hm.row hm.seg hm.chg h2)
  · intro g bx W H L S hW1 hW hH hS hL bc bp y row p pre a w0 Q hk hD hG hci hq
    exact conv_G16 (mkV b (.iface 90 (.pointer (some ⟨R, 0, none⟩))) 104 16 g W H (stN 0 16) (rbN 0 16 W)) bc bp y (y * 0) g bx L S row p pre a w0 Q hk (Dec.ut ⟨hD, hin.dec.tl, hin.dec.trl⟩ |>.trans (by rw [hut])) rfl hci hq
end Go.Proofs.YtkiibhpmembcgaaGreatDoor
namespace Go.Proofs.YtkiibhpmembcgaaGreatDoor
open Go.ChangeShapes Go.WideShapes Go.ChangeAt Go.RowKit Go.IntWalk

set_option maxRecDepth 100000 in
theorem rip_G8t (v0 b W0 H0 : Nat) (laced : Bool) (p : Nat) (l : List UInt8) (R sb so m mc B : Nat) (dv : DecV) (w : World) (hin : RipIn 111 b W0 H0 0 8 laced p 4 l R sb so m mc B dv w) (hut : dv.ut = .bool true) (htr : dv.tr = tr6 [v0]) (hv0 : v0 < 256) (hdp : dv.dp = .int .i64 8) :
    Calls Tryz.prog 33 #[.pointer (some ⟨b, 0, none⟩), (.iface 90 (.pointer (some ⟨R, 0, none⟩))), .int .i64 (p : Int), .bool false] w (RipEnd 111 110 W0 H0 0 8 [v0] laced p l [] R w) := by
  refine rip_gen 111 110 b W0 H0 0 8 [v0] laced p 4 15 8 (fun _ => 0) l [] R sb so m mc B dv w hin rfl ?_ ?_
  · intro W H st n p L a w Q hD h hw hh hL hQ
    exact p13_G8t b W H L st n (.iface 90 (.pointer (some ⟨R, 0, none⟩))) p a w Q h (Dec.pre_cell ⟨hD, hin.dec.tl, hin.dec.trl⟩ 7 (by simp [DecV.pre, hin.cb])) (Dec.ut ⟨hD, hin.dec.tl, hin.dec.trl⟩ |>.trans (by rw [hut])) (Dec.pre_cell ⟨hD, hin.dec.tl, hin.dec.trl⟩ 5 (by simp [DecV.pre, hdp])) hw hh hL (fun a' w' g bx hm h2 => hQ a' w' g bx hm.hg hm.hbx hm.ne hm.row hm.seg hm.chg h2)
  · intro g bx W H L S hW1 hW hH hS hL bc bp y row p pre a w0 Q hk hD hG hci hq
    exact conv_G8t (mkV b (.iface 90 (.pointer (some ⟨R, 0, none⟩))) 110 15 g W H (stN 0 8) (rbN 0 8 W)) v0 bc bp y (y * 0) g bx L S row p pre a w0 Q hk (Dec.ut ⟨hD, hin.dec.tl, hin.dec.trl⟩ |>.trans (by rw [hut])) ((Dec.trc ⟨hD, hin.dec.tl, hin.dec.trl⟩ 1 (by decide)).trans (by rw [htr]; show some (Value.int .u8 ((UInt8.ofNat v0).toNat : Int)) = _; rw [lo_nat hv0])) rfl hci hq
set_option maxRecDepth 100000 in
theorem rip_G16t (v0 b W0 H0 : Nat) (laced : Bool) (p : Nat) (l : List UInt8) (R sb so m mc B : Nat) (dv : DecV) (w : World) (hin : RipIn 113 b W0 H0 0 16 laced p 12 l R sb so m mc B dv w) (hut : dv.ut = .bool true) (htr : dv.tr = tr6 [v0]) (hv0 : v0 < 65536) :
    Calls Tryz.prog 33 #[.pointer (some ⟨b, 0, none⟩), (.iface 90 (.pointer (some ⟨R, 0, none⟩))), .int .i64 (p : Int), .bool false] w (RipEnd 113 112 W0 H0 0 16 [v0] laced p l [] R w) := by
  refine rip_gen 113 112 b W0 H0 0 16 [v0] laced p 12 18 16 (fun _ => 0) l [] R sb so m mc B dv w hin rfl ?_ ?_
  · intro W H st n p L a w Q hD h hw hh hL hQ
    exact p13_G16t b W H L st n (.iface 90 (.pointer (some ⟨R, 0, none⟩))) p a w Q h (Dec.pre_cell ⟨hD, hin.dec.tl, hin.dec.trl⟩ 7 (by simp [DecV.pre, hin.cb])) (Dec.ut ⟨hD, hin.dec.tl, hin.dec.trl⟩ |>.trans (by rw [hut])) hw hh hL (fun a' w' g bx hm h2 => hQ a' w' g bx hm.hg hm.hbx hm.ne hm.row hm.seg hm.chg h2)
  · intro g bx W H L S hW1 hW hH hS hL bc bp y row p pre a w0 Q hk hD hG hci hq
    have e : ([(UInt8.ofNat (v0 / 256)).toNat * 256 + (UInt8.ofNat v0).toNat] : List Nat) = [v0] := by rw [hilo hv0]
    rw [← e] at hci hq
    exact conv_G16t (mkV b (.iface 90 (.pointer (some ⟨R, 0, none⟩))) 112 18 g W H (stN 0 16) (rbN 0 16 W)) (UInt8.ofNat (v0 / 256)) (UInt8.ofNat v0) bc bp y (y * 0) g bx L S row p pre a w0 Q hk (Dec.ut ⟨hD, hin.dec.tl, hin.dec.trl⟩ |>.trans (by rw [hut])) ((Dec.trc ⟨hD, hin.dec.tl, hin.dec.trl⟩ 0 (by decide)).trans (by rw [htr]; rfl)) ((Dec.trc ⟨hD, hin.dec.tl, hin.dec.trl⟩ 1 (by decide)).trans (by rw [htr]; rfl)) rfl hci hq
end Go.Proofs.YtkiibhpmembcgaaGreatDoor
namespace Go.Proofs.YtkiibhpmembcgaaGreatDoor
open Go.ChangeShapes Go.WideShapes Go.ChangeAt Go.RowKit Go.IntWalk

theorem impl_G1 (W0 H0 : Nat) (laced : Bool) (p : Nat) (l : List UInt8) (m mc B pn pcap cc : Nat) (ad ap ca : Option Addr) (S : List Sh) (w : World) (hin : ZpIn W0 H0 0 1 p l m mc B ad w) (hnil : ad = none → m = 0 ∧ mc = 0) (hS : InS w ap pn pcap S) (hpn : pn ≤ 1000) :
    Calls Tryz.prog 14 #[.slice ad m mc, .int .i64 (W0 : Int), .int .i64 (H0 : Int), .int .i64 ((0 : Nat) : Int), .int .i64 ((1 : Nat) : Int), .bool laced, .int .i64 (p : Int), .slice ap pn pcap, .slice ca 0 cc] w (IpEnd 1 W0 H0 0 1 [] laced p l noAv w) :=
  implPass_gen 103 96 1 W0 H0 0 1 laced p 1 l m mc B pn pcap cc ad ap ca S (fun _ => []) (fun _ _ => True) noAv w hin hnil hS hpn rfl (by decide) (by decide) pneq_1
    (fun mc' _ _ _ b R sb so dv w1 hri hok => rip_G1 b W0 H0 laced p l R sb so m mc' B dv w1 hri hok.2.1 hok.1) (fun _ _ _ _ _ => trivial) (fun _ _ _ => trivial) (fun _ _ _ _ _ h => h) (fun _ _ _ _ _ h _ _ => h) picOk_1
theorem impl_G2 (W0 H0 : Nat) (laced : Bool) (p : Nat) (l : List UInt8) (m mc B pn pcap cc : Nat) (ad ap ca : Option Addr) (S : List Sh) (w : World) (hin : ZpIn W0 H0 0 2 p l m mc B ad w) (hnil : ad = none → m = 0 ∧ mc = 0) (hS : InS w ap pn pcap S) (hpn : pn ≤ 1000) :
    Calls Tryz.prog 14 #[.slice ad m mc, .int .i64 (W0 : Int), .int .i64 (H0 : Int), .int .i64 ((0 : Nat) : Int), .int .i64 ((2 : Nat) : Int), .bool laced, .int .i64 (p : Int), .slice ap pn pcap, .slice ca 0 cc] w (IpEnd 1 W0 H0 0 2 [] laced p l noAv w) :=
  implPass_gen 103 96 1 W0 H0 0 2 laced p 2 l m mc B pn pcap cc ad ap ca S (fun _ => []) (fun _ _ => True) noAv w hin hnil hS hpn rfl (by decide) (by decide) pneq_1
    (fun mc' _ _ _ b R sb so dv w1 hri hok => rip_G2 b W0 H0 laced p l R sb so m mc' B dv w1 hri hok.2.1 hok.1) (fun _ _ _ _ _ => trivial) (fun _ _ _ => trivial) (fun _ _ _ _ _ h => h) (fun _ _ _ _ _ h _ _ => h) picOk_1
theorem impl_G4 (W0 H0 : Nat) (laced : Bool) (p : Nat) (l : List UInt8) (m mc B pn pcap cc : Nat) (ad ap ca : Option Addr) (S : List Sh) (w : World) (hin : ZpIn W0 H0 0 4 p l m mc B ad w) (hnil : ad = none → m = 0 ∧ mc = 0) (hS : InS w ap pn pcap S) (hpn : pn ≤ 1000) :
    Calls Tryz.prog 14 #[.slice ad m mc, .int .i64 (W0 : Int), .int .i64 (H0 : Int), .int .i64 ((0 : Nat) : Int), .int .i64 ((4 : Nat) : Int), .bool laced, .int .i64 (p : Int), .slice ap pn pcap, .slice ca 0 cc] w (IpEnd 1 W0 H0 0 4 [] laced p l noAv w) :=
  implPass_gen 103 96 1 W0 H0 0 4 laced p 3 l m mc B pn pcap cc ad ap ca S (fun _ => []) (fun _ _ => True) noAv w hin hnil hS hpn rfl (by decide) (by decide) pneq_1
    (fun mc' _ _ _ b R sb so dv w1 hri hok => rip_G4 b W0 H0 laced p l R sb so m mc' B dv w1 hri hok.2.1 hok.1) (fun _ _ _ _ _ => trivial) (fun _ _ _ => trivial) (fun _ _ _ _ _ h => h) (fun _ _ _ _ _ h _ _ => h) picOk_1
theorem impl_G8 (W0 H0 : Nat) (laced : Bool) (p : Nat) (l : List UInt8) (m mc B pn pcap cc : Nat) (ad ap ca : Option Addr) (S : List Sh) (w : World) (hin : ZpIn W0 H0 0 8 p l m mc B ad w) (hnil : ad = none → m = 0 ∧ mc = 0) (hS : InS w ap pn pcap S) (hpn : pn ≤ 1000) :
    Calls Tryz.prog 14 #[.slice ad m mc, .int .i64 (W0 : Int), .int .i64 (H0 : Int), .int .i64 ((0 : Nat) : Int), .int .i64 ((8 : Nat) : Int), .bool laced, .int .i64 (p : Int), .slice ap pn pcap, .slice ca 0 cc] w (IpEnd 1 W0 H0 0 8 [] laced p l noAv w) :=
  implPass_gen 103 96 1 W0 H0 0 8 laced p 4 l m mc B pn pcap cc ad ap ca S (fun _ => []) (fun _ _ => True) noAv w hin hnil hS hpn rfl (by decide) (by decide) pneq_1
    (fun mc' _ _ _ b R sb so dv w1 hri hok => rip_G8 b W0 H0 laced p l R sb so m mc' B dv w1 hri hok.2.1 hok.1) (fun _ _ _ _ _ => trivial) (fun _ _ _ => trivial) (fun _ _ _ _ _ h => h) (fun _ _ _ _ _ h _ _ => h) picOk_1
theorem impl_G16 (W0 H0 : Nat) (laced : Bool) (p : Nat) (l : List UInt8) (m mc B pn pcap cc : Nat) (ad ap ca : Option Addr) (S : List Sh) (w : World) (hin : ZpIn W0 H0 0 16 p l m mc B ad w) (hnil : ad = none → m = 0 ∧ mc = 0) (hS : InS w ap pn pcap S) (hpn : pn ≤ 1000) :
    Calls Tryz.prog 14 #[.slice ad m mc, .int .i64 (W0 : Int), .int .i64 (H0 : Int), .int .i64 ((0 : Nat) : Int), .int .i64 ((16 : Nat) : Int), .bool laced, .int .i64 (p : Int), .slice ap pn pcap, .slice ca 0 cc] w (IpEnd 2 W0 H0 0 16 [] laced p l noAv w) :=
  implPass_gen 105 104 2 W0 H0 0 16 laced p 12 l m mc B pn pcap cc ad ap ca S (fun _ => []) (fun _ _ => True) noAv w hin hnil hS hpn rfl (by decide) (by decide) pneq_2
    (fun mc' _ _ _ b R sb so dv w1 hri hok => rip_G16 b W0 H0 laced p l R sb so m mc' B dv w1 hri hok.2.1) (fun _ _ _ _ _ => trivial) (fun _ _ _ => trivial) (fun _ _ _ _ _ h => h) (fun _ _ _ _ _ h _ _ => h) picOk_2
end Go.Proofs.YtkiibhpmembcgaaGreatDoor
namespace Go.Proofs.YtkiibhpmembcgaaGreatDoor
open Go.ChangeShapes Go.WideShapes Go.ChangeAt Go.RowKit Go.IntWalk

theorem impl_G8t (v0 W0 H0 : Nat) (laced : Bool) (p : Nat) (hv0 : v0 < 256) (l : List UInt8) (m mc B pn pcap bn bc : Nat) (ad ap ba : Option Addr) (S : List Sh) (w : World) (hin : ZpIn W0 H0 0 8 p l m mc B ad w) (hnil : ad = none → m = 0 ∧ mc = 0) (hS : InS w ap pn pcap S) (hpn : pn ≤ 1000) (hbl : Hid ((trB [v0]).length = bn)) (hbr : RB w ba (trB [v0])) (hb4 : ba = none → bn = 0 ∧ bc = 0) :
    Calls Tryz.prog 14 #[.slice ad m mc, .int .i64 (W0 : Int), .int .i64 (H0 : Int), .int .i64 ((0 : Nat) : Int), .int .i64 ((8 : Nat) : Int), .bool laced, .int .i64 (p : Int), .slice ap pn pcap, .slice ba bn bc] w (IpEnd 5 W0 H0 0 8 [v0] laced p l noAv w) := by
  have hbn : bn = 2 := hbl.out.symm
  exact implPass_clr 111 110 5 W0 H0 0 8 [v0] laced p 4 l m mc B pn pcap bn bc ad ap ba S (fun _ => []) (fun _ _ => True) noAv w hbl hbr hb4 (by omega) (by omega) hin hnil hS hpn rfl (by decide) (by decide) pneq_5
    (fun mc' _ _ _ b R sb so dv w1 hri hok => rip_G8t v0 b W0 H0 laced p l R sb so m mc' B dv w1 hri hok.2.1 hok.2.2 hv0 hok.1) (fun _ _ _ _ _ => trivial) (fun _ _ _ => trivial) (fun _ _ _ _ _ h => h) (fun _ _ _ _ _ h _ _ => h) picOk_5
theorem impl_G16t (v0 W0 H0 : Nat) (laced : Bool) (p : Nat) (hv0 : v0 < 65536) (l : List UInt8) (m mc B pn pcap bn bc : Nat) (ad ap ba : Option Addr) (S : List Sh) (w : World) (hin : ZpIn W0 H0 0 16 p l m mc B ad w) (hnil : ad = none → m = 0 ∧ mc = 0) (hS : InS w ap pn pcap S) (hpn : pn ≤ 1000) (hbl : Hid ((trB [v0]).length = bn)) (hbr : RB w ba (trB [v0])) (hb4 : ba = none → bn = 0 ∧ bc = 0) :
    Calls Tryz.prog 14 #[.slice ad m mc, .int .i64 (W0 : Int), .int .i64 (H0 : Int), .int .i64 ((0 : Nat) : Int), .int .i64 ((16 : Nat) : Int), .bool laced, .int .i64 (p : Int), .slice ap pn pcap, .slice ba bn bc] w (IpEnd 6 W0 H0 0 16 [v0] laced p l noAv w) := by
  have hbn : bn = 2 := hbl.out.symm
  exact implPass_clr 113 112 6 W0 H0 0 16 [v0] laced p 12 l m mc B pn pcap bn bc ad ap ba S (fun _ => []) (fun _ _ => True) noAv w hbl hbr hb4 (by omega) (by omega) hin hnil hS hpn rfl (by decide) (by decide) pneq_6
    (fun mc' _ _ _ b R sb so dv w1 hri hok => rip_G16t v0 b W0 H0 laced p l R sb so m mc' B dv w1 hri hok.2.1 hok.2.2 hv0) (fun _ _ _ _ _ => trivial) (fun _ _ _ => trivial) (fun _ _ _ _ _ h => h) (fun _ _ _ _ _ h _ _ => h) picOk_6
end Go.Proofs.YtkiibhpmembcgaaGreatDoor
