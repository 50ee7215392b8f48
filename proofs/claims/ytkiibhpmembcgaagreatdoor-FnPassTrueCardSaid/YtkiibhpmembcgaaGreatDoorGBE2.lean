/- readImagePass, kind by kind. Printed by gen/ripk.py. readImagePass, kind by kind. Printed by gen/ripk.py. The thin package's Pass, kind by kind. Printed by gen/impk.py. The thin package's Pass, kind by kind. Printed by gen/impk.py. -/
import Derived.Test.YtkiibhpmembcgaaGreatDoorGRip
import Derived.Test.YtkiibhpmembcgaaGreatDoorGPro
import Derived.Test.YtkiibhpmembcgaaGreatDoorRipConvI
import Derived.Test.YtkiibhpmembcgaaGreatDoorRipConvH
import Derived.Test.YtkiibhpmembcgaaGreatDoorGClr
import Derived.Test.YtkiibhpmembcgaaGreatDoorRipConvK
import Derived.Test.YtkiibhpmembcgaaGreatDoorRipConvL
import Derived.Test.YtkiibhpmembcgaaGreatDoorImplPass
import Derived.Test.YtkiibhpmembcgaaGreatDoorImpPic
namespace Go.Proofs.YtkiibhpmembcgaaGreatDoor
open Go.ChangeShapes Go.WideShapes Go.ChangeAt Go.RowKit Go.IntWalk

set_option maxRecDepth 100000 in
theorem rip_TC8 (b W0 H0 : Nat) (laced : Bool) (p : Nat) (l : List UInt8) (R sb so m mc B : Nat) (dv : DecV) (w : World) (hin : RipIn 107 b W0 H0 2 8 laced p 6 l R sb so m mc B dv w) (hut : dv.ut = .bool false) :
    Calls Tryz.prog 33 #[.pointer (some ⟨b, 0, none⟩), (.iface 90 (.pointer (some ⟨R, 0, none⟩))), .int .i64 (p : Int), .bool false] w (RipEnd 107 106 W0 H0 2 8 [] laced p l [] R w) := by
  refine rip_gen 107 106 b W0 H0 2 8 [] laced p 6 13 24 (fun S => S) l [] R sb so m mc B dv w hin rfl ?_ ?_
  · intro W H st n p L a w Q hD h hw hh hL hQ
    exact p13_TC8 b W H L st n (.iface 90 (.pointer (some ⟨R, 0, none⟩))) p a w Q h (Dec.pre_cell ⟨hD, hin.dec.tl, hin.dec.trl⟩ 7 (by simp [DecV.pre, hin.cb])) (Dec.ut ⟨hD, hin.dec.tl, hin.dec.trl⟩ |>.trans (by rw [hut])) hw hh hL (fun a' w' g bx hm h2 => hQ a' w' g bx hm.hg hm.hbx hm.ne hm.row hm.seg hm.chg h2)
  · intro g bx W H L S hW1 hW hH hS hL bc bp y row p pre a w0 Q hk hD hG hci hq
    exact conv_TC8 (mkV b (.iface 90 (.pointer (some ⟨R, 0, none⟩))) 106 13 g W H (stN 2 8) (rbN 2 8 W)) bc bp y (y * S) g bx L S row p pre a w0 Q hk (Dec.ut ⟨hD, hin.dec.tl, hin.dec.trl⟩ |>.trans (by rw [hut])) rfl hci rfl hq
set_option maxRecDepth 100000 in
theorem rip_TC16 (b W0 H0 : Nat) (laced : Bool) (p : Nat) (l : List UInt8) (R sb so m mc B : Nat) (dv : DecV) (w : World) (hin : RipIn 109 b W0 H0 2 16 laced p 14 l R sb so m mc B dv w) (hut : dv.ut = .bool false) :
    Calls Tryz.prog 33 #[.pointer (some ⟨b, 0, none⟩), (.iface 90 (.pointer (some ⟨R, 0, none⟩))), .int .i64 (p : Int), .bool false] w (RipEnd 109 108 W0 H0 2 16 [] laced p l [] R w) := by
  refine rip_gen 109 108 b W0 H0 2 16 [] laced p 14 17 48 (fun _ => 0) l [] R sb so m mc B dv w hin rfl ?_ ?_
  · intro W H st n p L a w Q hD h hw hh hL hQ
    exact p13_TC16 b W H L st n (.iface 90 (.pointer (some ⟨R, 0, none⟩))) p a w Q h (Dec.pre_cell ⟨hD, hin.dec.tl, hin.dec.trl⟩ 7 (by simp [DecV.pre, hin.cb])) (Dec.ut ⟨hD, hin.dec.tl, hin.dec.trl⟩ |>.trans (by rw [hut])) hw hh hL (fun a' w' g bx hm h2 => hQ a' w' g bx hm.hg hm.hbx hm.ne hm.row hm.seg hm.chg h2)
  · intro g bx W H L S hW1 hW hH hS hL bc bp y row p pre a w0 Q hk hD hG hci hq
    exact conv_TC16 (mkV b (.iface 90 (.pointer (some ⟨R, 0, none⟩))) 108 17 g W H (stN 2 16) (rbN 2 16 W)) bc bp y (y * 0) g bx L S row p pre a w0 Q hk (Dec.ut ⟨hD, hin.dec.tl, hin.dec.trl⟩ |>.trans (by rw [hut])) rfl hci hq
end Go.Proofs.YtkiibhpmembcgaaGreatDoor
namespace Go.Proofs.YtkiibhpmembcgaaGreatDoor
open Go.ChangeShapes Go.WideShapes Go.ChangeAt Go.RowKit Go.IntWalk

set_option maxRecDepth 100000 in
theorem rip_TC8t (v0 v1 v2 b W0 H0 : Nat) (laced : Bool) (p : Nat) (l : List UInt8) (R sb so m mc B : Nat) (dv : DecV) (w : World) (hin : RipIn 111 b W0 H0 2 8 laced p 6 l R sb so m mc B dv w) (hut : dv.ut = .bool true) (htr : dv.tr = tr6 [v0, v1, v2]) (hv0 : v0 < 256) (hv1 : v1 < 256) (hv2 : v2 < 256) :
    Calls Tryz.prog 33 #[.pointer (some ⟨b, 0, none⟩), (.iface 90 (.pointer (some ⟨R, 0, none⟩))), .int .i64 (p : Int), .bool false] w (RipEnd 111 110 W0 H0 2 8 [v0, v1, v2] laced p l [] R w) := by
  refine rip_gen 111 110 b W0 H0 2 8 [v0, v1, v2] laced p 6 15 24 (fun S => S) l [] R sb so m mc B dv w hin rfl ?_ ?_
  · intro W H st n p L a w Q hD h hw hh hL hQ
    exact p13_TC8t b W H L st n (.iface 90 (.pointer (some ⟨R, 0, none⟩))) p a w Q h (Dec.pre_cell ⟨hD, hin.dec.tl, hin.dec.trl⟩ 7 (by simp [DecV.pre, hin.cb])) (Dec.ut ⟨hD, hin.dec.tl, hin.dec.trl⟩ |>.trans (by rw [hut])) hw hh hL (fun a' w' g bx hm h2 => hQ a' w' g bx hm.hg hm.hbx hm.ne hm.row hm.seg hm.chg h2)
  · intro g bx W H L S hW1 hW hH hS hL bc bp y row p pre a w0 Q hk hD hG hci hq
    exact conv_TC8t (mkV b (.iface 90 (.pointer (some ⟨R, 0, none⟩))) 110 15 g W H (stN 2 8) (rbN 2 8 W)) v0 v1 v2 bc bp y (y * S) g bx L S row p pre a w0 Q hk (Dec.ut ⟨hD, hin.dec.tl, hin.dec.trl⟩ |>.trans (by rw [hut])) ((Dec.trc ⟨hD, hin.dec.tl, hin.dec.trl⟩ 1 (by decide)).trans (by rw [htr]; show some (Value.int .u8 ((UInt8.ofNat v0).toNat : Int)) = _; rw [lo_nat hv0])) ((Dec.trc ⟨hD, hin.dec.tl, hin.dec.trl⟩ 3 (by decide)).trans (by rw [htr]; show some (Value.int .u8 ((UInt8.ofNat v1).toNat : Int)) = _; rw [lo_nat hv1])) ((Dec.trc ⟨hD, hin.dec.tl, hin.dec.trl⟩ 5 (by decide)).trans (by rw [htr]; show some (Value.int .u8 ((UInt8.ofNat v2).toNat : Int)) = _; rw [lo_nat hv2])) rfl hci rfl hq
set_option maxRecDepth 100000 in
theorem rip_TC16t (v0 v1 v2 b W0 H0 : Nat) (laced : Bool) (p : Nat) (l : List UInt8) (R sb so m mc B : Nat) (dv : DecV) (w : World) (hin : RipIn 113 b W0 H0 2 16 laced p 14 l R sb so m mc B dv w) (hut : dv.ut = .bool true) (htr : dv.tr = tr6 [v0, v1, v2]) (hv0 : v0 < 65536) (hv1 : v1 < 65536) (hv2 : v2 < 65536) :
    Calls Tryz.prog 33 #[.pointer (some ⟨b, 0, none⟩), (.iface 90 (.pointer (some ⟨R, 0, none⟩))), .int .i64 (p : Int), .bool false] w (RipEnd 113 112 W0 H0 2 16 [v0, v1, v2] laced p l [] R w) := by
  refine rip_gen 113 112 b W0 H0 2 16 [v0, v1, v2] laced p 14 18 48 (fun _ => 0) l [] R sb so m mc B dv w hin rfl ?_ ?_
  · intro W H st n p L a w Q hD h hw hh hL hQ
    exact p13_TC16t b W H L st n (.iface 90 (.pointer (some ⟨R, 0, none⟩))) p a w Q h (Dec.pre_cell ⟨hD, hin.dec.tl, hin.dec.trl⟩ 7 (by simp [DecV.pre, hin.cb])) (Dec.ut ⟨hD, hin.dec.tl, hin.dec.trl⟩ |>.trans (by rw [hut])) hw hh hL (fun a' w' g bx hm h2 => hQ a' w' g bx hm.hg hm.hbx hm.ne hm.row hm.seg hm.chg h2)
  · intro g bx W H L S hW1 hW hH hS hL bc bp y row p pre a w0 Q hk hD hG hci hq
    have e : ([(UInt8.ofNat (v0 / 256)).toNat * 256 + (UInt8.ofNat v0).toNat, (UInt8.ofNat (v1 / 256)).toNat * 256 + (UInt8.ofNat v1).toNat, (UInt8.ofNat (v2 / 256)).toNat * 256 + (UInt8.ofNat v2).toNat] : List Nat) = [v0, v1, v2] := by rw [hilo hv0, hilo hv1, hilo hv2]
    rw [← e] at hci hq
    exact conv_TC16t (mkV b (.iface 90 (.pointer (some ⟨R, 0, none⟩))) 112 18 g W H (stN 2 16) (rbN 2 16 W)) (UInt8.ofNat (v0 / 256)) (UInt8.ofNat v0) (UInt8.ofNat (v1 / 256)) (UInt8.ofNat v1) (UInt8.ofNat (v2 / 256)) (UInt8.ofNat v2) bc bp y (y * 0) g bx L S row p pre a w0 Q hk (Dec.ut ⟨hD, hin.dec.tl, hin.dec.trl⟩ |>.trans (by rw [hut])) ((Dec.trc ⟨hD, hin.dec.tl, hin.dec.trl⟩ 0 (by decide)).trans (by rw [htr]; rfl)) ((Dec.trc ⟨hD, hin.dec.tl, hin.dec.trl⟩ 1 (by decide)).trans (by rw [htr]; rfl)) ((Dec.trc ⟨hD, hin.dec.tl, hin.dec.trl⟩ 2 (by decide)).trans (by rw [htr]; rfl)) ((Dec.trc ⟨hD, hin.dec.tl, hin.dec.trl⟩ 3 (by decide)).trans (by rw [htr]; rfl)) ((Dec.trc ⟨hD, hin.dec.tl, hin.dec.trl⟩ 4 (by decide)).trans (by rw [htr]; rfl)) ((Dec.trc ⟨hD, hin.dec.tl, hin.dec.trl⟩ 5 (by decide)).trans (by rw [htr]; rfl)) rfl hci hq
end Go.Proofs.YtkiibhpmembcgaaGreatDoor
namespace Go.Proofs.YtkiibhpmembcgaaGreatDoor
open Go.ChangeShapes Go.WideShapes Go.ChangeAt Go.RowKit Go.IntWalk

theorem impl_TC8 (W0 H0 : Nat) (laced : Bool) (p : Nat) (l : List UInt8) (m mc B pn pcap cc : Nat) (ad ap ca : Option Addr) (S : List Sh) (w : World) (hin : ZpIn W0 H0 2 8 p l m mc B ad w) (hnil : ad = none → m = 0 ∧ mc = 0) (hS : InS w ap pn pcap S) (hpn : pn ≤ 1000) :
    Calls Tryz.prog 14 #[.slice ad m mc, .int .i64 (W0 : Int), .int .i64 (H0 : Int), .int .i64 ((2 : Nat) : Int), .int .i64 ((8 : Nat) : Int), .bool laced, .int .i64 (p : Int), .slice ap pn pcap, .slice ca 0 cc] w (IpEnd 3 W0 H0 2 8 [] laced p l noAv w) :=
  implPass_gen 107 106 3 W0 H0 2 8 laced p 6 l m mc B pn pcap cc ad ap ca S (fun _ => []) (fun _ _ => True) noAv w hin hnil hS hpn rfl (by decide) (by decide) pneq_3
    (fun mc' _ _ _ b R sb so dv w1 hri hok => rip_TC8 b W0 H0 laced p l R sb so m mc' B dv w1 hri hok.2.1) (fun _ _ _ _ _ => trivial) (fun _ _ _ => trivial) (fun _ _ _ _ _ h => h) (fun _ _ _ _ _ h _ _ => h) picOk_3
theorem impl_TC16 (W0 H0 : Nat) (laced : Bool) (p : Nat) (l : List UInt8) (m mc B pn pcap cc : Nat) (ad ap ca : Option Addr) (S : List Sh) (w : World) (hin : ZpIn W0 H0 2 16 p l m mc B ad w) (hnil : ad = none → m = 0 ∧ mc = 0) (hS : InS w ap pn pcap S) (hpn : pn ≤ 1000) :
    Calls Tryz.prog 14 #[.slice ad m mc, .int .i64 (W0 : Int), .int .i64 (H0 : Int), .int .i64 ((2 : Nat) : Int), .int .i64 ((16 : Nat) : Int), .bool laced, .int .i64 (p : Int), .slice ap pn pcap, .slice ca 0 cc] w (IpEnd 4 W0 H0 2 16 [] laced p l noAv w) :=
  implPass_gen 109 108 4 W0 H0 2 16 laced p 14 l m mc B pn pcap cc ad ap ca S (fun _ => []) (fun _ _ => True) noAv w hin hnil hS hpn rfl (by decide) (by decide) pneq_4
    (fun mc' _ _ _ b R sb so dv w1 hri hok => rip_TC16 b W0 H0 laced p l R sb so m mc' B dv w1 hri hok.2.1) (fun _ _ _ _ _ => trivial) (fun _ _ _ => trivial) (fun _ _ _ _ _ h => h) (fun _ _ _ _ _ h _ _ => h) picOk_4
end Go.Proofs.YtkiibhpmembcgaaGreatDoor
namespace Go.Proofs.YtkiibhpmembcgaaGreatDoor
open Go.ChangeShapes Go.WideShapes Go.ChangeAt Go.RowKit Go.IntWalk

theorem impl_TC8t (v0 v1 v2 W0 H0 : Nat) (laced : Bool) (p : Nat) (hv0 : v0 < 256) (hv1 : v1 < 256) (hv2 : v2 < 256) (l : List UInt8) (m mc B pn pcap bn bc : Nat) (ad ap ba : Option Addr) (S : List Sh) (w : World) (hin : ZpIn W0 H0 2 8 p l m mc B ad w) (hnil : ad = none → m = 0 ∧ mc = 0) (hS : InS w ap pn pcap S) (hpn : pn ≤ 1000) (hbl : Hid ((trB [v0, v1, v2]).length = bn)) (hbr : RB w ba (trB [v0, v1, v2])) (hb4 : ba = none → bn = 0 ∧ bc = 0) :
    Calls Tryz.prog 14 #[.slice ad m mc, .int .i64 (W0 : Int), .int .i64 (H0 : Int), .int .i64 ((2 : Nat) : Int), .int .i64 ((8 : Nat) : Int), .bool laced, .int .i64 (p : Int), .slice ap pn pcap, .slice ba bn bc] w (IpEnd 5 W0 H0 2 8 [v0, v1, v2] laced p l noAv w) := by
  have hbn : bn = 6 := hbl.out.symm
  exact implPass_clr 111 110 5 W0 H0 2 8 [v0, v1, v2] laced p 6 l m mc B pn pcap bn bc ad ap ba S (fun _ => []) (fun _ _ => True) noAv w hbl hbr hb4 (by omega) (by omega) hin hnil hS hpn rfl (by decide) (by decide) pneq_5
    (fun mc' _ _ _ b R sb so dv w1 hri hok => rip_TC8t v0 v1 v2 b W0 H0 laced p l R sb so m mc' B dv w1 hri hok.2.1 hok.2.2 hv0 hv1 hv2) (fun _ _ _ _ _ => trivial) (fun _ _ _ => trivial) (fun _ _ _ _ _ h => h) (fun _ _ _ _ _ h _ _ => h) picOk_5
theorem impl_TC16t (v0 v1 v2 W0 H0 : Nat) (laced : Bool) (p : Nat) (hv0 : v0 < 65536) (hv1 : v1 < 65536) (hv2 : v2 < 65536) (l : List UInt8) (m mc B pn pcap bn bc : Nat) (ad ap ba : Option Addr) (S : List Sh) (w : World) (hin : ZpIn W0 H0 2 16 p l m mc B ad w) (hnil : ad = none → m = 0 ∧ mc = 0) (hS : InS w ap pn pcap S) (hpn : pn ≤ 1000) (hbl : Hid ((trB [v0, v1, v2]).length = bn)) (hbr : RB w ba (trB [v0, v1, v2])) (hb4 : ba = none → bn = 0 ∧ bc = 0) :
    Calls Tryz.prog 14 #[.slice ad m mc, .int .i64 (W0 : Int), .int .i64 (H0 : Int), .int .i64 ((2 : Nat) : Int), .int .i64 ((16 : Nat) : Int), .bool laced, .int .i64 (p : Int), .slice ap pn pcap, .slice ba bn bc] w (IpEnd 6 W0 H0 2 16 [v0, v1, v2] laced p l noAv w) := by
  have hbn : bn = 6 := hbl.out.symm
  exact implPass_clr 113 112 6 W0 H0 2 16 [v0, v1, v2] laced p 14 l m mc B pn pcap bn bc ad ap ba S (fun _ => []) (fun _ _ => True) noAv w hbl hbr hb4 (by omega) (by omega) hin hnil hS hpn rfl (by decide) (by decide) pneq_6
    (fun mc' _ _ _ b R sb so dv w1 hri hok => rip_TC16t v0 v1 v2 b W0 H0 laced p l R sb so m mc' B dv w1 hri hok.2.1 hok.2.2 hv0 hv1 hv2) (fun _ _ _ _ _ => trivial) (fun _ _ _ => trivial) (fun _ _ _ _ _ h => h) (fun _ _ _ _ _ h _ _ => h) picOk_6
end Go.Proofs.YtkiibhpmembcgaaGreatDoor
