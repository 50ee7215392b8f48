/- The thin package's Pass, kind by kind. Printed by gen/impk.py. -/
import Derived.Test.YtkiibhpmembcgaaGreatDoorImplPass
import Derived.Test.YtkiibhpmembcgaaGreatDoorRipA
namespace Go.Proofs.YtkiibhpmembcgaaGreatDoor
open Go.ChangeShapes Go.WideShapes Go.ChangeAt Go.RowKit Go.IntWalk

/-- No palette stands beside the picture. -/
def noAv (_ : Nat) (av : Value) (_ : World) : Prop := av = .slice none 0 0
theorem picOk_5 : PicOk 111 110 5 (fun _ => []) (fun _ _ => True) noAv := by
  intro W H S g bx L pal l w _ hg hr hl hL
  refine (pictureOf_5 W H S L L g (some ⟨bx, 0, none⟩) l w (by simpa [picG] using hg) hl hr hL (by intro h; cases h)).mono ?_
  rintro e w' ⟨v, he, ho, hb⟩
  exact ⟨v, none, 0, 0, he, ho, rfl, hb⟩
theorem pneq_5 (p : Option Addr) (w : World) : (binOp .eql 67 (.iface 110 (.pointer p)) .nilIface).run Tryz.prog w = .ok (.bool false) w := by kernel_rfl
theorem picOk_6 : PicOk 113 112 6 (fun _ => []) (fun _ _ => True) noAv := by
  intro W H S g bx L pal l w _ hg hr hl hL
  refine (pictureOf_6 W H S L L g (some ⟨bx, 0, none⟩) l w (by simpa [picG] using hg) hl hr hL (by intro h; cases h)).mono ?_
  rintro e w' ⟨v, he, ho, hb⟩
  exact ⟨v, none, 0, 0, he, ho, rfl, hb⟩
theorem pneq_6 (p : Option Addr) (w : World) : (binOp .eql 67 (.iface 112 (.pointer p)) .nilIface).run Tryz.prog w = .ok (.bool false) w := by kernel_rfl
theorem impl_GA8 (W0 H0 : Nat) (laced : Bool) (p : Nat) (l : List UInt8) (m mc B pn pcap cc : Nat) (ad ap ca : Option Addr) (S : List Sh) (w : World) (hin : ZpIn W0 H0 4 8 p l m mc B ad w) (hnil : ad = none → m = 0 ∧ mc = 0) (hS : InS w ap pn pcap S) (hpn : pn ≤ 1000) :
    Calls Tryz.prog 14 #[.slice ad m mc, .int .i64 (W0 : Int), .int .i64 (H0 : Int), .int .i64 ((4 : Nat) : Int), .int .i64 ((8 : Nat) : Int), .bool laced, .int .i64 (p : Int), .slice ap pn pcap, .slice ca 0 cc] w (IpEnd 5 W0 H0 4 8 [] laced p l noAv w) :=
  implPass_gen 111 110 5 W0 H0 4 8 laced p 5 l m mc B pn pcap cc ad ap ca S (fun _ => []) (fun _ _ => True) noAv w hin hnil hS hpn rfl (by decide) (by decide) pneq_5
    (fun mc' _ _ _ b R sb so dv w1 hri hok => rip_GA8 b W0 H0 laced p l R sb so m mc' B dv w1 hri) (fun _ _ _ _ _ => trivial) (fun _ _ _ => trivial) (fun _ _ _ _ _ h => h) (fun _ _ _ _ _ h _ _ => h) picOk_5
theorem impl_GA16 (W0 H0 : Nat) (laced : Bool) (p : Nat) (l : List UInt8) (m mc B pn pcap cc : Nat) (ad ap ca : Option Addr) (S : List Sh) (w : World) (hin : ZpIn W0 H0 4 16 p l m mc B ad w) (hnil : ad = none → m = 0 ∧ mc = 0) (hS : InS w ap pn pcap S) (hpn : pn ≤ 1000) :
    Calls Tryz.prog 14 #[.slice ad m mc, .int .i64 (W0 : Int), .int .i64 (H0 : Int), .int .i64 ((4 : Nat) : Int), .int .i64 ((16 : Nat) : Int), .bool laced, .int .i64 (p : Int), .slice ap pn pcap, .slice ca 0 cc] w (IpEnd 6 W0 H0 4 16 [] laced p l noAv w) :=
  implPass_gen 113 112 6 W0 H0 4 16 laced p 13 l m mc B pn pcap cc ad ap ca S (fun _ => []) (fun _ _ => True) noAv w hin hnil hS hpn rfl (by decide) (by decide) pneq_6
    (fun mc' _ _ _ b R sb so dv w1 hri hok => rip_GA16 b W0 H0 laced p l R sb so m mc' B dv w1 hri) (fun _ _ _ _ _ => trivial) (fun _ _ _ => trivial) (fun _ _ _ _ _ h => h) (fun _ _ _ _ _ h _ _ => h) picOk_6
theorem impl_TCA8 (W0 H0 : Nat) (laced : Bool) (p : Nat) (l : List UInt8) (m mc B pn pcap cc : Nat) (ad ap ca : Option Addr) (S : List Sh) (w : World) (hin : ZpIn W0 H0 6 8 p l m mc B ad w) (hnil : ad = none → m = 0 ∧ mc = 0) (hS : InS w ap pn pcap S) (hpn : pn ≤ 1000) :
    Calls Tryz.prog 14 #[.slice ad m mc, .int .i64 (W0 : Int), .int .i64 (H0 : Int), .int .i64 ((6 : Nat) : Int), .int .i64 ((8 : Nat) : Int), .bool laced, .int .i64 (p : Int), .slice ap pn pcap, .slice ca 0 cc] w (IpEnd 5 W0 H0 6 8 [] laced p l noAv w) :=
  implPass_gen 111 110 5 W0 H0 6 8 laced p 11 l m mc B pn pcap cc ad ap ca S (fun _ => []) (fun _ _ => True) noAv w hin hnil hS hpn rfl (by decide) (by decide) pneq_5
    (fun mc' _ _ _ b R sb so dv w1 hri hok => rip_TCA8 b W0 H0 laced p l R sb so m mc' B dv w1 hri) (fun _ _ _ _ _ => trivial) (fun _ _ _ => trivial) (fun _ _ _ _ _ h => h) (fun _ _ _ _ _ h _ _ => h) picOk_5
theorem impl_TCA16 (W0 H0 : Nat) (laced : Bool) (p : Nat) (l : List UInt8) (m mc B pn pcap cc : Nat) (ad ap ca : Option Addr) (S : List Sh) (w : World) (hin : ZpIn W0 H0 6 16 p l m mc B ad w) (hnil : ad = none → m = 0 ∧ mc = 0) (hS : InS w ap pn pcap S) (hpn : pn ≤ 1000) :
    Calls Tryz.prog 14 #[.slice ad m mc, .int .i64 (W0 : Int), .int .i64 (H0 : Int), .int .i64 ((6 : Nat) : Int), .int .i64 ((16 : Nat) : Int), .bool laced, .int .i64 (p : Int), .slice ap pn pcap, .slice ca 0 cc] w (IpEnd 6 W0 H0 6 16 [] laced p l noAv w) :=
  implPass_gen 113 112 6 W0 H0 6 16 laced p 15 l m mc B pn pcap cc ad ap ca S (fun _ => []) (fun _ _ => True) noAv w hin hnil hS hpn rfl (by decide) (by decide) pneq_6
    (fun mc' _ _ _ b R sb so dv w1 hri hok => rip_TCA16 b W0 H0 laced p l R sb so m mc' B dv w1 hri) (fun _ _ _ _ _ => trivial) (fun _ _ _ => trivial) (fun _ _ _ _ _ h => h) (fun _ _ _ _ _ h _ _ => h) picOk_6
end Go.Proofs.YtkiibhpmembcgaaGreatDoor
