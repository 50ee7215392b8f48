/- The thin package's Pass at every kind, no sample being clear. Printed by gen/imppassl.py. -/
import Derived.Test.YtkiibhpmembcgaaDoorImplPassL
import Derived.Test.YtkiibhpmembcgaaDoorImpPic
import Derived.Test.YtkiibhpmembcgaaDoorImpP
import Derived.Test.YtkiibhpmembcgaaDoorGRipL
namespace Go.Proofs.YtkiibhpmembcgaaDoor
open Go.ChangeShapes Go.WideShapes Go.ChangeAt Go.RowKit Go.IntWalk

theorem long_G1 (W0 H0 : Nat) (laced : Bool) (p : Nat) (l : List UInt8) (m mc B pn pcap cc : Nat) (ad ap ca : Option Addr) (S : List Sh) (w : World) (hin : ZpIn W0 H0 0 1 p l m mc B ad w) (hnil : ad = none → m = 0 ∧ mc = 0) (hS : InS w ap pn pcap S) (hpn : Hid (pn ≤ 2147483647)) :
    Calls Tryd.prog 9 #[.slice ad m mc, .int .i64 (W0 : Int), .int .i64 (H0 : Int), .int .i64 ((0 : Nat) : Int), .int .i64 ((1 : Nat) : Int), .bool laced, .int .i64 (p : Int), .slice ap pn pcap, .slice ca 0 cc] w (IpEnd 1 W0 H0 0 1 [] laced p l noAv w) :=
  implPass_long 90 83 1 W0 H0 0 1 laced p 1 l m mc B pn pcap cc ad ap ca S (fun _ => []) (fun _ _ => True) noAv w hin hnil hS hpn rfl (by decide) (by decide) pneq_1
    (fun mc' _ _ _ b R sb so dv w1 hri hok => rip_G1 b W0 H0 laced p l R sb so m mc' B dv w1 hri hok.2.1 hok.1) (fun _ _ _ _ _ => trivial) (fun _ _ _ => trivial) (fun _ _ _ _ _ h => h) (fun _ _ _ _ _ h _ _ => h) picOk_1
theorem long_G2 (W0 H0 : Nat) (laced : Bool) (p : Nat) (l : List UInt8) (m mc B pn pcap cc : Nat) (ad ap ca : Option Addr) (S : List Sh) (w : World) (hin : ZpIn W0 H0 0 2 p l m mc B ad w) (hnil : ad = none → m = 0 ∧ mc = 0) (hS : InS w ap pn pcap S) (hpn : Hid (pn ≤ 2147483647)) :
    Calls Tryd.prog 9 #[.slice ad m mc, .int .i64 (W0 : Int), .int .i64 (H0 : Int), .int .i64 ((0 : Nat) : Int), .int .i64 ((2 : Nat) : Int), .bool laced, .int .i64 (p : Int), .slice ap pn pcap, .slice ca 0 cc] w (IpEnd 1 W0 H0 0 2 [] laced p l noAv w) :=
  implPass_long 90 83 1 W0 H0 0 2 laced p 2 l m mc B pn pcap cc ad ap ca S (fun _ => []) (fun _ _ => True) noAv w hin hnil hS hpn rfl (by decide) (by decide) pneq_1
    (fun mc' _ _ _ b R sb so dv w1 hri hok => rip_G2 b W0 H0 laced p l R sb so m mc' B dv w1 hri hok.2.1 hok.1) (fun _ _ _ _ _ => trivial) (fun _ _ _ => trivial) (fun _ _ _ _ _ h => h) (fun _ _ _ _ _ h _ _ => h) picOk_1
theorem long_G4 (W0 H0 : Nat) (laced : Bool) (p : Nat) (l : List UInt8) (m mc B pn pcap cc : Nat) (ad ap ca : Option Addr) (S : List Sh) (w : World) (hin : ZpIn W0 H0 0 4 p l m mc B ad w) (hnil : ad = none → m = 0 ∧ mc = 0) (hS : InS w ap pn pcap S) (hpn : Hid (pn ≤ 2147483647)) :
    Calls Tryd.prog 9 #[.slice ad m mc, .int .i64 (W0 : Int), .int .i64 (H0 : Int), .int .i64 ((0 : Nat) : Int), .int .i64 ((4 : Nat) : Int), .bool laced, .int .i64 (p : Int), .slice ap pn pcap, .slice ca 0 cc] w (IpEnd 1 W0 H0 0 4 [] laced p l noAv w) :=
  implPass_long 90 83 1 W0 H0 0 4 laced p 3 l m mc B pn pcap cc ad ap ca S (fun _ => []) (fun _ _ => True) noAv w hin hnil hS hpn rfl (by decide) (by decide) pneq_1
    (fun mc' _ _ _ b R sb so dv w1 hri hok => rip_G4 b W0 H0 laced p l R sb so m mc' B dv w1 hri hok.2.1 hok.1) (fun _ _ _ _ _ => trivial) (fun _ _ _ => trivial) (fun _ _ _ _ _ h => h) (fun _ _ _ _ _ h _ _ => h) picOk_1
theorem long_G8 (W0 H0 : Nat) (laced : Bool) (p : Nat) (l : List UInt8) (m mc B pn pcap cc : Nat) (ad ap ca : Option Addr) (S : List Sh) (w : World) (hin : ZpIn W0 H0 0 8 p l m mc B ad w) (hnil : ad = none → m = 0 ∧ mc = 0) (hS : InS w ap pn pcap S) (hpn : Hid (pn ≤ 2147483647)) :
    Calls Tryd.prog 9 #[.slice ad m mc, .int .i64 (W0 : Int), .int .i64 (H0 : Int), .int .i64 ((0 : Nat) : Int), .int .i64 ((8 : Nat) : Int), .bool laced, .int .i64 (p : Int), .slice ap pn pcap, .slice ca 0 cc] w (IpEnd 1 W0 H0 0 8 [] laced p l noAv w) :=
  implPass_long 90 83 1 W0 H0 0 8 laced p 4 l m mc B pn pcap cc ad ap ca S (fun _ => []) (fun _ _ => True) noAv w hin hnil hS hpn rfl (by decide) (by decide) pneq_1
    (fun mc' _ _ _ b R sb so dv w1 hri hok => rip_G8 b W0 H0 laced p l R sb so m mc' B dv w1 hri hok.2.1 hok.1) (fun _ _ _ _ _ => trivial) (fun _ _ _ => trivial) (fun _ _ _ _ _ h => h) (fun _ _ _ _ _ h _ _ => h) picOk_1
theorem long_G16 (W0 H0 : Nat) (laced : Bool) (p : Nat) (l : List UInt8) (m mc B pn pcap cc : Nat) (ad ap ca : Option Addr) (S : List Sh) (w : World) (hin : ZpIn W0 H0 0 16 p l m mc B ad w) (hnil : ad = none → m = 0 ∧ mc = 0) (hS : InS w ap pn pcap S) (hpn : Hid (pn ≤ 2147483647)) :
    Calls Tryd.prog 9 #[.slice ad m mc, .int .i64 (W0 : Int), .int .i64 (H0 : Int), .int .i64 ((0 : Nat) : Int), .int .i64 ((16 : Nat) : Int), .bool laced, .int .i64 (p : Int), .slice ap pn pcap, .slice ca 0 cc] w (IpEnd 2 W0 H0 0 16 [] laced p l noAv w) :=
  implPass_long 92 91 2 W0 H0 0 16 laced p 12 l m mc B pn pcap cc ad ap ca S (fun _ => []) (fun _ _ => True) noAv w hin hnil hS hpn rfl (by decide) (by decide) pneq_2
    (fun mc' _ _ _ b R sb so dv w1 hri hok => rip_G16 b W0 H0 laced p l R sb so m mc' B dv w1 hri hok.2.1) (fun _ _ _ _ _ => trivial) (fun _ _ _ => trivial) (fun _ _ _ _ _ h => h) (fun _ _ _ _ _ h _ _ => h) picOk_2
theorem long_TC8 (W0 H0 : Nat) (laced : Bool) (p : Nat) (l : List UInt8) (m mc B pn pcap cc : Nat) (ad ap ca : Option Addr) (S : List Sh) (w : World) (hin : ZpIn W0 H0 2 8 p l m mc B ad w) (hnil : ad = none → m = 0 ∧ mc = 0) (hS : InS w ap pn pcap S) (hpn : Hid (pn ≤ 2147483647)) :
    Calls Tryd.prog 9 #[.slice ad m mc, .int .i64 (W0 : Int), .int .i64 (H0 : Int), .int .i64 ((2 : Nat) : Int), .int .i64 ((8 : Nat) : Int), .bool laced, .int .i64 (p : Int), .slice ap pn pcap, .slice ca 0 cc] w (IpEnd 3 W0 H0 2 8 [] laced p l noAv w) :=
  implPass_long 94 93 3 W0 H0 2 8 laced p 6 l m mc B pn pcap cc ad ap ca S (fun _ => []) (fun _ _ => True) noAv w hin hnil hS hpn rfl (by decide) (by decide) pneq_3
    (fun mc' _ _ _ b R sb so dv w1 hri hok => rip_TC8 b W0 H0 laced p l R sb so m mc' B dv w1 hri hok.2.1) (fun _ _ _ _ _ => trivial) (fun _ _ _ => trivial) (fun _ _ _ _ _ h => h) (fun _ _ _ _ _ h _ _ => h) picOk_3
theorem long_TC16 (W0 H0 : Nat) (laced : Bool) (p : Nat) (l : List UInt8) (m mc B pn pcap cc : Nat) (ad ap ca : Option Addr) (S : List Sh) (w : World) (hin : ZpIn W0 H0 2 16 p l m mc B ad w) (hnil : ad = none → m = 0 ∧ mc = 0) (hS : InS w ap pn pcap S) (hpn : Hid (pn ≤ 2147483647)) :
    Calls Tryd.prog 9 #[.slice ad m mc, .int .i64 (W0 : Int), .int .i64 (H0 : Int), .int .i64 ((2 : Nat) : Int), .int .i64 ((16 : Nat) : Int), .bool laced, .int .i64 (p : Int), .slice ap pn pcap, .slice ca 0 cc] w (IpEnd 4 W0 H0 2 16 [] laced p l noAv w) :=
  implPass_long 96 95 4 W0 H0 2 16 laced p 14 l m mc B pn pcap cc ad ap ca S (fun _ => []) (fun _ _ => True) noAv w hin hnil hS hpn rfl (by decide) (by decide) pneq_4
    (fun mc' _ _ _ b R sb so dv w1 hri hok => rip_TC16 b W0 H0 laced p l R sb so m mc' B dv w1 hri hok.2.1) (fun _ _ _ _ _ => trivial) (fun _ _ _ => trivial) (fun _ _ _ _ _ h => h) (fun _ _ _ _ _ h _ _ => h) picOk_4
theorem long_GA8 (W0 H0 : Nat) (laced : Bool) (p : Nat) (l : List UInt8) (m mc B pn pcap cc : Nat) (ad ap ca : Option Addr) (S : List Sh) (w : World) (hin : ZpIn W0 H0 4 8 p l m mc B ad w) (hnil : ad = none → m = 0 ∧ mc = 0) (hS : InS w ap pn pcap S) (hpn : Hid (pn ≤ 2147483647)) :
    Calls Tryd.prog 9 #[.slice ad m mc, .int .i64 (W0 : Int), .int .i64 (H0 : Int), .int .i64 ((4 : Nat) : Int), .int .i64 ((8 : Nat) : Int), .bool laced, .int .i64 (p : Int), .slice ap pn pcap, .slice ca 0 cc] w (IpEnd 5 W0 H0 4 8 [] laced p l noAv w) :=
  implPass_long 98 97 5 W0 H0 4 8 laced p 5 l m mc B pn pcap cc ad ap ca S (fun _ => []) (fun _ _ => True) noAv w hin hnil hS hpn rfl (by decide) (by decide) pneq_5
    (fun mc' _ _ _ b R sb so dv w1 hri _ => rip_GA8 b W0 H0 laced p l R sb so m mc' B dv w1 hri) (fun _ _ _ _ _ => trivial) (fun _ _ _ => trivial) (fun _ _ _ _ _ h => h) (fun _ _ _ _ _ h _ _ => h) picOk_5
theorem long_GA16 (W0 H0 : Nat) (laced : Bool) (p : Nat) (l : List UInt8) (m mc B pn pcap cc : Nat) (ad ap ca : Option Addr) (S : List Sh) (w : World) (hin : ZpIn W0 H0 4 16 p l m mc B ad w) (hnil : ad = none → m = 0 ∧ mc = 0) (hS : InS w ap pn pcap S) (hpn : Hid (pn ≤ 2147483647)) :
    Calls Tryd.prog 9 #[.slice ad m mc, .int .i64 (W0 : Int), .int .i64 (H0 : Int), .int .i64 ((4 : Nat) : Int), .int .i64 ((16 : Nat) : Int), .bool laced, .int .i64 (p : Int), .slice ap pn pcap, .slice ca 0 cc] w (IpEnd 6 W0 H0 4 16 [] laced p l noAv w) :=
  implPass_long 100 99 6 W0 H0 4 16 laced p 13 l m mc B pn pcap cc ad ap ca S (fun _ => []) (fun _ _ => True) noAv w hin hnil hS hpn rfl (by decide) (by decide) pneq_6
    (fun mc' _ _ _ b R sb so dv w1 hri _ => rip_GA16 b W0 H0 laced p l R sb so m mc' B dv w1 hri) (fun _ _ _ _ _ => trivial) (fun _ _ _ => trivial) (fun _ _ _ _ _ h => h) (fun _ _ _ _ _ h _ _ => h) picOk_6
theorem long_TCA8 (W0 H0 : Nat) (laced : Bool) (p : Nat) (l : List UInt8) (m mc B pn pcap cc : Nat) (ad ap ca : Option Addr) (S : List Sh) (w : World) (hin : ZpIn W0 H0 6 8 p l m mc B ad w) (hnil : ad = none → m = 0 ∧ mc = 0) (hS : InS w ap pn pcap S) (hpn : Hid (pn ≤ 2147483647)) :
    Calls Tryd.prog 9 #[.slice ad m mc, .int .i64 (W0 : Int), .int .i64 (H0 : Int), .int .i64 ((6 : Nat) : Int), .int .i64 ((8 : Nat) : Int), .bool laced, .int .i64 (p : Int), .slice ap pn pcap, .slice ca 0 cc] w (IpEnd 5 W0 H0 6 8 [] laced p l noAv w) :=
  implPass_long 98 97 5 W0 H0 6 8 laced p 11 l m mc B pn pcap cc ad ap ca S (fun _ => []) (fun _ _ => True) noAv w hin hnil hS hpn rfl (by decide) (by decide) pneq_5
    (fun mc' _ _ _ b R sb so dv w1 hri _ => rip_TCA8 b W0 H0 laced p l R sb so m mc' B dv w1 hri) (fun _ _ _ _ _ => trivial) (fun _ _ _ => trivial) (fun _ _ _ _ _ h => h) (fun _ _ _ _ _ h _ _ => h) picOk_5
theorem long_TCA16 (W0 H0 : Nat) (laced : Bool) (p : Nat) (l : List UInt8) (m mc B pn pcap cc : Nat) (ad ap ca : Option Addr) (S : List Sh) (w : World) (hin : ZpIn W0 H0 6 16 p l m mc B ad w) (hnil : ad = none → m = 0 ∧ mc = 0) (hS : InS w ap pn pcap S) (hpn : Hid (pn ≤ 2147483647)) :
    Calls Tryd.prog 9 #[.slice ad m mc, .int .i64 (W0 : Int), .int .i64 (H0 : Int), .int .i64 ((6 : Nat) : Int), .int .i64 ((16 : Nat) : Int), .bool laced, .int .i64 (p : Int), .slice ap pn pcap, .slice ca 0 cc] w (IpEnd 6 W0 H0 6 16 [] laced p l noAv w) :=
  implPass_long 100 99 6 W0 H0 6 16 laced p 15 l m mc B pn pcap cc ad ap ca S (fun _ => []) (fun _ _ => True) noAv w hin hnil hS hpn rfl (by decide) (by decide) pneq_6
    (fun mc' _ _ _ b R sb so dv w1 hri _ => rip_TCA16 b W0 H0 laced p l R sb so m mc' B dv w1 hri) (fun _ _ _ _ _ => trivial) (fun _ _ _ => trivial) (fun _ _ _ _ _ h => h) (fun _ _ _ _ _ h _ _ => h) picOk_6
/-- What stands beside a picture: a palette's shades, or none. -/
def avAny (c : Nat) (S : List Sh) (b : Nat) (av : Value) (w : World) : Prop := if c = 3 then palAv S b av w else noAv b av w
theorem IpEnd.av {kd W0 H0 c d : Nat} {laced : Bool} {p : Nat} {l : List UInt8} {A A' : Nat → Value → World → Prop} {w w' : World} {e : Ending} (h : IpEnd kd W0 H0 c d [] laced p l A w e w') (ha : ∀ b av w, A b av w → A' b av w) : IpEnd kd W0 H0 c d [] laced p l A' w e w' :=
  ⟨h.none_, h.bad, fun h0 Rr hr => by
    obtain ⟨v, av, h1, h2, h3⟩ := h.good h0 Rr hr
    exact ⟨v, av, h1, h2, ha _ _ _ h3⟩, h.bel⟩
/-- The thin package's Pass, at any kind. -/
theorem pass_any (W0 H0 c d : Nat) (laced : Bool) (p : Nat) (l : List UInt8) (m mc B pn pcap cc : Nat) (ad ap ca : Option Addr) (S : List Sh) (w : World) (ok : OkCD c d) (hin : ZpIn W0 H0 c d p l m mc B ad w) (hnil : ad = none → m = 0 ∧ mc = 0) (hS : InS w ap pn pcap S) (hpn : Hid (pn ≤ 2147483647)) (h3 : c = 3 → pn = 2 ^ d) :
    Calls Tryd.prog 9 #[.slice ad m mc, .int .i64 (W0 : Int), .int .i64 (H0 : Int), .int .i64 (c : Int), .int .i64 (d : Int), .bool laced, .int .i64 (p : Int), .slice ap pn pcap, .slice ca 0 cc] w (IpEnd (kindN c d false) W0 H0 c d [] laced p l (avAny c S) w) := by
  rcases ok with ⟨rfl, rfl | rfl | rfl | rfl | rfl⟩ | ⟨rfl, rfl | rfl | rfl | rfl⟩ | ⟨rfl | rfl | rfl, rfl | rfl⟩
  · exact (long_G1 W0 H0 laced p l m mc B pn pcap cc ad ap ca S w hin hnil hS hpn).mono fun _ _ h => h.av fun _ _ _ q => q
  · exact (long_G2 W0 H0 laced p l m mc B pn pcap cc ad ap ca S w hin hnil hS hpn).mono fun _ _ h => h.av fun _ _ _ q => q
  · exact (long_G4 W0 H0 laced p l m mc B pn pcap cc ad ap ca S w hin hnil hS hpn).mono fun _ _ h => h.av fun _ _ _ q => q
  · exact (long_G8 W0 H0 laced p l m mc B pn pcap cc ad ap ca S w hin hnil hS hpn).mono fun _ _ h => h.av fun _ _ _ q => q
  · exact (long_G16 W0 H0 laced p l m mc B pn pcap cc ad ap ca S w hin hnil hS hpn).mono fun _ _ h => h.av fun _ _ _ q => q
  · exact (impl_P1 W0 H0 laced p l m mc B pn pcap cc ad ap ca S w hin hnil hS (h3 rfl)).mono fun _ _ h => h.av fun _ _ _ q => q
  · exact (impl_P2 W0 H0 laced p l m mc B pn pcap cc ad ap ca S w hin hnil hS (h3 rfl)).mono fun _ _ h => h.av fun _ _ _ q => q
  · exact (impl_P4 W0 H0 laced p l m mc B pn pcap cc ad ap ca S w hin hnil hS (h3 rfl)).mono fun _ _ h => h.av fun _ _ _ q => q
  · exact (impl_P8 W0 H0 laced p l m mc B pn pcap cc ad ap ca S w hin hnil hS (h3 rfl)).mono fun _ _ h => h.av fun _ _ _ q => q
  · exact (long_TC8 W0 H0 laced p l m mc B pn pcap cc ad ap ca S w hin hnil hS hpn).mono fun _ _ h => h.av fun _ _ _ q => q
  · exact (long_TC16 W0 H0 laced p l m mc B pn pcap cc ad ap ca S w hin hnil hS hpn).mono fun _ _ h => h.av fun _ _ _ q => q
  · exact (long_GA8 W0 H0 laced p l m mc B pn pcap cc ad ap ca S w hin hnil hS hpn).mono fun _ _ h => h.av fun _ _ _ q => q
  · exact (long_GA16 W0 H0 laced p l m mc B pn pcap cc ad ap ca S w hin hnil hS hpn).mono fun _ _ h => h.av fun _ _ _ q => q
  · exact (long_TCA8 W0 H0 laced p l m mc B pn pcap cc ad ap ca S w hin hnil hS hpn).mono fun _ _ h => h.av fun _ _ _ q => q
  · exact (long_TCA16 W0 H0 laced p l m mc B pn pcap cc ad ap ca S w hin hnil hS hpn).mono fun _ _ h => h.av fun _ _ _ q => q
end Go.Proofs.YtkiibhpmembcgaaDoor
