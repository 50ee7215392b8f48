/- The walks through the laws FnPassGrayAlpha and FnPassTrueAlpha. Printed by gen/passlaw.py. -/
import Derived.Test.YtkiibhpmembcgaaGreatDoorPassIs
import Derived.Test.YtkiibhpmembcgaaGreatDoorSpDots6
namespace Go.Proofs.YtkiibhpmembcgaaGreatDoor
open Go.ChangeShapes Go.WideShapes Go.ChangeAt Go.RowKit Go.IntWalk

theorem insNil (w : World) : InS w none 0 0 [] := ⟨Lib.hid rfl, fun h => absurd rfl h, fun _ => ⟨rfl, rfl⟩, Nat.le_refl _, by omega⟩
theorem passNo (laced : Bool) (z : Nat) : (if laced then z % 7 else 0) < 7 := by
  cases laced
  · exact (by decide : 0 < 7)
  · exact Nat.mod_lt _ (by decide)
theorem passIs_4_8 (W0 H0 p m mc : Nat) (laced : Bool) (ad : Option Addr) (l : List UInt8) (w : World) (hW : 1 ≤ W0 ∧ W0 ≤ 40) (hH : 1 ≤ H0 ∧ H0 ≤ 40) (hp : p < 7) (hD : InB w ad m mc l) (hmb : m ≤ 2147483647) (hI : Inter w) (B : Nat) (hE : Eofs B w) (hB : B ≤ w.heap.size) :
    Calls Tryz.prog 8 #[shV W0 H0 8 4 laced, .int .i64 (p : Int), .slice none 0 0, .slice none 0 0, .slice ad m mc] w (TrueEnd w) :=
  passIs_gen 4 8 W0 H0 p m mc B 0 0 0 laced ad none none l [] noAv w (by unfold OkCD; omega) hW.2 hH.2 hW.1 hH.1 hp hD hmb (insNil w) (by omega) (by omega) hI hE hB
    (fun n m sc pn pc cc sad pa ca P samps w hl hm hs hlt hn _ _ _ => specDots_4 W0 H0 8 n m sc pn pc cc laced sad pa ca P samps w (by unfold OkCD; omega) hl hm hs hlt hn)
    (fun m mc B pn pcap cc ad ap ca l w hin hnil hS hpn => impl_GA8 W0 H0 laced p l m mc B pn pcap cc ad ap ca [] w hin hnil hS hpn)
    (fun _ av w' h => ⟨none, 0, 0, [], h, insNil w', by omega, fun h => absurd h (by decide)⟩) (fun h => absurd h (by decide))
theorem passIs_4_16 (W0 H0 p m mc : Nat) (laced : Bool) (ad : Option Addr) (l : List UInt8) (w : World) (hW : 1 ≤ W0 ∧ W0 ≤ 40) (hH : 1 ≤ H0 ∧ H0 ≤ 40) (hp : p < 7) (hD : InB w ad m mc l) (hmb : m ≤ 2147483647) (hI : Inter w) (B : Nat) (hE : Eofs B w) (hB : B ≤ w.heap.size) :
    Calls Tryz.prog 8 #[shV W0 H0 16 4 laced, .int .i64 (p : Int), .slice none 0 0, .slice none 0 0, .slice ad m mc] w (TrueEnd w) :=
  passIs_gen 4 16 W0 H0 p m mc B 0 0 0 laced ad none none l [] noAv w (by unfold OkCD; omega) hW.2 hH.2 hW.1 hH.1 hp hD hmb (insNil w) (by omega) (by omega) hI hE hB
    (fun n m sc pn pc cc sad pa ca P samps w hl hm hs hlt hn _ _ _ => specDots_4 W0 H0 16 n m sc pn pc cc laced sad pa ca P samps w (by unfold OkCD; omega) hl hm hs hlt hn)
    (fun m mc B pn pcap cc ad ap ca l w hin hnil hS hpn => impl_GA16 W0 H0 laced p l m mc B pn pcap cc ad ap ca [] w hin hnil hS hpn)
    (fun _ av w' h => ⟨none, 0, 0, [], h, insNil w', by omega, fun h => absurd h (by decide)⟩) (fun h => absurd h (by decide))
set_option maxHeartbeats 3200000 in
set_option maxRecDepth 100000 in
theorem passLaw_4 (deep laced : Bool) (x y z m mc : Nat) (ad : Option Addr) (l : List UInt8) (w : World) (hx : x < 256) (hy : y < 256) (hz : z < 256) (hD : Hid (InB w ad m mc l)) (hI : Hid (Inter w)) (hE : Hid (Eofs w.heap.size w)) :
    Calls Tryz.prog 4 #[.bool deep, .int .u8 (x : Int), .int .u8 (y : Int), .bool laced, .int .u8 (z : Int), .slice ad m mc] w (TrueEnd w) := by
  by_cases hbig : 2147483647 < m
  · go_enter Tryz.func4, Tryz.ntmps4
    go_wp2_with fail
    go_ret
    exact ⟨rfl, Below.refl _ _⟩
  obtain ⟨p, hp⟩ : ∃ p, p = (if laced then z % 7 else 0) := ⟨_, rfl⟩
  have hp7 : p < 7 := by rw [hp]; exact passNo laced z
  obtain ⟨W0, hW0⟩ : ∃ W0, W0 = upTo x := ⟨_, rfl⟩
  obtain ⟨H0, hH0⟩ : ∃ H0, H0 = upTo y := ⟨_, rfl⟩
  have hWb := upTo_le x
  have hHb := upTo_le y
  rw [← hW0] at hWb
  rw [← hH0] at hHb
  have HP : ∀ w, Calls Tryz.prog 10 #[.bool laced, .int .u8 (z : Int)] w fun e w' => e = .returned (.int .i64 (p : Int)) ∧ w' = w := by rw [hp]; exact passOf_any laced z hz
  have HS8 : ∀ w, Calls Tryz.prog 9 #[.int .i64 4, .int .i64 8, .int .u8 (x : Int), .int .u8 (y : Int), .bool laced] w fun e w' => e = .returned (shV W0 H0 8 4 laced) ∧ Below w.heap.size w w' := by rw [hW0, hH0]; exact shapeOf_any 4 8 x y laced hx hy
  have HS16 : ∀ w, Calls Tryz.prog 9 #[.int .i64 4, .int .i64 16, .int .u8 (x : Int), .int .u8 (y : Int), .bool laced] w fun e w' => e = .returned (shV W0 H0 16 4 laced) ∧ Below w.heap.size w w' := by rw [hW0, hH0]; exact shapeOf_any 4 16 x y laced hx hy
  have HPP := Lib.hid HP
  have HSH8 := Lib.hid HS8
  have HSH16 := Lib.hid HS16
  have hmb : m ≤ 2147483647 := by omega
  clear hp HP HS8 HS16 hW0 hH0
  cases deep
  · go_enter Tryz.func4, Tryz.ntmps4
    go_wp2_with (first
      | (go_at_call 9; refine (HSH8.out _).mono ?_; rintro e w1 ⟨rfl, hb1⟩; have HB1 := Lib.hid hb1; clear hb1)
      | (go_at_call 10; refine (HPP.out _).mono ?_; rintro e w2 ⟨rfl, he⟩; obtain rfl := he.symm)
      | (go_at_call 8; refine (passIs_4_8 W0 H0 p m mc laced ad l w1 hWb hHb hp7 ⟨hD.out.hlen, hD.out.rb.below HB1.out, hD.out.hnil, hD.out.hcap, hD.out.most⟩ hmb (hI.out.below HB1.out) w.heap.size (hE.out.below HB1.out) HB1.out.size).mono ?_; rintro e w3 ⟨rfl, hb3⟩; have HB3 := Lib.hid (HB1.out.trans (hb3.mono HB1.out.size)); clear hb3))
    go_ret
    exact ⟨rfl, HB3.out⟩
  · go_enter Tryz.func4, Tryz.ntmps4
    go_wp2_with (first
      | (go_at_call 9; refine (HSH16.out _).mono ?_; rintro e w1 ⟨rfl, hb1⟩; have HB1 := Lib.hid hb1; clear hb1)
      | (go_at_call 10; refine (HPP.out _).mono ?_; rintro e w2 ⟨rfl, he⟩; obtain rfl := he.symm)
      | (go_at_call 8; refine (passIs_4_16 W0 H0 p m mc laced ad l w1 hWb hHb hp7 ⟨hD.out.hlen, hD.out.rb.below HB1.out, hD.out.hnil, hD.out.hcap, hD.out.most⟩ hmb (hI.out.below HB1.out) w.heap.size (hE.out.below HB1.out) HB1.out.size).mono ?_; rintro e w3 ⟨rfl, hb3⟩; have HB3 := Lib.hid (HB1.out.trans (hb3.mono HB1.out.size)); clear hb3))
    go_ret
    exact ⟨rfl, HB3.out⟩
theorem passIs_6_8 (W0 H0 p m mc : Nat) (laced : Bool) (ad : Option Addr) (l : List UInt8) (w : World) (hW : 1 ≤ W0 ∧ W0 ≤ 40) (hH : 1 ≤ H0 ∧ H0 ≤ 40) (hp : p < 7) (hD : InB w ad m mc l) (hmb : m ≤ 2147483647) (hI : Inter w) (B : Nat) (hE : Eofs B w) (hB : B ≤ w.heap.size) :
    Calls Tryz.prog 8 #[shV W0 H0 8 6 laced, .int .i64 (p : Int), .slice none 0 0, .slice none 0 0, .slice ad m mc] w (TrueEnd w) :=
  passIs_gen 6 8 W0 H0 p m mc B 0 0 0 laced ad none none l [] noAv w (by unfold OkCD; omega) hW.2 hH.2 hW.1 hH.1 hp hD hmb (insNil w) (by omega) (by omega) hI hE hB
    (fun n m sc pn pc cc sad pa ca P samps w hl hm hs hlt hn _ _ _ => specDots_6 W0 H0 8 n m sc pn pc cc laced sad pa ca P samps w (by unfold OkCD; omega) hl hm hs hlt hn)
    (fun m mc B pn pcap cc ad ap ca l w hin hnil hS hpn => impl_TCA8 W0 H0 laced p l m mc B pn pcap cc ad ap ca [] w hin hnil hS hpn)
    (fun _ av w' h => ⟨none, 0, 0, [], h, insNil w', by omega, fun h => absurd h (by decide)⟩) (fun h => absurd h (by decide))
theorem passIs_6_16 (W0 H0 p m mc : Nat) (laced : Bool) (ad : Option Addr) (l : List UInt8) (w : World) (hW : 1 ≤ W0 ∧ W0 ≤ 40) (hH : 1 ≤ H0 ∧ H0 ≤ 40) (hp : p < 7) (hD : InB w ad m mc l) (hmb : m ≤ 2147483647) (hI : Inter w) (B : Nat) (hE : Eofs B w) (hB : B ≤ w.heap.size) :
    Calls Tryz.prog 8 #[shV W0 H0 16 6 laced, .int .i64 (p : Int), .slice none 0 0, .slice none 0 0, .slice ad m mc] w (TrueEnd w) :=
  passIs_gen 6 16 W0 H0 p m mc B 0 0 0 laced ad none none l [] noAv w (by unfold OkCD; omega) hW.2 hH.2 hW.1 hH.1 hp hD hmb (insNil w) (by omega) (by omega) hI hE hB
    (fun n m sc pn pc cc sad pa ca P samps w hl hm hs hlt hn _ _ _ => specDots_6 W0 H0 16 n m sc pn pc cc laced sad pa ca P samps w (by unfold OkCD; omega) hl hm hs hlt hn)
    (fun m mc B pn pcap cc ad ap ca l w hin hnil hS hpn => impl_TCA16 W0 H0 laced p l m mc B pn pcap cc ad ap ca [] w hin hnil hS hpn)
    (fun _ av w' h => ⟨none, 0, 0, [], h, insNil w', by omega, fun h => absurd h (by decide)⟩) (fun h => absurd h (by decide))
set_option maxHeartbeats 3200000 in
set_option maxRecDepth 100000 in
theorem passLaw_6 (deep laced : Bool) (x y z m mc : Nat) (ad : Option Addr) (l : List UInt8) (w : World) (hx : x < 256) (hy : y < 256) (hz : z < 256) (hD : Hid (InB w ad m mc l)) (hI : Hid (Inter w)) (hE : Hid (Eofs w.heap.size w)) :
    Calls Tryz.prog 7 #[.bool deep, .int .u8 (x : Int), .int .u8 (y : Int), .bool laced, .int .u8 (z : Int), .slice ad m mc] w (TrueEnd w) := by
  by_cases hbig : 2147483647 < m
  · go_enter Tryz.func7, Tryz.ntmps7
    go_wp2_with fail
    go_ret
    exact ⟨rfl, Below.refl _ _⟩
  obtain ⟨p, hp⟩ : ∃ p, p = (if laced then z % 7 else 0) := ⟨_, rfl⟩
  have hp7 : p < 7 := by rw [hp]; exact passNo laced z
  obtain ⟨W0, hW0⟩ : ∃ W0, W0 = upTo x := ⟨_, rfl⟩
  obtain ⟨H0, hH0⟩ : ∃ H0, H0 = upTo y := ⟨_, rfl⟩
  have hWb := upTo_le x
  have hHb := upTo_le y
  rw [← hW0] at hWb
  rw [← hH0] at hHb
  have HP : ∀ w, Calls Tryz.prog 10 #[.bool laced, .int .u8 (z : Int)] w fun e w' => e = .returned (.int .i64 (p : Int)) ∧ w' = w := by rw [hp]; exact passOf_any laced z hz
  have HS8 : ∀ w, Calls Tryz.prog 9 #[.int .i64 6, .int .i64 8, .int .u8 (x : Int), .int .u8 (y : Int), .bool laced] w fun e w' => e = .returned (shV W0 H0 8 6 laced) ∧ Below w.heap.size w w' := by rw [hW0, hH0]; exact shapeOf_any 6 8 x y laced hx hy
  have HS16 : ∀ w, Calls Tryz.prog 9 #[.int .i64 6, .int .i64 16, .int .u8 (x : Int), .int .u8 (y : Int), .bool laced] w fun e w' => e = .returned (shV W0 H0 16 6 laced) ∧ Below w.heap.size w w' := by rw [hW0, hH0]; exact shapeOf_any 6 16 x y laced hx hy
  have HPP := Lib.hid HP
  have HSH8 := Lib.hid HS8
  have HSH16 := Lib.hid HS16
  have hmb : m ≤ 2147483647 := by omega
  clear hp HP HS8 HS16 hW0 hH0
  cases deep
  · go_enter Tryz.func7, Tryz.ntmps7
    go_wp2_with (first
      | (go_at_call 9; refine (HSH8.out _).mono ?_; rintro e w1 ⟨rfl, hb1⟩; have HB1 := Lib.hid hb1; clear hb1)
      | (go_at_call 10; refine (HPP.out _).mono ?_; rintro e w2 ⟨rfl, he⟩; obtain rfl := he.symm)
      | (go_at_call 8; refine (passIs_6_8 W0 H0 p m mc laced ad l w1 hWb hHb hp7 ⟨hD.out.hlen, hD.out.rb.below HB1.out, hD.out.hnil, hD.out.hcap, hD.out.most⟩ hmb (hI.out.below HB1.out) w.heap.size (hE.out.below HB1.out) HB1.out.size).mono ?_; rintro e w3 ⟨rfl, hb3⟩; have HB3 := Lib.hid (HB1.out.trans (hb3.mono HB1.out.size)); clear hb3))
    go_ret
    exact ⟨rfl, HB3.out⟩
  · go_enter Tryz.func7, Tryz.ntmps7
    go_wp2_with (first
      | (go_at_call 9; refine (HSH16.out _).mono ?_; rintro e w1 ⟨rfl, hb1⟩; have HB1 := Lib.hid hb1; clear hb1)
      | (go_at_call 10; refine (HPP.out _).mono ?_; rintro e w2 ⟨rfl, he⟩; obtain rfl := he.symm)
      | (go_at_call 8; refine (passIs_6_16 W0 H0 p m mc laced ad l w1 hWb hHb hp7 ⟨hD.out.hlen, hD.out.rb.below HB1.out, hD.out.hnil, hD.out.hcap, hD.out.most⟩ hmb (hI.out.below HB1.out) w.heap.size (hE.out.below HB1.out) HB1.out.size).mono ?_; rintro e w3 ⟨rfl, hb3⟩; have HB3 := Lib.hid (HB1.out.trans (hb3.mono HB1.out.size)); clear hb3))
    go_ret
    exact ⟨rfl, HB3.out⟩
end Go.Proofs.YtkiibhpmembcgaaGreatDoor
