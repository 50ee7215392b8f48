/- The walk through the law FnPassGray. Printed by gen/passlawg.py. -/
import Derived.Test.YtkiibhpmembcgaaGreatDoorPassIsC
import Derived.Test.YtkiibhpmembcgaaGreatDoorSpDots0
import Derived.Test.YtkiibhpmembcgaaGreatDoorSpDotsC0
import Derived.Test.YtkiibhpmembcgaaGreatDoorGBE0
namespace Go.Proofs.YtkiibhpmembcgaaGreatDoor
open Go.ChangeShapes Go.WideShapes Go.ChangeAt Go.RowKit Go.IntWalk

theorem passIs_0_1 (W0 H0 p m mc cc : Nat) (laced : Bool) (ad ca : Option Addr) (l : List UInt8) (w : World) (hW : 1 ≤ W0 ∧ W0 ≤ 40) (hH : 1 ≤ H0 ∧ H0 ≤ 40) (hp : p < 7) (hD : InB w ad m mc l) (hmb : m ≤ 2147483647) (hI : Inter w) (B : Nat) (hE : Eofs B w) (hB : B ≤ w.heap.size) :
    Calls Tryz.prog 8 #[shV W0 H0 1 0 laced, .int .i64 (p : Int), .slice none 0 0, .slice ca 0 cc, .slice ad m mc] w (TrueEnd w) :=
  passIs_gen 0 1 W0 H0 p m mc B 0 0 cc laced ad none ca l [] noAv w (by unfold OkCD; omega) hW.2 hH.2 hW.1 hH.1 hp hD hmb (insNil w) (by omega) (by omega) hI hE hB
    (fun n m sc pn pc cc sad pa ca P samps w hl hm hs hlt hn _ _ _ => specDots_0 W0 H0 1 n m sc pn pc cc laced sad pa ca P samps w (by unfold OkCD; omega) hl hm hs hlt hn)
    (fun m mc B pn pcap cc ad ap ca l w hin hnil hS hpn => impl_G1 W0 H0 laced p l m mc B pn pcap cc ad ap ca [] w hin hnil hS hpn)
    (fun _ av w' h => ⟨none, 0, 0, [], h, insNil w', by omega, fun h => absurd h (by decide)⟩) (fun h => absurd h (by decide))
theorem passIs_0_2 (W0 H0 p m mc cc : Nat) (laced : Bool) (ad ca : Option Addr) (l : List UInt8) (w : World) (hW : 1 ≤ W0 ∧ W0 ≤ 40) (hH : 1 ≤ H0 ∧ H0 ≤ 40) (hp : p < 7) (hD : InB w ad m mc l) (hmb : m ≤ 2147483647) (hI : Inter w) (B : Nat) (hE : Eofs B w) (hB : B ≤ w.heap.size) :
    Calls Tryz.prog 8 #[shV W0 H0 2 0 laced, .int .i64 (p : Int), .slice none 0 0, .slice ca 0 cc, .slice ad m mc] w (TrueEnd w) :=
  passIs_gen 0 2 W0 H0 p m mc B 0 0 cc laced ad none ca l [] noAv w (by unfold OkCD; omega) hW.2 hH.2 hW.1 hH.1 hp hD hmb (insNil w) (by omega) (by omega) hI hE hB
    (fun n m sc pn pc cc sad pa ca P samps w hl hm hs hlt hn _ _ _ => specDots_0 W0 H0 2 n m sc pn pc cc laced sad pa ca P samps w (by unfold OkCD; omega) hl hm hs hlt hn)
    (fun m mc B pn pcap cc ad ap ca l w hin hnil hS hpn => impl_G2 W0 H0 laced p l m mc B pn pcap cc ad ap ca [] w hin hnil hS hpn)
    (fun _ av w' h => ⟨none, 0, 0, [], h, insNil w', by omega, fun h => absurd h (by decide)⟩) (fun h => absurd h (by decide))
theorem passIs_0_4 (W0 H0 p m mc cc : Nat) (laced : Bool) (ad ca : Option Addr) (l : List UInt8) (w : World) (hW : 1 ≤ W0 ∧ W0 ≤ 40) (hH : 1 ≤ H0 ∧ H0 ≤ 40) (hp : p < 7) (hD : InB w ad m mc l) (hmb : m ≤ 2147483647) (hI : Inter w) (B : Nat) (hE : Eofs B w) (hB : B ≤ w.heap.size) :
    Calls Tryz.prog 8 #[shV W0 H0 4 0 laced, .int .i64 (p : Int), .slice none 0 0, .slice ca 0 cc, .slice ad m mc] w (TrueEnd w) :=
  passIs_gen 0 4 W0 H0 p m mc B 0 0 cc laced ad none ca l [] noAv w (by unfold OkCD; omega) hW.2 hH.2 hW.1 hH.1 hp hD hmb (insNil w) (by omega) (by omega) hI hE hB
    (fun n m sc pn pc cc sad pa ca P samps w hl hm hs hlt hn _ _ _ => specDots_0 W0 H0 4 n m sc pn pc cc laced sad pa ca P samps w (by unfold OkCD; omega) hl hm hs hlt hn)
    (fun m mc B pn pcap cc ad ap ca l w hin hnil hS hpn => impl_G4 W0 H0 laced p l m mc B pn pcap cc ad ap ca [] w hin hnil hS hpn)
    (fun _ av w' h => ⟨none, 0, 0, [], h, insNil w', by omega, fun h => absurd h (by decide)⟩) (fun h => absurd h (by decide))
theorem passIs_0_8 (W0 H0 p m mc cc : Nat) (laced : Bool) (ad ca : Option Addr) (l : List UInt8) (w : World) (hW : 1 ≤ W0 ∧ W0 ≤ 40) (hH : 1 ≤ H0 ∧ H0 ≤ 40) (hp : p < 7) (hD : InB w ad m mc l) (hmb : m ≤ 2147483647) (hI : Inter w) (B : Nat) (hE : Eofs B w) (hB : B ≤ w.heap.size) :
    Calls Tryz.prog 8 #[shV W0 H0 8 0 laced, .int .i64 (p : Int), .slice none 0 0, .slice ca 0 cc, .slice ad m mc] w (TrueEnd w) :=
  passIs_gen 0 8 W0 H0 p m mc B 0 0 cc laced ad none ca l [] noAv w (by unfold OkCD; omega) hW.2 hH.2 hW.1 hH.1 hp hD hmb (insNil w) (by omega) (by omega) hI hE hB
    (fun n m sc pn pc cc sad pa ca P samps w hl hm hs hlt hn _ _ _ => specDots_0 W0 H0 8 n m sc pn pc cc laced sad pa ca P samps w (by unfold OkCD; omega) hl hm hs hlt hn)
    (fun m mc B pn pcap cc ad ap ca l w hin hnil hS hpn => impl_G8 W0 H0 laced p l m mc B pn pcap cc ad ap ca [] w hin hnil hS hpn)
    (fun _ av w' h => ⟨none, 0, 0, [], h, insNil w', by omega, fun h => absurd h (by decide)⟩) (fun h => absurd h (by decide))
theorem passIsC_0_8 (v0 W0 H0 p m mc cc : Nat) (laced : Bool) (ad ca : Option Addr) (l : List UInt8) (w : World) (hv0 : v0 < 256) (hW : 1 ≤ W0 ∧ W0 ≤ 40) (hH : 1 ≤ H0 ∧ H0 ≤ 40) (hp : p < 7) (hD : InB w ad m mc l) (hmb : m ≤ 2147483647) (hcr : RI_ w ca [v0]) (hI : Inter w) (B : Nat) (hE : Eofs B w) (hB : B ≤ w.heap.size) :
    Calls Tryz.prog 8 #[shV W0 H0 8 0 laced, .int .i64 (p : Int), .slice none 0 0, .slice ca 1 cc, .slice ad m mc] w (TrueEnd w) :=
  passIs_clr 0 8 W0 H0 p m mc B 0 0 1 cc [v0] laced ad none ca l [] noAv w (by unfold OkCD; omega) hW.2 hH.2 hW.1 hH.1 hp hD hmb (insNil w) (by omega) (by omega) ⟨.inr ⟨rfl, .inl ⟨rfl, by omega⟩⟩, fun v hv => by simp at hv; omega⟩ (Lib.hid rfl) (by omega) (by omega) hcr (fun v hv => by simp at hv; omega) hI hE hB
    (fun n m sc pn pc cn cc sad pa ca P samps w hl hm hs hlt hn _ _ _ hcr hcn => by
      obtain rfl : cn = 1 := hcn.out.symm
      exact specDotsC_0 W0 H0 8 n m sc pn pc cc [v0] (Lib.hid rfl) laced sad pa ca P samps w (by unfold OkCD; omega) hl hm hs hcr hlt hn)
    (fun m mc B pn pcap bn bc ad ap ba l w hin hnil hS hpn hbl hbr _ hb4 => impl_G8t v0 W0 H0 laced p hv0 l m mc B pn pcap bn bc ad ap ba [] w hin hnil hS hpn hbl hbr hb4)
    (fun _ av w' h => ⟨none, 0, 0, [], h, insNil w', by omega, fun h => absurd h (by decide)⟩) (fun h => absurd h (by decide))
theorem passIs_0_16 (W0 H0 p m mc cc : Nat) (laced : Bool) (ad ca : Option Addr) (l : List UInt8) (w : World) (hW : 1 ≤ W0 ∧ W0 ≤ 40) (hH : 1 ≤ H0 ∧ H0 ≤ 40) (hp : p < 7) (hD : InB w ad m mc l) (hmb : m ≤ 2147483647) (hI : Inter w) (B : Nat) (hE : Eofs B w) (hB : B ≤ w.heap.size) :
    Calls Tryz.prog 8 #[shV W0 H0 16 0 laced, .int .i64 (p : Int), .slice none 0 0, .slice ca 0 cc, .slice ad m mc] w (TrueEnd w) :=
  passIs_gen 0 16 W0 H0 p m mc B 0 0 cc laced ad none ca l [] noAv w (by unfold OkCD; omega) hW.2 hH.2 hW.1 hH.1 hp hD hmb (insNil w) (by omega) (by omega) hI hE hB
    (fun n m sc pn pc cc sad pa ca P samps w hl hm hs hlt hn _ _ _ => specDots_0 W0 H0 16 n m sc pn pc cc laced sad pa ca P samps w (by unfold OkCD; omega) hl hm hs hlt hn)
    (fun m mc B pn pcap cc ad ap ca l w hin hnil hS hpn => impl_G16 W0 H0 laced p l m mc B pn pcap cc ad ap ca [] w hin hnil hS hpn)
    (fun _ av w' h => ⟨none, 0, 0, [], h, insNil w', by omega, fun h => absurd h (by decide)⟩) (fun h => absurd h (by decide))
theorem passIsC_0_16 (v0 W0 H0 p m mc cc : Nat) (laced : Bool) (ad ca : Option Addr) (l : List UInt8) (w : World) (hv0 : v0 < 65536) (hW : 1 ≤ W0 ∧ W0 ≤ 40) (hH : 1 ≤ H0 ∧ H0 ≤ 40) (hp : p < 7) (hD : InB w ad m mc l) (hmb : m ≤ 2147483647) (hcr : RI_ w ca [v0]) (hI : Inter w) (B : Nat) (hE : Eofs B w) (hB : B ≤ w.heap.size) :
    Calls Tryz.prog 8 #[shV W0 H0 16 0 laced, .int .i64 (p : Int), .slice none 0 0, .slice ca 1 cc, .slice ad m mc] w (TrueEnd w) :=
  passIs_clr 0 16 W0 H0 p m mc B 0 0 1 cc [v0] laced ad none ca l [] noAv w (by unfold OkCD; omega) hW.2 hH.2 hW.1 hH.1 hp hD hmb (insNil w) (by omega) (by omega) ⟨.inr ⟨rfl, .inl ⟨rfl, by omega⟩⟩, fun v hv => by simp at hv; omega⟩ (Lib.hid rfl) (by omega) (by omega) hcr (fun v hv => by simp at hv; omega) hI hE hB
    (fun n m sc pn pc cn cc sad pa ca P samps w hl hm hs hlt hn _ _ _ hcr hcn => by
      obtain rfl : cn = 1 := hcn.out.symm
      exact specDotsC_0 W0 H0 16 n m sc pn pc cc [v0] (Lib.hid rfl) laced sad pa ca P samps w (by unfold OkCD; omega) hl hm hs hcr hlt hn)
    (fun m mc B pn pcap bn bc ad ap ba l w hin hnil hS hpn hbl hbr _ hb4 => impl_G16t v0 W0 H0 laced p hv0 l m mc B pn pcap bn bc ad ap ba [] w hin hnil hS hpn hbl hbr hb4)
    (fun _ av w' h => ⟨none, 0, 0, [], h, insNil w', by omega, fun h => absurd h (by decide)⟩) (fun h => absurd h (by decide))
set_option maxHeartbeats 6400000 in
set_option maxRecDepth 100000 in
theorem passLaw_0 (some_ laced : Bool) (e x y z cl m mc : Nat) (ad : Option Addr) (l : List UInt8) (w : World) (_he : e < 256) (hx : x < 256) (hy : y < 256) (hz : z < 256) (hcl : cl < 65536) (hD : Hid (InB w ad m mc l)) (hI : Hid (Inter w)) (hE : Hid (Eofs w.heap.size w)) :
    Calls Tryz.prog 3 #[.int .u8 (e : Int), .int .u8 (x : Int), .int .u8 (y : Int), .bool laced, .int .u8 (z : Int), .bool some_, .int .u16 (cl : Int), .slice ad m mc] w (TrueEnd w) := by
  by_cases hbig : 2147483647 < m
  · go_enter Tryz.func3, Tryz.ntmps3
    go_wp2_with fail
    go_ret
    exact ⟨rfl, Below.refl _ _⟩
  obtain ⟨p, hp⟩ : ∃ p, p = (if laced then z % 7 else 0) := ⟨_, rfl⟩
  have hp7 : p < 7 := by rw [hp]; exact passNo laced z
  obtain ⟨W0, hW0⟩ : ∃ W0, W0 = upTo x := ⟨_, rfl⟩
  obtain ⟨H0, hH0⟩ : ∃ H0, H0 = upTo y := ⟨_, rfl⟩
  have hWb := upTo_le x
  have hHb := upTo_le y
  rw [← hW0] at hWb
  rw [← hH0] at hHb
  have HP : ∀ w, Calls Tryz.prog 10 #[.bool laced, .int .u8 (z : Int)] w fun e w' => e = .returned (.int .i64 (p : Int)) ∧ w' = w := by rw [hp]; exact passOf_any laced z hz
  have HS1 : ∀ w, Calls Tryz.prog 9 #[.int .i64 0, .int .i64 1, .int .u8 (x : Int), .int .u8 (y : Int), .bool laced] w fun e w' => e = .returned (shV W0 H0 1 0 laced) ∧ Below w.heap.size w w' := by rw [hW0, hH0]; exact shapeOf_any 0 1 x y laced hx hy
  have HS2 : ∀ w, Calls Tryz.prog 9 #[.int .i64 0, .int .i64 2, .int .u8 (x : Int), .int .u8 (y : Int), .bool laced] w fun e w' => e = .returned (shV W0 H0 2 0 laced) ∧ Below w.heap.size w w' := by rw [hW0, hH0]; exact shapeOf_any 0 2 x y laced hx hy
  have HS4 : ∀ w, Calls Tryz.prog 9 #[.int .i64 0, .int .i64 4, .int .u8 (x : Int), .int .u8 (y : Int), .bool laced] w fun e w' => e = .returned (shV W0 H0 4 0 laced) ∧ Below w.heap.size w w' := by rw [hW0, hH0]; exact shapeOf_any 0 4 x y laced hx hy
  have HS8 : ∀ w, Calls Tryz.prog 9 #[.int .i64 0, .int .i64 8, .int .u8 (x : Int), .int .u8 (y : Int), .bool laced] w fun e w' => e = .returned (shV W0 H0 8 0 laced) ∧ Below w.heap.size w w' := by rw [hW0, hH0]; exact shapeOf_any 0 8 x y laced hx hy
  have HS16 : ∀ w, Calls Tryz.prog 9 #[.int .i64 0, .int .i64 16, .int .u8 (x : Int), .int .u8 (y : Int), .bool laced] w fun e w' => e = .returned (shV W0 H0 16 0 laced) ∧ Below w.heap.size w w' := by rw [hW0, hH0]; exact shapeOf_any 0 16 x y laced hx hy
  have HPP := Lib.hid HP
  have HSH1 := Lib.hid HS1
  have HSH2 := Lib.hid HS2
  have HSH4 := Lib.hid HS4
  have HSH8 := Lib.hid HS8
  have HSH16 := Lib.hid HS16
  have hmb : m ≤ 2147483647 := by omega
  obtain ⟨w1, hw1⟩ : ∃ w1, w1 = w.alloc (.cells #[] 3) := ⟨_, rfl⟩
  have HB1 : Hid (Below w.heap.size w w1) := Lib.hid (hw1 ▸ (Below.refl _ _).alloc (Nat.le_refl _) _)
  obtain ⟨N, hN⟩ : ∃ N, N = w.heap.size := ⟨_, rfl⟩
  have HO1 : Hid (OwnI w1 N (.slice (some ⟨N, 0, none⟩) 0 0) []) := Lib.hid (by rw [hw1, hN]; exact OwnI.empty w _ (Nat.le_refl _))
  have HW1 := Lib.hid hw1
  have HN := Lib.hid hN
  clear hp HP HS1 HS2 HS4 HS8 HS16 hW0 hH0 hw1 hN
  rcases (by omega : e % 5 = 0 ∨ e % 5 = 1 ∨ e % 5 = 2 ∨ e % 5 = 3 ∨ e % 5 = 4) with h5 | h5 | h5 | h5 | h5
  · have t1 : (e : Int).tmod 5 = 0 := by rw [show (e : Int).tmod 5 = ((e % 5 : Nat) : Int) from rfl, h5]; rfl
    have t2 : (e : Int) % 5 = 0 := by omega
    clear h5
    cases some_
    · skip
      go_enter Tryz.func3, Tryz.ntmps3
      go_upto_region 5 with fail
      rw [← HW1.out, ← HN.out]
      go_wp2_with (first
        | (go_at_call 9; refine (HSH1.out _).mono ?_; rintro e w5 ⟨rfl, hb5⟩; have HB45 := Lib.hid hb5; have HB5 := Lib.hid (HB1.out.trans (hb5.mono HB1.out.size)); clear hb5)
        | (go_at_call 10; refine (HPP.out _).mono ?_; rintro e w6 ⟨rfl, he⟩; obtain rfl := he.symm)
        | (go_at_call 8; refine (passIs_0_1 W0 H0 p m mc _ laced ad _ l w5 hWb hHb hp7 ⟨hD.out.hlen, hD.out.rb.below HB5.out, hD.out.hnil, hD.out.hcap, hD.out.most⟩ hmb (hI.out.below HB5.out) w.heap.size (hE.out.below HB5.out) HB5.out.size).mono ?_; rintro e w7 ⟨rfl, hb7⟩; have HB7 := Lib.hid (HB5.out.trans (hb7.mono HB5.out.size)); clear hb7))
      go_ret
      exact ⟨rfl, HB7.out⟩
    · skip
      go_enter Tryz.func3, Tryz.ntmps3
      go_upto_region 5 with fail
      rw [← HW1.out, ← HN.out]
      go_wp2_with (first
        | (go_at_call 9; refine (HSH1.out _).mono ?_; rintro e w5 ⟨rfl, hb5⟩; have HB45 := Lib.hid hb5; have HB5 := Lib.hid (HB1.out.trans (hb5.mono HB1.out.size)); clear hb5)
        | (go_at_call 10; refine (HPP.out _).mono ?_; rintro e w6 ⟨rfl, he⟩; obtain rfl := he.symm)
        | (go_at_call 8; refine (passIs_0_1 W0 H0 p m mc _ laced ad _ l w5 hWb hHb hp7 ⟨hD.out.hlen, hD.out.rb.below HB5.out, hD.out.hnil, hD.out.hcap, hD.out.most⟩ hmb (hI.out.below HB5.out) w.heap.size (hE.out.below HB5.out) HB5.out.size).mono ?_; rintro e w7 ⟨rfl, hb7⟩; have HB7 := Lib.hid (HB5.out.trans (hb7.mono HB5.out.size)); clear hb7))
      go_ret
      exact ⟨rfl, HB7.out⟩
  · have t1 : (e : Int).tmod 5 = 1 := by rw [show (e : Int).tmod 5 = ((e % 5 : Nat) : Int) from rfl, h5]; rfl
    have t2 : (e : Int) % 5 = 1 := by omega
    clear h5
    cases some_
    · skip
      go_enter Tryz.func3, Tryz.ntmps3
      go_upto_region 5 with fail
      rw [← HW1.out, ← HN.out]
      go_wp2_with (first
        | (go_at_call 9; refine (HSH2.out _).mono ?_; rintro e w5 ⟨rfl, hb5⟩; have HB45 := Lib.hid hb5; have HB5 := Lib.hid (HB1.out.trans (hb5.mono HB1.out.size)); clear hb5)
        | (go_at_call 10; refine (HPP.out _).mono ?_; rintro e w6 ⟨rfl, he⟩; obtain rfl := he.symm)
        | (go_at_call 8; refine (passIs_0_2 W0 H0 p m mc _ laced ad _ l w5 hWb hHb hp7 ⟨hD.out.hlen, hD.out.rb.below HB5.out, hD.out.hnil, hD.out.hcap, hD.out.most⟩ hmb (hI.out.below HB5.out) w.heap.size (hE.out.below HB5.out) HB5.out.size).mono ?_; rintro e w7 ⟨rfl, hb7⟩; have HB7 := Lib.hid (HB5.out.trans (hb7.mono HB5.out.size)); clear hb7))
      go_ret
      exact ⟨rfl, HB7.out⟩
    · skip
      go_enter Tryz.func3, Tryz.ntmps3
      go_upto_region 5 with fail
      rw [← HW1.out, ← HN.out]
      go_wp2_with (first
        | (go_at_call 9; refine (HSH2.out _).mono ?_; rintro e w5 ⟨rfl, hb5⟩; have HB45 := Lib.hid hb5; have HB5 := Lib.hid (HB1.out.trans (hb5.mono HB1.out.size)); clear hb5)
        | (go_at_call 10; refine (HPP.out _).mono ?_; rintro e w6 ⟨rfl, he⟩; obtain rfl := he.symm)
        | (go_at_call 8; refine (passIs_0_2 W0 H0 p m mc _ laced ad _ l w5 hWb hHb hp7 ⟨hD.out.hlen, hD.out.rb.below HB5.out, hD.out.hnil, hD.out.hcap, hD.out.most⟩ hmb (hI.out.below HB5.out) w.heap.size (hE.out.below HB5.out) HB5.out.size).mono ?_; rintro e w7 ⟨rfl, hb7⟩; have HB7 := Lib.hid (HB5.out.trans (hb7.mono HB5.out.size)); clear hb7))
      go_ret
      exact ⟨rfl, HB7.out⟩
  · have t1 : (e : Int).tmod 5 = 2 := by rw [show (e : Int).tmod 5 = ((e % 5 : Nat) : Int) from rfl, h5]; rfl
    have t2 : (e : Int) % 5 = 2 := by omega
    clear h5
    cases some_
    · skip
      go_enter Tryz.func3, Tryz.ntmps3
      go_upto_region 5 with fail
      rw [← HW1.out, ← HN.out]
      go_wp2_with (first
        | (go_at_call 9; refine (HSH4.out _).mono ?_; rintro e w5 ⟨rfl, hb5⟩; have HB45 := Lib.hid hb5; have HB5 := Lib.hid (HB1.out.trans (hb5.mono HB1.out.size)); clear hb5)
        | (go_at_call 10; refine (HPP.out _).mono ?_; rintro e w6 ⟨rfl, he⟩; obtain rfl := he.symm)
        | (go_at_call 8; refine (passIs_0_4 W0 H0 p m mc _ laced ad _ l w5 hWb hHb hp7 ⟨hD.out.hlen, hD.out.rb.below HB5.out, hD.out.hnil, hD.out.hcap, hD.out.most⟩ hmb (hI.out.below HB5.out) w.heap.size (hE.out.below HB5.out) HB5.out.size).mono ?_; rintro e w7 ⟨rfl, hb7⟩; have HB7 := Lib.hid (HB5.out.trans (hb7.mono HB5.out.size)); clear hb7))
      go_ret
      exact ⟨rfl, HB7.out⟩
    · skip
      go_enter Tryz.func3, Tryz.ntmps3
      go_upto_region 5 with fail
      rw [← HW1.out, ← HN.out]
      go_wp2_with (first
        | (go_at_call 9; refine (HSH4.out _).mono ?_; rintro e w5 ⟨rfl, hb5⟩; have HB45 := Lib.hid hb5; have HB5 := Lib.hid (HB1.out.trans (hb5.mono HB1.out.size)); clear hb5)
        | (go_at_call 10; refine (HPP.out _).mono ?_; rintro e w6 ⟨rfl, he⟩; obtain rfl := he.symm)
        | (go_at_call 8; refine (passIs_0_4 W0 H0 p m mc _ laced ad _ l w5 hWb hHb hp7 ⟨hD.out.hlen, hD.out.rb.below HB5.out, hD.out.hnil, hD.out.hcap, hD.out.most⟩ hmb (hI.out.below HB5.out) w.heap.size (hE.out.below HB5.out) HB5.out.size).mono ?_; rintro e w7 ⟨rfl, hb7⟩; have HB7 := Lib.hid (HB5.out.trans (hb7.mono HB5.out.size)); clear hb7))
      go_ret
      exact ⟨rfl, HB7.out⟩
  · have t1 : (e : Int).tmod 5 = 3 := by rw [show (e : Int).tmod 5 = ((e % 5 : Nat) : Int) from rfl, h5]; rfl
    have t2 : (e : Int) % 5 = 3 := by omega
    clear h5
    cases some_
    · skip
      go_enter Tryz.func3, Tryz.ntmps3
      go_upto_region 5 with fail
      rw [← HW1.out, ← HN.out]
      go_wp2_with (first
        | (go_at_call 9; refine (HSH8.out _).mono ?_; rintro e w5 ⟨rfl, hb5⟩; have HB45 := Lib.hid hb5; have HB5 := Lib.hid (HB1.out.trans (hb5.mono HB1.out.size)); clear hb5)
        | (go_at_call 10; refine (HPP.out _).mono ?_; rintro e w6 ⟨rfl, he⟩; obtain rfl := he.symm)
        | (go_at_call 8; refine (passIs_0_8 W0 H0 p m mc _ laced ad _ l w5 hWb hHb hp7 ⟨hD.out.hlen, hD.out.rb.below HB5.out, hD.out.hnil, hD.out.hcap, hD.out.most⟩ hmb (hI.out.below HB5.out) w.heap.size (hE.out.below HB5.out) HB5.out.size).mono ?_; rintro e w7 ⟨rfl, hb7⟩; have HB7 := Lib.hid (HB5.out.trans (hb7.mono HB5.out.size)); clear hb7))
      go_ret
      exact ⟨rfl, HB7.out⟩
    · skip
      obtain ⟨k0, hk0v⟩ : ∃ k, k = cl % 256 := ⟨_, rfl⟩
      have hk0 : k0 < 256 := by omega
      have ak0 : (cl : Int).tmod 256 = (k0 : Int) := by rw [hk0v]; rfl
      have bk0 : (cl : Int) % 256 = (k0 : Int) := by rw [hk0v]; rfl
      have ck0 : IntKind.i64.wrap (cl : Int) = (cl : Int) := i64_in _ ⟨by omega, by omega⟩
      have ek0 : IntKind.i64.wrap (k0 : Int) = (k0 : Int) := i64_in _ ⟨by omega, by omega⟩
      clear hk0v
      go_enter Tryz.func3, Tryz.ntmps3
      go_upto_region 5 with fail
      rw [← HW1.out, ← HN.out]
      have hbw : Below w1.heap.size w1 (w1.alloc (.cells #[.int .i64 (k0 : Int)] 3)) := (Below.refl _ _).alloc (Nat.le_refl _) _
      have HBW : Hid (Below w.heap.size w (w1.alloc (.cells #[.int .i64 (k0 : Int)] 3))) := Lib.hid (HB1.out.trans (hbw.mono HB1.out.size))
      clear hbw
      go_upto_region 7 with (at_builtin; refine wpList_append_ints rfl (.tmp 31) (.tmp 37) rfl N _ [] [k0] rfl (OwnI.alloc HO1.out _) (some ⟨w1.heap.size, 0, none⟩) 1 1 rfl rfl (one_int w1 k0 _ _ rfl) (by intro h; cases h) (by simp) (by rw [HN.out]; exact HBW.out.size) ?_; intro v3 w3 ho3 hb3 hg3; clear hg3)
      obtain ⟨a3, c3, rfl, hri3⟩ := ho3.ri
      have HRI : Hid (RI_ w3 a3 [k0]) := Lib.hid hri3
      have HB3 := Lib.hid (HBW.out.trans (hb3.mono (by rw [HN.out]; exact Nat.le_refl _)))
      clear hri3 hb3 ho3 HBW
      go_wp2_with (first
        | (go_at_call 9; refine (HSH8.out _).mono ?_; rintro e w5 ⟨rfl, hb5⟩; have HB45 := Lib.hid hb5; have HB5 := Lib.hid (HB3.out.trans (hb5.mono HB3.out.size)); clear hb5)
        | (go_at_call 10; refine (HPP.out _).mono ?_; rintro e w6 ⟨rfl, he⟩; obtain rfl := he.symm)
        | (go_at_call 8; refine (passIsC_0_8 k0 W0 H0 p m mc _ laced ad _ l w5 hk0 hWb hHb hp7 ⟨hD.out.hlen, hD.out.rb.below HB5.out, hD.out.hnil, hD.out.hcap, hD.out.most⟩ hmb (HRI.out.below HB45.out) (hI.out.below HB5.out) w.heap.size (hE.out.below HB5.out) HB5.out.size).mono ?_; rintro e w7 ⟨rfl, hb7⟩; have HB7 := Lib.hid (HB5.out.trans (hb7.mono HB5.out.size)); clear hb7))
      go_ret
      exact ⟨rfl, HB7.out⟩
  · have t1 : (e : Int).tmod 5 = 4 := by rw [show (e : Int).tmod 5 = ((e % 5 : Nat) : Int) from rfl, h5]; rfl
    have t2 : (e : Int) % 5 = 4 := by omega
    clear h5
    cases some_
    · skip
      go_enter Tryz.func3, Tryz.ntmps3
      go_upto_region 5 with fail
      rw [← HW1.out, ← HN.out]
      go_wp2_with (first
        | (go_at_call 9; refine (HSH16.out _).mono ?_; rintro e w5 ⟨rfl, hb5⟩; have HB45 := Lib.hid hb5; have HB5 := Lib.hid (HB1.out.trans (hb5.mono HB1.out.size)); clear hb5)
        | (go_at_call 10; refine (HPP.out _).mono ?_; rintro e w6 ⟨rfl, he⟩; obtain rfl := he.symm)
        | (go_at_call 8; refine (passIs_0_16 W0 H0 p m mc _ laced ad _ l w5 hWb hHb hp7 ⟨hD.out.hlen, hD.out.rb.below HB5.out, hD.out.hnil, hD.out.hcap, hD.out.most⟩ hmb (hI.out.below HB5.out) w.heap.size (hE.out.below HB5.out) HB5.out.size).mono ?_; rintro e w7 ⟨rfl, hb7⟩; have HB7 := Lib.hid (HB5.out.trans (hb7.mono HB5.out.size)); clear hb7))
      go_ret
      exact ⟨rfl, HB7.out⟩
    · skip
      obtain ⟨k0, hk0v⟩ : ∃ k, k = cl % 65536 := ⟨_, rfl⟩
      have hk0 : k0 < 65536 := by omega
      have ak0 : (cl : Int).tmod 65536 = (k0 : Int) := by rw [hk0v]; rfl
      have bk0 : (cl : Int) % 65536 = (k0 : Int) := by rw [hk0v]; rfl
      have ck0 : IntKind.i64.wrap (cl : Int) = (cl : Int) := i64_in _ ⟨by omega, by omega⟩
      have ek0 : IntKind.i64.wrap (k0 : Int) = (k0 : Int) := i64_in _ ⟨by omega, by omega⟩
      clear hk0v
      go_enter Tryz.func3, Tryz.ntmps3
      go_upto_region 5 with fail
      rw [← HW1.out, ← HN.out]
      have hbw : Below w1.heap.size w1 (w1.alloc (.cells #[.int .i64 (k0 : Int)] 3)) := (Below.refl _ _).alloc (Nat.le_refl _) _
      have HBW : Hid (Below w.heap.size w (w1.alloc (.cells #[.int .i64 (k0 : Int)] 3))) := Lib.hid (HB1.out.trans (hbw.mono HB1.out.size))
      clear hbw
      go_upto_region 7 with (at_builtin; refine wpList_append_ints rfl (.tmp 31) (.tmp 37) rfl N _ [] [k0] rfl (OwnI.alloc HO1.out _) (some ⟨w1.heap.size, 0, none⟩) 1 1 rfl rfl (one_int w1 k0 _ _ rfl) (by intro h; cases h) (by simp) (by rw [HN.out]; exact HBW.out.size) ?_; intro v3 w3 ho3 hb3 hg3; clear hg3)
      obtain ⟨a3, c3, rfl, hri3⟩ := ho3.ri
      have HRI : Hid (RI_ w3 a3 [k0]) := Lib.hid hri3
      have HB3 := Lib.hid (HBW.out.trans (hb3.mono (by rw [HN.out]; exact Nat.le_refl _)))
      clear hri3 hb3 ho3 HBW
      go_wp2_with (first
        | (go_at_call 9; refine (HSH16.out _).mono ?_; rintro e w5 ⟨rfl, hb5⟩; have HB45 := Lib.hid hb5; have HB5 := Lib.hid (HB3.out.trans (hb5.mono HB3.out.size)); clear hb5)
        | (go_at_call 10; refine (HPP.out _).mono ?_; rintro e w6 ⟨rfl, he⟩; obtain rfl := he.symm)
        | (go_at_call 8; refine (passIsC_0_16 k0 W0 H0 p m mc _ laced ad _ l w5 hk0 hWb hHb hp7 ⟨hD.out.hlen, hD.out.rb.below HB5.out, hD.out.hnil, hD.out.hcap, hD.out.most⟩ hmb (HRI.out.below HB45.out) (hI.out.below HB5.out) w.heap.size (hE.out.below HB5.out) HB5.out.size).mono ?_; rintro e w7 ⟨rfl, hb7⟩; have HB7 := Lib.hid (HB5.out.trans (hb7.mono HB5.out.size)); clear hb7))
      go_ret
      exact ⟨rfl, HB7.out⟩
end Go.Proofs.YtkiibhpmembcgaaGreatDoor
