/- The walk through the law FnPassPalette. Printed by gen/passlaw3.py. -/
import Derived.Test.YtkiibhpmembcgaaGreatDoorPassIs
import Derived.Test.YtkiibhpmembcgaaGreatDoorSpDots3
import Derived.Test.YtkiibhpmembcgaaGreatDoorImpP
namespace Go.Proofs.YtkiibhpmembcgaaGreatDoor
open Go.ChangeShapes Go.WideShapes Go.ChangeAt Go.RowKit Go.IntWalk

theorem picOf_lt {d : Nat} (ok : OkCD 3 d) (W : Nat) (Rr : List (List UInt8)) : ∀ b ∈ picOf 3 d [] W Rr, b.toNat < 2 ^ d := by
  intro b hb
  obtain ⟨r, -, h1⟩ := List.mem_flatMap.1 hb
  obtain ⟨x, -, h2⟩ := List.mem_flatMap.1 h1
  simp only [pixA, if_true, List.mem_singleton] at h2
  subst h2
  rw [UInt8.toNat_ofNat']
  exact Nat.lt_of_le_of_lt (Nat.mod_le _ _) (sampA_lt ok r x)
theorem passIs_3_1 (W0 H0 p m mc pn pcap cc : Nat) (laced : Bool) (ad ap ca : Option Addr) (S : List Sh) (l : List UInt8) (w : World) (hW : 1 ≤ W0 ∧ W0 ≤ 40) (hH : 1 ≤ H0 ∧ H0 ≤ 40) (hp : p < 7) (hD : InB w ad m mc l) (hmb : m ≤ 2147483647) (hS : InS w ap pn pcap S) (hpn : pn = 2) (hI : Inter w) (B : Nat) (hE : Eofs B w) (hB : B ≤ w.heap.size) :
    Calls Tryz.prog 8 #[shV W0 H0 1 3 laced, .int .i64 (p : Int), .slice ap pn pcap, .slice ca 0 cc, .slice ad m mc] w (TrueEnd w) := by
  have hSl : S.length = pn := hS.hlen.out
  exact passIs_gen 3 1 W0 H0 p m mc B pn pcap cc laced ad ap ca l S (palAv S) w (by unfold OkCD; omega) hW.2 hH.2 hW.1 hH.1 hp hD hmb hS (by omega) (fun _ => hpn) hI hE hB
    (fun n m sc pn' pc cc sad pa ca P samps w hl hm hs hlt hn hP hPl h3 => specDots_3 W0 H0 1 n m sc pn' pc cc laced sad pa ca P samps w (by unfold OkCD; omega) hl hm hs hlt hn hP hPl (h3 rfl))
    (fun m mc B pn' pcap cc ad ap ca l w hin hnil hS' _ => impl_P1 W0 H0 laced p l m mc B pn' pcap cc ad ap ca S w hin hnil hS' (by rw [← hS'.hlen.out, hSl, hpn]))
    (fun b av w' h => by
      obtain ⟨aa, an, ac, e, h2⟩ := inS_own h
      exact ⟨aa, an, ac, S, e, h2, by rw [← h2.hlen.out]; omega, fun _ => rfl⟩)
    (fun _ W Rr b hb => by rw [hSl, hpn]; exact picOf_lt (d := 1) (by unfold OkCD; omega) W Rr b hb)
theorem passIs_3_2 (W0 H0 p m mc pn pcap cc : Nat) (laced : Bool) (ad ap ca : Option Addr) (S : List Sh) (l : List UInt8) (w : World) (hW : 1 ≤ W0 ∧ W0 ≤ 40) (hH : 1 ≤ H0 ∧ H0 ≤ 40) (hp : p < 7) (hD : InB w ad m mc l) (hmb : m ≤ 2147483647) (hS : InS w ap pn pcap S) (hpn : pn = 4) (hI : Inter w) (B : Nat) (hE : Eofs B w) (hB : B ≤ w.heap.size) :
    Calls Tryz.prog 8 #[shV W0 H0 2 3 laced, .int .i64 (p : Int), .slice ap pn pcap, .slice ca 0 cc, .slice ad m mc] w (TrueEnd w) := by
  have hSl : S.length = pn := hS.hlen.out
  exact passIs_gen 3 2 W0 H0 p m mc B pn pcap cc laced ad ap ca l S (palAv S) w (by unfold OkCD; omega) hW.2 hH.2 hW.1 hH.1 hp hD hmb hS (by omega) (fun _ => hpn) hI hE hB
    (fun n m sc pn' pc cc sad pa ca P samps w hl hm hs hlt hn hP hPl h3 => specDots_3 W0 H0 2 n m sc pn' pc cc laced sad pa ca P samps w (by unfold OkCD; omega) hl hm hs hlt hn hP hPl (h3 rfl))
    (fun m mc B pn' pcap cc ad ap ca l w hin hnil hS' _ => impl_P2 W0 H0 laced p l m mc B pn' pcap cc ad ap ca S w hin hnil hS' (by rw [← hS'.hlen.out, hSl, hpn]))
    (fun b av w' h => by
      obtain ⟨aa, an, ac, e, h2⟩ := inS_own h
      exact ⟨aa, an, ac, S, e, h2, by rw [← h2.hlen.out]; omega, fun _ => rfl⟩)
    (fun _ W Rr b hb => by rw [hSl, hpn]; exact picOf_lt (d := 2) (by unfold OkCD; omega) W Rr b hb)
theorem passIs_3_4 (W0 H0 p m mc pn pcap cc : Nat) (laced : Bool) (ad ap ca : Option Addr) (S : List Sh) (l : List UInt8) (w : World) (hW : 1 ≤ W0 ∧ W0 ≤ 40) (hH : 1 ≤ H0 ∧ H0 ≤ 40) (hp : p < 7) (hD : InB w ad m mc l) (hmb : m ≤ 2147483647) (hS : InS w ap pn pcap S) (hpn : pn = 16) (hI : Inter w) (B : Nat) (hE : Eofs B w) (hB : B ≤ w.heap.size) :
    Calls Tryz.prog 8 #[shV W0 H0 4 3 laced, .int .i64 (p : Int), .slice ap pn pcap, .slice ca 0 cc, .slice ad m mc] w (TrueEnd w) := by
  have hSl : S.length = pn := hS.hlen.out
  exact passIs_gen 3 4 W0 H0 p m mc B pn pcap cc laced ad ap ca l S (palAv S) w (by unfold OkCD; omega) hW.2 hH.2 hW.1 hH.1 hp hD hmb hS (by omega) (fun _ => hpn) hI hE hB
    (fun n m sc pn' pc cc sad pa ca P samps w hl hm hs hlt hn hP hPl h3 => specDots_3 W0 H0 4 n m sc pn' pc cc laced sad pa ca P samps w (by unfold OkCD; omega) hl hm hs hlt hn hP hPl (h3 rfl))
    (fun m mc B pn' pcap cc ad ap ca l w hin hnil hS' _ => impl_P4 W0 H0 laced p l m mc B pn' pcap cc ad ap ca S w hin hnil hS' (by rw [← hS'.hlen.out, hSl, hpn]))
    (fun b av w' h => by
      obtain ⟨aa, an, ac, e, h2⟩ := inS_own h
      exact ⟨aa, an, ac, S, e, h2, by rw [← h2.hlen.out]; omega, fun _ => rfl⟩)
    (fun _ W Rr b hb => by rw [hSl, hpn]; exact picOf_lt (d := 4) (by unfold OkCD; omega) W Rr b hb)
theorem passIs_3_8 (W0 H0 p m mc pn pcap cc : Nat) (laced : Bool) (ad ap ca : Option Addr) (S : List Sh) (l : List UInt8) (w : World) (hW : 1 ≤ W0 ∧ W0 ≤ 40) (hH : 1 ≤ H0 ∧ H0 ≤ 40) (hp : p < 7) (hD : InB w ad m mc l) (hmb : m ≤ 2147483647) (hS : InS w ap pn pcap S) (hpn : pn = 256) (hI : Inter w) (B : Nat) (hE : Eofs B w) (hB : B ≤ w.heap.size) :
    Calls Tryz.prog 8 #[shV W0 H0 8 3 laced, .int .i64 (p : Int), .slice ap pn pcap, .slice ca 0 cc, .slice ad m mc] w (TrueEnd w) := by
  have hSl : S.length = pn := hS.hlen.out
  exact passIs_gen 3 8 W0 H0 p m mc B pn pcap cc laced ad ap ca l S (palAv S) w (by unfold OkCD; omega) hW.2 hH.2 hW.1 hH.1 hp hD hmb hS (by omega) (fun _ => hpn) hI hE hB
    (fun n m sc pn' pc cc sad pa ca P samps w hl hm hs hlt hn hP hPl h3 => specDots_3 W0 H0 8 n m sc pn' pc cc laced sad pa ca P samps w (by unfold OkCD; omega) hl hm hs hlt hn hP hPl (h3 rfl))
    (fun m mc B pn' pcap cc ad ap ca l w hin hnil hS' _ => impl_P8 W0 H0 laced p l m mc B pn' pcap cc ad ap ca S w hin hnil hS' (by rw [← hS'.hlen.out, hSl, hpn]))
    (fun b av w' h => by
      obtain ⟨aa, an, ac, e, h2⟩ := inS_own h
      exact ⟨aa, an, ac, S, e, h2, by rw [← h2.hlen.out]; omega, fun _ => rfl⟩)
    (fun _ W Rr b hb => by rw [hSl, hpn]; exact picOf_lt (d := 8) (by unfold OkCD; omega) W Rr b hb)
set_option maxHeartbeats 6400000 in
set_option maxRecDepth 100000 in
theorem passLaw_3 (laced : Bool) (e x y z pn pcap m mc : Nat) (ap ad : Option Addr) (S : List Sh) (l : List UInt8) (w : World) (_he : e < 256) (hx : x < 256) (hy : y < 256) (hz : z < 256) (hS : Hid (InS w ap pn pcap S)) (hD : Hid (InB w ad m mc l)) (hI : Hid (Inter w)) (hE : Hid (Eofs w.heap.size w)) :
    Calls Tryz.prog 5 #[.int .u8 (e : Int), .int .u8 (x : Int), .int .u8 (y : Int), .bool laced, .int .u8 (z : Int), .slice ap pn pcap, .slice ad m mc] w (TrueEnd w) := by
  by_cases hbig : 2147483647 < pn
  · go_enter Tryz.func5, Tryz.ntmps5
    go_wp2_with fail
    go_ret
    exact ⟨rfl, Below.refl _ _⟩
  by_cases hbig2 : 2147483647 < m
  · go_enter Tryz.func5, Tryz.ntmps5
    go_wp2_with fail
    go_ret
    exact ⟨rfl, Below.refl _ _⟩
  obtain ⟨p, hp⟩ : ∃ p, p = (if laced then z % 7 else 0) := ⟨_, rfl⟩
  have hp7 : p < 7 := by rw [hp]; exact passNo laced z
  obtain ⟨W0, hW0⟩ : ∃ W0, W0 = upTo x := ⟨_, rfl⟩
  obtain ⟨H0, hH0⟩ : ∃ H0, H0 = upTo y := ⟨_, rfl⟩
  have hWb := upTo_le x
  have hHb := upTo_le y
  rw [← hW0] at hWb
  rw [← hH0] at hHb
  have HP : ∀ w, Calls Tryz.prog 10 #[.bool laced, .int .u8 (z : Int)] w fun e w' => e = .returned (.int .i64 (p : Int)) ∧ w' = w := by rw [hp]; exact passOf_any laced z hz
  have HS1 : ∀ w, Calls Tryz.prog 9 #[.int .i64 3, .int .i64 1, .int .u8 (x : Int), .int .u8 (y : Int), .bool laced] w fun e w' => e = .returned (shV W0 H0 1 3 laced) ∧ Below w.heap.size w w' := by rw [hW0, hH0]; exact shapeOf_any 3 1 x y laced hx hy
  have HS2 : ∀ w, Calls Tryz.prog 9 #[.int .i64 3, .int .i64 2, .int .u8 (x : Int), .int .u8 (y : Int), .bool laced] w fun e w' => e = .returned (shV W0 H0 2 3 laced) ∧ Below w.heap.size w w' := by rw [hW0, hH0]; exact shapeOf_any 3 2 x y laced hx hy
  have HS4 : ∀ w, Calls Tryz.prog 9 #[.int .i64 3, .int .i64 4, .int .u8 (x : Int), .int .u8 (y : Int), .bool laced] w fun e w' => e = .returned (shV W0 H0 4 3 laced) ∧ Below w.heap.size w w' := by rw [hW0, hH0]; exact shapeOf_any 3 4 x y laced hx hy
  have HS8 : ∀ w, Calls Tryz.prog 9 #[.int .i64 3, .int .i64 8, .int .u8 (x : Int), .int .u8 (y : Int), .bool laced] w fun e w' => e = .returned (shV W0 H0 8 3 laced) ∧ Below w.heap.size w w' := by rw [hW0, hH0]; exact shapeOf_any 3 8 x y laced hx hy
  have HPP := Lib.hid HP
  have HSH1 := Lib.hid HS1
  have HSH2 := Lib.hid HS2
  have HSH4 := Lib.hid HS4
  have HSH8 := Lib.hid HS8
  have hmb : m ≤ 2147483647 := by omega
  clear hp HP HS1 HS2 HS4 HS8 hW0 hH0
  rcases (by omega : e % 4 = 0 ∨ e % 4 = 1 ∨ e % 4 = 2 ∨ e % 4 = 3) with h5 | h5 | h5 | h5
  · have t1 : (e : Int).tmod 4 = 0 := by rw [show (e : Int).tmod 4 = ((e % 4 : Nat) : Int) from rfl, h5]; rfl
    have t2 : (e : Int) % 4 = 0 := by omega
    clear h5
    by_cases hpn : pn = 2
    · have hpe : ((pn : Int) == 2) = true := by simp; omega
      have HPN := Lib.hid hpn
      clear hpn
      go_enter Tryz.func5, Tryz.ntmps5
      go_wp2_with (first
        | (go_at_call 9; refine (HSH1.out _).mono ?_; rintro e w5 ⟨rfl, hb5⟩; have HB5 := Lib.hid hb5; clear hb5)
        | (go_at_call 10; refine (HPP.out _).mono ?_; rintro e w6 ⟨rfl, he⟩; obtain rfl := he.symm)
        | (go_at_call 8; refine (passIs_3_1 W0 H0 p m mc pn pcap 0 laced ad ap none S l w5 hWb hHb hp7 ⟨hD.out.hlen, hD.out.rb.below HB5.out, hD.out.hnil, hD.out.hcap, hD.out.most⟩ hmb (hS.out.below HB5.out) HPN.out (hI.out.below HB5.out) w.heap.size (hE.out.below HB5.out) HB5.out.size).mono ?_; rintro e w7 ⟨rfl, hb7⟩; have HB7 := Lib.hid (HB5.out.trans (hb7.mono HB5.out.size)); clear hb7))
      go_ret
      exact ⟨rfl, HB7.out⟩
    · have hpe : ((pn : Int) == 2) = false := by simp; omega
      clear hpn
      go_enter Tryz.func5, Tryz.ntmps5
      go_wp2_with fail
      go_ret
      exact ⟨rfl, Below.refl _ _⟩
  · have t1 : (e : Int).tmod 4 = 1 := by rw [show (e : Int).tmod 4 = ((e % 4 : Nat) : Int) from rfl, h5]; rfl
    have t2 : (e : Int) % 4 = 1 := by omega
    clear h5
    by_cases hpn : pn = 4
    · have hpe : ((pn : Int) == 4) = true := by simp; omega
      have HPN := Lib.hid hpn
      clear hpn
      go_enter Tryz.func5, Tryz.ntmps5
      go_wp2_with (first
        | (go_at_call 9; refine (HSH2.out _).mono ?_; rintro e w5 ⟨rfl, hb5⟩; have HB5 := Lib.hid hb5; clear hb5)
        | (go_at_call 10; refine (HPP.out _).mono ?_; rintro e w6 ⟨rfl, he⟩; obtain rfl := he.symm)
        | (go_at_call 8; refine (passIs_3_2 W0 H0 p m mc pn pcap 0 laced ad ap none S l w5 hWb hHb hp7 ⟨hD.out.hlen, hD.out.rb.below HB5.out, hD.out.hnil, hD.out.hcap, hD.out.most⟩ hmb (hS.out.below HB5.out) HPN.out (hI.out.below HB5.out) w.heap.size (hE.out.below HB5.out) HB5.out.size).mono ?_; rintro e w7 ⟨rfl, hb7⟩; have HB7 := Lib.hid (HB5.out.trans (hb7.mono HB5.out.size)); clear hb7))
      go_ret
      exact ⟨rfl, HB7.out⟩
    · have hpe : ((pn : Int) == 4) = false := by simp; omega
      clear hpn
      go_enter Tryz.func5, Tryz.ntmps5
      go_wp2_with fail
      go_ret
      exact ⟨rfl, Below.refl _ _⟩
  · have t1 : (e : Int).tmod 4 = 2 := by rw [show (e : Int).tmod 4 = ((e % 4 : Nat) : Int) from rfl, h5]; rfl
    have t2 : (e : Int) % 4 = 2 := by omega
    clear h5
    by_cases hpn : pn = 16
    · have hpe : ((pn : Int) == 16) = true := by simp; omega
      have HPN := Lib.hid hpn
      clear hpn
      go_enter Tryz.func5, Tryz.ntmps5
      go_wp2_with (first
        | (go_at_call 9; refine (HSH4.out _).mono ?_; rintro e w5 ⟨rfl, hb5⟩; have HB5 := Lib.hid hb5; clear hb5)
        | (go_at_call 10; refine (HPP.out _).mono ?_; rintro e w6 ⟨rfl, he⟩; obtain rfl := he.symm)
        | (go_at_call 8; refine (passIs_3_4 W0 H0 p m mc pn pcap 0 laced ad ap none S l w5 hWb hHb hp7 ⟨hD.out.hlen, hD.out.rb.below HB5.out, hD.out.hnil, hD.out.hcap, hD.out.most⟩ hmb (hS.out.below HB5.out) HPN.out (hI.out.below HB5.out) w.heap.size (hE.out.below HB5.out) HB5.out.size).mono ?_; rintro e w7 ⟨rfl, hb7⟩; have HB7 := Lib.hid (HB5.out.trans (hb7.mono HB5.out.size)); clear hb7))
      go_ret
      exact ⟨rfl, HB7.out⟩
    · have hpe : ((pn : Int) == 16) = false := by simp; omega
      clear hpn
      go_enter Tryz.func5, Tryz.ntmps5
      go_wp2_with fail
      go_ret
      exact ⟨rfl, Below.refl _ _⟩
  · have t1 : (e : Int).tmod 4 = 3 := by rw [show (e : Int).tmod 4 = ((e % 4 : Nat) : Int) from rfl, h5]; rfl
    have t2 : (e : Int) % 4 = 3 := by omega
    clear h5
    by_cases hpn : pn = 256
    · have hpe : ((pn : Int) == 256) = true := by simp; omega
      have HPN := Lib.hid hpn
      clear hpn
      go_enter Tryz.func5, Tryz.ntmps5
      go_wp2_with (first
        | (go_at_call 9; refine (HSH8.out _).mono ?_; rintro e w5 ⟨rfl, hb5⟩; have HB5 := Lib.hid hb5; clear hb5)
        | (go_at_call 10; refine (HPP.out _).mono ?_; rintro e w6 ⟨rfl, he⟩; obtain rfl := he.symm)
        | (go_at_call 8; refine (passIs_3_8 W0 H0 p m mc pn pcap 0 laced ad ap none S l w5 hWb hHb hp7 ⟨hD.out.hlen, hD.out.rb.below HB5.out, hD.out.hnil, hD.out.hcap, hD.out.most⟩ hmb (hS.out.below HB5.out) HPN.out (hI.out.below HB5.out) w.heap.size (hE.out.below HB5.out) HB5.out.size).mono ?_; rintro e w7 ⟨rfl, hb7⟩; have HB7 := Lib.hid (HB5.out.trans (hb7.mono HB5.out.size)); clear hb7))
      go_ret
      exact ⟨rfl, HB7.out⟩
    · have hpe : ((pn : Int) == 256) = false := by simp; omega
      clear hpn
      go_enter Tryz.func5, Tryz.ntmps5
      go_wp2_with fail
      go_ret
      exact ⟨rfl, Below.refl _ _⟩
end Go.Proofs.YtkiibhpmembcgaaGreatDoor
