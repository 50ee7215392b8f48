/- The walk through the law FnPassTrue. Printed by gen/passlawg.py. -/
import Derived.Test.YtkiibhpmembcgaaGreatDoorPassIsC
import Derived.Test.YtkiibhpmembcgaaGreatDoorSpDots2
import Derived.Test.YtkiibhpmembcgaaGreatDoorSpDotsC2
import Derived.Test.YtkiibhpmembcgaaGreatDoorGBE2
namespace Go.Proofs.YtkiibhpmembcgaaGreatDoor
open Go.ChangeShapes Go.WideShapes Go.ChangeAt Go.RowKit Go.IntWalk

theorem passIs_2_8 (W0 H0 p m mc cc : Nat) (laced : Bool) (ad ca : Option Addr) (l : List UInt8) (w : World) (hW : 1 ≤ W0 ∧ W0 ≤ 40) (hH : 1 ≤ H0 ∧ H0 ≤ 40) (hp : p < 7) (hD : InB w ad m mc l) (hmb : m ≤ 2147483647) (hI : Inter w) (B : Nat) (hE : Eofs B w) (hB : B ≤ w.heap.size) :
    Calls Tryz.prog 8 #[shV W0 H0 8 2 laced, .int .i64 (p : Int), .slice none 0 0, .slice ca 0 cc, .slice ad m mc] w (TrueEnd w) :=
  passIs_gen 2 8 W0 H0 p m mc B 0 0 cc laced ad none ca l [] noAv w (by unfold OkCD; omega) hW.2 hH.2 hW.1 hH.1 hp hD hmb (insNil w) (by omega) (by omega) hI hE hB
    (fun n m sc pn pc cc sad pa ca P samps w hl hm hs hlt hn _ _ _ => specDots_2 W0 H0 8 n m sc pn pc cc laced sad pa ca P samps w (by unfold OkCD; omega) hl hm hs hlt hn)
    (fun m mc B pn pcap cc ad ap ca l w hin hnil hS hpn => impl_TC8 W0 H0 laced p l m mc B pn pcap cc ad ap ca [] w hin hnil hS hpn)
    (fun _ av w' h => ⟨none, 0, 0, [], h, insNil w', by omega, fun h => absurd h (by decide)⟩) (fun h => absurd h (by decide))
theorem passIsC_2_8 (v0 v1 v2 W0 H0 p m mc cc : Nat) (laced : Bool) (ad ca : Option Addr) (l : List UInt8) (w : World) (hv0 : v0 < 256) (hv1 : v1 < 256) (hv2 : v2 < 256) (hW : 1 ≤ W0 ∧ W0 ≤ 40) (hH : 1 ≤ H0 ∧ H0 ≤ 40) (hp : p < 7) (hD : InB w ad m mc l) (hmb : m ≤ 2147483647) (hcr : RI_ w ca [v0, v1, v2]) (hI : Inter w) (B : Nat) (hE : Eofs B w) (hB : B ≤ w.heap.size) :
    Calls Tryz.prog 8 #[shV W0 H0 8 2 laced, .int .i64 (p : Int), .slice none 0 0, .slice ca 3 cc, .slice ad m mc] w (TrueEnd w) :=
  passIs_clr 2 8 W0 H0 p m mc B 0 0 3 cc [v0, v1, v2] laced ad none ca l [] noAv w (by unfold OkCD; omega) hW.2 hH.2 hW.1 hH.1 hp hD hmb (insNil w) (by omega) (by omega) ⟨.inr ⟨rfl, .inr rfl⟩, fun v hv => by simp at hv; omega⟩ (Lib.hid rfl) (by omega) (by omega) hcr (fun v hv => by simp at hv; omega) hI hE hB
    (fun n m sc pn pc cn cc sad pa ca P samps w hl hm hs hlt hn _ _ _ hcr hcn => by
      obtain rfl : cn = 3 := hcn.out.symm
      exact specDotsC_2 W0 H0 8 n m sc pn pc cc [v0, v1, v2] (Lib.hid rfl) laced sad pa ca P samps w (by unfold OkCD; omega) hl hm hs hcr hlt hn)
    (fun m mc B pn pcap bn bc ad ap ba l w hin hnil hS hpn hbl hbr _ hb4 => impl_TC8t v0 v1 v2 W0 H0 laced p hv0 hv1 hv2 l m mc B pn pcap bn bc ad ap ba [] w hin hnil hS hpn hbl hbr hb4)
    (fun _ av w' h => ⟨none, 0, 0, [], h, insNil w', by omega, fun h => absurd h (by decide)⟩) (fun h => absurd h (by decide))
theorem passIs_2_16 (W0 H0 p m mc cc : Nat) (laced : Bool) (ad ca : Option Addr) (l : List UInt8) (w : World) (hW : 1 ≤ W0 ∧ W0 ≤ 40) (hH : 1 ≤ H0 ∧ H0 ≤ 40) (hp : p < 7) (hD : InB w ad m mc l) (hmb : m ≤ 2147483647) (hI : Inter w) (B : Nat) (hE : Eofs B w) (hB : B ≤ w.heap.size) :
    Calls Tryz.prog 8 #[shV W0 H0 16 2 laced, .int .i64 (p : Int), .slice none 0 0, .slice ca 0 cc, .slice ad m mc] w (TrueEnd w) :=
  passIs_gen 2 16 W0 H0 p m mc B 0 0 cc laced ad none ca l [] noAv w (by unfold OkCD; omega) hW.2 hH.2 hW.1 hH.1 hp hD hmb (insNil w) (by omega) (by omega) hI hE hB
    (fun n m sc pn pc cc sad pa ca P samps w hl hm hs hlt hn _ _ _ => specDots_2 W0 H0 16 n m sc pn pc cc laced sad pa ca P samps w (by unfold OkCD; omega) hl hm hs hlt hn)
    (fun m mc B pn pcap cc ad ap ca l w hin hnil hS hpn => impl_TC16 W0 H0 laced p l m mc B pn pcap cc ad ap ca [] w hin hnil hS hpn)
    (fun _ av w' h => ⟨none, 0, 0, [], h, insNil w', by omega, fun h => absurd h (by decide)⟩) (fun h => absurd h (by decide))
theorem passIsC_2_16 (v0 v1 v2 W0 H0 p m mc cc : Nat) (laced : Bool) (ad ca : Option Addr) (l : List UInt8) (w : World) (hv0 : v0 < 65536) (hv1 : v1 < 65536) (hv2 : v2 < 65536) (hW : 1 ≤ W0 ∧ W0 ≤ 40) (hH : 1 ≤ H0 ∧ H0 ≤ 40) (hp : p < 7) (hD : InB w ad m mc l) (hmb : m ≤ 2147483647) (hcr : RI_ w ca [v0, v1, v2]) (hI : Inter w) (B : Nat) (hE : Eofs B w) (hB : B ≤ w.heap.size) :
    Calls Tryz.prog 8 #[shV W0 H0 16 2 laced, .int .i64 (p : Int), .slice none 0 0, .slice ca 3 cc, .slice ad m mc] w (TrueEnd w) :=
  passIs_clr 2 16 W0 H0 p m mc B 0 0 3 cc [v0, v1, v2] laced ad none ca l [] noAv w (by unfold OkCD; omega) hW.2 hH.2 hW.1 hH.1 hp hD hmb (insNil w) (by omega) (by omega) ⟨.inr ⟨rfl, .inr rfl⟩, fun v hv => by simp at hv; omega⟩ (Lib.hid rfl) (by omega) (by omega) hcr (fun v hv => by simp at hv; omega) hI hE hB
    (fun n m sc pn pc cn cc sad pa ca P samps w hl hm hs hlt hn _ _ _ hcr hcn => by
      obtain rfl : cn = 3 := hcn.out.symm
      exact specDotsC_2 W0 H0 16 n m sc pn pc cc [v0, v1, v2] (Lib.hid rfl) laced sad pa ca P samps w (by unfold OkCD; omega) hl hm hs hcr hlt hn)
    (fun m mc B pn pcap bn bc ad ap ba l w hin hnil hS hpn hbl hbr _ hb4 => impl_TC16t v0 v1 v2 W0 H0 laced p hv0 hv1 hv2 l m mc B pn pcap bn bc ad ap ba [] w hin hnil hS hpn hbl hbr hb4)
    (fun _ av w' h => ⟨none, 0, 0, [], h, insNil w', by omega, fun h => absurd h (by decide)⟩) (fun h => absurd h (by decide))
theorem three_int (w : World) (a b c : Nat) (T : TypeId) (g : Nat) (hg : g = w.heap.size) : ∀ p, some (⟨g, 0, none⟩ : Addr) = some p → ∀ j u, (nvals [a, b, c])[j]? = some u → (w.alloc (.cells #[.int .i64 (a : Int), .int .i64 (b : Int), .int .i64 (c : Int)] T)).cell? (p.add j) = some u := by
  intro p hp j u hj
  simp only [Option.some.injEq] at hp
  subst hp
  subst hg
  rw [Addr.add_lit, Nat.zero_add, cell_of_row _ _ _ _ _ _ (heap_alloc_new w _), ← hj]
  simp [nvals]
set_option maxHeartbeats 6400000 in
set_option maxRecDepth 100000 in
theorem passLaw_2 (deep some_ laced : Bool) (x y z cr cg cb m mc : Nat) (ad : Option Addr) (l : List UInt8) (w : World) (hx : x < 256) (hy : y < 256) (hz : z < 256) (hcr : cr < 65536) (hcg : cg < 65536) (hcb : cb < 65536) (hD : Hid (InB w ad m mc l)) (hI : Hid (Inter w)) (hE : Hid (Eofs w.heap.size w)) :
    Calls Tryz.prog 6 #[.bool deep, .int .u8 (x : Int), .int .u8 (y : Int), .bool laced, .int .u8 (z : Int), .bool some_, .int .u16 (cr : Int), .int .u16 (cg : Int), .int .u16 (cb : Int), .slice ad m mc] w (TrueEnd w) := by
  by_cases hbig : 2147483647 < m
  · go_enter Tryz.func6, Tryz.ntmps6
    go_wp2_with fail
    go_ret
    exact ⟨rfl, Below.refl _ _⟩
  obtain ⟨p, hp⟩ : ∃ p, p = (if laced then z % 7 else 0) := ⟨_, rfl⟩
  have hp7 : p < 7 := by rw [hp]; exact passNo laced z
  obtain ⟨W0, hW0⟩ : ∃ W0, W0 = upTo x := ⟨_, rfl⟩
  obtain ⟨H0, hH0⟩ : ∃ H0, H0 = upTo y := ⟨_, rfl⟩
  have hWb := upTo_le x
  have hHb := upTo_le y
  rw [← hW0] at hWb
  rw [← hH0] at hHb
  have HP : ∀ w, Calls Tryz.prog 10 #[.bool laced, .int .u8 (z : Int)] w fun e w' => e = .returned (.int .i64 (p : Int)) ∧ w' = w := by rw [hp]; exact passOf_any laced z hz
  have HS8 : ∀ w, Calls Tryz.prog 9 #[.int .i64 2, .int .i64 8, .int .u8 (x : Int), .int .u8 (y : Int), .bool laced] w fun e w' => e = .returned (shV W0 H0 8 2 laced) ∧ Below w.heap.size w w' := by rw [hW0, hH0]; exact shapeOf_any 2 8 x y laced hx hy
  have HS16 : ∀ w, Calls Tryz.prog 9 #[.int .i64 2, .int .i64 16, .int .u8 (x : Int), .int .u8 (y : Int), .bool laced] w fun e w' => e = .returned (shV W0 H0 16 2 laced) ∧ Below w.heap.size w w' := by rw [hW0, hH0]; exact shapeOf_any 2 16 x y laced hx hy
  have HPP := Lib.hid HP
  have HSH8 := Lib.hid HS8
  have HSH16 := Lib.hid HS16
  have hmb : m ≤ 2147483647 := by omega
  obtain ⟨w1, hw1⟩ : ∃ w1, w1 = w.alloc (.cells #[] 3) := ⟨_, rfl⟩
  have HB1 : Hid (Below w.heap.size w w1) := Lib.hid (hw1 ▸ (Below.refl _ _).alloc (Nat.le_refl _) _)
  obtain ⟨N, hN⟩ : ∃ N, N = w.heap.size := ⟨_, rfl⟩
  have HO1 : Hid (OwnI w1 N (.slice (some ⟨N, 0, none⟩) 0 0) []) := Lib.hid (by rw [hw1, hN]; exact OwnI.empty w _ (Nat.le_refl _))
  have HW1 := Lib.hid hw1
  have HN := Lib.hid hN
  clear hp HP HS8 HS16 hW0 hH0 hw1 hN
  cases deep
  · skip
    cases some_
    · skip
      go_enter Tryz.func6, Tryz.ntmps6
      go_upto_region 7 with fail
      rw [← HW1.out, ← HN.out]
      go_wp2_with (first
        | (go_at_call 9; refine (HSH8.out _).mono ?_; rintro e w5 ⟨rfl, hb5⟩; have HB45 := Lib.hid hb5; have HB5 := Lib.hid (HB1.out.trans (hb5.mono HB1.out.size)); clear hb5)
        | (go_at_call 10; refine (HPP.out _).mono ?_; rintro e w6 ⟨rfl, he⟩; obtain rfl := he.symm)
        | (go_at_call 8; refine (passIs_2_8 W0 H0 p m mc _ laced ad _ l w5 hWb hHb hp7 ⟨hD.out.hlen, hD.out.rb.below HB5.out, hD.out.hnil, hD.out.hcap, hD.out.most⟩ hmb (hI.out.below HB5.out) w.heap.size (hE.out.below HB5.out) HB5.out.size).mono ?_; rintro e w7 ⟨rfl, hb7⟩; have HB7 := Lib.hid (HB5.out.trans (hb7.mono HB5.out.size)); clear hb7))
      go_ret
      exact ⟨rfl, HB7.out⟩
    · skip
      have lw : IntKind.i64.wrap 256 = 256 := by decide
      have lwz : ((256 : Int) == 0) = false := by decide
      obtain ⟨k0, hk0v⟩ : ∃ k, k = cr % 256 := ⟨_, rfl⟩
      have hk0 : k0 < 256 := by omega
      have ak0 : (cr : Int).tmod 256 = (k0 : Int) := by rw [hk0v]; rfl
      have bk0 : (cr : Int) % 256 = (k0 : Int) := by rw [hk0v]; rfl
      have ck0 : IntKind.i64.wrap (cr : Int) = (cr : Int) := i64_in _ ⟨by omega, by omega⟩
      have ek0 : IntKind.i64.wrap (k0 : Int) = (k0 : Int) := i64_in _ ⟨by omega, by omega⟩
      clear hk0v
      obtain ⟨k1, hk1v⟩ : ∃ k, k = cg % 256 := ⟨_, rfl⟩
      have hk1 : k1 < 256 := by omega
      have ak1 : (cg : Int).tmod 256 = (k1 : Int) := by rw [hk1v]; rfl
      have bk1 : (cg : Int) % 256 = (k1 : Int) := by rw [hk1v]; rfl
      have ck1 : IntKind.i64.wrap (cg : Int) = (cg : Int) := i64_in _ ⟨by omega, by omega⟩
      have ek1 : IntKind.i64.wrap (k1 : Int) = (k1 : Int) := i64_in _ ⟨by omega, by omega⟩
      clear hk1v
      obtain ⟨k2, hk2v⟩ : ∃ k, k = cb % 256 := ⟨_, rfl⟩
      have hk2 : k2 < 256 := by omega
      have ak2 : (cb : Int).tmod 256 = (k2 : Int) := by rw [hk2v]; rfl
      have bk2 : (cb : Int) % 256 = (k2 : Int) := by rw [hk2v]; rfl
      have ck2 : IntKind.i64.wrap (cb : Int) = (cb : Int) := i64_in _ ⟨by omega, by omega⟩
      have ek2 : IntKind.i64.wrap (k2 : Int) = (k2 : Int) := i64_in _ ⟨by omega, by omega⟩
      clear hk2v
      go_enter Tryz.func6, Tryz.ntmps6
      go_upto_region 7 with fail
      rw [← HW1.out, ← HN.out]
      have HOW : Hid (OwnI (w1.drew.alloc (.cells #[.int .i64 (k0 : Int), .int .i64 (k1 : Int), .int .i64 (k2 : Int)] 3)) N (.slice (some ⟨N, 0, none⟩) 0 0) []) := Lib.hid (OwnI.alloc (show OwnI w1.drew N (.slice (some ⟨N, 0, none⟩) 0 0) [] from HO1.out) _)
      have HBW : Hid (Below w.heap.size w (w1.drew.alloc (.cells #[.int .i64 (k0 : Int), .int .i64 (k1 : Int), .int .i64 (k2 : Int)] 3))) := Lib.hid ((bdrew HB1.out).alloc HB1.out.size _)
      go_upto_region 8 with fail
      go_region_law (refine step_append_ints rfl (.tmp 29) (.tmp 45) rfl N (.slice (some ⟨N, 0, none⟩) 0 0) [] [k0, k1, k2] (by simp [Act.eval]) HOW.out ⟨w1.heap.size, 0, none⟩ 3 3 (by simp [Act.eval]) rfl (three_int w1.drew k0 k1 k2 _ _ rfl _ rfl) (by simp) (by rw [HN.out]; exact HBW.out.size) ?_; intro v3 w3 ho3 hb3 hg3; clear hg3)
      all_goals
        obtain ⟨a3, c3, rfl, hri3⟩ := ho3.ri
        have HRI : Hid (RI_ w3 a3 [k0, k1, k2]) := Lib.hid hri3
        have HB3 := Lib.hid (HBW.out.trans (hb3.mono (by rw [HN.out]; exact Nat.le_refl _)))
        clear hri3 hb3 ho3 HBW
        go_wp2_with (first
          | (go_at_call 9; refine (HSH8.out _).mono ?_; rintro e w5 ⟨rfl, hb5⟩; have HB45 := Lib.hid hb5; have HB5 := Lib.hid (HB3.out.trans (hb5.mono HB3.out.size)); clear hb5)
          | (go_at_call 10; refine (HPP.out _).mono ?_; rintro e w6 ⟨rfl, he⟩; obtain rfl := he.symm)
          | (go_at_call 8; refine (passIsC_2_8 k0 k1 k2 W0 H0 p m mc _ laced ad _ l w5 hk0 hk1 hk2 hWb hHb hp7 ⟨hD.out.hlen, hD.out.rb.below HB5.out, hD.out.hnil, hD.out.hcap, hD.out.most⟩ hmb (HRI.out.below HB45.out) (hI.out.below HB5.out) w.heap.size (hE.out.below HB5.out) HB5.out.size).mono ?_; rintro e w7 ⟨rfl, hb7⟩; have HB7 := Lib.hid (HB5.out.trans (hb7.mono HB5.out.size)); clear hb7))
        go_ret
        exact ⟨rfl, HB7.out⟩
  · skip
    cases some_
    · skip
      go_enter Tryz.func6, Tryz.ntmps6
      go_upto_region 7 with fail
      rw [← HW1.out, ← HN.out]
      go_wp2_with (first
        | (go_at_call 9; refine (HSH16.out _).mono ?_; rintro e w5 ⟨rfl, hb5⟩; have HB45 := Lib.hid hb5; have HB5 := Lib.hid (HB1.out.trans (hb5.mono HB1.out.size)); clear hb5)
        | (go_at_call 10; refine (HPP.out _).mono ?_; rintro e w6 ⟨rfl, he⟩; obtain rfl := he.symm)
        | (go_at_call 8; refine (passIs_2_16 W0 H0 p m mc _ laced ad _ l w5 hWb hHb hp7 ⟨hD.out.hlen, hD.out.rb.below HB5.out, hD.out.hnil, hD.out.hcap, hD.out.most⟩ hmb (hI.out.below HB5.out) w.heap.size (hE.out.below HB5.out) HB5.out.size).mono ?_; rintro e w7 ⟨rfl, hb7⟩; have HB7 := Lib.hid (HB5.out.trans (hb7.mono HB5.out.size)); clear hb7))
      go_ret
      exact ⟨rfl, HB7.out⟩
    · skip
      have lw : IntKind.i64.wrap 65536 = 65536 := by decide
      have lwz : ((65536 : Int) == 0) = false := by decide
      obtain ⟨k0, hk0v⟩ : ∃ k, k = cr % 65536 := ⟨_, rfl⟩
      have hk0 : k0 < 65536 := by omega
      have ak0 : (cr : Int).tmod 65536 = (k0 : Int) := by rw [hk0v]; rfl
      have bk0 : (cr : Int) % 65536 = (k0 : Int) := by rw [hk0v]; rfl
      have ck0 : IntKind.i64.wrap (cr : Int) = (cr : Int) := i64_in _ ⟨by omega, by omega⟩
      have ek0 : IntKind.i64.wrap (k0 : Int) = (k0 : Int) := i64_in _ ⟨by omega, by omega⟩
      clear hk0v
      obtain ⟨k1, hk1v⟩ : ∃ k, k = cg % 65536 := ⟨_, rfl⟩
      have hk1 : k1 < 65536 := by omega
      have ak1 : (cg : Int).tmod 65536 = (k1 : Int) := by rw [hk1v]; rfl
      have bk1 : (cg : Int) % 65536 = (k1 : Int) := by rw [hk1v]; rfl
      have ck1 : IntKind.i64.wrap (cg : Int) = (cg : Int) := i64_in _ ⟨by omega, by omega⟩
      have ek1 : IntKind.i64.wrap (k1 : Int) = (k1 : Int) := i64_in _ ⟨by omega, by omega⟩
      clear hk1v
      obtain ⟨k2, hk2v⟩ : ∃ k, k = cb % 65536 := ⟨_, rfl⟩
      have hk2 : k2 < 65536 := by omega
      have ak2 : (cb : Int).tmod 65536 = (k2 : Int) := by rw [hk2v]; rfl
      have bk2 : (cb : Int) % 65536 = (k2 : Int) := by rw [hk2v]; rfl
      have ck2 : IntKind.i64.wrap (cb : Int) = (cb : Int) := i64_in _ ⟨by omega, by omega⟩
      have ek2 : IntKind.i64.wrap (k2 : Int) = (k2 : Int) := i64_in _ ⟨by omega, by omega⟩
      clear hk2v
      go_enter Tryz.func6, Tryz.ntmps6
      go_upto_region 7 with fail
      rw [← HW1.out, ← HN.out]
      have HOW : Hid (OwnI (w1.drew.alloc (.cells #[.int .i64 (k0 : Int), .int .i64 (k1 : Int), .int .i64 (k2 : Int)] 3)) N (.slice (some ⟨N, 0, none⟩) 0 0) []) := Lib.hid (OwnI.alloc (show OwnI w1.drew N (.slice (some ⟨N, 0, none⟩) 0 0) [] from HO1.out) _)
      have HBW : Hid (Below w.heap.size w (w1.drew.alloc (.cells #[.int .i64 (k0 : Int), .int .i64 (k1 : Int), .int .i64 (k2 : Int)] 3))) := Lib.hid ((bdrew HB1.out).alloc HB1.out.size _)
      go_upto_region 8 with fail
      go_region_law (refine step_append_ints rfl (.tmp 29) (.tmp 45) rfl N (.slice (some ⟨N, 0, none⟩) 0 0) [] [k0, k1, k2] (by simp [Act.eval]) HOW.out ⟨w1.heap.size, 0, none⟩ 3 3 (by simp [Act.eval]) rfl (three_int w1.drew k0 k1 k2 _ _ rfl _ rfl) (by simp) (by rw [HN.out]; exact HBW.out.size) ?_; intro v3 w3 ho3 hb3 hg3; clear hg3)
      all_goals
        obtain ⟨a3, c3, rfl, hri3⟩ := ho3.ri
        have HRI : Hid (RI_ w3 a3 [k0, k1, k2]) := Lib.hid hri3
        have HB3 := Lib.hid (HBW.out.trans (hb3.mono (by rw [HN.out]; exact Nat.le_refl _)))
        clear hri3 hb3 ho3 HBW
        go_wp2_with (first
          | (go_at_call 9; refine (HSH16.out _).mono ?_; rintro e w5 ⟨rfl, hb5⟩; have HB45 := Lib.hid hb5; have HB5 := Lib.hid (HB3.out.trans (hb5.mono HB3.out.size)); clear hb5)
          | (go_at_call 10; refine (HPP.out _).mono ?_; rintro e w6 ⟨rfl, he⟩; obtain rfl := he.symm)
          | (go_at_call 8; refine (passIsC_2_16 k0 k1 k2 W0 H0 p m mc _ laced ad _ l w5 hk0 hk1 hk2 hWb hHb hp7 ⟨hD.out.hlen, hD.out.rb.below HB5.out, hD.out.hnil, hD.out.hcap, hD.out.most⟩ hmb (HRI.out.below HB45.out) (hI.out.below HB5.out) w.heap.size (hE.out.below HB5.out) HB5.out.size).mono ?_; rintro e w7 ⟨rfl, hb7⟩; have HB7 := Lib.hid (HB5.out.trans (hb7.mono HB5.out.size)); clear hb7))
        go_ret
        exact ⟨rfl, HB7.out⟩
end Go.Proofs.YtkiibhpmembcgaaGreatDoor
