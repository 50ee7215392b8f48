/- The contract of the laws' passIs, at any kind of which no sample is clear. Printed by gen/passis.py. -/
import Derived.Test.YtkiibhpmembcgaaGreatDoorDotsOf
import Derived.Test.YtkiibhpmembcgaaGreatDoorSpDots4
import Derived.Test.YtkiibhpmembcgaaGreatDoorImplPass
import Derived.Test.YtkiibhpmembcgaaGreatDoorGBase
namespace Go.Proofs.YtkiibhpmembcgaaGreatDoor
open Go.ChangeShapes Go.WideShapes Go.ChangeAt Go.RowKit Go.IntWalk

theorem insNil (w : World) : InS w none 0 0 [] := ⟨Lib.hid rfl, fun h => absurd rfl h, fun _ => ⟨rfl, rfl⟩, Nat.le_refl _, by omega⟩
theorem passNo (laced : Bool) (z : Nat) : (if laced then z % 7 else 0) < 7 := by
  cases laced
  · exact (by decide : 0 < 7)
  · exact Nat.mod_lt _ (by decide)
def TrueEnd (w : World) (e : Ending) (w' : World) : Prop := e = .returned (.bool true) ∧ Below w.heap.size w w'
theorem OwnI.ri {w : World} {base : Nat} {v : Value} {l : List Nat} (h : OwnI w base v l) : ∃ ad cap, v = .slice ad l.length cap ∧ RI_ w ad l := by
  obtain ⟨ad, cap, e, hc, -, hn, ho⟩ := h.shape
  refine ⟨ad, cap, e, fun j x hx => ?_⟩
  cases ad with
  | none =>
    have := (hn rfl).1
    rw [List.eq_nil_of_length_eq_zero this] at hx
    simp at hx
  | some p =>
    obtain ⟨pb, po, ps⟩ := p
    obtain ⟨-, -, h3, h4⟩ := ho _ rfl
    simp only at h3 h4
    subst h3 h4
    refine ⟨pb, 0, rfl, ?_⟩
    have := hc _ rfl j (.int .i64 (x : Int)) (by simp [nvals, hx])
    rwa [Addr.add_lit] at this
theorem sampsOf_lt {c d m : Nat} (ok : OkCD c d) (R : List (List UInt8)) : ∀ x ∈ sampsOf d m R, x < 2 ^ d := by
  intro x hx
  obtain ⟨r, -, hr⟩ := List.mem_flatMap.1 hx
  obtain ⟨k, -, rfl⟩ := List.mem_map.1 hr
  exact sampA_lt ok r k
theorem dotP_pal {k : Nat} (P P' : List Dt) (b : Nat → UInt8) (h1 : 1 ≤ k) (h6 : k ≤ 6) : dotP k P b = dotP k P' b := by
  rcases (by omega : k = 1 ∨ k = 2 ∨ k = 3 ∨ k = 4 ∨ k = 5 ∨ k = 6) with rfl | rfl | rfl | rfl | rfl | rfl <;> rfl
theorem kindN_le (c d : Nat) (b : Bool) : 1 ≤ kindN c d b ∧ kindN c d b ≤ 7 := by
  unfold kindN
  repeat' split
  all_goals omega
/-- The two lists of pixels are one, whatever palette stands beside a picture of another kind. -/
theorem dots_one {c d : Nat} (ok : OkCD c d) {clear : List Nat} (hc : OkClear c d clear) (P P' : List Dt) (hP : kindN c d (!clear.isEmpty) = 7 → P' = P) {W H : Nat} {R : List (List UInt8)} (hR : R.length = H) :
    (List.range (H * W)).map (dotAt (kindN c d (!clear.isEmpty)) P' (nK (kindN c d (!clear.isEmpty))) W (W * nK (kindN c d (!clear.isEmpty))) (picOf c d clear W R)) = (List.range (H * W)).map (dotOf c d P clear (sampsOf d (W * chN c) R)) := by
  rw [← dots_same ok hc P hR]
  by_cases h7 : kindN c d (!clear.isEmpty) = 7
  · rw [hP h7]
  · have hk := kindN_le c d (!clear.isEmpty)
    apply List.map_congr_left
    intro t _
    unfold dotAt
    exact dotP_pal _ _ _ hk.1 (by omega)
/-- What the laws know of the reference's Dots at one kind, of the thin package's Pass. -/
def SdOk (W0 H0 c d : Nat) (laced : Bool) : Prop :=
  ∀ (n m sc pn pc cc : Nat) (sad pa ca : Option Addr) (P : List Dt) (samps : List Nat) (w : World), Hid (samps.length = m) → Hid (m = n * chN c) → RI_ w sad samps → (∀ x ∈ samps, x < 2 ^ d) → n ≤ 10000 → PalD w pa P → P.length = pn → (c = 3 → pn = 2 ^ d) →
    Calls Tryz.prog 12 #[shV W0 H0 d c laced, .slice sad m sc, .slice pa pn pc, .slice ca 0 cc] w (DotsEnd c d P [] samps n w)
def IpOk (W0 H0 c d : Nat) (laced : Bool) (p : Nat) (S : List Sh) (avok : Nat → Value → World → Prop) : Prop :=
  ∀ (m mc B pn pcap cc : Nat) (ad ap ca : Option Addr) (l : List UInt8) (w : World), ZpIn W0 H0 c d p l m mc B ad w → (ad = none → m = 0 ∧ mc = 0) → InS w ap pn pcap S → pn ≤ 1000 →
    Calls Tryz.prog 14 #[.slice ad m mc, .int .i64 (W0 : Int), .int .i64 (H0 : Int), .int .i64 (c : Int), .int .i64 (d : Int), .bool laced, .int .i64 (p : Int), .slice ap pn pcap, .slice ca 0 cc] w (IpEnd (kindN c d false) W0 H0 c d [] laced p l avok w)
structure PwAt (N8 N kd W H S : Nat) (pv av : Value) (W0 H0 d c : Nat) (laced : Bool) (w' : World) : Prop where
  pc : PcAt w' N8 kd W H S pv av
  sh : ShAt w' N W0 H0 d c laced
theorem PwAt.kept {N8 N kd W H S : Nat} {pv av : Value} {W0 H0 d c : Nat} {laced : Bool} {w w' : World} (h : PwAt N8 N kd W H S pv av W0 H0 d c laced w) (h8 : w'.heap[N8]? = w.heap[N8]?) (hN : w'.heap[N]? = w.heap[N]?) : PwAt N8 N kd W H S pv av W0 H0 d c laced w' :=
  ⟨h.pc.kept h8, h.sh.kept hN⟩
set_option maxHeartbeats 12800000 in
set_option maxRecDepth 100000 in
theorem passIs_gen (c d W0 H0 p m mc B pn pcap cc : Nat) (laced : Bool) (ad ap ca : Option Addr) (l : List UInt8) (S : List Sh) (avok : Nat → Value → World → Prop) (w : World) (ok : OkCD c d) (hW0 : W0 ≤ 40) (hH0 : H0 ≤ 40) (hW1 : 1 ≤ W0) (hH1 : 1 ≤ H0) (hp : p < 7)
    (hD : InB w ad m mc l) (hmb : m ≤ 2147483647) (hS : InS w ap pn pcap S) (hpn : pn ≤ 1000) (hc3 : c = 3 → pn = 2 ^ d) (hI : Inter w) (hE : Eofs B w) (hB : B ≤ w.heap.size)
    (hsd : SdOk W0 H0 c d laced) (hip : IpOk W0 H0 c d laced p S avok)
    (hav : ∀ b av w', avok b av w' → ∃ aa an ac SS, av = .slice aa an ac ∧ InS w' aa an ac SS ∧ an ≤ 1000 ∧ (kindN c d false = 7 → SS = S))
    (hpb : kindN c d false = 7 → ∀ W Rr, ∀ b ∈ picOf c d [] W Rr, b.toNat < S.length) :
    Calls Tryz.prog 8 #[shV W0 H0 d c laced, .int .i64 (p : Int), .slice ap pn pcap, .slice ca 0 cc, .slice ad m mc] w (TrueEnd w) := by
  obtain ⟨w1, hw1, hb1, hlt1, hrow, hsh⟩ := boxed w W0 H0 d c laced
  obtain ⟨N, hN⟩ : ∃ N, N = w.heap.size := ⟨_, rfl⟩
  rw [← hN] at hrow hlt1 hsh
  have hS1 : ShOn w N W0 H0 d c laced w1 := ⟨hsh, hb1, hlt1⟩
  have HW1 := Lib.hid hw1
  have HNN := Lib.hid hN
  have HS1 := Lib.hid hS1
  have HDD := Lib.hid hD
  have HSS := Lib.hid hS
  have HII := Lib.hid hI
  have HEE := Lib.hid hE
  have HSD := Lib.hid hsd
  have HIP := Lib.hid hip
  have HAV := Lib.hid hav
  have HPB := Lib.hid hpb
  have HC3 := Lib.hid hc3
  have hsz := szP_le laced p W0 H0 hW0 hH0
  clear hw1 hb1 hrow hsh hN hD hS hI hE hsd hip hav hpb hS1 hc3
  unfold shV
  go_enter Tryz.func8, Tryz.ntmps8
  go_upto_region 1 with fail
  rw [← HNN.out]
  change Code.wp _ _ _ _ (w.alloc (.cells (shK W0 H0 d c laced) 27))
  rw [← HW1.out]
  by_cases hbig : 1048576 < m
  · go_wp2_with fail
    go_ret
    exact ⟨rfl, HS1.out.bel⟩
  obtain ⟨w2, hw2⟩ : ∃ w2, w2 = w1.alloc (.cells #[] 5) := ⟨_, rfl⟩
  have hb12 : Below w1.heap.size w1 w2 := hw2 ▸ (Below.refl _ _).alloc (Nat.le_refl _) _
  have HS2 := Lib.hid (HS1.out.next hb12)
  have HW2 := Lib.hid hw2
  have HZ2 : Hid (w2.heap.size = w1.heap.size + 1) := Lib.hid (by rw [hw2, size_alloc])
  clear hw2 hb12
  obtain ⟨bb, hbb⟩ : ∃ bb, bb = w1.heap.size := ⟨_, rfl⟩
  have HBB := Lib.hid hbb
  clear hbb
  go_upto_region 4 with fail
  rw [← HW2.out, ← HBB.out]
  go_wp2_with fail
  refine wp_loop_rounds 1 ?_
  rw [rounds_succ]
  obtain ⟨W, hW⟩ : ∃ W, W = (szP (ptL laced p) W0 H0).1 := ⟨_, rfl⟩
  obtain ⟨H, hH⟩ : ∃ H, H = (szP (ptL laced p) W0 H0).2 := ⟨_, rfl⟩
  rw [← hW, ← hH] at hsz
  have HWW := Lib.hid hW
  have HHH := Lib.hid hH
  have hm2 : m ≤ 2000000 := by omega
  have HZP : ∀ w', Below w.heap.size w w' → ZpIn W0 H0 c d p l m mc B ad w' := fun w' hb => { ok := ok, hW0 := hW0, hH0 := hH0, hW1 := hW1, hH1 := hH1, hp := hp, inter := HII.out.below hb, hl := HDD.out.hlen.out, hm := hm2, hmc := HDD.out.hcap, src := HDD.out.rb.below hb, eofs := HEE.out.below hb, nB := Nat.le_trans hB hb.size }
  have HZPP := Lib.hid HZP
  clear hW hH HZP
  cases hro : rowsOf W0 H0 c d laced p l with
  | none =>
    have hW0' : W ≠ 0 := by
      intro e
      have h1 := (szP_zero (q := ptL laced p) (wd := W0) (h := H0) (by rw [← HWW.out]; exact e)).1
      unfold rowsOf at hro
      rw [h1] at hro
      simp [upR] at hro
    have hup : upR l (rbN c d (szP (ptL laced p) W0 H0).1) (stN c d) (szP (ptL laced p) W0 H0).2 = none := hro
    have HUP := Lib.hid hup
    have HRO := Lib.hid hro
    clear hro hup
    obtain ⟨c0, c1, c2, c3, c4⟩ := HS2.out.at_
    have lN := HS2.out.lt
    go_upto_region 10 with (go_at_call 11; refine (partSamples_any W0 H0 c d p m mc laced ad l w2 ok hp hW0 hH0 hW1 hH1 HDD.out.hlen (HDD.out.rb.below HS2.out.bel) HDD.out.hcap hm2 HDD.out.most).mono ?_; rintro e w3 ⟨hn, -, hb3⟩; obtain rfl := hn HRO.out)
    have HS3 := Lib.hid (HS2.out.next hb3)
    obtain ⟨w4, hw4⟩ : ∃ w4, w4 = w3.alloc (.cells #[] 61) := ⟨_, rfl⟩
    have hb34 : Below w3.heap.size w3 w4 := hw4 ▸ (Below.refl _ _).alloc (Nat.le_refl _) _
    have HS4 := Lib.hid (HS3.out.next hb34)
    have HW4 := Lib.hid hw4
    clear hw4 hb34 hb3 c0 c1 c2 c3 c4 lN
    go_upto_region 11 with fail
    rw [← HW4.out]
    obtain ⟨c0, c1, c2, c3, c4⟩ := HS4.out.at_
    have lN := HS4.out.lt
    go_upto_region 16 with (go_at_call 14; refine (HIP.out m mc B pn pcap 0 ad ap (some ⟨bb, 0, none⟩) l w4 (HZPP.out w4 HS4.out.bel) HDD.out.hnil (HSS.out.below HS4.out.bel) hpn).mono ?_; rintro e w5 hend; obtain rfl := hend.bad (by rw [← HWW.out]; exact hW0') HUP.out; have HB5 := Lib.hid (HS4.out.bel.trans (hend.bel.mono HS4.out.bel.size)); unfold pcV; clear hend)
    go_wp2_with fail
    go_ret
    exact ⟨rfl, HB5.out.alloc HB5.out.size _⟩
  | some R =>
    have hRl : R.length = H := by rw [HHH.out]; exact (upR_rows (show upR _ _ _ _ = some R from hro)).len
    have hup : upR l (rbN c d (szP (ptL laced p) W0 H0).1) (stN c d) (szP (ptL laced p) W0 H0).2 = some R := hro
    have HUP := Lib.hid hup
    have HRO := Lib.hid hro
    have HRL := Lib.hid hRl
    obtain ⟨nd, hnd⟩ : ∃ nd, nd = H * W := ⟨_, rfl⟩
    have hndb : nd ≤ 40 * 40 := by rw [hnd]; exact Nat.mul_le_mul hsz.2 hsz.1
    have HND := Lib.hid hnd
    obtain ⟨samps, hsamps⟩ : ∃ samps, samps = sampsOf d (W * chN c) R := ⟨_, rfl⟩
    have hsl : samps.length = nd * chN c := by rw [hsamps, sampsOf_len, hRl, hnd, Nat.mul_assoc]
    have HSA := Lib.hid hsamps
    have HSL := Lib.hid hsl
    have HLT : Hid (∀ x ∈ samps, x < 2 ^ d) := Lib.hid (by rw [hsamps]; exact sampsOf_lt ok R)
    clear hro hup hRl hnd hsamps hsl
    obtain ⟨c0, c1, c2, c3, c4⟩ := HS2.out.at_
    have lN := HS2.out.lt
    go_upto_region 10 with (go_at_call 11; refine (partSamples_any W0 H0 c d p m mc laced ad l w2 ok hp hW0 hH0 hW1 hH1 HDD.out.hlen (HDD.out.rb.below HS2.out.bel) HDD.out.hcap hm2 HDD.out.most).mono ?_; rintro e w3 ⟨-, hs, hb3⟩; obtain ⟨v3, rfl, ho3⟩ := hs R HRO.out; rw [← HWW.out, ← HSA.out] at ho3; obtain ⟨a3, c3', rfl, hri3⟩ := ho3.ri)
    have HS3 := Lib.hid (HS2.out.next hb3)
    have HRI3 := Lib.hid hri3
    obtain ⟨w4, hw4⟩ : ∃ w4, w4 = w3.alloc (.cells #[] 61) := ⟨_, rfl⟩
    have hb34 : Below w3.heap.size w3 w4 := hw4 ▸ (Below.refl _ _).alloc (Nat.le_refl _) _
    have HS4 := Lib.hid (HS3.out.next hb34)
    have HRI4 := Lib.hid (hri3.below hb34)
    have HW4 := Lib.hid hw4
    clear hw4 hb34 hb3 c0 c1 c2 c3 c4 lN hri3 ho3
    go_upto_region 11 with fail
    rw [← HW4.out]
    go_upto_region 12 with fail
    have hSd := HS4.out.drew
    refine wp_region_held_drew (S := fun w' => ShOn w N W0 H0 d c laced w') (by kernel_rfl) hSd (fun hHeld => ?_)
    refine take_at 0 (some 53) (v := ?_) rfl rfl (by kernel_rfl) (by kernel_rfl) (by kernel_rfl) (fun _ _ _ h => h) (Or.inl ⟨by rfl, ?_⟩) (by assumption) ?_
    rotate_left
    · intro w hSw
      obtain ⟨c0, c1, c2, c3, c4⟩ := ShOn.at_ hSw
      go_simp
      first | done | with_reducible rfl
    simp only [Act.put, List.setIfInBounds_toArray, List.set_cons_succ, List.set_cons_zero]
    refine take_at 1 (some 54) (v := ?_) rfl rfl (by kernel_rfl) (by kernel_rfl) (by kernel_rfl) (fun _ _ _ h => h) (Or.inl ⟨by rfl, ?_⟩) (by assumption) ?_
    rotate_left
    · intro w hSw
      (try dsimp only at hSw)
      go_simp
      first | done | with_reducible rfl
    simp only [Act.put, List.setIfInBounds_toArray, List.set_cons_succ, List.set_cons_zero]
    refine take_at 2 (some 55) (v := ?_) rfl rfl (by kernel_rfl) (by kernel_rfl) (by kernel_rfl) (fun _ _ _ h => h) (Or.inl ⟨by rfl, ?_⟩) (by assumption) ?_
    rotate_left
    · intro w hSw
      (try dsimp only at hSw)
      go_simp
      first | done | with_reducible rfl
    simp only [Act.put, List.setIfInBounds_toArray, List.set_cons_succ, List.set_cons_zero]
    refine take_at 4 (some 57) (v := ?_) rfl rfl (by kernel_rfl) (by kernel_rfl) (by kernel_rfl) (fun _ _ _ h => h) (Or.inl ⟨by rfl, ?_⟩) (by assumption) ?_
    rotate_left
    · intro w hSw
      (try dsimp only at hSw)
      go_simp
      first | done | with_reducible rfl
    simp only [Act.put, List.setIfInBounds_toArray, List.set_cons_succ, List.set_cons_zero]
    refine wpAnyH_ready (rs := [3]) (by kernel_rfl) (by simp) ?_
    refine AllReadyH.cons rfl (fun K hK => ?_) AllReadyH.nil
    go_simp
    refine (dots_any ap pn pcap S w4.drew (Lib.hid (HSS.out.below hSd.bel)) hpn).mono ?_
    rintro e w5 ⟨v5, rfl, ho5, hb5⟩
    have hS5 := hSd.next hb5
    obtain ⟨a5, c5, rfl, hP5⟩ := ho5.palD
    refine hK.out _ _ hS5 (fun hHeld => ?_)
    clear hK K
    refine wpAnyH_ready (rs := [5]) (by kernel_rfl) (by simp) ?_
    refine AllReadyH.cons rfl (fun K hK => ?_) AllReadyH.nil
    go_simp
    refine (HSD.out nd _ c3' S.length c5 cc a3 a5 ca (S.map dtS) samps w5 (Lib.hid rfl) HSL (HRI4.out.below (undrew hb5)) HLT.out (by omega) hP5 (by rw [List.length_map]) (fun h => by rw [HSS.out.hlen.out]; exact HC3.out h)).mono ?_
    rintro e w6 ⟨v6, rfl, ho6, hb6⟩
    have hS6 := hS5.next hb6
    obtain ⟨a6, c6, rfl, hP6⟩ := ho6.palD
    refine hK.out _ _ hS6 (fun hHeld => ?_)
    clear hK K
    refine take_at 6 (some 52) (v := ?_) rfl rfl (by kernel_rfl) (by kernel_rfl) (by kernel_rfl) (fun _ _ _ h => h) (Or.inl ⟨by rfl, ?_⟩) (by assumption) ?_
    rotate_left
    · intro w hSw
      (try dsimp only at hSw)
      go_simp
      first | done | with_reducible rfl
    simp only [Act.put, List.setIfInBounds_toArray, List.set_cons_succ, List.set_cons_zero]
    refine take_at 7 (some 59) (v := ?_) rfl rfl (by kernel_rfl) (by kernel_rfl) (by kernel_rfl) (fun _ _ _ h => h) (Or.inl ⟨by rfl, ?_⟩) (by assumption) ?_
    rotate_left
    · intro w hSw
      (try dsimp only at hSw)
      go_simp
      first | done | with_reducible rfl
    simp only [Act.put, List.setIfInBounds_toArray, List.set_cons_succ, List.set_cons_zero]
    refine take_at 8 (some 60) (v := ?_) rfl rfl (by kernel_rfl) (by kernel_rfl) (by kernel_rfl) (fun _ _ _ h => h) (Or.inl ⟨by rfl, ?_⟩) (by assumption) ?_
    rotate_left
    · intro w hSw
      (try dsimp only at hSw)
      go_simp
      first | done | with_reducible rfl
    simp only [Act.put, List.setIfInBounds_toArray, List.set_cons_succ, List.set_cons_zero]
    refine take_at 9 (some 16) (v := ?_) rfl rfl (by kernel_rfl) (by kernel_rfl) (by kernel_rfl) (fun _ _ _ h => h) (Or.inl ⟨by rfl, ?_⟩) (by assumption) ?_
    rotate_left
    · intro w hSw
      (try dsimp only at hSw)
      go_simp
      first | done | with_reducible rfl
    simp only [Act.put, List.setIfInBounds_toArray, List.set_cons_succ, List.set_cons_zero]
    refine take_at 10 (some 15) (v := ?_) rfl rfl (by kernel_rfl) (by kernel_rfl) (by kernel_rfl) (fun _ _ _ h => h) (Or.inl ⟨by rfl, ?_⟩) (by assumption) ?_
    rotate_left
    · intro w hSw
      (try dsimp only at hSw)
      go_simp
      first | done | with_reducible rfl
    simp only [Act.put, List.setIfInBounds_toArray, List.set_cons_succ, List.set_cons_zero]
    refine wpAnyH_done (by kernel_rfl) ?_ _
    have HS6 := Lib.hid hS6
    obtain ⟨want, hwant⟩ : ∃ want, want = (List.range nd).map (dotOf c d (S.map dtS) [] samps) := ⟨_, rfl⟩
    rw [← hwant] at hP6
    have hwl : want.length = nd := by rw [hwant, List.length_map, List.length_range]
    have HP6 := Lib.hid hP6
    have HWA := Lib.hid hwant
    have HWL := Lib.hid hwl
    rw [show (List.map (dotOf c d (S.map dtS) [] samps) (List.range nd)).length = nd by rw [← hwant]; exact hwl]
    clear hS6 hS5 hSd hP5 hP6 hb5 hb6 ho5 ho6 hHeld hwant hwl
    obtain ⟨c0, c1, c2, c3, c4⟩ := HS6.out.at_
    have lN := HS6.out.lt
    by_cases hz : W = 0
    · obtain rfl := hz
      go_upto_region 16 with (go_at_call 14; refine (HIP.out m mc B pn pcap 0 ad ap (some ⟨bb, 0, none⟩) l w6 (HZPP.out w6 HS6.out.bel) HDD.out.hnil (HSS.out.below HS6.out.bel) hpn).mono ?_; rintro e w7 hend; obtain rfl := hend.none_ HWW.out.symm; have HB7 := Lib.hid (HS6.out.bel.trans (hend.bel.mono HS6.out.bel.size)); have HS7 := Lib.hid (HS6.out.next hend.bel); unfold pcV; clear hend)
      obtain ⟨N8, hN8⟩ : ∃ N8, N8 = w7.heap.size := ⟨_, rfl⟩
      obtain ⟨w8, hw8⟩ : ∃ w8, w8 = w7.alloc (.cells (pcCells 0 0 0 0 (.slice none 0 0) (.slice none 0 0)) 43) := ⟨_, rfl⟩
      have hb78 : Below w7.heap.size w7 w8 := hw8 ▸ (Below.refl _ _).alloc (Nat.le_refl _) _
      have hS8 := HS7.out.next hb78
      have hpw : PwAt N8 N 0 0 0 0 (.slice none 0 0) (.slice none 0 0) W0 H0 d c laced w8.drew := ⟨PcAt.of_row (T := 43) (show w8.heap[N8]? = _ by rw [hw8, hN8]; exact alloc_at _ _), hS8.drew.at_⟩
      have l8 : N8 < w8.heap.size := by rw [hw8, size_alloc, hN8]; omega
      have lN8 : N < w8.heap.size := hS8.lt
      have HW8 := Lib.hid hw8
      have HN8 := Lib.hid hN8
      have HB8 := Lib.hid hS8.bel
      clear hw8 hN8 hb78 hS8 c0 c1 c2 c3 c4 lN
      go_upto_region 18 with fail
      rw [← HN8.out]
      change Code.wp _ _ _ _ (w7.alloc (.cells (pcCells 0 0 0 0 (.slice none 0 0) (.slice none 0 0)) 43))
      rw [← HW8.out]
      refine wp_region_held_drew (S := fun w' => PwAt N8 N 0 0 0 0 (.slice none 0 0) (.slice none 0 0) W0 H0 d c laced w') (by kernel_rfl) hpw (fun hHeld => ?_)
      refine take_at 0 (some 86) (v := ?_) rfl rfl (by kernel_rfl) (by kernel_rfl) (by kernel_rfl) (fun _ _ _ h => h) (Or.inl ⟨by rfl, ?_⟩) (by assumption) ?_
      rotate_left
      · intro w hSw
        (try dsimp only at hSw)
        go_simp
        first | done | with_reducible rfl
      simp only [Act.put, List.setIfInBounds_toArray, List.set_cons_succ, List.set_cons_zero]
      refine take_at 1 (some 87) (v := ?_) rfl rfl (by kernel_rfl) (by kernel_rfl) (by kernel_rfl) (fun _ _ _ h => h) (Or.inl ⟨by rfl, ?_⟩) (by assumption) ?_
      rotate_left
      · intro w hSw
        obtain ⟨⟨p0, p1, p2, p3, p4, p5, p6, p7⟩, ⟨c0, c1, c2, c3, c4⟩⟩ := hSw
        go_simp
        first | done | with_reducible rfl
      simp only [Act.put, List.setIfInBounds_toArray, List.set_cons_succ, List.set_cons_zero]
      refine take_at 2 (some 88) (v := ?_) rfl rfl (by kernel_rfl) (by kernel_rfl) (by kernel_rfl) (fun _ _ _ h => h) (Or.inl ⟨by rfl, ?_⟩) (by assumption) ?_
      rotate_left
      · intro w hSw
        (try dsimp only at hSw)
        go_simp
        first | done | with_reducible rfl
      simp only [Act.put, List.setIfInBounds_toArray, List.set_cons_succ, List.set_cons_zero]
      refine take_at 4 (some 90) (v := ?_) rfl rfl (by kernel_rfl) (by kernel_rfl) (by kernel_rfl) (fun _ _ _ h => h) (Or.inl ⟨by rfl, ?_⟩) (by assumption) ?_
      rotate_left
      · intro w hSw
        (try dsimp only at hSw)
        go_simp
        first | done | with_reducible rfl
      simp only [Act.put, List.setIfInBounds_toArray, List.set_cons_succ, List.set_cons_zero]
      refine take_at 5 (some 91) (v := ?_) rfl rfl (by kernel_rfl) (by kernel_rfl) (by kernel_rfl) (fun _ _ _ h => h) (Or.inl ⟨by rfl, ?_⟩) (by assumption) ?_
      rotate_left
      · intro w hSw
        obtain ⟨⟨p0, p1, p2, p3, p4, p5, p6, p7⟩, ⟨c0, c1, c2, c3, c4⟩⟩ := hSw
        go_simp
        first | done | with_reducible rfl
      simp only [Act.put, List.setIfInBounds_toArray, List.set_cons_succ, List.set_cons_zero]
      refine take_at 6 (some 92) (v := ?_) rfl rfl (by kernel_rfl) (by kernel_rfl) (by kernel_rfl) (fun _ _ _ h => h) (Or.inl ⟨by rfl, ?_⟩) (by assumption) ?_
      rotate_left
      · intro w hSw
        (try dsimp only at hSw)
        go_simp
        first | done | with_reducible rfl
      simp only [Act.put, List.setIfInBounds_toArray, List.set_cons_succ, List.set_cons_zero]
      refine take_at 7 (some 93) (v := ?_) rfl rfl (by kernel_rfl) (by kernel_rfl) (by kernel_rfl) (fun _ _ _ h => h) (Or.inl ⟨by rfl, ?_⟩) (by assumption) ?_
      rotate_left
      · intro w hSw
        obtain ⟨⟨p0, p1, p2, p3, p4, p5, p6, p7⟩, ⟨c0, c1, c2, c3, c4⟩⟩ := hSw
        go_simp
        first | done | with_reducible rfl
      simp only [Act.put, List.setIfInBounds_toArray, List.set_cons_succ, List.set_cons_zero]
      refine wpAnyH_ready (rs := [3]) (by kernel_rfl) (by simp) ?_
      refine AllReadyH.cons rfl (fun K hK => ?_) AllReadyH.nil
      go_simp
      refine (partL_any laced p hp _).mono ?_
      rintro e w9 ⟨rfl, hb9⟩
      have hpw9 := hpw.kept (hb9.block N8 l8) (hb9.block N lN8)
      refine hK.out _ _ hpw9 (fun hHeld => ?_)
      clear hK K
      refine wpAnyH_ready (rs := [8]) (by kernel_rfl) (by simp) ?_
      refine AllReadyH.cons rfl (fun K hK => ?_) AllReadyH.nil
      go_simp
      refine (sizeX_any (ptL laced p) (ptL_ok laced p).1 (ptL_ok laced p).2.1 (ptL_ok laced p).2.2 W0 H0 hW0 hH0 hW1 hH1 _).mono ?_
      rintro e w10 ⟨rfl, hb10⟩
      rw [← HWW.out, ← HHH.out]
      have hpw10 := hpw9.kept (hb10.block N8 (Nat.lt_of_lt_of_le l8 hb9.size)) (hb10.block N (Nat.lt_of_lt_of_le lN8 hb9.size))
      refine hK.out _ _ hpw10 (fun hHeld => ?_)
      clear hK K
      refine take_at 9 (some 85) (v := ?_) rfl rfl (by kernel_rfl) (by kernel_rfl) (by kernel_rfl) (fun _ _ _ h => h) (Or.inl ⟨by rfl, ?_⟩) (by assumption) ?_
      rotate_left
      · intro w hSw
        (try dsimp only at hSw)
        go_simp
        first | done | with_reducible rfl
      simp only [Act.put, List.setIfInBounds_toArray, List.set_cons_succ, List.set_cons_zero]
      refine take_at 10 (some 95) (v := ?_) rfl rfl (by kernel_rfl) (by kernel_rfl) (by kernel_rfl) (fun _ _ _ h => h) (Or.inl ⟨by rfl, ?_⟩) (by assumption) ?_
      rotate_left
      · intro w hSw
        (try dsimp only at hSw)
        go_simp
        first | done | with_reducible rfl
      simp only [Act.put, List.setIfInBounds_toArray, List.set_cons_succ, List.set_cons_zero]
      refine take_at 11 (some 96) (v := ?_) rfl rfl (by kernel_rfl) (by kernel_rfl) (by kernel_rfl) (fun _ _ _ h => h) (Or.inl ⟨by rfl, ?_⟩) (by assumption) ?_
      rotate_left
      · intro w hSw
        (try dsimp only at hSw)
        go_simp
        first | done | with_reducible rfl
      simp only [Act.put, List.setIfInBounds_toArray, List.set_cons_succ, List.set_cons_zero]
      refine take_at 12 (some 19) (v := ?_) rfl rfl (by kernel_rfl) (by kernel_rfl) (by kernel_rfl) (fun _ _ _ h => h) (Or.inl ⟨by rfl, ?_⟩) (by assumption) ?_
      rotate_left
      · intro w hSw
        (try dsimp only at hSw)
        go_simp
        first | done | with_reducible rfl
      simp only [Act.put, List.setIfInBounds_toArray, List.set_cons_succ, List.set_cons_zero]
      refine take_at 13 (some 20) (v := ?_) rfl rfl (by kernel_rfl) (by kernel_rfl) (by kernel_rfl) (fun _ _ _ h => h) (Or.inl ⟨by rfl, ?_⟩) (by assumption) ?_
      rotate_left
      · intro w hSw
        (try dsimp only at hSw)
        go_simp
        first | done | with_reducible rfl
      simp only [Act.put, List.setIfInBounds_toArray, List.set_cons_succ, List.set_cons_zero]
      refine wpAnyH_done (by kernel_rfl) ?_ _
      have HB10 : Hid (Below w.heap.size w w10) := Lib.hid (HB8.out.trans (((undrew hb9).trans (hb10.mono hb9.size)).mono HB8.out.size))
      have HPW := Lib.hid hpw10
      clear hb9 hb10 hpw hpw9 hpw10 hHeld
      obtain ⟨c0, c1, c2, c3, c4, c5, c6, c7⟩ := HPW.out.pc
      go_wp2_with fail
      go_ret
      exact ⟨rfl, HB10.out⟩
    · go_upto_region 15 with fail
      obtain ⟨kd, hkd⟩ : ∃ kd, kd = kindN c d false := ⟨_, rfl⟩
      obtain ⟨Sx, hSx⟩ : ∃ Sx, Sx = W * nK kd := ⟨_, rfl⟩
      have HKD := Lib.hid hkd
      have HSX := Lib.hid hSx
      have HIQ : ∀ e w', IpEnd (kindN c d false) W0 H0 c d [] laced p l avok w6 e w' → ∃ a7 n7 c7 aa7 an7 ac7 SS7, e = .returned (.tuple #[.agg (pcCells kd W H Sx (.slice a7 n7 c7) (.slice aa7 an7 ac7)), .int .i64 0]) ∧ Hid ((picOf c d [] W R).length = n7) ∧ RB w' a7 (picOf c d [] W R) ∧ n7 ≤ c7 ∧ InS w' aa7 an7 ac7 SS7 ∧ an7 ≤ 1000 ∧ (kd = 7 → SS7 = S) ∧ Below w6.heap.size w6 w' := by
        intro e w' hend
        obtain ⟨v7, av7, he, ho7, hav7⟩ := hend.good (by rw [← HWW.out]; exact hz) R HUP.out
        rw [← HWW.out, ← HHH.out, ← hkd, show nK (kindN c d (!([] : List Nat).isEmpty)) = nK kd by rw [hkd]; rfl, ← hSx] at he
        rw [← HWW.out] at ho7
        obtain ⟨aa7, an7, ac7, SS7, rfl, hSS7, han7, hS7eq⟩ := HAV.out _ _ _ hav7
        obtain ⟨a7, n7, c7, rfl, hl7, hr7, hc7, -⟩ := ho7.shapeN
        exact ⟨a7, n7, c7, aa7, an7, ac7, SS7, he, hl7, hr7, hc7, hSS7, han7, (fun h => hS7eq (by rw [← hkd]; exact h)), hend.bel⟩
      have HIQQ := Lib.hid HIQ
      clear HIQ hkd hSx
      go_upto_region 16 with (go_at_call 14; refine (HIP.out m mc B pn pcap 0 ad ap (some ⟨bb, 0, none⟩) l w6 (HZPP.out w6 HS6.out.bel) HDD.out.hnil (HSS.out.below HS6.out.bel) hpn).mono ?_; rintro e w7 hend; obtain ⟨a7, n7, c7, aa7, an7, ac7, SS7, rfl, hl7, hr7, hc7, hSS7, han7, hS7, hb7⟩ := HIQQ.out e w7 hend; clear hend; unfold pcCells)
      have HS7 := Lib.hid (HS6.out.next hb7)
      have HP7 := Lib.hid (HP6.out.below hb7)
      obtain ⟨N8, hN8⟩ : ∃ N8, N8 = w7.heap.size := ⟨_, rfl⟩
      obtain ⟨w8, hw8⟩ : ∃ w8, w8 = w7.alloc (.cells (pcCells kd W H Sx (.slice a7 n7 c7) (.slice aa7 an7 ac7)) 43) := ⟨_, rfl⟩
      have hb78 : Below w7.heap.size w7 w8 := hw8 ▸ (Below.refl _ _).alloc (Nat.le_refl _) _
      have hS8 := HS7.out.next hb78
      have hpw : PwAt N8 N kd W H Sx (.slice a7 n7 c7) (.slice aa7 an7 ac7) W0 H0 d c laced w8.drew := ⟨PcAt.of_row (T := 43) (show w8.heap[N8]? = _ by rw [hw8, hN8]; exact alloc_at _ _), hS8.drew.at_⟩
      have l8 : N8 < w8.heap.size := by rw [hw8, size_alloc, hN8]; omega
      have lN8 : N < w8.heap.size := hS8.lt
      have HW8 := Lib.hid hw8
      have HN8 := Lib.hid hN8
      have HB8 := Lib.hid hS8.bel
      have HR8 := Lib.hid (hr7.below hb78)
      have HSS8 := Lib.hid (hSS7.below hb78)
      have HP8 := Lib.hid (HP7.out.below hb78)
      have HS7Q := Lib.hid hS7
      clear hw8 hN8 hb78 hS8 hr7 hSS7 hb7 hS7 c0 c1 c2 c3 c4 lN
      go_upto_region 18 with fail
      rw [← HN8.out]
      change Code.wp _ _ _ _ (w7.alloc (.cells (pcCells kd W H Sx (.slice a7 n7 c7) (.slice aa7 an7 ac7)) 43))
      rw [← HW8.out]
      refine wp_region_held_drew (S := fun w' => PwAt N8 N kd W H Sx (.slice a7 n7 c7) (.slice aa7 an7 ac7) W0 H0 d c laced w') (by kernel_rfl) hpw (fun hHeld => ?_)
      refine take_at 0 (some 86) (v := ?_) rfl rfl (by kernel_rfl) (by kernel_rfl) (by kernel_rfl) (fun _ _ _ h => h) (Or.inl ⟨by rfl, ?_⟩) (by assumption) ?_
      rotate_left
      · intro w hSw
        (try dsimp only at hSw)
        go_simp
        first | done | with_reducible rfl
      simp only [Act.put, List.setIfInBounds_toArray, List.set_cons_succ, List.set_cons_zero]
      refine take_at 1 (some 87) (v := ?_) rfl rfl (by kernel_rfl) (by kernel_rfl) (by kernel_rfl) (fun _ _ _ h => h) (Or.inl ⟨by rfl, ?_⟩) (by assumption) ?_
      rotate_left
      · intro w hSw
        obtain ⟨⟨p0, p1, p2, p3, p4, p5, p6, p7⟩, ⟨c0, c1, c2, c3, c4⟩⟩ := hSw
        go_simp
        first | done | with_reducible rfl
      simp only [Act.put, List.setIfInBounds_toArray, List.set_cons_succ, List.set_cons_zero]
      refine take_at 2 (some 88) (v := ?_) rfl rfl (by kernel_rfl) (by kernel_rfl) (by kernel_rfl) (fun _ _ _ h => h) (Or.inl ⟨by rfl, ?_⟩) (by assumption) ?_
      rotate_left
      · intro w hSw
        (try dsimp only at hSw)
        go_simp
        first | done | with_reducible rfl
      simp only [Act.put, List.setIfInBounds_toArray, List.set_cons_succ, List.set_cons_zero]
      refine take_at 4 (some 90) (v := ?_) rfl rfl (by kernel_rfl) (by kernel_rfl) (by kernel_rfl) (fun _ _ _ h => h) (Or.inl ⟨by rfl, ?_⟩) (by assumption) ?_
      rotate_left
      · intro w hSw
        (try dsimp only at hSw)
        go_simp
        first | done | with_reducible rfl
      simp only [Act.put, List.setIfInBounds_toArray, List.set_cons_succ, List.set_cons_zero]
      refine take_at 5 (some 91) (v := ?_) rfl rfl (by kernel_rfl) (by kernel_rfl) (by kernel_rfl) (fun _ _ _ h => h) (Or.inl ⟨by rfl, ?_⟩) (by assumption) ?_
      rotate_left
      · intro w hSw
        obtain ⟨⟨p0, p1, p2, p3, p4, p5, p6, p7⟩, ⟨c0, c1, c2, c3, c4⟩⟩ := hSw
        go_simp
        first | done | with_reducible rfl
      simp only [Act.put, List.setIfInBounds_toArray, List.set_cons_succ, List.set_cons_zero]
      refine take_at 6 (some 92) (v := ?_) rfl rfl (by kernel_rfl) (by kernel_rfl) (by kernel_rfl) (fun _ _ _ h => h) (Or.inl ⟨by rfl, ?_⟩) (by assumption) ?_
      rotate_left
      · intro w hSw
        (try dsimp only at hSw)
        go_simp
        first | done | with_reducible rfl
      simp only [Act.put, List.setIfInBounds_toArray, List.set_cons_succ, List.set_cons_zero]
      refine take_at 7 (some 93) (v := ?_) rfl rfl (by kernel_rfl) (by kernel_rfl) (by kernel_rfl) (fun _ _ _ h => h) (Or.inl ⟨by rfl, ?_⟩) (by assumption) ?_
      rotate_left
      · intro w hSw
        obtain ⟨⟨p0, p1, p2, p3, p4, p5, p6, p7⟩, ⟨c0, c1, c2, c3, c4⟩⟩ := hSw
        go_simp
        first | done | with_reducible rfl
      simp only [Act.put, List.setIfInBounds_toArray, List.set_cons_succ, List.set_cons_zero]
      refine wpAnyH_ready (rs := [3]) (by kernel_rfl) (by simp) ?_
      refine AllReadyH.cons rfl (fun K hK => ?_) AllReadyH.nil
      go_simp
      refine (partL_any laced p hp _).mono ?_
      rintro e w9 ⟨rfl, hb9⟩
      have hpw9 := hpw.kept (hb9.block N8 l8) (hb9.block N lN8)
      refine hK.out _ _ hpw9 (fun hHeld => ?_)
      clear hK K
      refine wpAnyH_ready (rs := [8]) (by kernel_rfl) (by simp) ?_
      refine AllReadyH.cons rfl (fun K hK => ?_) AllReadyH.nil
      go_simp
      refine (sizeX_any (ptL laced p) (ptL_ok laced p).1 (ptL_ok laced p).2.1 (ptL_ok laced p).2.2 W0 H0 hW0 hH0 hW1 hH1 _).mono ?_
      rintro e w10 ⟨rfl, hb10⟩
      rw [← HWW.out, ← HHH.out]
      have hpw10 := hpw9.kept (hb10.block N8 (Nat.lt_of_lt_of_le l8 hb9.size)) (hb10.block N (Nat.lt_of_lt_of_le lN8 hb9.size))
      refine hK.out _ _ hpw10 (fun hHeld => ?_)
      clear hK K
      refine take_at 9 (some 85) (v := ?_) rfl rfl (by kernel_rfl) (by kernel_rfl) (by kernel_rfl) (fun _ _ _ h => h) (Or.inl ⟨by rfl, ?_⟩) (by assumption) ?_
      rotate_left
      · intro w hSw
        (try dsimp only at hSw)
        go_simp
        first | done | with_reducible rfl
      simp only [Act.put, List.setIfInBounds_toArray, List.set_cons_succ, List.set_cons_zero]
      refine take_at 10 (some 95) (v := ?_) rfl rfl (by kernel_rfl) (by kernel_rfl) (by kernel_rfl) (fun _ _ _ h => h) (Or.inl ⟨by rfl, ?_⟩) (by assumption) ?_
      rotate_left
      · intro w hSw
        (try dsimp only at hSw)
        go_simp
        first | done | with_reducible rfl
      simp only [Act.put, List.setIfInBounds_toArray, List.set_cons_succ, List.set_cons_zero]
      refine take_at 11 (some 96) (v := ?_) rfl rfl (by kernel_rfl) (by kernel_rfl) (by kernel_rfl) (fun _ _ _ h => h) (Or.inl ⟨by rfl, ?_⟩) (by assumption) ?_
      rotate_left
      · intro w hSw
        (try dsimp only at hSw)
        go_simp
        first | done | with_reducible rfl
      simp only [Act.put, List.setIfInBounds_toArray, List.set_cons_succ, List.set_cons_zero]
      refine take_at 12 (some 19) (v := ?_) rfl rfl (by kernel_rfl) (by kernel_rfl) (by kernel_rfl) (fun _ _ _ h => h) (Or.inl ⟨by rfl, ?_⟩) (by assumption) ?_
      rotate_left
      · intro w hSw
        (try dsimp only at hSw)
        go_simp
        first | done | with_reducible rfl
      simp only [Act.put, List.setIfInBounds_toArray, List.set_cons_succ, List.set_cons_zero]
      refine take_at 13 (some 20) (v := ?_) rfl rfl (by kernel_rfl) (by kernel_rfl) (by kernel_rfl) (fun _ _ _ h => h) (Or.inl ⟨by rfl, ?_⟩) (by assumption) ?_
      rotate_left
      · intro w hSw
        (try dsimp only at hSw)
        go_simp
        first | done | with_reducible rfl
      simp only [Act.put, List.setIfInBounds_toArray, List.set_cons_succ, List.set_cons_zero]
      refine wpAnyH_done (by kernel_rfl) ?_ _
      have h810 : Below w8.heap.size w8 w10 := (undrew hb9).trans (hb10.mono hb9.size)
      have HB10 : Hid (Below w.heap.size w w10) := Lib.hid (HB8.out.trans (h810.mono HB8.out.size))
      have HR10 := Lib.hid (HR8.out.below h810)
      have HSS10 := Lib.hid (HSS8.out.below h810)
      have HP10 := Lib.hid (HP8.out.below h810)
      have HPW := Lib.hid hpw10
      have l10 : N8 < w10.heap.size ∧ N < w10.heap.size := by have := h810.size; omega
      have L10 := Lib.hid l10
      clear hb9 hb10 hpw hpw9 hpw10 hHeld h810 l10
      obtain ⟨c0, c1, c2, c3, c4, c5, c6, c7'⟩ := HPW.out.pc
      have hz1 : ((W : Int) == 0) = false := by simp; omega
      have l8' : N8 < w10.heap.size := L10.out.1
      have HN7 : Hid (n7 = H * Sx) := Lib.hid (by rw [← hl7.out, picOf_len ok, HRL.out, HSX.out, HKD.out]; rfl)
      go_upto_region 22 with (go_at_call 17; refine (dotsOf_any kd W H Sx n7 c7 an7 ac7 a7 aa7 SS7 (picOf c d [] W R) w10 (by rw [HKD.out]; exact (kindN_le c d false).1) (by rw [HKD.out]; exact (kindN_le c d false).2) hsz.1 hsz.2 HSX HN7 hl7 HR10.out hc7 HSS10 (fun h b hb => by rw [HS7Q.out h]; exact HPB.out (by rw [← HKD.out]; exact h) W R b hb) han7).mono ?_; rintro e w11 ⟨v11, rfl, ho11, hb11⟩; obtain ⟨a11, c11, rfl, hP11⟩ := ho11.palD)
      have hpw11 := HPW.out.kept (hb11.block N8 L10.out.1) (hb11.block N L10.out.2)
      have heq : (List.range (H * W)).map (dotAt kd (SS7.map dtS) (nK kd) W Sx (picOf c d [] W R)) = want := by
        have h := dots_one ok (clear := []) ⟨.inl rfl, by simp⟩ (S.map dtS) (SS7.map dtS) (fun h => by rw [HS7Q.out (by rw [HKD.out]; exact h)]) (W := W) HRL.out
        rw [HWA.out, HSX.out, HKD.out, HND.out, HSA.out]
        exact h
      rw [← HND.out]
      rw [heq] at hP11
      have HP11 := Lib.hid hP11
      have HPW11 := Lib.hid hpw11
      have HP12 := Lib.hid (HP10.out.below hb11)
      have HB11 : Hid (Below w.heap.size w w11) := Lib.hid (HB10.out.trans (hb11.mono HB10.out.size))
      have hv1 : IntKind.i64.wrap (W : Int) = (W : Int) := i64_in _ ⟨by omega, by omega⟩
      have hv2 : IntKind.i64.wrap (H : Int) = (H : Int) := i64_in _ ⟨by omega, by omega⟩
      clear hP11 hpw11 heq ho11 hb11 c0 c1 c2 c3 c4 c5 c6 c7'
      have hKK : ∀ w, Calls Tryz.prog 18 #[.int .i64 (c : Int), .int .i64 (d : Int), .bool false] w fun e w' => e = .returned (.int .i64 (kd : Int)) ∧ w' = w := by rw [HKD.out]; exact kindOf_any c d ok false
      have HKK := Lib.hid hKK
      clear hKK
      have hpwd : PwAt N8 N kd W H Sx (.slice a7 n7 c7) (.slice aa7 an7 ac7) W0 H0 d c laced w11.drew := HPW11.out.kept rfl rfl
      refine wp_region_held_drew (S := fun w' => PwAt N8 N kd W H Sx (.slice a7 n7 c7) (.slice aa7 an7 ac7) W0 H0 d c laced w') (by kernel_rfl) hpwd (fun hHeld => ?_)
      refine take_at 0 (some 111) (v := ?_) rfl rfl (by kernel_rfl) (by kernel_rfl) (by kernel_rfl) (fun _ _ _ h => h) (Or.inl ⟨by rfl, ?_⟩) (by assumption) ?_
      rotate_left
      · intro w hSw
        obtain ⟨⟨p0, p1, p2, p3, p4, p5, p6, p7⟩, ⟨c0, c1, c2, c3, c4⟩⟩ := hSw
        go_simp
        first | done | with_reducible rfl
      simp only [Act.put, List.setIfInBounds_toArray, List.set_cons_succ, List.set_cons_zero]
      refine take_at 1 (some 112) (v := ?_) rfl rfl (by kernel_rfl) (by kernel_rfl) (by kernel_rfl) (fun _ _ _ h => h) (Or.inl ⟨by rfl, ?_⟩) (by assumption) ?_
      rotate_left
      · intro w hSw
        obtain ⟨⟨p0, p1, p2, p3, p4, p5, p6, p7⟩, ⟨c0, c1, c2, c3, c4⟩⟩ := hSw
        go_simp
        first | done | with_reducible rfl
      simp only [Act.put, List.setIfInBounds_toArray, List.set_cons_succ, List.set_cons_zero]
      refine take_at 2 (some 113) (v := ?_) rfl rfl (by kernel_rfl) (by kernel_rfl) (by kernel_rfl) (fun _ _ _ h => h) (Or.inl ⟨by rfl, ?_⟩) (by assumption) ?_
      rotate_left
      · intro w hSw
        obtain ⟨⟨p0, p1, p2, p3, p4, p5, p6, p7⟩, ⟨c0, c1, c2, c3, c4⟩⟩ := hSw
        go_simp
        first | done | with_reducible rfl
      simp only [Act.put, List.setIfInBounds_toArray, List.set_cons_succ, List.set_cons_zero]
      refine take_at 3 (some 114) (v := ?_) rfl rfl (by kernel_rfl) (by kernel_rfl) (by kernel_rfl) (fun _ _ _ h => h) (Or.inl ⟨by rfl, ?_⟩) (by assumption) ?_
      rotate_left
      · intro w hSw
        obtain ⟨⟨p0, p1, p2, p3, p4, p5, p6, p7⟩, ⟨c0, c1, c2, c3, c4⟩⟩ := hSw
        go_simp
        first | done | with_reducible rfl
      simp only [Act.put, List.setIfInBounds_toArray, List.set_cons_succ, List.set_cons_zero]
      refine take_at 4 (some 115) (v := ?_) rfl rfl (by kernel_rfl) (by kernel_rfl) (by kernel_rfl) (fun _ _ _ h => h) (Or.inl ⟨by rfl, ?_⟩) (by assumption) ?_
      rotate_left
      · intro w hSw
        obtain ⟨⟨p0, p1, p2, p3, p4, p5, p6, p7⟩, ⟨c0, c1, c2, c3, c4⟩⟩ := hSw
        go_simp
        first | done | with_reducible rfl
      simp only [Act.put, List.setIfInBounds_toArray, List.set_cons_succ, List.set_cons_zero]
      refine take_at 5 (some 116) (v := ?_) rfl rfl (by kernel_rfl) (by kernel_rfl) (by kernel_rfl) (fun _ _ _ h => h) (Or.inl ⟨by rfl, ?_⟩) (by assumption) ?_
      rotate_left
      · intro w hSw
        obtain ⟨⟨p0, p1, p2, p3, p4, p5, p6, p7⟩, ⟨c0, c1, c2, c3, c4⟩⟩ := hSw
        go_simp
        first | done | with_reducible rfl
      simp only [Act.put, List.setIfInBounds_toArray, List.set_cons_succ, List.set_cons_zero]
      refine take_at 6 (some 117) (v := ?_) rfl rfl (by kernel_rfl) (by kernel_rfl) (by kernel_rfl) (fun _ _ _ h => h) (Or.inl ⟨by rfl, ?_⟩) (by assumption) ?_
      rotate_left
      · intro w hSw
        obtain ⟨⟨p0, p1, p2, p3, p4, p5, p6, p7⟩, ⟨c0, c1, c2, c3, c4⟩⟩ := hSw
        go_simp
        first | done | with_reducible rfl
      simp only [Act.put, List.setIfInBounds_toArray, List.set_cons_succ, List.set_cons_zero]
      refine take_at 7 (some 118) (v := ?_) rfl rfl (by kernel_rfl) (by kernel_rfl) (by kernel_rfl) (fun _ _ _ h => h) (Or.inl ⟨by rfl, ?_⟩) (by assumption) ?_
      rotate_left
      · intro w hSw
        obtain ⟨⟨p0, p1, p2, p3, p4, p5, p6, p7⟩, ⟨c0, c1, c2, c3, c4⟩⟩ := hSw
        go_simp
        first | done | with_reducible rfl
      simp only [Act.put, List.setIfInBounds_toArray, List.set_cons_succ, List.set_cons_zero]
      refine take_at 8 (some 119) (v := ?_) rfl rfl (by kernel_rfl) (by kernel_rfl) (by kernel_rfl) (fun _ _ _ h => h) (Or.inl ⟨by rfl, ?_⟩) (by assumption) ?_
      rotate_left
      · intro w hSw
        obtain ⟨⟨p0, p1, p2, p3, p4, p5, p6, p7⟩, ⟨c0, c1, c2, c3, c4⟩⟩ := hSw
        go_simp
        first | done | with_reducible rfl
      simp only [Act.put, List.setIfInBounds_toArray, List.set_cons_succ, List.set_cons_zero]
      refine take_at 9 (some 120) (v := ?_) rfl rfl (by kernel_rfl) (by kernel_rfl) (by kernel_rfl) (fun _ _ _ h => h) (Or.inl ⟨by rfl, ?_⟩) (by assumption) ?_
      rotate_left
      · intro w hSw
        obtain ⟨⟨p0, p1, p2, p3, p4, p5, p6, p7⟩, ⟨c0, c1, c2, c3, c4⟩⟩ := hSw
        go_simp
        first | done | with_reducible rfl
      simp only [Act.put, List.setIfInBounds_toArray, List.set_cons_succ, List.set_cons_zero]
      refine take_at 10 (some 121) (v := ?_) rfl rfl (by kernel_rfl) (by kernel_rfl) (by kernel_rfl) (fun _ _ _ h => h) (Or.inl ⟨by rfl, ?_⟩) (by assumption) ?_
      rotate_left
      · intro w hSw
        obtain ⟨⟨p0, p1, p2, p3, p4, p5, p6, p7⟩, ⟨c0, c1, c2, c3, c4⟩⟩ := hSw
        go_simp
        first | done | with_reducible rfl
      simp only [Act.put, List.setIfInBounds_toArray, List.set_cons_succ, List.set_cons_zero]
      refine take_at 11 (some 122) (v := ?_) rfl rfl (by kernel_rfl) (by kernel_rfl) (by kernel_rfl) (fun _ _ _ h => h) (Or.inl ⟨by rfl, ?_⟩) (by assumption) ?_
      rotate_left
      · intro w hSw
        obtain ⟨⟨p0, p1, p2, p3, p4, p5, p6, p7⟩, ⟨c0, c1, c2, c3, c4⟩⟩ := hSw
        go_simp
        first | done | with_reducible rfl
      simp only [Act.put, List.setIfInBounds_toArray, List.set_cons_succ, List.set_cons_zero]
      refine take_at 12 (some 123) (v := ?_) rfl rfl (by kernel_rfl) (by kernel_rfl) (by kernel_rfl) (fun _ _ _ h => h) (Or.inl ⟨by rfl, ?_⟩) (by assumption) ?_
      rotate_left
      · intro w hSw
        obtain ⟨⟨p0, p1, p2, p3, p4, p5, p6, p7⟩, ⟨c0, c1, c2, c3, c4⟩⟩ := hSw
        go_simp
        first | done | with_reducible rfl
      simp only [Act.put, List.setIfInBounds_toArray, List.set_cons_succ, List.set_cons_zero]
      refine take_at 13 (some 124) (v := ?_) rfl rfl (by kernel_rfl) (by kernel_rfl) (by kernel_rfl) (fun _ _ _ h => h) (Or.inl ⟨by rfl, ?_⟩) (by assumption) ?_
      rotate_left
      · intro w hSw
        obtain ⟨⟨p0, p1, p2, p3, p4, p5, p6, p7⟩, ⟨c0, c1, c2, c3, c4⟩⟩ := hSw
        go_simp
        first | done | with_reducible rfl
      simp only [Act.put, List.setIfInBounds_toArray, List.set_cons_succ, List.set_cons_zero]
      refine take_at 14 (some 125) (v := ?_) rfl rfl (by kernel_rfl) (by kernel_rfl) (by kernel_rfl) (fun _ _ _ h => h) (Or.inl ⟨by rfl, ?_⟩) (by assumption) ?_
      rotate_left
      · intro w hSw
        obtain ⟨⟨p0, p1, p2, p3, p4, p5, p6, p7⟩, ⟨c0, c1, c2, c3, c4⟩⟩ := hSw
        go_simp
        first | done | with_reducible rfl
      simp only [Act.put, List.setIfInBounds_toArray, List.set_cons_succ, List.set_cons_zero]
      refine take_at 15 (some 126) (v := ?_) rfl rfl (by kernel_rfl) (by kernel_rfl) (by kernel_rfl) (fun _ _ _ h => h) (Or.inl ⟨by rfl, ?_⟩) (by assumption) ?_
      rotate_left
      · intro w hSw
        obtain ⟨⟨p0, p1, p2, p3, p4, p5, p6, p7⟩, ⟨c0, c1, c2, c3, c4⟩⟩ := hSw
        go_simp
        first | done | with_reducible rfl
      simp only [Act.put, List.setIfInBounds_toArray, List.set_cons_succ, List.set_cons_zero]
      refine take_at 16 (some 127) (v := ?_) rfl rfl (by kernel_rfl) (by kernel_rfl) (by kernel_rfl) (fun _ _ _ h => h) (Or.inl ⟨by rfl, ?_⟩) (by assumption) ?_
      rotate_left
      · intro w hSw
        obtain ⟨⟨p0, p1, p2, p3, p4, p5, p6, p7⟩, ⟨c0, c1, c2, c3, c4⟩⟩ := hSw
        go_simp
        first | done | with_reducible rfl
      simp only [Act.put, List.setIfInBounds_toArray, List.set_cons_succ, List.set_cons_zero]
      refine take_at 17 (some 128) (v := ?_) rfl rfl (by kernel_rfl) (by kernel_rfl) (by kernel_rfl) (fun _ _ _ h => h) (Or.inl ⟨by rfl, ?_⟩) (by assumption) ?_
      rotate_left
      · intro w hSw
        obtain ⟨⟨p0, p1, p2, p3, p4, p5, p6, p7⟩, ⟨c0, c1, c2, c3, c4⟩⟩ := hSw
        go_simp
        first | done | with_reducible rfl
      simp only [Act.put, List.setIfInBounds_toArray, List.set_cons_succ, List.set_cons_zero]
      refine take_at 18 (some 129) (v := ?_) rfl rfl (by kernel_rfl) (by kernel_rfl) (by kernel_rfl) (fun _ _ _ h => h) (Or.inl ⟨by rfl, ?_⟩) (by assumption) ?_
      rotate_left
      · intro w hSw
        obtain ⟨⟨p0, p1, p2, p3, p4, p5, p6, p7⟩, ⟨c0, c1, c2, c3, c4⟩⟩ := hSw
        go_simp
        first | done | with_reducible rfl
      simp only [Act.put, List.setIfInBounds_toArray, List.set_cons_succ, List.set_cons_zero]
      refine take_at 19 (some 130) (v := ?_) rfl rfl (by kernel_rfl) (by kernel_rfl) (by kernel_rfl) (fun _ _ _ h => h) (Or.inl ⟨by rfl, ?_⟩) (by assumption) ?_
      rotate_left
      · intro w hSw
        obtain ⟨⟨p0, p1, p2, p3, p4, p5, p6, p7⟩, ⟨c0, c1, c2, c3, c4⟩⟩ := hSw
        go_simp
        first | done | with_reducible rfl
      simp only [Act.put, List.setIfInBounds_toArray, List.set_cons_succ, List.set_cons_zero]
      refine take_at 20 (some 131) (v := ?_) rfl rfl (by kernel_rfl) (by kernel_rfl) (by kernel_rfl) (fun _ _ _ h => h) (Or.inl ⟨by rfl, ?_⟩) (by assumption) ?_
      rotate_left
      · intro w hSw
        obtain ⟨⟨p0, p1, p2, p3, p4, p5, p6, p7⟩, ⟨c0, c1, c2, c3, c4⟩⟩ := hSw
        go_simp
        first | done | with_reducible rfl
      simp only [Act.put, List.setIfInBounds_toArray, List.set_cons_succ, List.set_cons_zero]
      refine take_at 21 (some 132) (v := ?_) rfl rfl (by kernel_rfl) (by kernel_rfl) (by kernel_rfl) (fun _ _ _ h => h) (Or.inl ⟨by rfl, ?_⟩) (by assumption) ?_
      rotate_left
      · intro w hSw
        obtain ⟨⟨p0, p1, p2, p3, p4, p5, p6, p7⟩, ⟨c0, c1, c2, c3, c4⟩⟩ := hSw
        go_simp
        first | done | with_reducible rfl
      simp only [Act.put, List.setIfInBounds_toArray, List.set_cons_succ, List.set_cons_zero]
      refine take_at 22 (some 133) (v := ?_) rfl rfl (by kernel_rfl) (by kernel_rfl) (by kernel_rfl) (fun _ _ _ h => h) (Or.inl ⟨by rfl, ?_⟩) (by assumption) ?_
      rotate_left
      · intro w hSw
        obtain ⟨⟨p0, p1, p2, p3, p4, p5, p6, p7⟩, ⟨c0, c1, c2, c3, c4⟩⟩ := hSw
        go_simp
        first | done | with_reducible rfl
      simp only [Act.put, List.setIfInBounds_toArray, List.set_cons_succ, List.set_cons_zero]
      refine take_at 23 (some 134) (v := ?_) rfl rfl (by kernel_rfl) (by kernel_rfl) (by kernel_rfl) (fun _ _ _ h => h) (Or.inl ⟨by rfl, ?_⟩) (by assumption) ?_
      rotate_left
      · intro w hSw
        obtain ⟨⟨p0, p1, p2, p3, p4, p5, p6, p7⟩, ⟨c0, c1, c2, c3, c4⟩⟩ := hSw
        go_simp
        first | done | with_reducible rfl
      simp only [Act.put, List.setIfInBounds_toArray, List.set_cons_succ, List.set_cons_zero]
      refine take_at 24 (some 135) (v := ?_) rfl rfl (by kernel_rfl) (by kernel_rfl) (by kernel_rfl) (fun _ _ _ h => h) (Or.inl ⟨by rfl, ?_⟩) (by assumption) ?_
      rotate_left
      · intro w hSw
        obtain ⟨⟨p0, p1, p2, p3, p4, p5, p6, p7⟩, ⟨c0, c1, c2, c3, c4⟩⟩ := hSw
        go_simp
        first | done | with_reducible rfl
      simp only [Act.put, List.setIfInBounds_toArray, List.set_cons_succ, List.set_cons_zero]
      refine take_at 25 (some 136) (v := ?_) rfl rfl (by kernel_rfl) (by kernel_rfl) (by kernel_rfl) (fun _ _ _ h => h) (Or.inl ⟨by rfl, ?_⟩) (by assumption) ?_
      rotate_left
      · intro w hSw
        obtain ⟨⟨p0, p1, p2, p3, p4, p5, p6, p7⟩, ⟨c0, c1, c2, c3, c4⟩⟩ := hSw
        go_simp
        first | done | with_reducible rfl
      simp only [Act.put, List.setIfInBounds_toArray, List.set_cons_succ, List.set_cons_zero]
      refine take_at 26 (some 137) (v := ?_) rfl rfl (by kernel_rfl) (by kernel_rfl) (by kernel_rfl) (fun _ _ _ h => h) (Or.inl ⟨by rfl, ?_⟩) (by assumption) ?_
      rotate_left
      · intro w hSw
        obtain ⟨⟨p0, p1, p2, p3, p4, p5, p6, p7⟩, ⟨c0, c1, c2, c3, c4⟩⟩ := hSw
        go_simp
        first | done | with_reducible rfl
      simp only [Act.put, List.setIfInBounds_toArray, List.set_cons_succ, List.set_cons_zero]
      refine take_at 27 (some 138) (v := ?_) rfl rfl (by kernel_rfl) (by kernel_rfl) (by kernel_rfl) (fun _ _ _ h => h) (Or.inl ⟨by rfl, ?_⟩) (by assumption) ?_
      rotate_left
      · intro w hSw
        obtain ⟨⟨p0, p1, p2, p3, p4, p5, p6, p7⟩, ⟨c0, c1, c2, c3, c4⟩⟩ := hSw
        go_simp
        first | done | with_reducible rfl
      simp only [Act.put, List.setIfInBounds_toArray, List.set_cons_succ, List.set_cons_zero]
      refine take_at 28 (some 139) (v := ?_) rfl rfl (by kernel_rfl) (by kernel_rfl) (by kernel_rfl) (fun _ _ _ h => h) (Or.inl ⟨by rfl, ?_⟩) (by assumption) ?_
      rotate_left
      · intro w hSw
        obtain ⟨⟨p0, p1, p2, p3, p4, p5, p6, p7⟩, ⟨c0, c1, c2, c3, c4⟩⟩ := hSw
        go_simp
        first | done | with_reducible rfl
      simp only [Act.put, List.setIfInBounds_toArray, List.set_cons_succ, List.set_cons_zero]
      refine take_at 29 (some 140) (v := ?_) rfl rfl (by kernel_rfl) (by kernel_rfl) (by kernel_rfl) (fun _ _ _ h => h) (Or.inl ⟨by rfl, ?_⟩) (by assumption) ?_
      rotate_left
      · intro w hSw
        obtain ⟨⟨p0, p1, p2, p3, p4, p5, p6, p7⟩, ⟨c0, c1, c2, c3, c4⟩⟩ := hSw
        go_simp
        first | done | with_reducible rfl
      simp only [Act.put, List.setIfInBounds_toArray, List.set_cons_succ, List.set_cons_zero]
      refine take_at 30 (some 141) (v := ?_) rfl rfl (by kernel_rfl) (by kernel_rfl) (by kernel_rfl) (fun _ _ _ h => h) (Or.inl ⟨by rfl, ?_⟩) (by assumption) ?_
      rotate_left
      · intro w hSw
        obtain ⟨⟨p0, p1, p2, p3, p4, p5, p6, p7⟩, ⟨c0, c1, c2, c3, c4⟩⟩ := hSw
        go_simp
        first | done | with_reducible rfl
      simp only [Act.put, List.setIfInBounds_toArray, List.set_cons_succ, List.set_cons_zero]
      refine take_at 31 (some 142) (v := ?_) rfl rfl (by kernel_rfl) (by kernel_rfl) (by kernel_rfl) (fun _ _ _ h => h) (Or.inl ⟨by rfl, ?_⟩) (by assumption) ?_
      rotate_left
      · intro w hSw
        obtain ⟨⟨p0, p1, p2, p3, p4, p5, p6, p7⟩, ⟨c0, c1, c2, c3, c4⟩⟩ := hSw
        go_simp
        first | done | with_reducible rfl
      simp only [Act.put, List.setIfInBounds_toArray, List.set_cons_succ, List.set_cons_zero]
      refine take_at 32 (some 143) (v := ?_) rfl rfl (by kernel_rfl) (by kernel_rfl) (by kernel_rfl) (fun _ _ _ h => h) (Or.inl ⟨by rfl, ?_⟩) (by assumption) ?_
      rotate_left
      · intro w hSw
        obtain ⟨⟨p0, p1, p2, p3, p4, p5, p6, p7⟩, ⟨c0, c1, c2, c3, c4⟩⟩ := hSw
        go_simp
        first | done | with_reducible rfl
      simp only [Act.put, List.setIfInBounds_toArray, List.set_cons_succ, List.set_cons_zero]
      refine wpAnyH_ready (rs := [33]) (by kernel_rfl) (by simp) ?_
      refine AllReadyH.cons rfl (fun K hK => ?_) AllReadyH.nil
      go_simp
      refine (HKK.out _).mono ?_
      rintro e w12 ⟨rfl, rfl⟩
      refine hK.out _ _ hpwd (fun hHeld => ?_)
      clear hK K
      refine take_at 34 (some 145) (v := ?_) rfl rfl (by kernel_rfl) (by kernel_rfl) (by kernel_rfl) (fun _ _ _ h => h) (Or.inl ⟨by rfl, ?_⟩) (by assumption) ?_
      rotate_left
      · intro w hSw
        obtain ⟨⟨p0, p1, p2, p3, p4, p5, p6, p7⟩, ⟨c0, c1, c2, c3, c4⟩⟩ := hSw
        go_simp
        first | done | with_reducible rfl
      simp only [Act.put, List.setIfInBounds_toArray, List.set_cons_succ, List.set_cons_zero]
      refine take_at 35 (some 146) (v := ?_) rfl rfl (by kernel_rfl) (by kernel_rfl) (by kernel_rfl) (fun _ _ _ h => h) (Or.inl ⟨by rfl, ?_⟩) (by assumption) ?_
      rotate_left
      · intro w hSw
        obtain ⟨⟨p0, p1, p2, p3, p4, p5, p6, p7⟩, ⟨c0, c1, c2, c3, c4⟩⟩ := hSw
        go_simp
        first | done | with_reducible rfl
      simp only [Act.put, List.setIfInBounds_toArray, List.set_cons_succ, List.set_cons_zero]
      refine take_at 36 (some 147) (v := ?_) rfl rfl (by kernel_rfl) (by kernel_rfl) (by kernel_rfl) (fun _ _ _ h => h) (Or.inl ⟨by rfl, ?_⟩) (by assumption) ?_
      rotate_left
      · intro w hSw
        obtain ⟨⟨p0, p1, p2, p3, p4, p5, p6, p7⟩, ⟨c0, c1, c2, c3, c4⟩⟩ := hSw
        go_simp
        first | done | with_reducible rfl
      simp only [Act.put, List.setIfInBounds_toArray, List.set_cons_succ, List.set_cons_zero]
      refine take_at 37 (some 148) (v := ?_) rfl rfl (by kernel_rfl) (by kernel_rfl) (by kernel_rfl) (fun _ _ _ h => h) (Or.inl ⟨by rfl, ?_⟩) (by assumption) ?_
      rotate_left
      · intro w hSw
        obtain ⟨⟨p0, p1, p2, p3, p4, p5, p6, p7⟩, ⟨c0, c1, c2, c3, c4⟩⟩ := hSw
        go_simp
        first | done | with_reducible rfl
      simp only [Act.put, List.setIfInBounds_toArray, List.set_cons_succ, List.set_cons_zero]
      refine take_at 38 (some 149) (v := ?_) rfl rfl (by kernel_rfl) (by kernel_rfl) (by kernel_rfl) (fun _ _ _ h => h) (Or.inl ⟨by rfl, ?_⟩) (by assumption) ?_
      rotate_left
      · intro w hSw
        obtain ⟨⟨p0, p1, p2, p3, p4, p5, p6, p7⟩, ⟨c0, c1, c2, c3, c4⟩⟩ := hSw
        go_simp
        first | done | with_reducible rfl
      simp only [Act.put, List.setIfInBounds_toArray, List.set_cons_succ, List.set_cons_zero]
      refine wpAnyH_ready (rs := [39]) (by kernel_rfl) (by simp) ?_
      refine AllReadyH.cons rfl (fun K hK => ?_) AllReadyH.nil
      go_simp
      refine (same_any nd c11 c6 a11 a6 want w11.drew HWL (HP11.out.below (bdrew (Below.refl _ _))) (HP12.out.below (bdrew (Below.refl _ _))) (by omega)).mono ?_
      rintro e w13 ⟨rfl, q, rfl⟩
      have hpw13 := hpwd.kept (w' := w11.drew.drewN q) rfl rfl
      refine hK.out _ _ hpw13 (fun hHeld => ?_)
      clear hK K
      refine take_at 40 (some 151) (v := ?_) rfl rfl (by kernel_rfl) (by kernel_rfl) (by kernel_rfl) (fun _ _ _ h => h) (Or.inl ⟨by rfl, ?_⟩) (by assumption) ?_
      rotate_left
      · intro w hSw
        obtain ⟨⟨p0, p1, p2, p3, p4, p5, p6, p7⟩, ⟨c0, c1, c2, c3, c4⟩⟩ := hSw
        go_simp
        first | done | with_reducible rfl
      simp only [Act.put, List.setIfInBounds_toArray, List.set_cons_succ, List.set_cons_zero]
      refine take_at 41 (some 10) (v := ?_) rfl rfl (by kernel_rfl) (by kernel_rfl) (by kernel_rfl) (fun _ _ _ h => h) (Or.inl ⟨by rfl, ?_⟩) (by assumption) ?_
      rotate_left
      · intro w hSw
        obtain ⟨⟨p0, p1, p2, p3, p4, p5, p6, p7⟩, ⟨c0, c1, c2, c3, c4⟩⟩ := hSw
        go_simp
        first | done | with_reducible rfl
      simp only [Act.put, List.setIfInBounds_toArray, List.set_cons_succ, List.set_cons_zero]
      refine wpAnyH_done (by kernel_rfl) ?_ _
      have HB12 : Hid (Below w.heap.size w (w11.drew.drewN q)) := Lib.hid (bdrewN (bdrew HB11.out) q)
      clear hpwd hpw13 hHeld
      go_wp2_with fail
      go_ret
      exact ⟨rfl, HB12.out⟩
end Go.Proofs.YtkiibhpmembcgaaGreatDoor
