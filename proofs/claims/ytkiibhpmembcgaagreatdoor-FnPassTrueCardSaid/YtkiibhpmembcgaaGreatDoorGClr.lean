/- Clear samples as bytes. Printed by gen/ripk.py. ZZPass where some samples are clear. The thin package's Pass where some samples are clear. Printed by gen/imppassc.py. -/
import Derived.Test.YtkiibhpmembcgaaGreatDoorGRip
import Derived.Test.YtkiibhpmembcgaaGreatDoorZPass
import Derived.Test.YtkiibhpmembcgaaGreatDoorImplPass
namespace Go.Proofs.YtkiibhpmembcgaaGreatDoor
open Go.ChangeShapes Go.WideShapes Go.ChangeAt Go.RowKit Go.IntWalk

/-- The bytes of clear samples, two each; the decoder's six bytes of them. -/
def trB (clear : List Nat) : List UInt8 := clear.flatMap fun v => [UInt8.ofNat (v / 256), UInt8.ofNat v]
def tr6 (clear : List Nat) : List UInt8 := (trB clear ++ List.replicate 6 0).take 6
theorem lo_nat {v : Nat} (h : v < 256) : ((UInt8.ofNat v).toNat : Int) = (v : Int) := by
  rw [UInt8.toNat_ofNat', Nat.mod_eq_of_lt h]
theorem hilo {v : Nat} (h : v < 65536) : (UInt8.ofNat (v / 256)).toNat * 256 + (UInt8.ofNat v).toNat = v := by
  rw [UInt8.toNat_ofNat', UInt8.toNat_ofNat']
  omega
theorem Dec.trc {w : World} {b : Nat} {d : DecV} (h : Dec w b d) (j : Nat) (hj : j < 6) : w.cell? ⟨b, 780 + j, none⟩ = some (.int .u8 ((d.tr.getD j 0).toNat : Int)) := by
  obtain ⟨b', o', e, hc⟩ := h.trAt (by intro e; have := h.trl; rw [e] at this; cases this)
  simp only [Option.some.injEq, Addr.mk.injEq, and_true] at e
  obtain ⟨rfl, rfl⟩ := e
  exact hc j (by rw [h.trl]; exact hj)
end Go.Proofs.YtkiibhpmembcgaaGreatDoor
namespace Go.Proofs.YtkiibhpmembcgaaGreatDoor
open Go.ChangeShapes Go.WideShapes Go.ChangeAt Go.RowKit Go.IntWalk

/-- Bytes are laid over the head of the six. -/
def DecV.clearT (d : DecV) (p : List UInt8) : DecV := { d with tr := p ++ d.tr.drop p.length }
theorem clear_cellsT (d : DecV) (p : List UInt8) (ht : d.tmp.length = 768) : splice d.cells 780 (cellsB p) = (d.clearT p).cells := by
  have e0 : d.cells = (d.pre ++ (cellsB d.tmp ++ [d.lace, d.ut])) ++ cellsB d.tr := by simp [DecV.cells, DecV.post]
  have l0 : (d.pre ++ (cellsB d.tmp ++ [d.lace, d.ut])).length = 780 := by simp [d.pre_length, cellsB_length, ht]
  unfold splice
  rw [e0, List.take_append_of_le_length (by omega), List.take_of_length_le (by omega), List.drop_append, List.drop_of_length_le (by omega), l0, List.nil_append, Nat.add_sub_cancel_left]
  simp [DecV.cells, DecV.post, DecV.pre, DecV.clearT, cellsB]
set_option maxHeartbeats 3200000 in
set_option maxRecDepth 100000 in
theorem zzPass_clear (T Ti : TypeId) (W0 H0 c d : Nat) (clear : List Nat) (laced : Bool) (p k dp : Nat) (l : List UInt8) (m mc B pn pc : Nat) (ad pa : Option Addr) (more : List Value) (w : World) (hin : ZpIn W0 H0 c d p l m mc B ad w) (hnil : ad = none → m = 0 ∧ mc = 0) (hspot : ∀ a, ad = some a → a.spot = none)
    (hlt : ∀ a, ad = some a → a.block < w.heap.size) (tb to_ tn tc : Nat) (htn : Hid ((trB clear).length = tn)) (ht1 : 1 ≤ tn) (ht6 : tn ≤ 6) (hrt : RB w (some ⟨tb, to_, none⟩) (trB clear))
    (hrip : RipOk T Ti W0 H0 c d clear laced p k l m mc B more (fun dv w' => Below w.heap.size w w' ∧ dv.dp = .int .i64 (dp : Int) ∧ dv.ut = .bool true ∧ dv.tr = tr6 clear)) :
    Calls Tryz.prog 27 #[.slice ad m mc, .int .i64 (W0 : Int), .int .i64 (H0 : Int), .int .i64 (k : Int), .int .i64 (dp : Int), .bool laced, .int .i64 (p : Int), .slice pa pn pc, .slice (some ⟨tb, to_, none⟩) tn tc] w (PassEnd T Ti W0 H0 c d clear laced p l more w) := by
  obtain ⟨b, hb⟩ : ∃ b, b = w.heap.size := ⟨_, rfl⟩
  obtain ⟨w1, hw1⟩ : ∃ w1, w1 = w.alloc (.cells (dPc W0 H0 k dp (.slice pa pn pc)) 88) := ⟨_, rfl⟩
  have hr1 : w1.heap[b]? = some (.cells (dPc W0 H0 k dp (.slice pa pn pc)) 88 (0, 0)) := by rw [hw1, hb]; exact alloc_at w _
  have hb1 : Below w.heap.size w w1 := hw1 ▸ (Below.refl _ _).alloc (Nat.le_refl _) _
  have hz1 : w1.heap.size = b + 1 := by rw [hw1, size_alloc, hb]
  have hd1 := start_dP _ _ _ _ _ b w1 hr1
  have hlt1 : b < w1.heap.size := by omega
  -- behind 'if interlaced'
  obtain ⟨w2, hw2⟩ : ∃ w2, w2 = if laced then w1.setCell ⟨b, 778, none⟩ (.int .i64 1) else w1 := ⟨_, rfl⟩
  have hon : Only b w1 w2 := by
    rw [hw2]
    split
    · exact (Only.refl _ _).setCell _ _
    · exact Only.refl _ _
  have hd2 : Dec w2 b { dP W0 H0 k dp (.slice pa pn pc) with lace := .int .i64 (if laced then 1 else 0) } := by
    rw [hw2]
    cases laced
    · exact hd1
    · exact hd1.setPost 778 0 (.int .i64 1) _ rfl rfl rfl rfl List.length_replicate
  have hb2 : Below w.heap.size w w2 := hb1.trans (hon.below (by omega))
  have hz2 : w2.heap.size = b + 1 := by rw [hon.size, hz1]
  obtain ⟨D2, hD2⟩ : ∃ D2 : DecV, D2 = { dP W0 H0 k dp (.slice pa pn pc) with lace := .int .i64 (if laced then 1 else 0) } := ⟨_, rfl⟩
  rw [← hD2] at hd2
  have hlen2 : D2.cells.length = 786 := by
    have h1 := hd2.tl
    have h2 := hd2.trl
    simp [DecV.cells, DecV.post, DecV.pre_length, cellsB_length, h1, h2]
  obtain ⟨w5, hw5⟩ : ∃ w5, w5 = w2.setRow b (D2.cells.toArray.toList.take 780 ++ (cellsB (trB clear) ++ D2.cells.toArray.toList.drop (780 + (cellsB (trB clear)).length))).toArray := ⟨_, rfl⟩
  have on5 : Only b w2 w5 := hw5 ▸ only_setRow w2 b _
  have hd5 : Dec w5 b (D2.clearT (trB clear)) := by
    refine ⟨?_, hd2.tl, ?_⟩
    · rw [hw5, setRow_heap w2 b _ _ _ _ hd2.row, ← clear_cellsT D2 (trB clear) hd2.tl]
      rfl
    · have h1 := hd2.trl
      have h2 := htn.out
      simp [DecV.clearT, h1, h2]; omega
  obtain ⟨w6, hw6⟩ : ∃ w6, w6 = w5.setCell ⟨b, 779, none⟩ (.bool true) := ⟨_, rfl⟩
  have on6 : Only b w5 w6 := hw6 ▸ (Only.refl _ _).setCell _ _
  have hd6 : Dec w6 b { D2.clearT (trB clear) with ut := .bool true } := hw6 ▸ hd5.setPost 779 1 (.bool true) _ rfl rfl rfl rfl hd5.trl
  have hb6 : Below w.heap.size w w6 := (hb2.trans (on5.below (by omega))).trans (on6.below (by omega))
  have hz6 : w6.heap.size = b + 1 := by rw [on6.size, on5.size, hz2]
  have htr : (D2.clearT (trB clear)).tr = tr6 clear := by
    have e : D2.tr = List.replicate 6 0 := by rw [hD2]; rfl
    rw [DecV.clearT, e, tr6]
    have h2 := htn.out
    rw [List.take_append, List.take_of_length_le (by omega), List.drop_replicate, List.take_replicate, Nat.min_eq_left (Nat.sub_le _ _)]
  obtain ⟨w3, hw3⟩ : ∃ w3, w3 = w6.alloc (.cells #[.slice ad m mc, .int .i64 0, .int .i64 (-1)] 147) := ⟨_, rfl⟩
  have hb3 : Below w.heap.size w w3 := hw3 ▸ hb6.alloc hb6.size _
  have hz3 : w3.heap.size = b + 2 := by rw [hw3, size_alloc, hz6]
  have hb23 : Below w6.heap.size w6 w3 := hw3 ▸ (Below.refl _ _).alloc (Nat.le_refl _) _
  have hr3 : w3.heap[w6.heap.size]? = some (.cells #[.slice ad m mc, .int .i64 0, .int .i64 (-1)] 147 (0, 0)) := hw3 ▸ alloc_at w6 _
  have hrt2 := hrt.below hb2
  have hpos := hin.eofs.pos
  obtain ⟨sb, so, hsb, hsrc, hlts⟩ : ∃ sb so, (0 < m → ad = some ⟨sb, so, none⟩) ∧ RB w (some ⟨sb, so, none⟩) l ∧ sb < w.heap.size := by
    cases ad with
    | none =>
      have e : l = [] := List.eq_nil_of_length_eq_zero (by rw [hin.hl]; exact (hnil rfl).1)
      exact ⟨0, 0, fun h => by have := (hnil rfl).1; omega, by rw [e]; exact RB.nil _ _, hpos⟩
    | some a =>
      obtain ⟨ab, ao, asp⟩ := a
      obtain rfl : asp = none := hspot _ rfl
      exact ⟨ab, ao, fun _ => rfl, hin.src, hlt _ rfl⟩
  have hnb := hin.nB
  have hripin : RipIn T b W0 H0 c d laced p k l w6.heap.size sb so m mc B { D2.clearT (trB clear) with ut := .bool true } w3 :=
    { ok := hin.ok, dec := hd6.below hb23 (by omega), wd := by rw [hD2]; rfl, ht := by rw [hD2]; rfl, cb := by rw [hD2]; rfl, lace := by rw [hD2]; rfl, hW0 := hin.hW0, hH0 := hin.hH0, hW1 := hin.hW1, hH1 := hin.hH1, hp := hin.hp, inter := hin.inter.below hb3, hl := hin.hl, hm := hin.hm, hmc := hin.hmc,
      src := hsrc.below hb3, srclt := by omega, rd := ⟨-1, ad, hsb, hr3⟩, eofs := hin.eofs.below hb3, nB := by omega, nbR := by omega, nsR := by omega }
  have HC := hrip b w6.heap.size sb so _ w3 hripin ⟨hb3, by rw [hD2]; rfl, rfl, htr⟩
  have HCC := Lib.hid HC
  have HB3 := Lib.hid hb3
  have hz : w.heap.size ≤ w6.heap.size := by omega
  have HZ := Lib.hid hz
  have HW1 := Lib.hid hw1
  have HW3 := Lib.hid hw3
  have HW2 := Lib.hid hw2
  have HB := Lib.hid hb
  have hfr : w1.frozen? ⟨b, 778, none⟩ = false := hd1.frozen 778
  have hcl : w1.cell? ⟨b, 778, none⟩ = some (.int .i64 0) := hd1.lace
  have hn1 := neq_some ⟨tb, to_, none⟩ tn tc w2
  have HD2 := Lib.hid hd2.row
  have HSRC := Lib.hid (src_of hrt2)
  have HLEN := Lib.hid hlen2
  have HW5 := Lib.hid hw5
  have HW6 := Lib.hid hw6
  have fu := hd5.frozen 779
  have cu := hd5.ut
  have hlt5 : b < w5.heap.size := by rw [on5.size]; omega
  have hlt2 : b < w2.heap.size := by omega
  clear hd5 hd6 on5 on6 hb6 hz6 htr hrt hrt2 hlen2 hw5 hw6 hin
  clear HC hrip hripin hd1 hd2 hb1 hb2 hb3 hr1 hr3 hz hz1 hz2 hz3 hon hb23 hw1 hw2 hw3 hb hsb hsrc
  go_enter Tryz.func27, Tryz.ntmps27
  go_upto_region 2 with (refine wpList_build_given rfl 88 #[(3, .tmp 21), (4, .tmp 22), (7, .tmp 23), (5, .tmp 24), (6, .tmp 25)] rfl #[(3, .int .i64 (W0 : Int)), (4, .int .i64 (H0 : Int)), (7, .int .i64 (k : Int)), (5, .int .i64 (dp : Int)), (6, .slice pa pn pc)] (.agg (dPc W0 H0 k dp (.slice pa pn pc))) ?_ (build_pass W0 H0 k dp pa pn pc _) ?_; (· simp [Act.eval]))
  rw [← HW1.out, ← HB.out]
  have e2 : (if laced then w1.setCell ⟨b, 778, none⟩ (.int .i64 1) else w1) = w2 := HW2.out.symm
  cases laced
  all_goals
    simp only [if_true, Bool.false_eq_true, if_false] at e2
    have E2 := Lib.hid e2
    clear e2
    go_upto_region 4 with fail
    rw [E2.out]
    clear hfr hcl
    go_upto_region 6 with (refine wpList_copy_own rfl (.tmp 37) (.tmp 38) 23 23 rfl 5 (by kernel_rfl) (by kernel_rfl) b 780 6 6 ⟨tb, to_, none⟩ tn tc rfl rfl D2.cells.toArray 88 HD2.out (cellsB (trB clear)) (by rw [cellsB_length, htn.out]; exact (Nat.min_eq_left ht6).symm) HSRC.out (by rw [cellsB_length, htn.out]; simp [HLEN.out]; omega) (cellsB_one _) ?_)
    rw [← HW5.out, cellsB_length, htn.out]
    go_upto_region 7 with fail
    rw [← HW6.out]
    go_wp2_with (first
      | (go_at_call 34; refine (newReader_any ad m mc _).mono ?_; rintro e w' ⟨rfl, rfl⟩; rw [← HW3.out])
      | (go_at_call 33; refine HCC.out.mono ?_; rintro e w4 hend; obtain ⟨v1, v2, rfl⟩ := (hend.pass HB3.out HZ.out).shape; have HE := Lib.hid (hend.pass HB3.out HZ.out); clear hend))
    go_ret2
    exact HE.out
end Go.Proofs.YtkiibhpmembcgaaGreatDoor
namespace Go.Proofs.YtkiibhpmembcgaaGreatDoor
open Go.ChangeShapes Go.WideShapes Go.ChangeAt Go.RowKit Go.IntWalk

set_option maxHeartbeats 3200000 in
set_option maxRecDepth 100000 in
theorem implPass_clr (T Ti : TypeId) (kd W0 H0 c d : Nat) (clear : List Nat) (laced : Bool) (p k : Nat) (l : List UInt8) (m mc B pn pcap bn bc : Nat) (ad ap ba : Option Addr) (S : List Sh) (more : Value → List Value) (pre : Value → World → Prop) (avok : Nat → Value → World → Prop) (w : World)
    (hbl : Hid ((trB clear).length = bn)) (hbr : RB w ba (trB clear)) (hb4 : ba = none → bn = 0 ∧ bc = 0) (hb1 : 1 ≤ bn) (hb6 : bn ≤ 6) (hin : ZpIn W0 H0 c d p l m mc B ad w) (hnil : ad = none → m = 0 ∧ mc = 0) (hS : InS w ap pn pcap S) (hpn : pn ≤ 1000) (hk : rk (100 * c + d) = k) (hk0 : k ≠ 0) (hcd : c ≤ 255 ∧ d ≤ 255)
    (hneq : ∀ (p : Option Addr) (w : World), (binOp .eql 67 (.iface Ti (.pointer p)) .nilIface).run Tryz.prog w = .ok (.bool false) w)
    (hrip : ∀ mc' pa n c', RipOk T Ti W0 H0 c d clear laced p k l m mc' B (more (.slice pa n c')) (fun dv _ => dv.dp = .int .i64 (d : Int) ∧ dv.ut = .bool true ∧ dv.tr = tr6 clear))
    (hpre : ∀ v w w', pre v w → Below w.heap.size w w' → pre v w') (hpal : ∀ v w', w'.ownsRow w.heap.size 149 1 v pn (S.map ngV) → pre v w')
    (hav : ∀ b b' v w, b' ≤ b → avok b v w → avok b' v w) (hav2 : ∀ b v w w' N, avok b v w → Only N w w' → N < b → avok b v w') (hpic : PicOk T Ti kd more pre avok) :
    Calls Tryz.prog 14 #[.slice ad m mc, .int .i64 (W0 : Int), .int .i64 (H0 : Int), .int .i64 (c : Int), .int .i64 (d : Int), .bool laced, .int .i64 (p : Int), .slice ap pn pcap, .slice ba bn bc] w (IpEnd kd W0 H0 c d clear laced p l avok w) := by
  have HBR := Lib.hid hbr
  have HB4 := Lib.hid hb4
  have bp0 : (0 : Int) < (bn : Int) := by omega
  have bp1 : 0 < bn := by omega
  clear hbr hb4
  obtain ⟨N, hN⟩ : ∃ N, N = w.heap.size := ⟨_, rfl⟩
  obtain ⟨w1, hw1⟩ : ∃ w1, w1 = w.alloc (.cells #[.int .i64 0, .int .i64 0, .int .i64 0, .int .i64 0, .int .i64 0, .int .i64 0, .slice none 0 0, .slice none 0 0] 43) := ⟨_, rfl⟩
  have hb1 : Below w.heap.size w w1 := hw1 ▸ (Below.refl _ _).alloc (Nat.le_refl _) _
  have hz1 : w1.heap.size = N + 1 := by rw [hw1, size_alloc, hN]
  have hg1 : w1.heap[N]? = some (.cells #[.int .i64 0, .int .i64 0, .int .i64 0, .int .i64 0, .int .i64 0, .int .i64 0, .slice none 0 0, .slice none 0 0] 43 (0, 0)) := by rw [hw1, hN]; exact alloc_at _ _
  have hk15 : k ≤ 15 := hk ▸ rk_le _
  have kz : ((k : Int) == 0) = false := by simp; omega
  have HK : ∀ w, Calls Tryz.prog 25 #[.int .i64 (c : Int), .int .i64 (d : Int)] w fun e w' => e = .returned (.int .i64 (k : Int)) ∧ w = w' := by rw [← hk]; exact rowKind_any c d hcd.1 hcd.2
  have HKK := Lib.hid HK
  have HL : Hid (l.length = m) := Lib.hid hin.hl
  have HIN := Lib.hid hin
  have HSS := Lib.hid hS
  have HW1 := Lib.hid hw1
  have HB1 := Lib.hid hb1
  have HG1 := Lib.hid hg1
  have HN := Lib.hid hN
  have HRIP := Lib.hid hrip
  have HPRE := Lib.hid hpre
  have HPAL := Lib.hid hpal
  have HAV := Lib.hid hav
  have HAV2 := Lib.hid hav2
  have HPIC := Lib.hid hpic
  have HZ1 := Lib.hid hz1
  have hm := hin.hm
  have hlt1 : N < w1.heap.size := by omega
  clear HK hin hS hw1 hb1 hg1 hN hrip hpre hpal hav hav2 hpic hz1 hk
  go_enter Tryz.func14, Tryz.ntmps14
  go_upto_region 1 with fail
  rw [← HW1.out, ← HN.out]
  go_upto_region 5 with (go_at_call 25; refine (HKK.out _).mono ?_; rintro e w' ⟨rfl, rfl⟩)
  go_upto_region 7 with (go_at_call 26; refine (clone_any ba bn bc (trB clear) hbl w1 (by omega) (HBR.out.below HB1.out) HB4.out).mono ?_; rintro e wA ⟨vA, rfl, hoA, hbA, -⟩; obtain ⟨ta, tn, tc, rfl, htl, htr, htc, -, htnil, htsome⟩ := hoA.shapeN)
  obtain rfl : bn = tn := hbl.out.symm.trans htl.out
  cases ta with
  | none => have := (htnil rfl).1; omega
  | some ta =>
  obtain ⟨tb, to_, tsp⟩ := ta
  obtain ⟨-, htb, rfl, rfl⟩ := htsome _ rfl
  simp only at htb
  have HB1A := Lib.hid (HB1.out.trans (hbA.mono HB1.out.size))
  have HGA := Lib.hid ((hbA.block N (by have := HZ1.out; omega)).trans HG1.out)
  have hzA : N + 1 ≤ wA.heap.size := by have := hbA.size; have := HZ1.out; omega
  have hltA : N < wA.heap.size := by omega
  have HTR := Lib.hid htr
  clear htl htr htnil htsome hoA hbA HB1 HG1 hlt1
  have HB1 := HB1A
  have HG1 := HGA
  have HZ1 : Hid (N + 1 ≤ wA.heap.size) := Lib.hid hzA
  clear HB1A HGA hzA
  obtain ⟨w1, rfl⟩ : ∃ q, q = wA := ⟨_, rfl⟩
  go_upto_region 8 with (first
    | (go_at_call 26; refine (clone_any ad m mc l HL w1 (by omega) (HIN.out.src.below HB1.out) hnil).mono ?_; rintro e w2 ⟨v2, rfl, ho2, hb2, -⟩; obtain ⟨a2, n2, c2, rfl, hl2, hr2, hc2, -, hnil2, hsome2⟩ := ho2.shapeN; obtain rfl : m = n2 := (HL.out.symm.trans hl2.out); have HB2 := Lib.hid (HB1.out.trans (hb2.mono HB1.out.size)); have HR2 := Lib.hid hr2; have HSM := Lib.hid hsome2; have HZ2 := Lib.hid hb2.size; have HB12 := Lib.hid hb2; have HG2 := Lib.hid ((hb2.block N (by have := HZ1.out; omega)).trans HG1.out); clear hr2 hsome2 hb2 ho2)
    | (go_at_call 28; refine (paletteOf_any ap pn pcap S w2 (Lib.hid (HSS.out.below HB2.out)) hpn).mono ?_; rintro e w3 ⟨v3, rfl, ho3, hb3⟩; obtain ⟨pa3, pc3, rfl⟩ := ownsRow_slice ho3; have HB3 := Lib.hid (HB2.out.trans (hb3.mono HB2.out.size)); have HP3 := Lib.hid (HPAL.out _ w3 (ownsRow_mono ho3 HB2.out.size)); have HR3 := Lib.hid (HR2.out.below hb3); have HZ3 := Lib.hid hb3.size; have HB23 := Lib.hid hb3; have HG3 := Lib.hid ((hb3.block N (by have := HZ1.out; have := HZ2.out; omega)).trans HG2.out); clear ho3 hb3)
    | (go_at_call 27; refine (zzPass_clear T Ti W0 H0 c d clear laced p k d l m c2 B pn pc3 a2 pa3 (more (.slice pa3 pn pc3)) w3 { ok := HIN.out.ok, hW0 := HIN.out.hW0, hH0 := HIN.out.hH0, hW1 := HIN.out.hW1, hH1 := HIN.out.hH1, hp := HIN.out.hp, inter := HIN.out.inter.below HB3.out, hl := HIN.out.hl, hm := HIN.out.hm, hmc := hc2, src := HR3.out, eofs := HIN.out.eofs.below HB3.out, nB := Nat.le_trans HIN.out.nB HB3.out.size } hnil2 (fun a e => (HSM.out a e).2.2.2) (fun a e => Nat.lt_of_lt_of_le (HSM.out a e).2.1 HZ3.out) tb 0 bn tc hbl hb1 hb6 ((HTR.out.below HB12.out).below HB23.out) (fun b R sb so dv w' h1 h2 => HRIP.out c2 pa3 pn pc3 b R sb so dv w' h1 h2.2)).mono ?_; rintro e w4 hend; obtain ⟨v1, v2, rfl⟩ := hend.shape; have HE := Lib.hid hend; clear hend))
  have h34 := HE.out.bel.size
  have HB4 : Hid (Below w.heap.size w w4) := Lib.hid (HB3.out.trans (HE.out.bel.mono HB3.out.size))
  have HG4 : Hid (w4.heap[N]? = some (.cells #[.int .i64 0, .int .i64 0, .int .i64 0, .int .i64 0, .int .i64 0, .int .i64 0, .slice none 0 0, .slice none 0 0] 43 (0, 0))) := Lib.hid ((HE.out.bel.block N (by have := HZ1.out; have := HZ2.out; have := HZ3.out; omega)).trans HG3.out)
  have hN4 : N + 1 ≤ w4.heap.size := by have := HZ1.out; have := HZ2.out; have := HZ3.out; omega
  have hlt4 : N < w4.heap.size := by omega
  by_cases h0 : (szP (ptL laced p) W0 H0).1 = 0
  · obtain ⟨rfl, rfl⟩ := ri_nil (HE.out.none_ h0)
    have gS := HG4
    have z0 : w4.frozen? ⟨N, 0, none⟩ = false := frozen_of_row w4 _ 0 _ _ gS.out
    have e0 : w4.cell? ⟨N, 0, none⟩ = some (Value.int .i64 0) := (cell_of_row w4 _ 0 _ _ _ gS.out).trans rfl
    have z1 : w4.frozen? ⟨N, 1, none⟩ = false := frozen_of_row w4 _ 1 _ _ gS.out
    have e1 : w4.cell? ⟨N, 1, none⟩ = some (Value.int .i64 0) := (cell_of_row w4 _ 1 _ _ _ gS.out).trans rfl
    have z2 : w4.frozen? ⟨N, 2, none⟩ = false := frozen_of_row w4 _ 2 _ _ gS.out
    have e2 : w4.cell? ⟨N, 2, none⟩ = some (Value.int .i64 0) := (cell_of_row w4 _ 2 _ _ _ gS.out).trans rfl
    have z3 : w4.frozen? ⟨N, 3, none⟩ = false := frozen_of_row w4 _ 3 _ _ gS.out
    have e3 : w4.cell? ⟨N, 3, none⟩ = some (Value.int .i64 0) := (cell_of_row w4 _ 3 _ _ _ gS.out).trans rfl
    have z4 : w4.frozen? ⟨N, 4, none⟩ = false := frozen_of_row w4 _ 4 _ _ gS.out
    have e4 : w4.cell? ⟨N, 4, none⟩ = some (Value.int .i64 0) := (cell_of_row w4 _ 4 _ _ _ gS.out).trans rfl
    have z5 : w4.frozen? ⟨N, 5, none⟩ = false := frozen_of_row w4 _ 5 _ _ gS.out
    have e5 : w4.cell? ⟨N, 5, none⟩ = some (Value.int .i64 0) := (cell_of_row w4 _ 5 _ _ _ gS.out).trans rfl
    have z6 : w4.frozen? ⟨N, 6, none⟩ = false := frozen_of_row w4 _ 6 _ _ gS.out
    have e6 : w4.cell? ⟨N, 6, none⟩ = some (Value.slice none 0 0) := (cell_of_row w4 _ 6 _ _ _ gS.out).trans rfl
    have z7 : w4.frozen? ⟨N, 7, none⟩ = false := frozen_of_row w4 _ 7 _ _ gS.out
    have e7 : w4.cell? ⟨N, 7, none⟩ = some (Value.slice none 0 0) := (cell_of_row w4 _ 7 _ _ _ gS.out).trans rfl
    go_wp2_with fail
    change bodyPost _ _ _ _ _ (put8 w4 N 0 0 0 0 (.slice none 0 0) (.slice none 0 0))
    obtain ⟨w9, hw9⟩ : ∃ w9, w9 = put8 w4 N 0 0 0 0 (.slice none 0 0) (.slice none 0 0) := ⟨_, rfl⟩
    rw [← hw9]
    have hon : Only N w4 w9 := hw9 ▸ put8_only _ _ _ _ _ _ _ _
    have hrow := put8_row w4 N 0 0 0 0 (.slice none 0 0) (.slice none 0 0) gS.out
    rw [← hw9] at hrow
    clear hw9
    have r0 := (cell_of_row w9 _ 0 _ _ _ hrow).trans (show (pcCells 0 0 0 0 (.slice none 0 0) (.slice none 0 0))[0]? = some _ from rfl)
    have r1 := (cell_of_row w9 _ 1 _ _ _ hrow).trans (show (pcCells 0 0 0 0 (.slice none 0 0) (.slice none 0 0))[1]? = some _ from rfl)
    have r2 := (cell_of_row w9 _ 2 _ _ _ hrow).trans (show (pcCells 0 0 0 0 (.slice none 0 0) (.slice none 0 0))[2]? = some _ from rfl)
    have r3 := (cell_of_row w9 _ 3 _ _ _ hrow).trans (show (pcCells 0 0 0 0 (.slice none 0 0) (.slice none 0 0))[3]? = some _ from rfl)
    have r4 := (cell_of_row w9 _ 4 _ _ _ hrow).trans (show (pcCells 0 0 0 0 (.slice none 0 0) (.slice none 0 0))[4]? = some _ from rfl)
    have r5 := (cell_of_row w9 _ 5 _ _ _ hrow).trans (show (pcCells 0 0 0 0 (.slice none 0 0) (.slice none 0 0))[5]? = some _ from rfl)
    have r6 := (cell_of_row w9 _ 6 _ _ _ hrow).trans (show (pcCells 0 0 0 0 (.slice none 0 0) (.slice none 0 0))[6]? = some _ from rfl)
    have r7 := (cell_of_row w9 _ 7 _ _ _ hrow).trans (show (pcCells 0 0 0 0 (.slice none 0 0) (.slice none 0 0))[7]? = some _ from rfl)
    refine bodyPost_ret (v := .tuple #[pcV 0 0 0 0 (.slice none 0 0) (.slice none 0 0), .int .i64 0]) (by simp [results, Tryz.results14, go_sem, r0, r1, r2, r3, r4, r5, r6, r7]; rfl) rfl ?_
    exact ⟨fun _ => rfl, fun h => absurd h0 h, fun h => absurd h0 h, HB4.out.trans (hon.below (by rw [HN.out]; exact Nat.le_refl _))⟩
  · cases hr : upR l (rbN c d (szP (ptL laced p) W0 H0).1) (stN c d) (szP (ptL laced p) W0 H0).2 with
    | none =>
      obtain ⟨s, hs⟩ := HE.out.bad h0 hr
      obtain ⟨rfl, rfl⟩ := ri_nil hs
      have gS := HG4
      have HR := Lib.hid hr
      have HZERO := Lib.hid h0
      have hne := neq_err s
      clear hr h0 hs
      have z0 : w4.frozen? ⟨N, 0, none⟩ = false := frozen_of_row w4 _ 0 _ _ gS.out
      have e0 : w4.cell? ⟨N, 0, none⟩ = some (Value.int .i64 0) := (cell_of_row w4 _ 0 _ _ _ gS.out).trans rfl
      have z1 : w4.frozen? ⟨N, 1, none⟩ = false := frozen_of_row w4 _ 1 _ _ gS.out
      have e1 : w4.cell? ⟨N, 1, none⟩ = some (Value.int .i64 0) := (cell_of_row w4 _ 1 _ _ _ gS.out).trans rfl
      have z2 : w4.frozen? ⟨N, 2, none⟩ = false := frozen_of_row w4 _ 2 _ _ gS.out
      have e2 : w4.cell? ⟨N, 2, none⟩ = some (Value.int .i64 0) := (cell_of_row w4 _ 2 _ _ _ gS.out).trans rfl
      have z3 : w4.frozen? ⟨N, 3, none⟩ = false := frozen_of_row w4 _ 3 _ _ gS.out
      have e3 : w4.cell? ⟨N, 3, none⟩ = some (Value.int .i64 0) := (cell_of_row w4 _ 3 _ _ _ gS.out).trans rfl
      have z4 : w4.frozen? ⟨N, 4, none⟩ = false := frozen_of_row w4 _ 4 _ _ gS.out
      have e4 : w4.cell? ⟨N, 4, none⟩ = some (Value.int .i64 0) := (cell_of_row w4 _ 4 _ _ _ gS.out).trans rfl
      have z5 : w4.frozen? ⟨N, 5, none⟩ = false := frozen_of_row w4 _ 5 _ _ gS.out
      have e5 : w4.cell? ⟨N, 5, none⟩ = some (Value.int .i64 0) := (cell_of_row w4 _ 5 _ _ _ gS.out).trans rfl
      have z6 : w4.frozen? ⟨N, 6, none⟩ = false := frozen_of_row w4 _ 6 _ _ gS.out
      have e6 : w4.cell? ⟨N, 6, none⟩ = some (Value.slice none 0 0) := (cell_of_row w4 _ 6 _ _ _ gS.out).trans rfl
      have z7 : w4.frozen? ⟨N, 7, none⟩ = false := frozen_of_row w4 _ 7 _ _ gS.out
      have e7 : w4.cell? ⟨N, 7, none⟩ = some (Value.slice none 0 0) := (cell_of_row w4 _ 7 _ _ _ gS.out).trans rfl
      go_wp2_with (go_at_call 29; refine (partCode_format s w4).mono ?_; rintro e w5 ⟨rfl, rfl⟩)
      change bodyPost _ _ _ _ _ (put8 w4 N 0 0 0 0 (.slice none 0 0) (.slice none 0 0))
      obtain ⟨w9, hw9⟩ : ∃ w9, w9 = put8 w4 N 0 0 0 0 (.slice none 0 0) (.slice none 0 0) := ⟨_, rfl⟩
      rw [← hw9]
      have hon : Only N w4 w9 := hw9 ▸ put8_only _ _ _ _ _ _ _ _
      have hrow := put8_row w4 N 0 0 0 0 (.slice none 0 0) (.slice none 0 0) gS.out
      rw [← hw9] at hrow
      clear hw9
      have r0 := (cell_of_row w9 _ 0 _ _ _ hrow).trans (show (pcCells 0 0 0 0 (.slice none 0 0) (.slice none 0 0))[0]? = some _ from rfl)
      have r1 := (cell_of_row w9 _ 1 _ _ _ hrow).trans (show (pcCells 0 0 0 0 (.slice none 0 0) (.slice none 0 0))[1]? = some _ from rfl)
      have r2 := (cell_of_row w9 _ 2 _ _ _ hrow).trans (show (pcCells 0 0 0 0 (.slice none 0 0) (.slice none 0 0))[2]? = some _ from rfl)
      have r3 := (cell_of_row w9 _ 3 _ _ _ hrow).trans (show (pcCells 0 0 0 0 (.slice none 0 0) (.slice none 0 0))[3]? = some _ from rfl)
      have r4 := (cell_of_row w9 _ 4 _ _ _ hrow).trans (show (pcCells 0 0 0 0 (.slice none 0 0) (.slice none 0 0))[4]? = some _ from rfl)
      have r5 := (cell_of_row w9 _ 5 _ _ _ hrow).trans (show (pcCells 0 0 0 0 (.slice none 0 0) (.slice none 0 0))[5]? = some _ from rfl)
      have r6 := (cell_of_row w9 _ 6 _ _ _ hrow).trans (show (pcCells 0 0 0 0 (.slice none 0 0) (.slice none 0 0))[6]? = some _ from rfl)
      have r7 := (cell_of_row w9 _ 7 _ _ _ hrow).trans (show (pcCells 0 0 0 0 (.slice none 0 0) (.slice none 0 0))[7]? = some _ from rfl)
      refine bodyPost_ret (v := .tuple #[pcV 0 0 0 0 (.slice none 0 0) (.slice none 0 0), .int .i64 1]) (by simp [results, Tryz.results14, go_sem, r0, r1, r2, r3, r4, r5, r6, r7]; rfl) rfl ?_
      exact ⟨fun h => absurd h HZERO.out, fun _ _ => rfl, (fun _ Rr h => by rw [HR.out] at h; cases h), HB4.out.trans (hon.below (by rw [HN.out]; exact Nat.le_refl _))⟩
    | some Rr =>
      obtain ⟨g, bx, L, hs, hg, hbx, hrow, hlen, hseg⟩ := HE.out.good h0 Rr hr
      obtain ⟨rfl, rfl⟩ := ri_nil hs
      have hL : L ≤ 1000000 := by
        rw [← hlen, picOf_len HIN.out.ok, (upR_rows hr).len]
        have h1 := szP_le laced p W0 H0 HIN.out.hW0 HIN.out.hH0
        have h2 : nK (kindN c d (!clear.isEmpty)) ≤ 8 := by
          unfold nK
          repeat' split
          all_goals omega
        have h3 := Nat.mul_le_mul h1.2 (Nat.mul_le_mul h1.1 h2)
        exact Nat.le_trans h3 (by decide)
      have HR := Lib.hid hr
      have HZERO := Lib.hid h0
      have HROW := Lib.hid hrow
      have HSEG := Lib.hid hseg
      have HLEN := Lib.hid hlen
      have HP4 := Lib.hid (HPRE.out _ _ _ HP3.out HE.out.bel)
      have hq := fun w => hneq (some ⟨g, 0, none⟩) w
      clear hr h0 hs hrow hseg hlen hg hbx
      go_wp2_with (go_at_call 30; refine (HPIC.out _ _ _ g bx L _ _ w4 HP4.out HROW.out HSEG.out.rb0 HLEN hL).mono ?_; rintro e w5 ⟨v5, aa5, an5, ac5, he, ho5, hav5, hb5⟩; unfold pcV at he; subst he; obtain ⟨a5, n5, c5, rfl, -⟩ := ho5.shapeN; have gS := Lib.hid ((hb5.block N (by omega)).trans HG4.out); have hlt5 : N < w5.heap.size := (by have := hb5.size; omega); have z0 : w5.frozen? ⟨N, 0, none⟩ = false := frozen_of_row w5 _ 0 _ _ gS.out; have e0 : w5.cell? ⟨N, 0, none⟩ = some (Value.int .i64 0) := (cell_of_row w5 _ 0 _ _ _ gS.out).trans rfl; have z1 : w5.frozen? ⟨N, 1, none⟩ = false := frozen_of_row w5 _ 1 _ _ gS.out; have e1 : w5.cell? ⟨N, 1, none⟩ = some (Value.int .i64 0) := (cell_of_row w5 _ 1 _ _ _ gS.out).trans rfl; have z2 : w5.frozen? ⟨N, 2, none⟩ = false := frozen_of_row w5 _ 2 _ _ gS.out; have e2 : w5.cell? ⟨N, 2, none⟩ = some (Value.int .i64 0) := (cell_of_row w5 _ 2 _ _ _ gS.out).trans rfl; have z3 : w5.frozen? ⟨N, 3, none⟩ = false := frozen_of_row w5 _ 3 _ _ gS.out; have e3 : w5.cell? ⟨N, 3, none⟩ = some (Value.int .i64 0) := (cell_of_row w5 _ 3 _ _ _ gS.out).trans rfl; have z4 : w5.frozen? ⟨N, 4, none⟩ = false := frozen_of_row w5 _ 4 _ _ gS.out; have e4 : w5.cell? ⟨N, 4, none⟩ = some (Value.int .i64 0) := (cell_of_row w5 _ 4 _ _ _ gS.out).trans rfl; have z5 : w5.frozen? ⟨N, 5, none⟩ = false := frozen_of_row w5 _ 5 _ _ gS.out; have e5 : w5.cell? ⟨N, 5, none⟩ = some (Value.int .i64 0) := (cell_of_row w5 _ 5 _ _ _ gS.out).trans rfl; have z6 : w5.frozen? ⟨N, 6, none⟩ = false := frozen_of_row w5 _ 6 _ _ gS.out; have e6 : w5.cell? ⟨N, 6, none⟩ = some (Value.slice none 0 0) := (cell_of_row w5 _ 6 _ _ _ gS.out).trans rfl; have z7 : w5.frozen? ⟨N, 7, none⟩ = false := frozen_of_row w5 _ 7 _ _ gS.out; have e7 : w5.cell? ⟨N, 7, none⟩ = some (Value.slice none 0 0) := (cell_of_row w5 _ 7 _ _ _ gS.out).trans rfl)
      change bodyPost _ _ _ _ _ (put8 w5 N kd (szP (ptL laced p) W0 H0).1 (szP (ptL laced p) W0 H0).2 ((szP (ptL laced p) W0 H0).1 * nK (kindN c d (!clear.isEmpty))) (.slice a5 n5 c5) (.slice aa5 an5 ac5))
      obtain ⟨w9, hw9⟩ : ∃ w9, w9 = put8 w5 N kd (szP (ptL laced p) W0 H0).1 (szP (ptL laced p) W0 H0).2 ((szP (ptL laced p) W0 H0).1 * nK (kindN c d (!clear.isEmpty))) (.slice a5 n5 c5) (.slice aa5 an5 ac5) := ⟨_, rfl⟩
      rw [← hw9]
      have hon : Only N w5 w9 := hw9 ▸ put8_only _ _ _ _ _ _ _ _
      have hrow := put8_row w5 N kd (szP (ptL laced p) W0 H0).1 (szP (ptL laced p) W0 H0).2 ((szP (ptL laced p) W0 H0).1 * nK (kindN c d (!clear.isEmpty))) (.slice a5 n5 c5) (.slice aa5 an5 ac5) gS.out
      rw [← hw9] at hrow
      clear hw9
      have r0 := (cell_of_row w9 _ 0 _ _ _ hrow).trans (show (pcCells kd (szP (ptL laced p) W0 H0).1 (szP (ptL laced p) W0 H0).2 ((szP (ptL laced p) W0 H0).1 * nK (kindN c d (!clear.isEmpty))) (.slice a5 n5 c5) (.slice aa5 an5 ac5))[0]? = some _ from rfl)
      have r1 := (cell_of_row w9 _ 1 _ _ _ hrow).trans (show (pcCells kd (szP (ptL laced p) W0 H0).1 (szP (ptL laced p) W0 H0).2 ((szP (ptL laced p) W0 H0).1 * nK (kindN c d (!clear.isEmpty))) (.slice a5 n5 c5) (.slice aa5 an5 ac5))[1]? = some _ from rfl)
      have r2 := (cell_of_row w9 _ 2 _ _ _ hrow).trans (show (pcCells kd (szP (ptL laced p) W0 H0).1 (szP (ptL laced p) W0 H0).2 ((szP (ptL laced p) W0 H0).1 * nK (kindN c d (!clear.isEmpty))) (.slice a5 n5 c5) (.slice aa5 an5 ac5))[2]? = some _ from rfl)
      have r3 := (cell_of_row w9 _ 3 _ _ _ hrow).trans (show (pcCells kd (szP (ptL laced p) W0 H0).1 (szP (ptL laced p) W0 H0).2 ((szP (ptL laced p) W0 H0).1 * nK (kindN c d (!clear.isEmpty))) (.slice a5 n5 c5) (.slice aa5 an5 ac5))[3]? = some _ from rfl)
      have r4 := (cell_of_row w9 _ 4 _ _ _ hrow).trans (show (pcCells kd (szP (ptL laced p) W0 H0).1 (szP (ptL laced p) W0 H0).2 ((szP (ptL laced p) W0 H0).1 * nK (kindN c d (!clear.isEmpty))) (.slice a5 n5 c5) (.slice aa5 an5 ac5))[4]? = some _ from rfl)
      have r5 := (cell_of_row w9 _ 5 _ _ _ hrow).trans (show (pcCells kd (szP (ptL laced p) W0 H0).1 (szP (ptL laced p) W0 H0).2 ((szP (ptL laced p) W0 H0).1 * nK (kindN c d (!clear.isEmpty))) (.slice a5 n5 c5) (.slice aa5 an5 ac5))[5]? = some _ from rfl)
      have r6 := (cell_of_row w9 _ 6 _ _ _ hrow).trans (show (pcCells kd (szP (ptL laced p) W0 H0).1 (szP (ptL laced p) W0 H0).2 ((szP (ptL laced p) W0 H0).1 * nK (kindN c d (!clear.isEmpty))) (.slice a5 n5 c5) (.slice aa5 an5 ac5))[6]? = some _ from rfl)
      have r7 := (cell_of_row w9 _ 7 _ _ _ hrow).trans (show (pcCells kd (szP (ptL laced p) W0 H0).1 (szP (ptL laced p) W0 H0).2 ((szP (ptL laced p) W0 H0).1 * nK (kindN c d (!clear.isEmpty))) (.slice a5 n5 c5) (.slice aa5 an5 ac5))[7]? = some _ from rfl)
      refine bodyPost_ret (v := .tuple #[pcV kd (szP (ptL laced p) W0 H0).1 (szP (ptL laced p) W0 H0).2 ((szP (ptL laced p) W0 H0).1 * nK (kindN c d (!clear.isEmpty))) (.slice a5 n5 c5) (.slice aa5 an5 ac5), .int .i64 0]) (by simp [results, Tryz.results14, go_sem, r0, r1, r2, r3, r4, r5, r6, r7]; rfl) rfl ?_
      have hlt : N < w4.heap.size := by omega
      refine ⟨fun h => absurd h HZERO.out, (fun _ h => by rw [HR.out] at h; cases h), (fun _ Rr' h => ?_), (HB4.out.trans (hb5.mono HB4.out.size)).trans (hon.below (by rw [HN.out]; exact Nat.le_refl _))⟩
      rw [HR.out] at h
      cases h
      refine ⟨_, .slice aa5 an5 ac5, rfl, (ho5.mono HB4.out.size).only hon (fun g hg => ?_), HAV.out _ _ _ _ HB4.out.size (HAV2.out _ _ _ _ N hav5 hon hlt)⟩
      have := ownBlock_ge ho5 g hg
      omega
end Go.Proofs.YtkiibhpmembcgaaGreatDoor
