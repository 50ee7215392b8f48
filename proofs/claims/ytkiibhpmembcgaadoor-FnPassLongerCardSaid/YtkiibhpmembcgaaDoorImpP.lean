/- The thin package's Pass, by a palette. Printed by gen/impp.py. -/
import Derived.Test.YtkiibhpmembcgaaDoorImplPass
import Derived.Test.YtkiibhpmembcgaaDoorRipP
namespace Go.Proofs.YtkiibhpmembcgaaDoor
open Go.ChangeShapes Go.WideShapes Go.ChangeAt Go.RowKit Go.IntWalk

set_option maxHeartbeats 3200000 in
set_option maxRecDepth 100000 in
theorem implPass_pal (T Ti : TypeId) (kd W0 H0 c d : Nat) (laced : Bool) (p k : Nat) (l : List UInt8) (m mc B pn pcap cc : Nat) (ad ap ca : Option Addr) (S : List Sh) (more : Value → List Value) (pre : Value → World → Prop) (avok : Nat → Value → World → Prop) (w : World)
    (hin : ZpIn W0 H0 c d p l m mc B ad w) (hnil : ad = none → m = 0 ∧ mc = 0) (hS : InS w ap pn pcap S) (hpn : pn ≤ 1000) (hk : rk (100 * c + d) = k) (hk0 : k ≠ 0) (hcd : c ≤ 255 ∧ d ≤ 255)
    (hneq : ∀ (p : Option Addr) (w : World), (binOp .eql 52 (.iface Ti (.pointer p)) .nilIface).run Tryd.prog w = .ok (.bool false) w)
    (hrip : ∀ mc' pa c', RipOk T Ti W0 H0 c d [] laced p k l m mc' B (more (.slice pa pn c')) (fun dv _ => dv.dp = .int .i64 (d : Int) ∧ dv.ut = .bool false ∧ dv.pal = .slice pa pn c'))
    (hpre : ∀ v w w', pre v w → Below w.heap.size w w' → pre v w') (hpal : ∀ v w', w'.ownsRow w.heap.size 137 1 v pn (S.map ngV) → pre v w')
    (hav : ∀ b b' v w, b' ≤ b → avok b v w → avok b' v w) (hav2 : ∀ b v w w' N, avok b v w → Only N w w' → N < b → avok b v w') (hpic : PicOk T Ti kd more pre avok) :
    Calls Tryd.prog 9 #[.slice ad m mc, .int .i64 (W0 : Int), .int .i64 (H0 : Int), .int .i64 (c : Int), .int .i64 (d : Int), .bool laced, .int .i64 (p : Int), .slice ap pn pcap, .slice ca 0 cc] w (IpEnd kd W0 H0 c d [] laced p l avok w) := by
  obtain ⟨N, hN⟩ : ∃ N, N = w.heap.size := ⟨_, rfl⟩
  obtain ⟨w1, hw1⟩ : ∃ w1, w1 = w.alloc (.cells #[.int .i64 0, .int .i64 0, .int .i64 0, .int .i64 0, .int .i64 0, .int .i64 0, .slice none 0 0, .slice none 0 0] 35) := ⟨_, rfl⟩
  have hb1 : Below w.heap.size w w1 := hw1 ▸ (Below.refl _ _).alloc (Nat.le_refl _) _
  have hz1 : w1.heap.size = N + 1 := by rw [hw1, size_alloc, hN]
  have hg1 : w1.heap[N]? = some (.cells #[.int .i64 0, .int .i64 0, .int .i64 0, .int .i64 0, .int .i64 0, .int .i64 0, .slice none 0 0, .slice none 0 0] 35 (0, 0)) := by rw [hw1, hN]; exact alloc_at _ _
  have hk15 : k ≤ 15 := hk ▸ rk_le _
  have kz : ((k : Int) == 0) = false := by simp; omega
  have HK : ∀ w, Calls Tryd.prog 19 #[.int .i64 (c : Int), .int .i64 (d : Int)] w fun e w' => e = .returned (.int .i64 (k : Int)) ∧ w = w' := by rw [← hk]; exact rowKind_any c d hcd.1 hcd.2
  have HKK := Lib.hid HK
  have HL : Hid (l.length = m) := Lib.hid hin.hl
  have HIN := Lib.hid hin
  have HSS := Lib.hid hS
  have HW1 := Lib.hid hw1
  have HB1 := Lib.hid hb1
  have HG1 := Lib.hid hg1
  have HN := Lib.hid hN
  have HRIP := Lib.hid hrip
  have HPRE := Lib.hid hpre
  have HPAL := Lib.hid hpal
  have HAV := Lib.hid hav
  have HAV2 := Lib.hid hav2
  have HPIC := Lib.hid hpic
  have HZ1 := Lib.hid hz1
  have hm := hin.hm
  have hlt1 : N < w1.heap.size := by omega
  clear HK hin hS hw1 hb1 hg1 hN hrip hpre hpal hav hav2 hpic hz1 hk
  go_enter Tryd.func9, Tryd.ntmps9
  go_upto_region 1 with fail
  rw [← HW1.out, ← HN.out]
  go_upto_region 5 with (go_at_call 19; refine (HKK.out _).mono ?_; rintro e w' ⟨rfl, rfl⟩)
  go_upto_region 8 with (first
    | (go_at_call 20; refine (clone_any ad m mc l HL w1 (by omega) (HIN.out.src.below HB1.out) hnil).mono ?_; rintro e w2 ⟨v2, rfl, ho2, hb2, -⟩; obtain ⟨a2, n2, c2, rfl, hl2, hr2, hc2, -, hnil2, hsome2⟩ := ho2.shapeN; obtain rfl : m = n2 := (HL.out.symm.trans hl2.out); have HB2 := Lib.hid (HB1.out.trans (hb2.mono HB1.out.size)); have HR2 := Lib.hid hr2; have HSM := Lib.hid hsome2; have HZ2 := Lib.hid hb2.size; have HG2 := Lib.hid ((hb2.block N (by have := HZ1.out; omega)).trans HG1.out); clear hr2 hsome2 hb2 ho2)
    | (go_at_call 22; refine (paletteOf_any ap pn pcap S w2 (Lib.hid (HSS.out.below HB2.out)) hpn).mono ?_; rintro e w3 ⟨v3, rfl, ho3, hb3⟩; obtain ⟨pa3, pc3, rfl⟩ := ownsRow_slice ho3; have HB3 := Lib.hid (HB2.out.trans (hb3.mono HB2.out.size)); have HP3 := Lib.hid (HPAL.out _ w3 (ownsRow_mono ho3 HB2.out.size)); have HR3 := Lib.hid (HR2.out.below hb3); have HZ3 := Lib.hid hb3.size; have HG3 := Lib.hid ((hb3.block N (by have := HZ1.out; have := HZ2.out; omega)).trans HG2.out); clear ho3 hb3)
    | (go_at_call 21; refine (zzPass_plain T Ti W0 H0 c d laced p k d l m c2 B pn pc3 a2 pa3 (more (.slice pa3 pn pc3)) w3 { ok := HIN.out.ok, hW0 := HIN.out.hW0, hH0 := HIN.out.hH0, hW1 := HIN.out.hW1, hH1 := HIN.out.hH1, hp := HIN.out.hp, inter := HIN.out.inter.below HB3.out, hl := HIN.out.hl, hm := HIN.out.hm, hmc := hc2, src := HR3.out, eofs := HIN.out.eofs.below HB3.out, nB := Nat.le_trans HIN.out.nB HB3.out.size } hnil2 (fun a e => (HSM.out a e).2.2.2) (fun a e => Nat.lt_of_lt_of_le (HSM.out a e).2.1 HZ3.out) (fun b R sb so dv w' h1 h2 => HRIP.out c2 pa3 pc3 b R sb so dv w' h1 h2.2)).mono ?_; rintro e w4 hend; obtain ⟨v1, v2, rfl⟩ := hend.shape; have HE := Lib.hid hend; clear hend))
  have h34 := HE.out.bel.size
  have HB4 : Hid (Below w.heap.size w w4) := Lib.hid (HB3.out.trans (HE.out.bel.mono HB3.out.size))
  have HG4 : Hid (w4.heap[N]? = some (.cells #[.int .i64 0, .int .i64 0, .int .i64 0, .int .i64 0, .int .i64 0, .int .i64 0, .slice none 0 0, .slice none 0 0] 35 (0, 0))) := Lib.hid ((HE.out.bel.block N (by have := HZ1.out; have := HZ2.out; have := HZ3.out; omega)).trans HG3.out)
  have hN4 : N + 1 ≤ w4.heap.size := by have := HZ1.out; have := HZ2.out; have := HZ3.out; omega
  have hlt4 : N < w4.heap.size := by omega
  by_cases h0 : (szP (ptL laced p) W0 H0).1 = 0
  · obtain ⟨rfl, rfl⟩ := ri_nil (HE.out.none_ h0)
    have gS := HG4
    have z0 : w4.frozen? ⟨N, 0, none⟩ = false := frozen_of_row w4 _ 0 _ _ gS.out
    have e0 : w4.cell? ⟨N, 0, none⟩ = some (Value.int .i64 0) := (cell_of_row w4 _ 0 _ _ _ gS.out).trans rfl
    have z1 : w4.frozen? ⟨N, 1, none⟩ = false := frozen_of_row w4 _ 1 _ _ gS.out
    have e1 : w4.cell? ⟨N, 1, none⟩ = some (Value.int .i64 0) := (cell_of_row w4 _ 1 _ _ _ gS.out).trans rfl
    have z2 : w4.frozen? ⟨N, 2, none⟩ = false := frozen_of_row w4 _ 2 _ _ gS.out
    have e2 : w4.cell? ⟨N, 2, none⟩ = some (Value.int .i64 0) := (cell_of_row w4 _ 2 _ _ _ gS.out).trans rfl
    have z3 : w4.frozen? ⟨N, 3, none⟩ = false := frozen_of_row w4 _ 3 _ _ gS.out
    have e3 : w4.cell? ⟨N, 3, none⟩ = some (Value.int .i64 0) := (cell_of_row w4 _ 3 _ _ _ gS.out).trans rfl
    have z4 : w4.frozen? ⟨N, 4, none⟩ = false := frozen_of_row w4 _ 4 _ _ gS.out
    have e4 : w4.cell? ⟨N, 4, none⟩ = some (Value.int .i64 0) := (cell_of_row w4 _ 4 _ _ _ gS.out).trans rfl
    have z5 : w4.frozen? ⟨N, 5, none⟩ = false := frozen_of_row w4 _ 5 _ _ gS.out
    have e5 : w4.cell? ⟨N, 5, none⟩ = some (Value.int .i64 0) := (cell_of_row w4 _ 5 _ _ _ gS.out).trans rfl
    have z6 : w4.frozen? ⟨N, 6, none⟩ = false := frozen_of_row w4 _ 6 _ _ gS.out
    have e6 : w4.cell? ⟨N, 6, none⟩ = some (Value.slice none 0 0) := (cell_of_row w4 _ 6 _ _ _ gS.out).trans rfl
    have z7 : w4.frozen? ⟨N, 7, none⟩ = false := frozen_of_row w4 _ 7 _ _ gS.out
    have e7 : w4.cell? ⟨N, 7, none⟩ = some (Value.slice none 0 0) := (cell_of_row w4 _ 7 _ _ _ gS.out).trans rfl
    go_wp2_with fail
    change bodyPost _ _ _ _ _ (put8 w4 N 0 0 0 0 (.slice none 0 0) (.slice none 0 0))
    obtain ⟨w9, hw9⟩ : ∃ w9, w9 = put8 w4 N 0 0 0 0 (.slice none 0 0) (.slice none 0 0) := ⟨_, rfl⟩
    rw [← hw9]
    have hon : Only N w4 w9 := hw9 ▸ put8_only _ _ _ _ _ _ _ _
    have hrow := put8_row w4 N 0 0 0 0 (.slice none 0 0) (.slice none 0 0) gS.out
    rw [← hw9] at hrow
    clear hw9
    have r0 := (cell_of_row w9 _ 0 _ _ _ hrow).trans (show (pcCells 0 0 0 0 (.slice none 0 0) (.slice none 0 0))[0]? = some _ from rfl)
    have r1 := (cell_of_row w9 _ 1 _ _ _ hrow).trans (show (pcCells 0 0 0 0 (.slice none 0 0) (.slice none 0 0))[1]? = some _ from rfl)
    have r2 := (cell_of_row w9 _ 2 _ _ _ hrow).trans (show (pcCells 0 0 0 0 (.slice none 0 0) (.slice none 0 0))[2]? = some _ from rfl)
    have r3 := (cell_of_row w9 _ 3 _ _ _ hrow).trans (show (pcCells 0 0 0 0 (.slice none 0 0) (.slice none 0 0))[3]? = some _ from rfl)
    have r4 := (cell_of_row w9 _ 4 _ _ _ hrow).trans (show (pcCells 0 0 0 0 (.slice none 0 0) (.slice none 0 0))[4]? = some _ from rfl)
    have r5 := (cell_of_row w9 _ 5 _ _ _ hrow).trans (show (pcCells 0 0 0 0 (.slice none 0 0) (.slice none 0 0))[5]? = some _ from rfl)
    have r6 := (cell_of_row w9 _ 6 _ _ _ hrow).trans (show (pcCells 0 0 0 0 (.slice none 0 0) (.slice none 0 0))[6]? = some _ from rfl)
    have r7 := (cell_of_row w9 _ 7 _ _ _ hrow).trans (show (pcCells 0 0 0 0 (.slice none 0 0) (.slice none 0 0))[7]? = some _ from rfl)
    refine bodyPost_ret (v := .tuple #[pcV 0 0 0 0 (.slice none 0 0) (.slice none 0 0), .int .i64 0]) (by simp [results, Tryd.results9, go_sem, r0, r1, r2, r3, r4, r5, r6, r7]; rfl) rfl ?_
    exact ⟨fun _ => rfl, fun h => absurd h0 h, fun h => absurd h0 h, HB4.out.trans (hon.below (by rw [HN.out]; exact Nat.le_refl _))⟩
  · cases hr : upR l (rbN c d (szP (ptL laced p) W0 H0).1) (stN c d) (szP (ptL laced p) W0 H0).2 with
    | none =>
      obtain ⟨s, hs⟩ := HE.out.bad h0 hr
      obtain ⟨rfl, rfl⟩ := ri_nil hs
      have gS := HG4
      have HR := Lib.hid hr
      have HZERO := Lib.hid h0
      have hne := neq_err s
      clear hr h0 hs
      have z0 : w4.frozen? ⟨N, 0, none⟩ = false := frozen_of_row w4 _ 0 _ _ gS.out
      have e0 : w4.cell? ⟨N, 0, none⟩ = some (Value.int .i64 0) := (cell_of_row w4 _ 0 _ _ _ gS.out).trans rfl
      have z1 : w4.frozen? ⟨N, 1, none⟩ = false := frozen_of_row w4 _ 1 _ _ gS.out
      have e1 : w4.cell? ⟨N, 1, none⟩ = some (Value.int .i64 0) := (cell_of_row w4 _ 1 _ _ _ gS.out).trans rfl
      have z2 : w4.frozen? ⟨N, 2, none⟩ = false := frozen_of_row w4 _ 2 _ _ gS.out
      have e2 : w4.cell? ⟨N, 2, none⟩ = some (Value.int .i64 0) := (cell_of_row w4 _ 2 _ _ _ gS.out).trans rfl
      have z3 : w4.frozen? ⟨N, 3, none⟩ = false := frozen_of_row w4 _ 3 _ _ gS.out
      have e3 : w4.cell? ⟨N, 3, none⟩ = some (Value.int .i64 0) := (cell_of_row w4 _ 3 _ _ _ gS.out).trans rfl
      have z4 : w4.frozen? ⟨N, 4, none⟩ = false := frozen_of_row w4 _ 4 _ _ gS.out
      have e4 : w4.cell? ⟨N, 4, none⟩ = some (Value.int .i64 0) := (cell_of_row w4 _ 4 _ _ _ gS.out).trans rfl
      have z5 : w4.frozen? ⟨N, 5, none⟩ = false := frozen_of_row w4 _ 5 _ _ gS.out
      have e5 : w4.cell? ⟨N, 5, none⟩ = some (Value.int .i64 0) := (cell_of_row w4 _ 5 _ _ _ gS.out).trans rfl
      have z6 : w4.frozen? ⟨N, 6, none⟩ = false := frozen_of_row w4 _ 6 _ _ gS.out
      have e6 : w4.cell? ⟨N, 6, none⟩ = some (Value.slice none 0 0) := (cell_of_row w4 _ 6 _ _ _ gS.out).trans rfl
      have z7 : w4.frozen? ⟨N, 7, none⟩ = false := frozen_of_row w4 _ 7 _ _ gS.out
      have e7 : w4.cell? ⟨N, 7, none⟩ = some (Value.slice none 0 0) := (cell_of_row w4 _ 7 _ _ _ gS.out).trans rfl
      go_wp2_with (go_at_call 23; refine (partCode_format s w4).mono ?_; rintro e w5 ⟨rfl, rfl⟩)
      change bodyPost _ _ _ _ _ (put8 w4 N 0 0 0 0 (.slice none 0 0) (.slice none 0 0))
      obtain ⟨w9, hw9⟩ : ∃ w9, w9 = put8 w4 N 0 0 0 0 (.slice none 0 0) (.slice none 0 0) := ⟨_, rfl⟩
      rw [← hw9]
      have hon : Only N w4 w9 := hw9 ▸ put8_only _ _ _ _ _ _ _ _
      have hrow := put8_row w4 N 0 0 0 0 (.slice none 0 0) (.slice none 0 0) gS.out
      rw [← hw9] at hrow
      clear hw9
      have r0 := (cell_of_row w9 _ 0 _ _ _ hrow).trans (show (pcCells 0 0 0 0 (.slice none 0 0) (.slice none 0 0))[0]? = some _ from rfl)
      have r1 := (cell_of_row w9 _ 1 _ _ _ hrow).trans (show (pcCells 0 0 0 0 (.slice none 0 0) (.slice none 0 0))[1]? = some _ from rfl)
      have r2 := (cell_of_row w9 _ 2 _ _ _ hrow).trans (show (pcCells 0 0 0 0 (.slice none 0 0) (.slice none 0 0))[2]? = some _ from rfl)
      have r3 := (cell_of_row w9 _ 3 _ _ _ hrow).trans (show (pcCells 0 0 0 0 (.slice none 0 0) (.slice none 0 0))[3]? = some _ from rfl)
      have r4 := (cell_of_row w9 _ 4 _ _ _ hrow).trans (show (pcCells 0 0 0 0 (.slice none 0 0) (.slice none 0 0))[4]? = some _ from rfl)
      have r5 := (cell_of_row w9 _ 5 _ _ _ hrow).trans (show (pcCells 0 0 0 0 (.slice none 0 0) (.slice none 0 0))[5]? = some _ from rfl)
      have r6 := (cell_of_row w9 _ 6 _ _ _ hrow).trans (show (pcCells 0 0 0 0 (.slice none 0 0) (.slice none 0 0))[6]? = some _ from rfl)
      have r7 := (cell_of_row w9 _ 7 _ _ _ hrow).trans (show (pcCells 0 0 0 0 (.slice none 0 0) (.slice none 0 0))[7]? = some _ from rfl)
      refine bodyPost_ret (v := .tuple #[pcV 0 0 0 0 (.slice none 0 0) (.slice none 0 0), .int .i64 1]) (by simp [results, Tryd.results9, go_sem, r0, r1, r2, r3, r4, r5, r6, r7]; rfl) rfl ?_
      exact ⟨fun h => absurd h HZERO.out, fun _ _ => rfl, (fun _ Rr h => by rw [HR.out] at h; cases h), HB4.out.trans (hon.below (by rw [HN.out]; exact Nat.le_refl _))⟩
    | some Rr =>
      obtain ⟨g, bx, L, hs, hg, hbx, hrow, hlen, hseg⟩ := HE.out.good h0 Rr hr
      obtain ⟨rfl, rfl⟩ := ri_nil hs
      have hL : L ≤ 1000000 := by
        rw [← hlen, picOf_len HIN.out.ok, (upR_rows hr).len]
        have h1 := szP_le laced p W0 H0 HIN.out.hW0 HIN.out.hH0
        have h2 : nK (kindN c d (!([] : List Nat).isEmpty)) ≤ 8 := by
          unfold nK
          repeat' split
          all_goals omega
        have h3 := Nat.mul_le_mul h1.2 (Nat.mul_le_mul h1.1 h2)
        exact Nat.le_trans h3 (by decide)
      have HR := Lib.hid hr
      have HZERO := Lib.hid h0
      have HROW := Lib.hid hrow
      have HSEG := Lib.hid hseg
      have HLEN := Lib.hid hlen
      have HP4 := Lib.hid (HPRE.out _ _ _ HP3.out HE.out.bel)
      have hq := fun w => hneq (some ⟨g, 0, none⟩) w
      clear hr h0 hs hrow hseg hlen hg hbx
      go_wp2_with (go_at_call 24; refine (HPIC.out _ _ _ g bx L _ _ w4 HP4.out HROW.out HSEG.out.rb0 HLEN hL).mono ?_; rintro e w5 ⟨v5, aa5, an5, ac5, he, ho5, hav5, hb5⟩; unfold pcV at he; subst he; obtain ⟨a5, n5, c5, rfl, -⟩ := ho5.shapeN; have gS := Lib.hid ((hb5.block N (by omega)).trans HG4.out); have hlt5 : N < w5.heap.size := (by have := hb5.size; omega); have z0 : w5.frozen? ⟨N, 0, none⟩ = false := frozen_of_row w5 _ 0 _ _ gS.out; have e0 : w5.cell? ⟨N, 0, none⟩ = some (Value.int .i64 0) := (cell_of_row w5 _ 0 _ _ _ gS.out).trans rfl; have z1 : w5.frozen? ⟨N, 1, none⟩ = false := frozen_of_row w5 _ 1 _ _ gS.out; have e1 : w5.cell? ⟨N, 1, none⟩ = some (Value.int .i64 0) := (cell_of_row w5 _ 1 _ _ _ gS.out).trans rfl; have z2 : w5.frozen? ⟨N, 2, none⟩ = false := frozen_of_row w5 _ 2 _ _ gS.out; have e2 : w5.cell? ⟨N, 2, none⟩ = some (Value.int .i64 0) := (cell_of_row w5 _ 2 _ _ _ gS.out).trans rfl; have z3 : w5.frozen? ⟨N, 3, none⟩ = false := frozen_of_row w5 _ 3 _ _ gS.out; have e3 : w5.cell? ⟨N, 3, none⟩ = some (Value.int .i64 0) := (cell_of_row w5 _ 3 _ _ _ gS.out).trans rfl; have z4 : w5.frozen? ⟨N, 4, none⟩ = false := frozen_of_row w5 _ 4 _ _ gS.out; have e4 : w5.cell? ⟨N, 4, none⟩ = some (Value.int .i64 0) := (cell_of_row w5 _ 4 _ _ _ gS.out).trans rfl; have z5 : w5.frozen? ⟨N, 5, none⟩ = false := frozen_of_row w5 _ 5 _ _ gS.out; have e5 : w5.cell? ⟨N, 5, none⟩ = some (Value.int .i64 0) := (cell_of_row w5 _ 5 _ _ _ gS.out).trans rfl; have z6 : w5.frozen? ⟨N, 6, none⟩ = false := frozen_of_row w5 _ 6 _ _ gS.out; have e6 : w5.cell? ⟨N, 6, none⟩ = some (Value.slice none 0 0) := (cell_of_row w5 _ 6 _ _ _ gS.out).trans rfl; have z7 : w5.frozen? ⟨N, 7, none⟩ = false := frozen_of_row w5 _ 7 _ _ gS.out; have e7 : w5.cell? ⟨N, 7, none⟩ = some (Value.slice none 0 0) := (cell_of_row w5 _ 7 _ _ _ gS.out).trans rfl)
      change bodyPost _ _ _ _ _ (put8 w5 N kd (szP (ptL laced p) W0 H0).1 (szP (ptL laced p) W0 H0).2 ((szP (ptL laced p) W0 H0).1 * nK (kindN c d (!([] : List Nat).isEmpty))) (.slice a5 n5 c5) (.slice aa5 an5 ac5))
      obtain ⟨w9, hw9⟩ : ∃ w9, w9 = put8 w5 N kd (szP (ptL laced p) W0 H0).1 (szP (ptL laced p) W0 H0).2 ((szP (ptL laced p) W0 H0).1 * nK (kindN c d (!([] : List Nat).isEmpty))) (.slice a5 n5 c5) (.slice aa5 an5 ac5) := ⟨_, rfl⟩
      rw [← hw9]
      have hon : Only N w5 w9 := hw9 ▸ put8_only _ _ _ _ _ _ _ _
      have hrow := put8_row w5 N kd (szP (ptL laced p) W0 H0).1 (szP (ptL laced p) W0 H0).2 ((szP (ptL laced p) W0 H0).1 * nK (kindN c d (!([] : List Nat).isEmpty))) (.slice a5 n5 c5) (.slice aa5 an5 ac5) gS.out
      rw [← hw9] at hrow
      clear hw9
      have r0 := (cell_of_row w9 _ 0 _ _ _ hrow).trans (show (pcCells kd (szP (ptL laced p) W0 H0).1 (szP (ptL laced p) W0 H0).2 ((szP (ptL laced p) W0 H0).1 * nK (kindN c d (!([] : List Nat).isEmpty))) (.slice a5 n5 c5) (.slice aa5 an5 ac5))[0]? = some _ from rfl)
      have r1 := (cell_of_row w9 _ 1 _ _ _ hrow).trans (show (pcCells kd (szP (ptL laced p) W0 H0).1 (szP (ptL laced p) W0 H0).2 ((szP (ptL laced p) W0 H0).1 * nK (kindN c d (!([] : List Nat).isEmpty))) (.slice a5 n5 c5) (.slice aa5 an5 ac5))[1]? = some _ from rfl)
      have r2 := (cell_of_row w9 _ 2 _ _ _ hrow).trans (show (pcCells kd (szP (ptL laced p) W0 H0).1 (szP (ptL laced p) W0 H0).2 ((szP (ptL laced p) W0 H0).1 * nK (kindN c d (!([] : List Nat).isEmpty))) (.slice a5 n5 c5) (.slice aa5 an5 ac5))[2]? = some _ from rfl)
      have r3 := (cell_of_row w9 _ 3 _ _ _ hrow).trans (show (pcCells kd (szP (ptL laced p) W0 H0).1 (szP (ptL laced p) W0 H0).2 ((szP (ptL laced p) W0 H0).1 * nK (kindN c d (!([] : List Nat).isEmpty))) (.slice a5 n5 c5) (.slice aa5 an5 ac5))[3]? = some _ from rfl)
      have r4 := (cell_of_row w9 _ 4 _ _ _ hrow).trans (show (pcCells kd (szP (ptL laced p) W0 H0).1 (szP (ptL laced p) W0 H0).2 ((szP (ptL laced p) W0 H0).1 * nK (kindN c d (!([] : List Nat).isEmpty))) (.slice a5 n5 c5) (.slice aa5 an5 ac5))[4]? = some _ from rfl)
      have r5 := (cell_of_row w9 _ 5 _ _ _ hrow).trans (show (pcCells kd (szP (ptL laced p) W0 H0).1 (szP (ptL laced p) W0 H0).2 ((szP (ptL laced p) W0 H0).1 * nK (kindN c d (!([] : List Nat).isEmpty))) (.slice a5 n5 c5) (.slice aa5 an5 ac5))[5]? = some _ from rfl)
      have r6 := (cell_of_row w9 _ 6 _ _ _ hrow).trans (show (pcCells kd (szP (ptL laced p) W0 H0).1 (szP (ptL laced p) W0 H0).2 ((szP (ptL laced p) W0 H0).1 * nK (kindN c d (!([] : List Nat).isEmpty))) (.slice a5 n5 c5) (.slice aa5 an5 ac5))[6]? = some _ from rfl)
      have r7 := (cell_of_row w9 _ 7 _ _ _ hrow).trans (show (pcCells kd (szP (ptL laced p) W0 H0).1 (szP (ptL laced p) W0 H0).2 ((szP (ptL laced p) W0 H0).1 * nK (kindN c d (!([] : List Nat).isEmpty))) (.slice a5 n5 c5) (.slice aa5 an5 ac5))[7]? = some _ from rfl)
      refine bodyPost_ret (v := .tuple #[pcV kd (szP (ptL laced p) W0 H0).1 (szP (ptL laced p) W0 H0).2 ((szP (ptL laced p) W0 H0).1 * nK (kindN c d (!([] : List Nat).isEmpty))) (.slice a5 n5 c5) (.slice aa5 an5 ac5), .int .i64 0]) (by simp [results, Tryd.results9, go_sem, r0, r1, r2, r3, r4, r5, r6, r7]; rfl) rfl ?_
      have hlt : N < w4.heap.size := by omega
      refine ⟨fun h => absurd h HZERO.out, (fun _ h => by rw [HR.out] at h; cases h), (fun _ Rr' h => ?_), (HB4.out.trans (hb5.mono HB4.out.size)).trans (hon.below (by rw [HN.out]; exact Nat.le_refl _))⟩
      rw [HR.out] at h
      cases h
      refine ⟨_, .slice aa5 an5 ac5, rfl, (ho5.mono HB4.out.size).only hon (fun g hg => ?_), HAV.out _ _ _ _ HB4.out.size (HAV2.out _ _ _ _ N hav5 hon hlt)⟩
      have := ownBlock_ge ho5 g hg
      omega
/-- A palette of colors in memory of the call's own; the shades beside a picture. -/
def palPre (S : List Sh) (pal : Value) (w : World) : Prop := ∃ g c, pal = .slice (some ⟨g, 0, none⟩) S.length c ∧ PalAt w (some ⟨g, 0, none⟩) S
def palAv (S : List Sh) (b : Nat) (av : Value) (w : World) : Prop := w.ownsRow b 64 4 av S.length (shAll S)
theorem palPre_of {S : List Sh} {w : World} {base n : Nat} {v : Value} (h : w.ownsRow base 137 1 v n (S.map ngV)) (hn : S.length = n) (hp : 1 ≤ n) : palPre S v w := by
  subst hn
  rcases h.2 with ⟨rfl, hl⟩ | ⟨g, cap, cur, rfl, hb, hg, hnc, hcm, hcs, htake⟩
  · omega
  · refine ⟨g, cap, rfl, fun _ => ⟨g, rfl, fun j s hs => ⟨_, .inr rfl, ?_⟩⟩⟩
    have hj := (List.getElem?_eq_some_iff.1 hs).1
    have hc := World.ownsRow.cellAt (w := w) h j (by omega)
    rw [hc]
    simp only [List.getElem?_map, hs, Option.map_some]
    rfl
theorem palPre_below {S : List Sh} {v : Value} {w w' : World} (h : palPre S v w) (hb : Below w.heap.size w w') : palPre S v w' := by
  obtain ⟨g, c, rfl, hp⟩ := h
  refine ⟨g, c, rfl, fun hne => ?_⟩
  obtain ⟨P, e, hc⟩ := hp hne
  refine ⟨P, e, fun j s hs => ?_⟩
  obtain ⟨T, hT, hx⟩ := hc j s hs
  exact ⟨T, hT, (hb.cell (World.block_lt_of_cell? w _ hx)).trans hx⟩
theorem inS_own {w : World} {base : Nat} {v : Value} {S : List Sh} (h : w.ownsRow base 64 4 v S.length (shAll S)) : ∃ aa an ac, v = .slice aa an ac ∧ InS w aa an ac S := by
  rcases h.2 with ⟨rfl, hl⟩ | ⟨g, cap, cur, rfl, hb, hg, hnc, hcm, hcs, htake⟩
  · have e : S = [] := List.eq_nil_of_length_eq_zero hl
    subst e
    exact ⟨none, 0, 0, rfl, Lib.hid rfl, fun h => absurd rfl h, fun _ => ⟨rfl, rfl⟩, Nat.le_refl _, by omega⟩
  · refine ⟨_, _, cap, rfl, Lib.hid rfl, fun _ => ⟨g, 0, rfl, fun j u hj => ?_⟩, (fun h => by cases h), hnc, by unfold maxLen at hcm; omega⟩
    have hlt := (List.getElem?_eq_some_iff.1 hj).1
    rw [shAll_len] at hlt
    have hc := World.ownsRow.cellAt (w := w) h j (by omega)
    rw [Nat.zero_add, hc, hj]
theorem picOk_7 (S : List Sh) (hS : S.length ≤ 1000) : PicOk 103 101 7 (fun pal => [pal]) (palPre S) (palAv S) := by
  intro W H St g bx L pal l w hpre hg hr hl hL
  obtain ⟨pg, c, rfl, hp⟩ := hpre
  refine (pictureOf_7 W H St L L g (some ⟨bx, 0, none⟩) l pg S.length c S w (by simpa [picG] using hg) hl hr hL (by intro h; cases h) (Lib.hid rfl) hp hS).mono ?_
  rintro e w' ⟨v, av, he, ho, ha, hb⟩
  obtain ⟨aa, ac, rfl⟩ := ownsRow_slice ha
  exact ⟨v, aa, S.length, ac, he, ho, ha, hb⟩
theorem pneq_7 (p : Option Addr) (w : World) : (binOp .eql 52 (.iface 101 (.pointer p)) .nilIface).run Tryd.prog w = .ok (.bool false) w := by kernel_rfl
theorem impl_P1 (W0 H0 : Nat) (laced : Bool) (p : Nat) (l : List UInt8) (m mc B pn pcap cc : Nat) (ad ap ca : Option Addr) (S : List Sh) (w : World) (hin : ZpIn W0 H0 3 1 p l m mc B ad w) (hnil : ad = none → m = 0 ∧ mc = 0) (hS : InS w ap pn pcap S) (hpn : pn = 2) :
    Calls Tryd.prog 9 #[.slice ad m mc, .int .i64 (W0 : Int), .int .i64 (H0 : Int), .int .i64 ((3 : Nat) : Int), .int .i64 ((1 : Nat) : Int), .bool laced, .int .i64 (p : Int), .slice ap pn pcap, .slice ca 0 cc] w (IpEnd 7 W0 H0 3 1 [] laced p l (palAv S) w) := by
  have hSl : S.length = pn := hS.hlen.out
  subst hpn
  exact implPass_pal 103 101 7 W0 H0 3 1 laced p 7 l m mc B 2 pcap cc ad ap ca S (fun pal => [pal]) (palPre S) (palAv S) w hin hnil hS (by omega) rfl (by decide) (by decide) pneq_7
    (fun mc' pa c' b R sb so dv w1 hri hok => rip_P1 b W0 H0 laced p l R sb so m mc' B pa c' dv w1 hri hok.1 hok.2.2) (fun _ _ _ h hb => palPre_below h hb) (fun _ _ h => palPre_of h hSl (by omega)) (fun _ _ _ _ h hb => ownsRow_mono hb h) (fun _ _ _ _ _ h hon hlt => ownsRow_only h hon (fun g hg => by have := (World.ownsRow.lt h g hg).1; omega)) (picOk_7 S (by omega))
theorem impl_P2 (W0 H0 : Nat) (laced : Bool) (p : Nat) (l : List UInt8) (m mc B pn pcap cc : Nat) (ad ap ca : Option Addr) (S : List Sh) (w : World) (hin : ZpIn W0 H0 3 2 p l m mc B ad w) (hnil : ad = none → m = 0 ∧ mc = 0) (hS : InS w ap pn pcap S) (hpn : pn = 4) :
    Calls Tryd.prog 9 #[.slice ad m mc, .int .i64 (W0 : Int), .int .i64 (H0 : Int), .int .i64 ((3 : Nat) : Int), .int .i64 ((2 : Nat) : Int), .bool laced, .int .i64 (p : Int), .slice ap pn pcap, .slice ca 0 cc] w (IpEnd 7 W0 H0 3 2 [] laced p l (palAv S) w) := by
  have hSl : S.length = pn := hS.hlen.out
  subst hpn
  exact implPass_pal 103 101 7 W0 H0 3 2 laced p 8 l m mc B 4 pcap cc ad ap ca S (fun pal => [pal]) (palPre S) (palAv S) w hin hnil hS (by omega) rfl (by decide) (by decide) pneq_7
    (fun mc' pa c' b R sb so dv w1 hri hok => rip_P2 b W0 H0 laced p l R sb so m mc' B pa c' dv w1 hri hok.1 hok.2.2) (fun _ _ _ h hb => palPre_below h hb) (fun _ _ h => palPre_of h hSl (by omega)) (fun _ _ _ _ h hb => ownsRow_mono hb h) (fun _ _ _ _ _ h hon hlt => ownsRow_only h hon (fun g hg => by have := (World.ownsRow.lt h g hg).1; omega)) (picOk_7 S (by omega))
theorem impl_P4 (W0 H0 : Nat) (laced : Bool) (p : Nat) (l : List UInt8) (m mc B pn pcap cc : Nat) (ad ap ca : Option Addr) (S : List Sh) (w : World) (hin : ZpIn W0 H0 3 4 p l m mc B ad w) (hnil : ad = none → m = 0 ∧ mc = 0) (hS : InS w ap pn pcap S) (hpn : pn = 16) :
    Calls Tryd.prog 9 #[.slice ad m mc, .int .i64 (W0 : Int), .int .i64 (H0 : Int), .int .i64 ((3 : Nat) : Int), .int .i64 ((4 : Nat) : Int), .bool laced, .int .i64 (p : Int), .slice ap pn pcap, .slice ca 0 cc] w (IpEnd 7 W0 H0 3 4 [] laced p l (palAv S) w) := by
  have hSl : S.length = pn := hS.hlen.out
  subst hpn
  exact implPass_pal 103 101 7 W0 H0 3 4 laced p 9 l m mc B 16 pcap cc ad ap ca S (fun pal => [pal]) (palPre S) (palAv S) w hin hnil hS (by omega) rfl (by decide) (by decide) pneq_7
    (fun mc' pa c' b R sb so dv w1 hri hok => rip_P4 b W0 H0 laced p l R sb so m mc' B pa c' dv w1 hri hok.1 hok.2.2) (fun _ _ _ h hb => palPre_below h hb) (fun _ _ h => palPre_of h hSl (by omega)) (fun _ _ _ _ h hb => ownsRow_mono hb h) (fun _ _ _ _ _ h hon hlt => ownsRow_only h hon (fun g hg => by have := (World.ownsRow.lt h g hg).1; omega)) (picOk_7 S (by omega))
theorem impl_P8 (W0 H0 : Nat) (laced : Bool) (p : Nat) (l : List UInt8) (m mc B pn pcap cc : Nat) (ad ap ca : Option Addr) (S : List Sh) (w : World) (hin : ZpIn W0 H0 3 8 p l m mc B ad w) (hnil : ad = none → m = 0 ∧ mc = 0) (hS : InS w ap pn pcap S) (hpn : pn = 256) :
    Calls Tryd.prog 9 #[.slice ad m mc, .int .i64 (W0 : Int), .int .i64 (H0 : Int), .int .i64 ((3 : Nat) : Int), .int .i64 ((8 : Nat) : Int), .bool laced, .int .i64 (p : Int), .slice ap pn pcap, .slice ca 0 cc] w (IpEnd 7 W0 H0 3 8 [] laced p l (palAv S) w) := by
  have hSl : S.length = pn := hS.hlen.out
  subst hpn
  exact implPass_pal 103 101 7 W0 H0 3 8 laced p 10 l m mc B 256 pcap cc ad ap ca S (fun pal => [pal]) (palPre S) (palAv S) w hin hnil hS (by omega) rfl (by decide) (by decide) pneq_7
    (fun mc' pa c' b R sb so dv w1 hri hok => rip_P8 b W0 H0 laced p l R sb so m mc' B pa c' dv w1 hri hok.1 hok.2.2) (fun _ _ _ h hb => palPre_below h hb) (fun _ _ h => palPre_of h hSl (by omega)) (fun _ _ _ _ h hb => ownsRow_mono hb h) (fun _ _ _ _ _ h hon hlt => ownsRow_only h hon (fun g hg => by have := (World.ownsRow.lt h g hg).1; omega)) (picOk_7 S (by omega))
end Go.Proofs.YtkiibhpmembcgaaDoor
