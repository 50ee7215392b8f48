/- The contract of the decoder's parsePLTE at a length that a palette may have. -/
import Derived.Test.YtiiipmcjbibgoaaDoorPlte
import Derived.Test.YtiiipmcjbibgoaaDoorVer
import Derived.StillTailTactics
import Derived.Deep.DeepCutAuto
import Derived.Deep.CutBlock
import Derived.LoopTactic
namespace Go.Proofs.YtiiipmcjbibgoaaDoor
open Go.ChangeShapes Go.WideShapes Go.ChangeAt Go.RowKit Go.IntWalk

/-- New memory of the reading's own is written: the reading is as it was. -/
theorem Rdg.onlyP {base b R C sb so m mc : Nat} {l : List UInt8} {w w' : World} {d : DecV} {i c P : Nat} (L : Pl base b R C sb) (h : Rdg b R C sb so m mc l w d i c) (O : Only P w w') (hP : base ≤ P) (h1 : P ≠ b) (h2 : P ≠ R) (h3 : P ≠ C) : Rdg b R C sb so m mc l w' d i c := by
  have hs := L.s0
  have ht := L.t0
  exact ⟨h.dec.only O (Ne.symm h1), h.er, h.ec, h.rd.only O (Ne.symm h2), (O.block C (Ne.symm h3)).trans h.cr, h.hc, h.src.only O (by omega), h.tab.only2 (O.two1 P) (by omega) (by omega)⟩

def black : Value := .iface 65 (.agg #[.int .u8 0, .int .u8 0, .int .u8 0, .int .u8 255])
/-- A color of a palette: three bytes. -/
def col (l : List UInt8) (j : Nat) : Value := .iface 65 (.agg #[.int .u8 ((l.getD (3 * j) 0).toNat : Int), .int .u8 ((l.getD (3 * j + 1) 0).toNat : Int), .int .u8 ((l.getD (3 * j + 2) 0).toNat : Int), .int .u8 255])
def palV (l : List UInt8) (np : Nat) : List Value := (List.range 256).map fun j => if j < np then col l j else black
theorem palV_length (l : List UInt8) (np : Nat) : (palV l np).length = 256 := by simp [palV]
theorem palV_at (l : List UInt8) (np j : Nat) (h : j < 256) : (palV l np)[j]? = some (if j < np then col l j else black) := by simp [palV, h]
/-- The first i places are filled. -/
def fillTo (full : List Value) (i : Nat) : List Value := full.take i ++ List.replicate (256 - i) .nilIface
theorem fillTo_length (full : List Value) (hf : full.length = 256) (i : Nat) (hi : i ≤ 256) : (fillTo full i).length = 256 := by simp [fillTo, hf]; omega
theorem fillTo_step (full : List Value) (hf : full.length = 256) (i : Nat) (v : Value) (hi : i < 256) (hv : full[i]? = some v) : (fillTo full i).set i v = fillTo full (i + 1) := by
  unfold fillTo
  have hl : (full.take i).length = i := by simp [hf]; omega
  rw [List.set_append_right _ _ (by omega), hl, Nat.sub_self, List.take_add_one, hv, show 256 - i = (256 - (i + 1)) + 1 by omega, List.replicate_succ]
  simp
theorem fillTo_at (full : List Value) (hf : full.length = 256) (i : Nat) (hi : i < 256) : (fillTo full i)[i]? = some .nilIface := by
  unfold fillTo
  have hl : (full.take i).length = i := by simp [hf]; omega
  rw [List.getElem?_append_right (by omega), hl, Nat.sub_self, show 256 - i = (256 - (i + 1)) + 1 by omega, List.replicate_succ]
  rfl
theorem fillTo_all (full : List Value) (hf : full.length = 256) : fillTo full 256 = full := by
  unfold fillTo
  rw [List.take_of_length_le (by omega)]
  simp
def nils : Array Value := (List.replicate 256 Value.nilIface).toArray
theorem make_palette (w : World) : (Instr.makeSlice 57 (.int .i64 256) (.int .i64 256)).run Tryd.prog w = .ok (.slice (some ⟨w.heap.size, 0, none⟩) 256 256) (w.alloc (.cells nils 97)) := by kernel_rfl

def PalEnd (base b : Nat) (l : List UInt8) (n c : Nat) (w : World) (e : Ending) (w' : World) : Prop :=
  ∃ P, e = .returned (sumV (crcFrom c (l.take n)) ((l.drop n).take 4)) ∧ w'.cell? ⟨b, 6, none⟩ = some (.slice (some ⟨P, 0, none⟩) (n / 3) 256) ∧ w'.heap[P]? = some (.cells (palV l (n / 3)).toArray 97 (0, 0)) ∧ base ≤ P ∧ Below base w w'

set_option maxHeartbeats 6400000 in
set_option maxRecDepth 100000 in
theorem plte_pal (base b R C sb so mc n dp k c : Nat) (l : List UInt8) (d : DecV) (w : World) (L : Pl base b R C sb) (h : Rdg b R C sb so (n + 4) mc l w d 0 c)
    (hl : Hid (l.length = n + 4)) (hmc : n + 4 ≤ mc) (hn : n ≤ 1000) (hdp : dp = 1 ∨ dp = 2 ∨ dp = 4 ∨ dp = 8 ∨ dp = 16) (hgood : ¬ badLen n dp) (e1 : d.dp = .int .i64 (dp : Int)) (e2 : d.cb = .int .i64 (k : Int)) (e0 : d.pal = .slice none 0 0) (hk : 7 ≤ k ∧ k ≤ 10) :
    Calls Tryd.prog 39 #[.pointer (some ⟨b, 0, none⟩), .int .u32 (n : Int)] w (PalEnd base b l n c w) := by
  have k5 : w.cell? ⟨b, 5, none⟩ = some (.int .i64 (dp : Int)) := h.dec.pre_cell 5 (by rw [← e1]; rfl)
  have k0 : w.cell? ⟨b, 0, none⟩ = some (.iface 79 (.pointer (some ⟨R, 0, none⟩))) := h.dec.pre_cell 0 (by rw [← h.er]; rfl)
  obtain ⟨np, hnp⟩ : ∃ np, np = n / 3 := ⟨_, rfl⟩
  have hg : n % 3 = 0 ∧ np ≠ 0 ∧ np ≤ 256 ∧ np ≤ 2 ^ dp := by
    unfold badLen at hgood
    rw [hnp]
    refine ⟨?_, ?_, ?_, ?_⟩ <;> (apply Decidable.byContradiction; intro hh; apply hgood; omega)
  obtain ⟨g1, g2, g3, g4⟩ := hg
  have e3 : (n : Int).tdiv 3 = (np : Int) := by rw [Int.tdiv_eq_ediv_of_nonneg (by omega)]; omega
  have e4 : (n : Int).tmod 3 = 0 := by rw [Int.tmod_eq_emod_of_nonneg (by omega)]; omega
  have e5 : (n : Int) / 3 = (np : Int) := by omega
  have e6 : (n : Int) % 3 = 0 := by omega
  have e7 : (3 : Int) * (np : Int) = (n : Int) := by omega
  have hn3 : n = 3 * np := by omega
  have y2 : (0 : Int) < (np : Int) := by omega
  have y3 : (np : Int) ≤ 256 := by omega
  have HN := Lib.hid hnp
  have HN3 := Lib.hid hn3
  have H1 := h.drew
  have E1 := Lib.hid e1
  have E2 := Lib.hid e2
  have E0 := Lib.hid e0
  clear hnp e1 e2 e0 hgood g1 hn3
  go_enter Tryd.func39, Tryd.ntmps39
  go_upto_region 2 with fail
  go_cut [33] from 13 to 33 (fun cc wx => cc = .bool false ∧ wx = w)
  case first =>
    rcases hdp with rfl | rfl | rfl | rfl | rfl
    all_goals
      simp at g4
      go_wp2_with fail
      go_meet
      case rel => exact ⟨by simp; omega, rfl⟩
  case rest =>
    obtain ⟨rfl, rfl⟩ := hcut
    clear k5 hdp g4 e3 e4 e5 e6
    have y4 : (n : Int) ≤ 768 := by have := HN3.out; omega
    have y5 : (0 : Int) ≤ (n : Int) := by omega
    have kn : IntKind.i64.wrap (n : Int) = (n : Int) := i64_in _ ⟨by omega, by omega⟩
    go_wp2_with fail
    go_region_with ((go_at_call 46; refine (readTmp_any base b R C sb so (n + 4) mc n l d 0 c wc.drew L H1 hl hmc (by omega) (by omega) (by omega) (by omega)).mono ?_; rintro e w2 ⟨rfl, H2, hb2⟩))
    clear k0 h H1 e7
    obtain ⟨p, hp⟩ : ∃ p, p = (l.drop 0).take n := ⟨_, rfl⟩
    have HP := Lib.hid hp
    have hpn : p.length = n := by have := hl.out; rw [hp]; simp; omega
    rw [← hp] at H2
    clear hp
    have HPN := Lib.hid hpn
    have k2 : w2.cell? ⟨b, 2, none⟩ = some (.pointer (some ⟨C, 0, none⟩)) := H2.dec.pre_cell 2 (by rw [← H2.ec]; rfl)
    clear hpn
    go_wp2_with fail
    go_still_tail 9, (by kernel_rfl)
    change wpList _ _ _ _ _ w2.drew
    have H3 := H2.drew
    obtain ⟨w3, hw3⟩ : ∃ w3, w3 = w2.drew := ⟨_, rfl⟩
    have hb3 : Below base wc w3 := by rw [hw3]; exact ⟨hb2.os, hb2.tape, hb2.output, hb2.size, hb2.block⟩
    rw [← hw3] at H3 ⊢
    clear hw3 k2 H2 hb2
    have hrp : RB w3 (some ⟨b, 10, none⟩) p := by
      have := H3.dec.tmpAt.take n
      rw [← HPN.out, over_take] at this
      exact this
    go_wp2_with fail
    refine (writeSum_any base b R C sb so (n + 4) mc l (d.over p) (0 + n) c (some ⟨b, 10, none⟩) n 768 p w3 L H3 HPN hrp (by omega)).mono ?_
    rintro e w4 ⟨rfl, H4, hb4⟩
    have HB4 := Lib.hid (hb3.trans (hb4.mono (Nat.le_refl _)))
    clear hrp hb3 hb4 H3
    have hmk := make_palette
    obtain ⟨P, hP⟩ : ∃ P, P = w4.heap.size := ⟨_, rfl⟩
    have hbP : base ≤ P := by
      have h1 := HB4.out
      have h2 := L.b0
      have h3 : b < w4.heap.size := World.block_lt_of_cell? w4 _ (H4.dec.pre_cell 0 rfl)
      omega
    have nb : P ≠ b := by
      have h3 : b < w4.heap.size := World.block_lt_of_cell? w4 _ (H4.dec.pre_cell 0 rfl)
      omega
    have H5 := H4.below ((Below.refl _ _).alloc (Nat.le_refl _) (.cells nils 97))
    have q7 := H4.dec.pre_cell 7 (v := .int .i64 (k : Int)) (by rw [← E2.out]; rfl)
    have q6 := H4.dec.pre_cell 6 (v := .slice none 0 0) (by rw [← E0.out]; rfl)
    have f6 := H4.dec.frozen 6
    have q6' := H5.dec.pre_cell 6 (v := .slice none 0 0) (by rw [← E0.out]; rfl)
    have f6' := H5.dec.frozen 6
    obtain ⟨full, hfull⟩ : ∃ full, full = palV l np := ⟨_, rfl⟩
    have HF := Lib.hid hfull
    have hfl : full.length = 256 := by rw [hfull]; exact palV_length l np
    clear hfull
    have HFL := Lib.hid hfl
    clear hfl
    have H6 : Rdg b R C sb so (n + 4) mc l ((w4.alloc (.cells nils 97)).setCell ⟨b, 6, none⟩ (.slice (some ⟨P, 0, none⟩) 256 256)) { d.over p with pal := .slice (some ⟨P, 0, none⟩) 256 256 } (0 + n) (crcFrom c p) :=
      H5.set L 6 _ _ (by omega) rfl rfl rfl H5.dec.trl rfl rfl
    have HB6 : Hid (Below base wc ((w4.alloc (.cells nils 97)).setCell ⟨b, 6, none⟩ (.slice (some ⟨P, 0, none⟩) 256 256))) := Lib.hid ((HB4.out.alloc (by rw [← hP]; exact hbP) _).setCell (p := ⟨b, 6, none⟩) L.b0 _)
    have hp5 : ((w4.alloc (.cells nils 97)).setCell ⟨b, 6, none⟩ (.slice (some ⟨P, 0, none⟩) 256 256)).heap[P]? = some (.cells (fillTo full 0).toArray 97 (0, 0)) := by
      rw [heap_setCell_other _ _ _ _ nb, hP, heap_alloc_new]
      rfl
    have nR : P ≠ R := by
      obtain ⟨pr, hr⟩ := H4.rd
      intro e; rw [← e, hP] at hr; simp at hr
    have nC : P ≠ C := by
      have hr := H4.cr
      intro e; rw [← e, hP] at hr; simp at hr
    have HP' := Lib.hid hP
    clear hP
    obtain rfl | rfl | rfl | rfl : k = 7 ∨ k = 8 ∨ k = 9 ∨ k = 10 := by omega
    all_goals
      clear hk
      go_upto_region 15 with fail
      rw [← HP'.out]
      obtain ⟨w5, hw5⟩ : ∃ w5, w5 = (w4.alloc (.cells nils 97)).setCell ⟨b, 6, none⟩ (.slice (some ⟨P, 0, none⟩) 256 256) := ⟨_, rfl⟩
      rw [← hw5] at H6 HB6 hp5 ⊢
      clear hw5 H5 q7 q6 f6 q6' f6' H4 HB4 hmk
      go_wp2_with fail
      go_loopw [8] (fun i wr => ∃ t : Nat, t ≤ np ∧ i = .int .i64 (t : Int) ∧ Only P w5 wr ∧ wr.heap[P]? = some (.cells (fillTo full t).toArray 97 (0, 0))) (fun i _ => np - (intOf i).toNat)
      case atStart => exact ⟨0, Nat.zero_le _, rfl, Only.refl _ _, hp5⟩
      case round =>
        obtain ⟨t, ht, rfl, O, hrow⟩ := hrel
        have HR := H6.onlyP L O hbP nb nR nC
        by_cases hlt : t < np
        · have i0 : (0 : Int) ≤ (t : Int) := by omega
          have i1 : (t : Int) < (np : Int) := by omega
          have i2 : (t : Int) < 256 := by omega
          obtain ⟨q0, hq0⟩ : ∃ q, q = 3 * t := ⟨_, rfl⟩
          obtain ⟨q1, hq1⟩ : ∃ q, q = 3 * t + 1 := ⟨_, rfl⟩
          obtain ⟨q2, hq2⟩ : ∃ q, q = 3 * t + 2 := ⟨_, rfl⟩
          have z0 : (3 : Int) * (t : Int) = (q0 : Int) := by omega
          have z1 : (q0 : Int) + 1 = (q1 : Int) := by omega
          have z2 : (q0 : Int) + 2 = (q2 : Int) := by omega
          have r0 : (0 : Int) ≤ (q0 : Int) := by omega
          have r1 : (0 : Int) ≤ (q1 : Int) := by omega
          have r2 : (0 : Int) ≤ (q2 : Int) := by omega
          have v0 : (q0 : Int) < 768 := by omega
          have v1 : (q1 : Int) < 768 := by omega
          have v2 : (q2 : Int) < 768 := by omega
          have w0 : IntKind.i64.wrap (q0 : Int) = (q0 : Int) := i64_in _ ⟨by omega, by omega⟩
          have w1 : IntKind.i64.wrap (q1 : Int) = (q1 : Int) := i64_in _ ⟨by omega, by omega⟩
          have w2 : IntKind.i64.wrap (q2 : Int) = (q2 : Int) := i64_in _ ⟨by omega, by omega⟩
          have w3 : IntKind.i64.wrap (t : Int) = (t : Int) := i64_in _ ⟨by omega, by omega⟩
          obtain ⟨n0, hn0, m0, c0⟩ := HR.dec.byte q0 (10 + q0) (by omega) rfl
          obtain ⟨n1, hn1, m1, c1⟩ := HR.dec.byte q1 (10 + q1) (by omega) rfl
          obtain ⟨n2, hn2, m2, c2⟩ := HR.dec.byte q2 (10 + q2) (by omega) rfl
          have k6 : wr.cell? ⟨b, 6, none⟩ = some (.slice (some ⟨P, 0, none⟩) 256 256) := HR.dec.pre_cell 6 rfl
          have HT := Lib.hid (show q0 = 3 * t ∧ q1 = 3 * t + 1 ∧ q2 = 3 * t + 2 from ⟨hq0, hq1, hq2⟩)
          clear hq0 hq1 hq2 HR
          go_wp2_with fail
          go_still_tail 32, (by kernel_rfl)
          change wpList _ _ _ _ _ wr.drew
          have hcol : Value.iface 65 (.agg #[.int .u8 (n0 : Int), .int .u8 (n1 : Int), .int .u8 (n2 : Int), .int .u8 255]) = col l t := by
            rw [hn0.out, hn1.out, hn2.out, HT.out.1, HT.out.2.1, HT.out.2.2]
            unfold col
            have hov : ∀ j, j < n → ({ d.over p with pal := .slice (some ⟨P, 0, none⟩) 256 256 } : DecV).tmp.getD j 0 = l.getD j 0 := by
              intro j hj
              show (d.over p).tmp.getD j 0 = _
              rw [HP.out, over_byte d l 0 n j (by have := hl.out; omega) hj, Nat.zero_add]
            have h3 := HN3.out
            rw [hov _ (by omega), hov _ (by omega), hov _ (by omega)]
          have HCOL := Lib.hid hcol
          clear hcol
          have O2 := O.drew
          have hrow2 : wr.drew.heap[P]? = some (.cells (fillTo full t).toArray 97 (0, 0)) := hrow
          obtain ⟨w6, hw6⟩ : ∃ w6, w6 = wr.drew := ⟨_, rfl⟩
          rw [← hw6] at O2 hrow2 ⊢
          clear hw6 c0 c1 c2 k6 hrow O
          have kt : w6.cell? ⟨P, t, none⟩ = some .nilIface := by
            rw [cell_of_row w6 P t _ _ _ hrow2, List.getElem?_toArray]
            exact fillTo_at full HFL.out t (by omega)
          have ft := frozen_of_row w6 P t _ _ hrow2
          have O3 := O2.setCell t (Value.iface 65 (.agg #[.int .u8 (n0 : Int), .int .u8 (n1 : Int), .int .u8 (n2 : Int), .int .u8 255]))
          have hrow3 := heap_setCell_same w6 P t _ _ (Value.iface 65 (.agg #[.int .u8 (n0 : Int), .int .u8 (n1 : Int), .int .u8 (n2 : Int), .int .u8 255])) hrow2
          go_wp2_with fail
          go_round
          case rel =>
            refine ⟨t + 1, by omega, by go_num, O3, ?_⟩
            refine hrow3.trans ?_
            congr 2
            apply Array.toList_inj.1
            rw [Array.toList_setIfInBounds]
            refine fillTo_step full HFL.out t (Value.iface 65 (.agg #[.int .u8 (n0 : Int), .int .u8 (n1 : Int), .int .u8 (n2 : Int), .int .u8 255])) (by omega) ?_
            rw [HF.out, palV_at _ _ _ (by omega), if_pos hlt, HCOL.out]
          case measure => simp [intOf]; omega
        · obtain rfl : np = t := by omega
          have j0 : (np : Int) < 257 := by omega
          go_upto_region 20 with fail
          go_loopw [9] (fun i wr => ∃ t : Nat, np ≤ t ∧ t ≤ 256 ∧ i = .int .i64 (t : Int) ∧ Only P w5 wr ∧ wr.heap[P]? = some (.cells (fillTo full t).toArray 97 (0, 0))) (fun i _ => 256 - (intOf i).toNat)
          case atStart => exact ⟨np, Nat.le_refl _, by omega, rfl, O, hrow⟩
          case round =>
            obtain ⟨t, hlo, ht, rfl, O, hrow⟩ := hrel
            have HR := H6.onlyP L O hbP nb nR nC
            have k6 : wr.cell? ⟨b, 6, none⟩ = some (.slice (some ⟨P, 0, none⟩) 256 256) := HR.dec.pre_cell 6 rfl
            by_cases hlt : t < 256
            · have i0 : (0 : Int) ≤ (t : Int) := by omega
              have i2 : (t : Int) < 256 := by omega
              have kt : wr.cell? ⟨P, t, none⟩ = some .nilIface := by
                rw [cell_of_row wr P t _ _ _ hrow, List.getElem?_toArray]
                exact fillTo_at full HFL.out t (by omega)
              have ft := frozen_of_row wr P t _ _ hrow
              have O3 := O.setCell t black
              have hrow3 := heap_setCell_same wr P t _ _ black hrow
              clear HR
              go_wp2_with fail
              go_round
              case rel =>
                refine ⟨t + 1, by omega, by omega, by go_num, O3, ?_⟩
                refine hrow3.trans ?_
                congr 2
                apply Array.toList_inj.1
                rw [Array.toList_setIfInBounds]
                refine fillTo_step full HFL.out t black (by omega) ?_
                rw [HF.out, palV_at _ _ _ (by omega), if_neg (by omega)]
              case measure => simp [intOf]; omega
            · obtain rfl : t = 256 := by omega
              rw [fillTo_all full HFL.out] at hrow
              have f6 := HR.dec.frozen 6
              have y6 : (0 : Int) ≤ (np : Int) := by omega
              have kp : IntKind.i64.wrap (np : Int) = (np : Int) := i64_in _ ⟨by omega, by omega⟩
              have H7 : Rdg b R C sb so (n + 4) mc l (wr.setCell ⟨b, 6, none⟩ (.slice (some ⟨P, 0, none⟩) np 256)) { d.over p with pal := .slice (some ⟨P, 0, none⟩) np 256 } (0 + n) (crcFrom c p) :=
                HR.set L 6 _ _ (by omega) rfl rfl rfl HR.dec.trl rfl rfl
              clear HR
              go_upto_region 28 with fail
              go_wp2_with fail
              refine (verify2_any base b R C sb so (n + 4) mc l _ (0 + n) (crcFrom c p) _ L H7 hl hmc (by omega) (by omega)).mono ?_
              rintro e w8 ⟨rfl, H8, hb8, o8⟩
              go_wp2_with fail
              go_ret
              refine ⟨P, ?_, ?_, ?_, hbP, ?_⟩
              · rw [HP.out, List.drop_zero] <;> rfl
              · rw [← HN.out]
                exact H8.dec.pre_cell 6 rfl
              · rw [o8.block P nb nR, heap_setCell_other _ _ _ _ nb, hrow, HF.out, ← HN.out]
              · exact ((HB6.out.trans ((O.below hbP).mono (Nat.le_refl _))).setCell (p := ⟨b, 6, none⟩) L.b0 _).trans (hb8.mono (Nat.le_refl _))
end Go.Proofs.YtiiipmcjbibgoaaDoor
