/- The contract of the encoder's writePLTEAndTRNS. -/
import Derived.Test.YtiiipmcjbibgoaaDoorWIhdr
import Derived.Test.YtiiipmcjbibgoaaDoorPalOf
import Derived.Test.YtiiipmcjbibgoaaDoorPlMath
import Derived.Lib.AppendIntMem
import Derived.Lib.ItoaLen
import Derived.Laws.Concat
namespace Go.Proofs.YtiiipmcjbibgoaaDoor
open Go.ChangeShapes Go.WideShapes Go.ChangeAt Go.RowKit Go.IntWalk

/-- One of the encoder's own bytes is put in place. -/
theorem Wst.putB {B b bb : Nat} {s : List UInt8} {d : EncV} {w : World} (h : Wst B b bb none [] d s w) (o : Nat) (ho : o < 1024) (x : UInt8) :
    Wst B b bb none [] { d with tmp := d.tmp.set o x } s (w.setCell ⟨b, 17 + o, none⟩ (.int .u8 (x.toNat : Int))) ∧ Only b w (w.setCell ⟨b, 17 + o, none⟩ (.int .u8 (x.toNat : Int))) := by
  have on : Only b w (w.setCell ⟨b, 17 + o, none⟩ (.int .u8 (x.toNat : Int))) := (Only.refl _ _).setCell _ _
  have hj : o < d.tmp.length := by rw [h.enc.tl]; exact ho
  exact ⟨h.turnT on (h.enc.ofT _ (by rw [List.length_set]; exact h.enc.tl) (h.enc.segT.store h.enc.preT hj x)), on⟩
theorem Enc.tmpCell {w : World} {b : Nat} {d : EncV} (h : Enc w b d) (o : Nat) (ho : o < 1024) : w.cell? ⟨b, 17 + o, none⟩ = some (.int .u8 ((d.tmp.getD o 0).toNat : Int)) := h.segT.cellAt h.preT (by rw [h.tl]; exact ho)
/-- The chunks of a palette. -/
def palChunks (S : List Sh) (m : Nat) : List UInt8 := chunk plteName (rgbs S) ++ (if laN S m = 0 then [] else chunk trnsName ((als S).take (laN S m)))
def WpEnd (B b bb m : Nat) (S : List Sh) (s : List UInt8) (d : EncV) (w : World) (e : Ending) (w' : World) : Prop :=
  e = .returned (.tuple #[]) ∧ ∃ d' : EncV, d'.hd = d.hd ∧ Enc w' b d' ∧ Buf B bb (s ++ palChunks S m) w' ∧ Tab w' ∧ Below B w w'
def WpBad (B b bb : Nat) (s : List UInt8) (w : World) (e : Ending) (w' : World) : Prop :=
  e = .returned (.tuple #[]) ∧ ∃ (d' : EncV) (z : ByteArray), d'.err = .iface 94 (.string z) ∧ Enc w' b d' ∧ Buf B bb s w' ∧ Below B w w'

theorem bad_end {B b bb : Nat} {s : List UInt8} {d : EncV} {w w1 : World} (H : Wst B b bb none [] d s w1) (hb : Below B w w1) (z : ByteArray) : WpBad B b bb s w (.returned (.tuple #[])) (w1.setCell ⟨b, 4, none⟩ (.iface 94 (.string z))) := by
  have on : Only b w1 (w1.setCell ⟨b, 4, none⟩ (.iface 94 (.string z))) := (Only.refl _ _).setCell _ _
  have H2 := H.turnT on (H.enc.setErr _)
  exact ⟨rfl, _, z, rfl, H2.enc, H2.buf, hb.trans (on.below H.hb)⟩

set_option maxHeartbeats 3200000 in
set_option maxRecDepth 100000 in
theorem writePLTE_bad (B b bb m pcap : Nat) (ad : Option Addr) (s : List UInt8) (d : EncV) (w : World) (H : Wst B b bb none [] d s w) (ee : d.err = .nilIface) (hm : m = 0 ∨ 256 < m) (hm2 : m ≤ 1000) (hpow : Lib.TabIs Tryd.prog w "internal/strconv.uint64pow10" .u64 Lib.pow10Tab) :
    Calls Tryd.prog 44 #[.pointer (some ⟨b, 0, none⟩), .slice ad m pcap] w (WpBad B b bb s w) := by
  have hcase : decide ((m : Int) < 1) = true ∨ (decide ((m : Int) < 1) = false ∧ decide ((256 : Int) < (m : Int)) = true) := by
    rcases hm with h | h
    · exact .inl (decide_eq_true (by omega))
    · exact .inr ⟨decide_eq_false (by omega), decide_eq_true (by omega)⟩
  have hBw : B ≤ w.heap.size := by have := H.hb; have := H.lt; omega
  rcases hcase with q1 | ⟨q1, q2⟩
  all_goals
    go_enter Tryd.func44, Tryd.ntmps44
    go_wp2_with fail
    refine (Tryd.strconv_Itoa (m : Int) (by omega) (by omega) w hpow).mono ?_
    rintro e w1' ⟨rfl, kk, os, rfl⟩
    obtain ⟨zs, hzs⟩ : ∃ zs : ByteArray, zs = ⟨(Lib.itoa (m : Int)).toArray⟩ := ⟨_, rfl⟩
    have hzl : zs.size ≤ 1000 := by rw [hzs]; (have := Lib.itoa_length_le (m : Int) (by omega) (by omega); show (Lib.itoa (m : Int)).toArray.size ≤ 1000; rw [List.size_toArray]; omega)
    rw [← hzs]
    have hadd := fun w => run_string_add_sum (P := Tryd.prog) w ⟨#[98, 97, 100, 32, 112, 97, 108, 101, 116, 116, 101, 32, 108, 101, 110, 103, 116, 104, 58, 32]⟩ zs (by have : (ByteArray.mk #[98, 97, 100, 32, 112, 97, 108, 101, 116, 116, 101, 32, 108, 101, 110, 103, 116, 104, 58, 32]).size = 20 := rfl; omega)
    clear hzs hzl
    have hb1 := Lib.below_grow w.heap.size w (Nat.le_refl _) kk os
    obtain ⟨w1, hw1⟩ : ∃ q, q = Go.Sort.grow (w.drewN kk) os := ⟨_, rfl⟩
    rw [← hw1] at hb1 ⊢
    clear hw1
    have H1 := H.grow hb1
    have k4 := H1.enc.hd_cell 4 (v := .nilIface) (by rw [← ee]; rfl)
    have f4 := H1.enc.frozen 4
    have H1' := Lib.hid H1
    have HB1 : Hid (Below B w w1) := Lib.hid (hb1.mono hBw)
    clear H1 hb1
    go_wp2_with fail
    go_end0
    exact bad_end H1'.out HB1.out _

set_option maxHeartbeats 6400000 in
set_option maxRecDepth 100000 in
theorem writePLTE_ok (B b bb m q pcap : Nat) (S : List Sh) (s : List UInt8) (d : EncV) (w : World) (H : Wst B b bb none [] d s w) (ew : d.bp = .pointer (some ⟨bb, 0, none⟩)) (ee : d.err = .nilIface) (hs : s.length ≤ 1000000) (hm1 : 1 ≤ m) (hm : m ≤ 256) (hS : Hid (S.length = m))
    (hpal : Hid (∀ j s, S[j]? = some s → w.cell? ⟨q, j, none⟩ = some (ngV s))) (hq : q < B) :
    Calls Tryd.prog 44 #[.pointer (some ⟨b, 0, none⟩), .slice (some ⟨q, 0, none⟩) m pcap] w (WpEnd B b bb m S s d w) := by
  have q1 : decide ((m : Int) < 1) = false := decide_eq_false (by omega)
  have q2 : decide ((256 : Int) < (m : Int)) = false := decide_eq_false (by omega)
  have HBB := Lib.hid H.hb
  have HEE := Lib.hid ee
  have HEW := Lib.hid ew
  have HTL := Lib.hid H.enc.tl
  have HQ := Lib.hid hq
  clear ee ew hq
  go_enter Tryd.func44, Tryd.ntmps44
  go_upto_region 4 with fail
  clear q1 q2
  go_loopw [4, 26] (fun last i wr => ∃ (t : Nat) (z : Int), t ≤ m ∧ i = .int .i64 (t : Int) ∧ last = .int .i64 z ∧ Hid (z = (laN S t : Int) - 1) ∧ Hid (Wst B b bb none [] { d with tmp := tmpT d.tmp S t } s wr) ∧ Below B w wr) (fun _ i _ => m - (intOf i).toNat)
  case atStart => exact ⟨0, -1, Nat.zero_le _, rfl, rfl, Lib.hid rfl, Lib.hid H, Below.refl _ _⟩
  case round =>
    obtain ⟨t, z, ht, rfl, rfl, HZ, HW, hbel⟩ := hrel
    by_cases hlt : t < m
    · obtain ⟨sh, hsh⟩ : ∃ s, S[t]? = some s := ⟨_, List.getElem?_eq_getElem (by rw [hS.out]; exact hlt)⟩
      have i0 : (0 : Int) ≤ (t : Int) := by omega
      have i1 : (t : Int) < (m : Int) := by omega
      have kt : IntKind.i64.wrap (t : Int) = (t : Int) := i64_in _ ⟨by omega, by omega⟩
      obtain ⟨q0, hq0⟩ : ∃ q, q = 3 * t := ⟨_, rfl⟩
      obtain ⟨q1, hq1⟩ : ∃ q, q = 3 * t + 1 := ⟨_, rfl⟩
      obtain ⟨q2, hq2⟩ : ∃ q, q = 3 * t + 2 := ⟨_, rfl⟩
      obtain ⟨q3, hq3⟩ : ∃ q, q = 768 + t := ⟨_, rfl⟩
      have z0 : (3 : Int) * (t : Int) = (q0 : Int) := by omega
      have z1 : (q0 : Int) + 1 = (q1 : Int) := by omega
      have z2 : (q0 : Int) + 2 = (q2 : Int) := by omega
      have z3 : (768 : Int) + (t : Int) = (q3 : Int) := by omega
      have r0 : (0 : Int) ≤ (q0 : Int) := by omega
      have r1 : (0 : Int) ≤ (q1 : Int) := by omega
      have r2 : (0 : Int) ≤ (q2 : Int) := by omega
      have r3 : (0 : Int) ≤ (q3 : Int) := by omega
      have v0 : (q0 : Int) < 1024 := by omega
      have v1 : (q1 : Int) < 1024 := by omega
      have v2 : (q2 : Int) < 1024 := by omega
      have v3 : (q3 : Int) < 1024 := by omega
      have k0 : IntKind.i64.wrap (q0 : Int) = (q0 : Int) := i64_in _ ⟨by omega, by omega⟩
      have k1 : IntKind.i64.wrap (q1 : Int) = (q1 : Int) := i64_in _ ⟨by omega, by omega⟩
      have k2 : IntKind.i64.wrap (q2 : Int) = (q2 : Int) := i64_in _ ⟨by omega, by omega⟩
      have k3 : IntKind.i64.wrap (q3 : Int) = (q3 : Int) := i64_in _ ⟨by omega, by omega⟩
      have ct : wr.cell? ⟨q, t, none⟩ = some (ngV sh) := (World.cell?_of_block (w := w) (hbel.block q HQ.out)).trans (hpal.out t sh hsh)
      unfold ngV agg4 at ct
      have HSH : Hid (S.getD t Sh.no = sh) := Lib.hid (by simp [List.getD, hsh])
      have HQS : Hid (q0 = 3 * t ∧ q1 = 3 * t + 1 ∧ q2 = 3 * t + 2 ∧ q3 = 768 + t ∧ t < 256) := Lib.hid ⟨hq0, hq1, hq2, hq3, by omega⟩
      have HBEL := Lib.hid hbel
      clear hsh hq0 hq1 hq2 hq3 hbel
      go_wp2_with (go_at_call 53; refine (nrgbaOf_any _ _ _ _ wr).mono ?_; rintro e w1 ⟨rfl, hb1⟩)
      obtain ⟨N, hN⟩ : ∃ N, N = w1.heap.size := ⟨_, rfl⟩
      obtain ⟨u0, hu0⟩ : ∃ q, q = w1.alloc (.cells #[.int .u8 (sh.r.toNat : Int), .int .u8 (sh.g.toNat : Int), .int .u8 (sh.b.toNat : Int), .int .u8 (sh.a.toNat : Int)] 98) := ⟨_, rfl⟩
      have hb2 : Below wr.heap.size wr u0 := by rw [hu0]; exact hb1.alloc hb1.size _
      have hn0 : u0.heap[N]? = some (.cells #[.int .u8 (sh.r.toNat : Int), .int .u8 (sh.g.toNat : Int), .int .u8 (sh.b.toNat : Int), .int .u8 (sh.a.toNat : Int)] 98 (0, 0)) := by rw [hu0, hN]; exact heap_alloc_new w1 _
      have H0 := HW.out.grow hb2
      have HNB : Hid (N ≠ b ∧ B ≤ wr.heap.size) := Lib.hid (by
        have h1 := HW.out.lt
        have h2 := hb1.size
        have h3 := HBB.out
        omega)
      have HB0 : Hid (Below B w u0) := Lib.hid (HBEL.out.trans (hb2.mono HNB.out.2))
      rw [← hu0, ← hN]
      clear hu0 hN hb1 hb2 ct HW
      have e0 : u0.cell? ⟨N, 0, none⟩ = some (.int .u8 (sh.r.toNat : Int)) := by rw [cell_of_row u0 N 0 _ _ _ hn0]; rfl
      go_still_tail 9, (by kernel_rfl)
      change wpList _ _ _ _ _ u0.drew
      have D0 := H0.drew
      have n0' : u0.drew.heap[N]? = some (.cells #[.int .u8 (sh.r.toNat : Int), .int .u8 (sh.g.toNat : Int), .int .u8 (sh.b.toNat : Int), .int .u8 (sh.a.toNat : Int)] 98 (0, 0)) := hn0
      obtain ⟨x0, hx0⟩ : ∃ q, q = u0.drew := ⟨_, rfl⟩
      have HX0 : Hid (Below B w x0) := Lib.hid (by rw [hx0]; exact HB0.out.drew)
      rw [← hx0] at D0 n0' ⊢
      clear hx0 H0 hn0 e0 HB0
      have c0 := D0.enc.tmpCell q0 (by have := HQS.out; omega)
      have f0 := D0.enc.frozen (17 + q0)
      obtain ⟨H1, on0⟩ := D0.putB q0 (by have := HQS.out; omega) sh.r
      have hn1 := (on0.block N HNB.out.1).trans n0'
      obtain ⟨u1, hu1⟩ : ∃ q, q = x0.setCell ⟨b, 17 + q0, none⟩ (.int .u8 (sh.r.toNat : Int)) := ⟨_, rfl⟩
      have HB1 : Hid (Below B w u1) := Lib.hid (by rw [hu1]; exact HX0.out.trans (on0.below HBB.out))
      rw [← hu1] at H1 hn1
      clear on0 D0 n0' HX0
      go_wp2_with fail
      rw [← hu1]
      clear hu1 c0 f0
      have e1 : u1.cell? ⟨N, 1, none⟩ = some (.int .u8 (sh.g.toNat : Int)) := by rw [cell_of_row u1 N 1 _ _ _ hn1]; rfl
      go_still_tail 9, (by kernel_rfl)
      change wpList _ _ _ _ _ u1.drew
      have D1 := H1.drew
      have n1' : u1.drew.heap[N]? = some (.cells #[.int .u8 (sh.r.toNat : Int), .int .u8 (sh.g.toNat : Int), .int .u8 (sh.b.toNat : Int), .int .u8 (sh.a.toNat : Int)] 98 (0, 0)) := hn1
      obtain ⟨x1, hx1⟩ : ∃ q, q = u1.drew := ⟨_, rfl⟩
      have HX1 : Hid (Below B w x1) := Lib.hid (by rw [hx1]; exact HB1.out.drew)
      rw [← hx1] at D1 n1' ⊢
      clear hx1 H1 hn1 e1 HB1
      have c1 := D1.enc.tmpCell q1 (by have := HQS.out; omega)
      have f1 := D1.enc.frozen (17 + q1)
      obtain ⟨H2, on1⟩ := D1.putB q1 (by have := HQS.out; omega) sh.g
      have hn2 := (on1.block N HNB.out.1).trans n1'
      obtain ⟨u2, hu2⟩ : ∃ q, q = x1.setCell ⟨b, 17 + q1, none⟩ (.int .u8 (sh.g.toNat : Int)) := ⟨_, rfl⟩
      have HB2 : Hid (Below B w u2) := Lib.hid (by rw [hu2]; exact HX1.out.trans (on1.below HBB.out))
      rw [← hu2] at H2 hn2
      clear on1 D1 n1' HX1
      go_wp2_with fail
      rw [← hu2]
      clear hu2 c1 f1
      have e2 : u2.cell? ⟨N, 2, none⟩ = some (.int .u8 (sh.b.toNat : Int)) := by rw [cell_of_row u2 N 2 _ _ _ hn2]; rfl
      go_still_tail 9, (by kernel_rfl)
      change wpList _ _ _ _ _ u2.drew
      have D2 := H2.drew
      have n2' : u2.drew.heap[N]? = some (.cells #[.int .u8 (sh.r.toNat : Int), .int .u8 (sh.g.toNat : Int), .int .u8 (sh.b.toNat : Int), .int .u8 (sh.a.toNat : Int)] 98 (0, 0)) := hn2
      obtain ⟨x2, hx2⟩ : ∃ q, q = u2.drew := ⟨_, rfl⟩
      have HX2 : Hid (Below B w x2) := Lib.hid (by rw [hx2]; exact HB2.out.drew)
      rw [← hx2] at D2 n2' ⊢
      clear hx2 H2 hn2 e2 HB2
      have c2 := D2.enc.tmpCell q2 (by have := HQS.out; omega)
      have f2 := D2.enc.frozen (17 + q2)
      obtain ⟨H3, on2⟩ := D2.putB q2 (by have := HQS.out; omega) sh.b
      have hn3 := (on2.block N HNB.out.1).trans n2'
      obtain ⟨u3, hu3⟩ : ∃ q, q = x2.setCell ⟨b, 17 + q2, none⟩ (.int .u8 (sh.b.toNat : Int)) := ⟨_, rfl⟩
      have HB3 : Hid (Below B w u3) := Lib.hid (by rw [hu3]; exact HX2.out.trans (on2.below HBB.out))
      rw [← hu3] at H3 hn3
      clear on2 D2 n2' HX2
      have g3 : (x2.setCell ⟨b, 17 + q2, none⟩ (.int .u8 (sh.b.toNat : Int))).cell? ⟨N, 3, none⟩ = some (.int .u8 (sh.a.toNat : Int)) := by rw [← hu3, cell_of_row u3 N 3 _ _ _ hn3]; rfl
      by_cases ha : sh.a = 255
      all_goals
        first
          | (have ha2 : ((sh.a.toNat : Int) != 255) = false := by rw [ha]; rfl)
          | (have ha2 : ((sh.a.toNat : Int) != 255) = true := by
              have : sh.a.toNat ≠ 255 := fun h => ha (UInt8.toNat_inj.1 h)
              simp
              omega)
        have HA := Lib.hid ha
        clear ha
        go_wp2_with fail
        rw [← hu3]
        clear hu3 c2 f2 g3 ha2
        have e3 : u3.cell? ⟨N, 3, none⟩ = some (.int .u8 (sh.a.toNat : Int)) := by rw [cell_of_row u3 N 3 _ _ _ hn3]; rfl
        go_still_tail 8, (by kernel_rfl)
        change wpList _ _ _ _ _ u3.drew
        have D3 := H3.drew
        have n3' : u3.drew.heap[N]? = some (.cells #[.int .u8 (sh.r.toNat : Int), .int .u8 (sh.g.toNat : Int), .int .u8 (sh.b.toNat : Int), .int .u8 (sh.a.toNat : Int)] 98 (0, 0)) := hn3
        obtain ⟨x3, hx3⟩ : ∃ q, q = u3.drew := ⟨_, rfl⟩
        have HX3 : Hid (Below B w x3) := Lib.hid (by rw [hx3]; exact HB3.out.drew)
        rw [← hx3] at D3 n3' ⊢
        clear hx3 H3 hn3 e3 HB3
        have c3 := D3.enc.tmpCell q3 (by have := HQS.out; omega)
        have f3 := D3.enc.frozen (17 + q3)
        obtain ⟨H4, on3⟩ := D3.putB q3 (by have := HQS.out; omega) sh.a
        have hn4 := (on3.block N HNB.out.1).trans n3'
        obtain ⟨u4, hu4⟩ : ∃ q, q = x3.setCell ⟨b, 17 + q3, none⟩ (.int .u8 (sh.a.toNat : Int)) := ⟨_, rfl⟩
        have HB4 : Hid (Below B w u4) := Lib.hid (by rw [hu4]; exact HX3.out.trans (on3.below HBB.out))
        rw [← hu4] at H4 hn4
        clear on3 D3 n3' HX3
        go_wp2_with fail
        rw [← hu4]
        clear hu4 c3 f3
        have HW4 : Hid (Wst B b bb none [] { d with tmp := tmpT d.tmp S (t + 1) } s u4) := Lib.hid (by
          have e := HQS.out
          rw [e.1, e.2.1, e.2.2.1, e.2.2.2.1] at H4
          have es := HSH.out
          unfold tmpT
          rw [es]
          exact H4)
        clear H4
        go_round
        case rel =>
          refine ⟨t + 1, _, by omega, by go_num, rfl, Lib.hid ?_, HW4, HB4.out⟩
          unfold laN
          rw [HSH.out]
          first
            | (rw [if_pos HA.out]; exact HZ.out)
            | (rw [if_neg HA.out]; omega)
        case measure => simp [intOf]; omega
    · obtain rfl : m = t := by omega
      obtain ⟨qm, hqm⟩ : ∃ q, q = 3 * m := ⟨_, rfl⟩
      have z0 : (3 : Int) * (m : Int) = (qm : Int) := by omega
      have r0 : (0 : Int) ≤ (qm : Int) := by omega
      have v0 : (qm : Int) ≤ 1024 := by omega
      have k0 : IntKind.i64.wrap (qm : Int) = (qm : Int) := i64_in _ ⟨by omega, by omega⟩
      have hrl : Hid ((rgbs S).length = qm) := Lib.hid (by rw [rgbs_len, hS.out, hqm])
      have HQM : Hid (qm = 3 * m) := Lib.hid hqm
      have H1 := HW.out.ofTmp 0 (rgbs S) (tmpT_head d.tmp S HTL.out m hm hS.out)
      have H1' := Lib.hid H1
      have HBL := Lib.hid hbel
      clear hqm H1 HW hbel hlt ht
      go_wp2_with fail
      refine (writeChunk_any B b bb qm 1024 _ (rgbs S) s _ 80 76 84 69 wr H1'.out hrl (by intro h; cases h) (by omega) (by omega) ?_ ?_).mono ?_
      · exact HEW.out
      · exact HEE.out
      rintro e w2 ⟨rfl, d2, ht2, hh2, he2, hb2, hta2, hbel2⟩
      have HB2 : Hid (Below B w w2) := Lib.hid (HBL.out.trans hbel2)
      have HD2 : Hid (d2.tmp = tmpT d.tmp S m ∧ d2.hd = d.hd) := Lib.hid ⟨ht2, hh2⟩
      have H2 : Hid (Wst B b bb none [] d2 (s ++ chunk plteName (rgbs S)) w2) := Lib.hid ⟨he2, hb2, hta2, .inl ⟨(fun _ h => by cases h), RB.nil _ _⟩, H1'.out.hb, H1'.out.hbb, H1'.out.ne, H1'.out.ht⟩
      clear ht2 hh2 he2 hb2 hta2 hbel2 H1' HBL
      have hla := laN_le S m
      by_cases h0 : laN S m = 0
      · have y1 : (z != -1) = false := by have := HZ.out; rw [h0] at this; rw [this]; rfl
        have HP : Hid (palChunks S m = chunk plteName (rgbs S)) := Lib.hid (by unfold palChunks; rw [if_pos h0, List.append_nil])
        clear h0 hla
        go_wp2_with fail
        go_end0
        exact ⟨rfl, d2, HD2.out.2, H2.out.enc, by rw [HP.out]; exact H2.out.buf, H2.out.tab, HB2.out⟩
      · obtain ⟨la, hlaq⟩ : ∃ la, la = laN S m := ⟨_, rfl⟩
        have y1 : (z != -1) = true := by have := HZ.out; simp; omega
        obtain ⟨q9, hq9⟩ : ∃ q, q = 768 + la := ⟨_, rfl⟩
        have y2 : (769 : Int) + z = (q9 : Int) := by have := HZ.out; omega
        have y3 : IntKind.i64.wrap (q9 : Int) = (q9 : Int) := i64_in _ ⟨by omega, by omega⟩
        have y4 : (768 : Int) ≤ (q9 : Int) := by omega
        have y5 : (q9 : Int) ≤ 1024 := by omega
        have y6 : q9 - 768 = la := by omega
        have hal : Hid (((als S).take la).length = la) := Lib.hid (by rw [List.length_take, als_len, hS.out]; omega)
        have HLM : Hid (la ≤ m ∧ la = laN S m ∧ laN S m ≠ 0) := Lib.hid ⟨by omega, hlaq, h0⟩
        have H3 := H2.out.ofTmp 768 ((als S).take la) (by rw [HD2.out.1]; exact tmpT_tail d.tmp S HTL.out m la hm hS.out (by omega))
        have H3' := Lib.hid H3
        clear H3 h0 hla hlaq hq9
        go_wp2_with fail
        have hbp : d2.bp = d.bp := by
          have := congrArg (fun x : List Value => x[1]?) HD2.out.2
          simpa [EncV.hd] using this
        have her : d2.err = d.err := by
          have := congrArg (fun x : List Value => x[4]?) HD2.out.2
          simpa [EncV.hd] using this
        have hsl : (s ++ chunk plteName (rgbs S)).length ≤ 100000000 := by rw [List.length_append, chunk_length _ _ rfl, hrl.out, HQM.out]; omega
        refine (writeChunk_any B b bb la 256 _ ((als S).take la) (s ++ chunk plteName (rgbs S)) d2 116 82 78 83 w2 H3'.out hal (by intro h; cases h) (by have := HLM.out; omega) hsl (hbp.trans HEW.out) (her.trans HEE.out)).mono ?_
        rintro e w4 ⟨rfl, d4, ht4, hh4, he4, hb4, hta4, hbel4⟩
        have HP : Hid (palChunks S m = chunk plteName (rgbs S) ++ chunk trnsName ((als S).take la)) := Lib.hid (by unfold palChunks; rw [if_neg HLM.out.2.2, HLM.out.2.1])
        have HX : Hid (∃ d' : EncV, d'.hd = d.hd ∧ Enc w4 b d' ∧ Buf B bb (s ++ palChunks S m) w4 ∧ Tab w4 ∧ Below B w w4) :=
          Lib.hid ⟨d4, hh4.trans HD2.out.2, he4, by rw [HP.out, ← List.append_assoc]; exact hb4, hta4, HB2.out.trans hbel4⟩
        clear ht4 hh4 he4 hb4 hta4 hbel4 hbp her hsl
        go_wp2_with fail
        go_end0
        exact ⟨rfl, HX.out⟩
end Go.Proofs.YtiiipmcjbibgoaaDoor
