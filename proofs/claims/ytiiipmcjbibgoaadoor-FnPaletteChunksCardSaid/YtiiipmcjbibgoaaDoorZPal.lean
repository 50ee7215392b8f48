/- The contracts of ZZPalette and of the thin package's PaletteChunks. -/
import Derived.Test.YtiiipmcjbibgoaaDoorWPlte
namespace Go.Proofs.YtiiipmcjbibgoaaDoor
open Go.ChangeShapes Go.WideShapes Go.ChangeAt Go.RowKit Go.IntWalk

abbrev Pow (w : World) : Prop := Lib.TabIs Tryd.prog w "internal/strconv.uint64pow10" .u64 Lib.pow10Tab
theorem gPow10 : Tryd.prog.globalNamed "internal/strconv.uint64pow10" = some 5 := by kernel_rfl
theorem pow_below {W W' : World} (h : Pow W) (hb : Below W.heap.size W W') : Pow W' := var?_below hb gPow10 (var_lt gPow10 h) h
theorem own_shape {w : World} {base n : Nat} {E : TypeId} {v : Value} {xs : List Value} (h : w.ownsRow base E 1 v n xs) : ∃ ad cap, v = .slice ad n cap := by
  rcases h.2 with ⟨rfl, h2⟩ | ⟨g, cap, cur, rfl, -⟩
  · exact ⟨none, 0, by rw [h2]⟩
  · exact ⟨_, _, rfl⟩
def ZPcEnd (S : List Sh) (m : Nat) (w : World) (e : Ending) (w' : World) : Prop :=
  ∃ v, e = .returned (.tuple #[v, .nilIface]) ∧ OwnB w' w.heap.size v (palChunks S m) ∧ Below w.heap.size w w'
def ZPcBad (w : World) (e : Ending) (w' : World) : Prop :=
  ∃ v z, e = .returned (.tuple #[v, .iface 94 (.string z)]) ∧ Below w.heap.size w w'

set_option maxHeartbeats 3200000 in
set_option maxRecDepth 100000 in
theorem zzPalette_ok (m q pcap : Nat) (S : List Sh) (w : World) (hm1 : 1 ≤ m) (hm : m ≤ 256) (hS : Hid (S.length = m)) (hpal : Hid (∀ j s, S[j]? = some s → w.cell? ⟨q, j, none⟩ = some (ngV s))) (hq : q < w.heap.size) (htab : Tab w) :
    Calls Tryd.prog 34 #[.slice (some ⟨q, 0, none⟩) m pcap] w (ZPcEnd S m w) := by
  obtain ⟨H, hb0⟩ := begun_wst w .nilIface (.int .i64 0) none [] htab (.inl ⟨(fun _ h => by cases h), RB.nil _ _⟩)
  have hpal1 : Hid (∀ j s, S[j]? = some s → (begunE w .nilIface (.int .i64 0)).cell? ⟨q, j, none⟩ = some (ngV s)) := Lib.hid fun j s h => (World.cell?_of_block (w := w) (hb0.block q hq)).trans (hpal.out j s h)
  have HB0 := Lib.hid hb0
  clear hb0 htab hpal
  go_enter Tryd.func34, Tryd.ntmps34
  go_upto_region 3 with fail
  rw [eC_walk]
  change Code.wp _ _ _ _ (begunE w .nilIface (.int .i64 0))
  obtain ⟨w1, hw1⟩ : ∃ q, q = begunE w .nilIface (.int .i64 0) := ⟨_, rfl⟩
  rw [← hw1] at H HB0 hpal1 ⊢
  clear hw1
  generalize hG : w.heap.size = G at H HB0 hq ⊢
  have HG := Lib.hid hG
  clear hG
  go_wp2_with fail
  refine (writePLTE_ok G (G + 1) G m q pcap S [] _ w1 H rfl rfl (by simp) hm1 hm hS hpal1 hq).mono ?_
  rintro e w2 ⟨rfl, d', hhd, henc, hbuf, htab, hbel⟩
  have HB2 : Hid (Below G w w2) := Lib.hid (HB0.out.trans hbel)
  have k4 := henc.hd_cell 4 (v := .nilIface) (by rw [hhd]; rfl)
  rw [List.nil_append] at hbuf
  have HBF : Buf G G (palChunks S m) w2.drew := hbuf.drew
  clear H HB0 hbel hbuf htab henc hhd
  go_wp2_with fail
  go_region_with ((go_at_call 43; refine (Tryd.Buffer_Bytes G G _ w2.drew HBF).mono ?_; rintro e w3 ⟨v, rfl, hown, q, rfl⟩))
  all_goals
    have hown2 : OwnB (w2.drew.drewN q) w.heap.size v (palChunks S m) := by
      unfold OwnB
      rw [cellsB_length] at hown
      rw [HG.out]
      exact hown
    have hb3 : Below w.heap.size w (w2.drew.drewN q) := by
      have := HB2.out
      rw [HG.out]
      exact ⟨this.os, this.tape, this.output, this.size, this.block⟩
    have HO := Lib.hid hown2
    have HB3 := Lib.hid hb3
    clear hown hown2 hb3 HBF
    go_wp2_with fail
    go_ret2
    exact ⟨v, rfl, HO.out, ⟨HB3.out.os, HB3.out.tape, HB3.out.output, HB3.out.size, HB3.out.block⟩⟩

set_option maxHeartbeats 3200000 in
set_option maxRecDepth 100000 in
theorem zzPalette_bad (m pcap : Nat) (ad : Option Addr) (w : World) (hm : m = 0 ∨ 256 < m) (hm2 : m ≤ 1000) (htab : Tab w) (hpow : Pow w) :
    Calls Tryd.prog 34 #[.slice ad m pcap] w (ZPcBad w) := by
  obtain ⟨H, hb0⟩ := begun_wst w .nilIface (.int .i64 0) none [] htab (.inl ⟨(fun _ h => by cases h), RB.nil _ _⟩)
  have hp1 := pow_below hpow hb0
  have HB0 := Lib.hid hb0
  clear hb0 htab hpow
  go_enter Tryd.func34, Tryd.ntmps34
  go_upto_region 3 with fail
  rw [eC_walk]
  change Code.wp _ _ _ _ (begunE w .nilIface (.int .i64 0))
  obtain ⟨w1, hw1⟩ : ∃ q, q = begunE w .nilIface (.int .i64 0) := ⟨_, rfl⟩
  rw [← hw1] at H HB0 hp1 ⊢
  clear hw1
  generalize hG : w.heap.size = G at H HB0 ⊢
  have HG := Lib.hid hG
  clear hG
  go_wp2_with fail
  refine (writePLTE_bad G (G + 1) G m pcap ad [] _ w1 H rfl hm hm2 hp1).mono ?_
  rintro e w2 ⟨rfl, d', z, herr, henc, hbuf, hbel⟩
  have HB2 : Hid (Below G w w2) := Lib.hid (HB0.out.trans hbel)
  have k4 := henc.hd_cell 4 (v := .iface 94 (.string z)) (by rw [← herr]; rfl)
  have HBF : Buf G G [] w2.drew := hbuf.drew
  clear H HB0 hbel hbuf henc herr hp1
  go_wp2_with fail
  go_region_with ((go_at_call 43; refine (Tryd.Buffer_Bytes G G _ w2.drew HBF).mono ?_; rintro e w3 ⟨v, rfl, hown, q, rfl⟩))
  all_goals
    have hb3 : Below w.heap.size w (w2.drew.drewN q) := by
      have := HB2.out
      rw [HG.out]
      exact ⟨this.os, this.tape, this.output, this.size, this.block⟩
    have HB3 := Lib.hid hb3
    clear hown hb3 HBF
    go_wp2_with fail
    go_ret2
    exact ⟨v, z, rfl, ⟨HB3.out.os, HB3.out.tape, HB3.out.output, HB3.out.size, HB3.out.block⟩⟩

theorem palChunks_len (S : List Sh) (m : Nat) (hS : S.length = m) (hm : m ≤ 256) : (palChunks S m).length ≤ 1100 ∧ 12 + 3 * m ≤ (palChunks S m).length := by
  unfold palChunks
  rw [List.length_append, chunk_length _ _ rfl, rgbs_len, hS]
  by_cases h : laN S m = 0
  · rw [if_pos h]; simp; omega
  · rw [if_neg h, chunk_length _ _ rfl, List.length_take, als_len, hS]; omega
def IPcEnd (S : List Sh) (m : Nat) (w : World) (e : Ending) (w' : World) : Prop :=
  ∃ v, e = .returned (.tuple #[v, .bool true]) ∧ OwnB w' w.heap.size v (palChunks S m) ∧ Below w.heap.size w w'
def IPcBad (w : World) (e : Ending) (w' : World) : Prop :=
  e = .returned (.tuple #[.slice none 0 0, .bool false]) ∧ Below w.heap.size w w'

set_option maxHeartbeats 1600000 in
set_option maxRecDepth 100000 in
theorem implPalChunks_ok (m pcap : Nat) (ap : Option Addr) (S : List Sh) (w : World) (hm1 : 1 ≤ m) (hm : m ≤ 256) (hS : Hid (InS w ap m pcap S)) (htab : Tab w) :
    Calls Tryd.prog 23 #[.slice ap m pcap] w (IPcEnd S m w) := by
  have hSl : Hid (S.length = m) := hS.out.hlen
  go_enter Tryd.func23, Tryd.ntmps23
  go_wp2_with fail
  refine (paletteOf_any ap m pcap S w hS (by omega)).mono ?_
  rintro e w1 ⟨v1, rfl, hown, hb1⟩
  obtain ⟨q, qcap, rest, rfl, hq, -, hrow⟩ := own_row hown (by omega)
  have ht1 := htab.below hb1
  have hpal : Hid (∀ j s, S[j]? = some s → w1.cell? ⟨q, j, none⟩ = some (ngV s)) := Lib.hid fun j s hj => by
    rw [cell_of_row w1 q j _ _ _ hrow, List.getElem?_toArray, List.getElem?_append_left (by rw [List.length_map]; exact (List.getElem?_eq_some_iff.1 hj).1)]
    simp [hj]
  have hql : q < w1.heap.size := row_lt hrow
  have HB1 := Lib.hid hb1
  clear hown hb1 hrow hq htab
  go_wp2_with fail
  refine (zzPalette_ok m q qcap S w1 hm1 hm hSl hpal hql ht1).mono ?_
  rintro e w2 ⟨v2, rfl, ho2, hb2⟩
  have HB2 : Hid (Below w.heap.size w w2) := Lib.hid (HB1.out.trans (hb2.mono HB1.out.size))
  obtain ⟨a2, n2, c2, rfl, hm2, hr2, -, -, hnl2, -⟩ := ho2.shapeN
  have hn2 : n2 ≤ 1100 := by have h1 := hm2.out; have := palChunks_len S m hSl.out hm; omega
  clear hb2 ho2 ht1 hql hpal
  go_wp2_with fail
  refine (clone_any a2 n2 c2 _ hm2 w2 (by omega) hr2 hnl2).mono ?_
  rintro e w3 ⟨v3, rfl, ho3, hb3, -⟩
  have HB3 : Hid (Below w.heap.size w w3) := Lib.hid (HB2.out.trans (hb3.mono HB2.out.size))
  have HO3 := Lib.hid (ho3.mono HB2.out.size)
  clear hb3 ho3 hr2 hnl2
  go_wp2_with fail
  go_ret2
  exact ⟨v3, rfl, HO3.out, HB3.out⟩

set_option maxHeartbeats 1600000 in
set_option maxRecDepth 100000 in
theorem implPalChunks_bad (m pcap : Nat) (ap : Option Addr) (S : List Sh) (w : World) (hm : m = 0 ∨ 256 < m) (hm2 : m ≤ 1000) (hS : Hid (InS w ap m pcap S)) (htab : Tab w) (hpow : Pow w) :
    Calls Tryd.prog 23 #[.slice ap m pcap] w (IPcBad w) := by
  go_enter Tryd.func23, Tryd.ntmps23
  go_wp2_with fail
  refine (paletteOf_any ap m pcap S w hS hm2).mono ?_
  rintro e w1 ⟨v1, rfl, hown, hb1⟩
  obtain ⟨a1, c1, rfl⟩ := own_shape hown
  have ht1 := htab.below hb1
  have hp1 := pow_below hpow hb1
  have HB1 := Lib.hid hb1
  clear hown hb1 htab hpow
  go_wp2_with fail
  refine (zzPalette_bad m c1 a1 w1 hm hm2 ht1 hp1).mono ?_
  rintro e w2 ⟨v2, z, rfl, hb2⟩
  have HB2 : Hid (Below w.heap.size w w2) := Lib.hid (HB1.out.trans (hb2.mono HB1.out.size))
  clear hb2 ht1 hp1
  go_wp2_with fail
  go_ret2
  exact ⟨rfl, HB2.out⟩
end Go.Proofs.YtiiipmcjbibgoaaDoor
