/- The contract of the reference's Dots, one colour type. Printed by gen/spdots.py. -/
import Derived.Test.YtkiibhpmembcgaaGreatDoorSpPart
import Derived.Test.YtkiibhpmembcgaaGreatDoorSpDots4
import Derived.Test.YtkiibhpmembcgaaGreatDoorDotsOf
import Derived.Deep.RegionHeld3
import Derived.Deep.DeepCutAuto
import Derived.Deep.CutBlock
import Derived.LoopTactic
import Derived.Outline
namespace Go.Proofs.YtkiibhpmembcgaaGreatDoor
open Go.ChangeShapes Go.WideShapes Go.ChangeAt Go.RowKit Go.IntWalk

set_option maxHeartbeats 6400000 in
set_option maxRecDepth 100000 in
theorem specDots_3 (W0 H0 d n m sc pn pc cc : Nat) (laced : Bool) (sad pa ca : Option Addr) (P : List Dt) (samps : List Nat) (w : World) (ok : OkCD 3 d) (hl : Hid (samps.length = m)) (hm : Hid (m = n * 1)) (hs : RI_ w sad samps) (hlt : ∀ x ∈ samps, x < 2 ^ d) (hn : n ≤ 10000) (hP : PalD w pa P) (hpn : P.length = pn) (hp2 : pn = 2 ^ d) :
    Calls Tryz.prog 12 #[shV W0 H0 d 3 laced, .slice sad m sc, .slice pa pn pc, .slice ca 0 cc] w (DotsEnd 3 d P [] samps n w) := by
  obtain ⟨w1, hw1, hb1, hlt1, hrow, hsh⟩ := boxed w W0 H0 d 3 laced
  obtain ⟨N, hN⟩ : ∃ N, N = w.heap.size := ⟨_, rfl⟩
  rw [← hN] at hrow hlt1 hsh
  have hS1 : ShOn w N W0 H0 d 3 laced w1 := ⟨hsh, hb1, hlt1⟩
  have htop := top_of ok
  have hd := ok.d
  obtain ⟨T, hT⟩ : ∃ T, T = 2 ^ d - 1 := ⟨_, rfl⟩
  have hT2 : T + 1 = 2 ^ d := by omega
  rw [← hT] at htop
  have HT := Lib.hid hT
  have sT : IntKind.i64.wrap ((2 : Int) ^ d) = ((T + 1 : Nat) : Int) := by
    rcases hd with rfl | rfl | rfl | rfl | rfl <;> (rw [hT]; decide)
  have tz : ((T : Int) == 0) = false := by simp; omega
  have tz2 : ¬ T = 0 := by omega
  have hmb : m ≤ 40000 := by rw [hm.out]; omega
  have HW1 := Lib.hid hw1
  have HNN := Lib.hid hN
  have HS := Lib.hid hs
  have HPP := Lib.hid hP
  have HPN := Lib.hid hpn
  have HP2 := Lib.hid hp2
  clear hP hpn hp2
  have HLT := Lib.hid hlt
  have HS1 := Lib.hid hS1
  clear hw1 hb1 hrow hsh hN hs hlt hT
  change Calls _ _ #[.agg #[.int .i64 (W0 : Int), .int .i64 (H0 : Int), .int .i64 (d : Int), .int .i64 3, .bool laced], .slice sad m sc, .slice pa pn pc, .slice ca 0 cc] _ _
  go_enter Tryz.func12, Tryz.ntmps12
  go_upto_region 1 with fail
  rw [← HNN.out]
  change Code.wp _ _ _ _ (w.alloc (.cells (shK W0 H0 d 3 laced) 27))
  rw [← HW1.out]
  have sT1 : IntKind.i64.wrap ((2 : Int) ^ d - 1) = (T : Int) := by
    have h : (2 : Int) ^ d = ((2 ^ d : Nat) : Int) := by norm_cast
    rw [h, ← hT2]
    rw [i64_in _ ⟨by omega, by omega⟩]
    omega
  have HC : ∀ w, Calls Tryz.prog 24 #[.int .i64 ((3 : Nat) : Int)] w fun e w' => e = .returned (.int .i64 1) ∧ w' = w := channels_any 3 ok.c
  obtain ⟨c0, c1, c2, c3, c4⟩ := HS1.out.at_
  go_quiet ((go_at_call 24; exact Calls.quiet_of_same (HC _)))
  clear HC sT c0 c1 c2 c3 c4 hS1
  obtain ⟨w2, hw2⟩ : ∃ w2, w2 = (w1.drewN nq).alloc (.cells #[] 61) := ⟨_, rfl⟩
  have hb12 : Below w1.heap.size w1 w2 := hw2 ▸ (bdrewN (Below.refl _ _) nq).alloc (Nat.le_refl _) _
  have HS2 := Lib.hid (HS1.out.next hb12)
  have HO2 : Hid (OwnD w2 (N + 1) (.slice (some ⟨w1.heap.size, 0, none⟩) 0 0) []) := Lib.hid (hw2 ▸ OwnD.empty (w1.drewN nq) (N + 1) HS1.out.lt)
  have HW2 := Lib.hid hw2
  clear hb12 hw2 HS1
  go_upto_region 4 with fail
  rw [← HW2.out]
  obtain ⟨f, hf⟩ : ∃ f, f = dotOf 3 d P [] samps := ⟨_, rfl⟩
  have HF := Lib.hid hf
  clear hf
  go_loopw [12, 13] (fun v kv wr => ∃ t q : Nat, t ≤ n ∧ Hid (q = t * 1) ∧ kv = .int .i64 (q : Int) ∧ OwnD wr (N + 1) v ((List.range t).map f) ∧ ShOn w N W0 H0 d 3 laced wr) (fun _ kv _ => m - (intOf kv).toNat)
  case atStart => exact ⟨0, 0, Nat.zero_le _, Lib.hid (by simp), rfl, HO2.out, HS2.out⟩
  case round =>
  obtain ⟨t, q, ht, HQ, rfl, hown, hS⟩ := hrel
  obtain ⟨wo, rfl⟩ : ∃ wo, wo = wr := ⟨_, rfl⟩
  by_cases hlt : t < n
  · obtain ⟨q2, hq2⟩ : ∃ q2, q2 = q + 1 := ⟨_, rfl⟩
    have hqm : q2 ≤ m := by have := HQ.out; have := hm.out; omega
    have mq : (q : Int) + 1 = (q2 : Int) := by omega
    have vq : IntKind.i64.wrap (q2 : Int) = (q2 : Int) := i64_in _ ⟨by omega, by omega⟩
    have HQ2 : Hid (q2 = (t + 1) * 1 ∧ q2 = q + 1) := Lib.hid ⟨by have := HQ.out; omega, hq2⟩
    clear hq2
    have HO := Lib.hid hown
    have HSR := Lib.hid hS
    clear hown hS HO2 HS2
    obtain ⟨B, hB⟩ : ∃ B, B = wo.heap.size := ⟨_, rfl⟩
    obtain ⟨wv, hwv⟩ : ∃ wv, wv = wo.alloc (.cells #[] 3) := ⟨_, rfl⟩
    have HBV : Hid (Below B wo wv) := Lib.hid (by rw [hwv, hB]; exact (Below.refl _ _).alloc (Nat.le_refl _) _)
    have HOV : Hid (OwnI wv B (.slice (some ⟨B, 0, none⟩) 0 0) []) := Lib.hid (by rw [hwv, hB]; exact OwnI.empty wo _ (Nat.le_refl _))
    have HWV := Lib.hid hwv
    have HBB := Lib.hid hB
    clear hwv hB
    go_upto_region 9 with fail
    rw [← HWV.out, ← HBB.out]
    go_loopw [14, 15, 40] (fun v sm jv w' => ∃ j : Nat, j ≤ 1 ∧ jv = .int .i64 (j : Int) ∧ sm = .bool false ∧ OwnI w' B v ((List.range j).map fun i => wid d (samps.getD (q + i) 0)) ∧ Below B wo w') (fun _ _ jv _ => 1 - (intOf jv).toNat)
    case atStart => exact ⟨0, Nat.zero_le _, rfl, rfl, HOV.out, HBV.out⟩
    case round =>
    obtain ⟨j, hj, rfl, rfl, hown, hbel⟩ := hrel
    by_cases hlj : j < 1
    · obtain ⟨qj, hqj⟩ : ∃ qj, qj = q + j := ⟨_, rfl⟩
      have hqjm : qj < m := by have := HQ2.out; omega
      obtain ⟨x, hx⟩ : ∃ x, samps[qj]? = some x := ⟨_, List.getElem?_eq_getElem (by have := hl.out; omega)⟩
      obtain ⟨sb, so, rfl, hxc⟩ := HS.out qj x hx
      have hxl : x < 2 ^ d := HLT.out x (List.mem_of_getElem? hx)
      have hsb : sb < w.heap.size := World.block_lt_of_cell? w _ hxc
      have hwB : w.heap.size ≤ B := by rw [HBB.out]; exact HSR.out.bel.size
      have hbw : Below w.heap.size w wo := HSR.out.bel
      have hxr : wo.cell? ⟨sb, so + qj, none⟩ = some (.int .i64 (x : Int)) := (World.cell?_of_block (w := w) (hbw.block sb hsb)).trans hxc
      have hxw : ∀ w2, Below B wo w2 → w2.cell? ⟨sb, so + qj, none⟩ = some (.int .i64 (x : Int)) := fun w2 hb => (World.cell?_of_block (w := wo) (hb.block sb (by omega))).trans hxr
      have hx1 := hxw _ hbel
      have j0 : (0 : Int) ≤ (qj : Int) := by omega
      have j1 : (qj : Int) < (m : Int) := by omega
      have mj : (q : Int) + (j : Int) = (qj : Int) := by omega
      have vj : IntKind.i64.wrap (qj : Int) = (qj : Int) := i64_in _ ⟨by omega, by omega⟩
      obtain ⟨xm, hxm⟩ : ∃ xm, xm = x * 65535 := ⟨_, rfl⟩
      obtain ⟨xd, hxd⟩ : ∃ xd, xd = xm / T := ⟨_, rfl⟩
      have hxmb : xm ≤ 65536 * 65535 := by rw [hxm]; exact Nat.mul_le_mul_right _ (by omega)
      have hxdb : xd ≤ xm := by rw [hxd]; exact Nat.div_le_self _ _
      have mx : (x : Int) * 65535 = (xm : Int) := by omega
      have tx : (xm : Int).tdiv (T : Int) = (xd : Int) := by rw [hxd]; rfl
      have tx2 : (xm : Int) / (T : Int) = (xd : Int) := by rw [hxd]; rfl
      have vx : IntKind.i64.wrap (xm : Int) = (xm : Int) := i64_in _ ⟨by omega, by omega⟩
      have vx2 : IntKind.i64.wrap (xd : Int) = (xd : Int) := i64_in _ ⟨by omega, by omega⟩
      have NX : Hid ((List.range (j + 1)).map (fun i => wid d (samps.getD (q + i) 0)) = (List.range j).map (fun i => wid d (samps.getD (q + i) 0)) ++ [xd]) := Lib.hid (by
        rw [List.range_succ, List.map_append, List.map_singleton, ← hqj]
        simp only [List.getD, hx, Option.getD_some, wid, ← HT.out, hxd, hxm])
      obtain ⟨sl, hsl⟩ : ∃ sl, sl = (List.range j).map fun i => wid d (samps.getD (q + i) 0) := ⟨_, rfl⟩
      rw [← hsl] at hown NX
      have hsll : sl.length ≤ 10 := by rw [hsl, List.length_map, List.length_range]; omega
      have HO3 := Lib.hid hown
      have HB3 := Lib.hid hbel
      clear hsl hqj hx hxl hxc hxr hxw hxm hxd hown hbel hbw
      have hbn : Below B wo (wr.alloc (.cells #[.int .i64 (xd : Int)] 3)) := HB3.out.alloc (by have := HB3.out.size; have := HBB.out; omega) _
      have HBN := Lib.hid hbn
      have hBn : B ≤ wr.heap.size := by have := HB3.out.size; have := HBB.out; omega
      clear hbn
      go_upto_region 12 with (at_builtin; refine wpList_append_ints rfl (.tmp 43) (.tmp 53) rfl B _ sl [xd] rfl (OwnI.alloc HO3.out _) (some ⟨wr.heap.size, 0, none⟩) 1 1 rfl rfl (one_int wr xd _ _ rfl) (by intro h; cases h) (by omega) (by rw [size_alloc]; omega) ?_; intro v4 w4 ho4 hb4 hg4; clear hg4)
      rw [← NX.out] at ho4
      have HO4 := Lib.hid ho4
      have HB4 := Lib.hid (HBN.out.trans hb4)
      clear ho4 hb4
      go_quiet (fail)
      go_wp2_with fail
      go_roundw
      case rel => exact ⟨j + 1, by omega, by go_num, rfl, by exact HO4.out, bdrewN HB4.out _⟩
      case measure => simp [intOf]; omega
    · obtain rfl : j = 1 := by omega
      clear hlj hj HOV HBV
      obtain ⟨y0, hy0⟩ : ∃ y, y = wid d (samps.getD (q + 0) 0) := ⟨_, rfl⟩
      have hlist : (List.range 1).map (fun i => wid d (samps.getD (q + i) 0)) = [y0] := by rw [hy0]; rfl
      rw [hlist] at hown
      obtain ⟨g, capv, rfl, hgB, hgl, hvs⟩ := hown.vs (n := 1) rfl (by omega)
      have hqm : q < m := by have := HQ2.out; omega
      obtain ⟨x, hx⟩ : ∃ x, samps[q]? = some x := ⟨_, List.getElem?_eq_getElem (by have := hl.out; omega)⟩
      obtain ⟨sb, so, rfl, hxc⟩ := HS.out q x hx
      have hxl : x < 2 ^ d := HLT.out x (List.mem_of_getElem? hx)
      have hsb : sb < w.heap.size := World.block_lt_of_cell? w _ hxc
      obtain ⟨⟨sr, sg, sbl, sa⟩, hs⟩ : ∃ s, P[x]? = some s := ⟨_, List.getElem?_eq_getElem (by have := HPN.out; have := HP2.out; omega)⟩
      obtain ⟨pg, rfl, hpg, p0, p1, p2, p3⟩ := HPP.out.four hs
      simp only at p0 p1 p2 p3
      have hxp : x < pn := by have := HP2.out; omega
      have HD : Hid (f t = ⟨sr, sg, sbl, sa⟩) := Lib.hid (by
        rw [HF.out]; unfold dotOf; rw [show chN 3 = 1 from rfl, ← HQ.out]
        simp [dotS, List.getD, hx, hs])
      have NXD : Hid ((List.range (t + 1)).map f = (List.range t).map f ++ [⟨sr, sg, sbl, sa⟩]) := Lib.hid (by rw [range_nextD, HD.out])
      have j0 : (0 : Int) ≤ (q : Int) := by omega
      have j1 : (q : Int) < (m : Int) := by omega
      have k0 : (0 : Int) ≤ (x : Int) := by omega
      have k1 : (x : Int) < (pn : Int) := by omega
      have k2 : ¬ (pn : Int) ≤ (x : Int) := by omega
      have k3 : ¬ pn ≤ x := by omega
      have HXC := Lib.hid hxc
      have HP0 := Lib.hid p0
      have HP1 := Lib.hid p1
      have HP2c := Lib.hid p2
      have HP3 := Lib.hid p3
      clear hx hs hxl hxc p0 p1 p2 p3
      obtain ⟨DD, hDD⟩ : ∃ q, q = (List.range t).map f := ⟨_, rfl⟩
      have hdl : DD.length ≤ 1000000 := by rw [hDD, List.length_map, List.length_range]; omega
      rw [← hDD] at NXD
      have HOD : Hid (OwnD wo (N + 1) u12 DD) := Lib.hid (by rw [hDD]; exact HO.out)
      have HBR := Lib.hid hbel
      have HVS := Lib.hid hvs
      clear hlist hDD hbel hvs hown HD hy0 HO
      obtain ⟨Nd, hNd⟩ : ∃ Nd, Nd = wr.heap.size := ⟨_, rfl⟩
      obtain ⟨w5, hw5⟩ : ∃ w5, w5 = wr.alloc (.cells #[.int .i64 0, .int .i64 0, .int .i64 0, .int .i64 65535] 61) := ⟨_, rfl⟩
      have hb5 : Below wr.heap.size wr w5 := hw5 ▸ (Below.refl _ _).alloc (Nat.le_refl _) _
      have hrd : w5.heap[Nd]? = some (.cells #[.int .i64 0, .int .i64 0, .int .i64 0, .int .i64 65535] 61 (0, 0)) := by rw [hw5, hNd]; exact alloc_at _ _
      have hgN : g < Nd := by omega
      have hNl : Nd < w5.heap.size := by rw [hw5, size_alloc]; omega
      have hvs5 : VS g [y0] w5 := fun j x hx => (World.cell?_of_block (w := wr) (show w5.heap[g]? = wr.heap[g]? from hb5.block g (by omega))).trans (HVS.out j x hx)
      have HS5 := Lib.hid ((HSR.out.next (hbB HBB.out HBR.out)).next hb5)
      have HOD5 : Hid (OwnD w5 (N + 1) u12 DD) := Lib.hid ((HOD.out.below (hbB HBB.out HBR.out)).below hb5)
      have HNd := Lib.hid hNd
      have HW5 := Lib.hid hw5
      have HRD := Lib.hid hrd
      have HV5 := Lib.hid hvs5
      clear hw5 hNd hb5 hrd hvs5
      go_upto_region 15 with fail
      rw [← HNd.out]
      rw [← HW5.out]
      obtain ⟨c0, c1, c2, c3, c4⟩ := HS5.out.at_
      have lN5 := HS5.out.lt
      have za0 : w5.frozen? ⟨Nd, 0, none⟩ = false := frozen_of_row w5 _ 0 _ _ HRD.out
      have ea0 : w5.cell? ⟨Nd, 0, none⟩ = some (.int .i64 0) := (cell_of_row w5 _ 0 _ _ _ HRD.out).trans rfl
      have za1 : w5.frozen? ⟨Nd, 1, none⟩ = false := frozen_of_row w5 _ 1 _ _ HRD.out
      have ea1 : w5.cell? ⟨Nd, 1, none⟩ = some (.int .i64 0) := (cell_of_row w5 _ 1 _ _ _ HRD.out).trans rfl
      have za2 : w5.frozen? ⟨Nd, 2, none⟩ = false := frozen_of_row w5 _ 2 _ _ HRD.out
      have ea2 : w5.cell? ⟨Nd, 2, none⟩ = some (.int .i64 0) := (cell_of_row w5 _ 2 _ _ _ HRD.out).trans rfl
      have za3 : w5.frozen? ⟨Nd, 3, none⟩ = false := frozen_of_row w5 _ 3 _ _ HRD.out
      have ea3 : w5.cell? ⟨Nd, 3, none⟩ = some (.int .i64 65535) := (cell_of_row w5 _ 3 _ _ _ HRD.out).trans rfl
      have hbw5 : Below w.heap.size w w5 := HS5.out.bel
      have hx5 : w5.cell? ⟨sb, so + q, none⟩ = some (.int .i64 (x : Int)) := (World.cell?_of_block (w := w) (hbw5.block sb hsb)).trans HXC.out
      have pc0 : w5.cell? ⟨pg, x * 4, none⟩ = some (.int .i64 (sr : Int)) := (World.cell?_of_block (w := w) (hbw5.block pg hpg)).trans HP0.out
      have pc1 : w5.cell? ⟨pg, x * 4 + 1, none⟩ = some (.int .i64 (sg : Int)) := (World.cell?_of_block (w := w) (hbw5.block pg hpg)).trans HP1.out
      have pc2 : w5.cell? ⟨pg, x * 4 + 2, none⟩ = some (.int .i64 (sbl : Int)) := (World.cell?_of_block (w := w) (hbw5.block pg hpg)).trans HP2c.out
      have pc3 : w5.cell? ⟨pg, x * 4 + 3, none⟩ = some (.int .i64 (sa : Int)) := (World.cell?_of_block (w := w) (hbw5.block pg hpg)).trans HP3.out
      clear hbw5
      go_upto_region 28 with fail
      obtain ⟨w6, hw6⟩ : ∃ w6, w6 = put4 w5 Nd (.int .i64 (sr : Int)) (.int .i64 (sg : Int)) (.int .i64 (sbl : Int)) (.int .i64 (sa : Int)) := ⟨_, rfl⟩
      change Code.wp _ _ _ _ (put4 w5 Nd (.int .i64 (sr : Int)) (.int .i64 (sg : Int)) (.int .i64 (sbl : Int)) (.int .i64 (sa : Int)))
      rw [← hw6]
      have hon6 : Only Nd w5 w6 := hw6 ▸ put4_only _ _ _ _ _ _
      have hr6 : w6.heap[Nd]? = some (.cells #[.int .i64 (sr : Int), .int .i64 (sg : Int), .int .i64 (sbl : Int), .int .i64 (sa : Int)] 61 (0, 0)) := by rw [hw6]; exact put4_row _ _ _ _ _ _ _ _ _ _ _ HRD.out
      have HS6 := Lib.hid ((HS5.out).nextO hon6 (by have := HNN.out; have := HSR.out.lt; have := HBB.out; omega) (by rw [HNN.out]; exact Nat.le_refl _))
      have HO6 : Hid (OwnD w6 (N + 1) u12 DD) := Lib.hid (ownsRow_only (show OwnD w5 (N + 1) u12 DD from HOD5.out) hon6 (fun k hk => by have := (World.ownsRow.lt HOD.out k hk).2; have := HBB.out; omega))
      have HR6 := Lib.hid hr6
      have lNd : Nd < w6.heap.size := by rw [hon6.size]; exact hNl
      clear za0 za1 za2 za3 ea0 ea1 ea2 ea3 hx5 pc0 pc1 pc2 pc3 hon6 hr6 hw6
      have e0 : w6.cell? ⟨Nd, 0, none⟩ = some (.int .i64 (sr : Int)) := (cell_of_row w6 _ 0 _ _ _ HR6.out).trans rfl
      have e1 : w6.cell? ⟨Nd, 1, none⟩ = some (.int .i64 (sg : Int)) := (cell_of_row w6 _ 1 _ _ _ HR6.out).trans rfl
      have e2 : w6.cell? ⟨Nd, 2, none⟩ = some (.int .i64 (sbl : Int)) := (cell_of_row w6 _ 2 _ _ _ HR6.out).trans rfl
      have e3 : w6.cell? ⟨Nd, 3, none⟩ = some (.int .i64 (sa : Int)) := (cell_of_row w6 _ 3 _ _ _ HR6.out).trans rfl
      obtain ⟨c0, c1, c2, c3, c4⟩ := HS6.out.at_
      have lN6 := HS6.out.lt
      have hbw : Below w6.heap.size w6 (w6.alloc (.cells #[.int .i64 (sr : Int), .int .i64 (sg : Int), .int .i64 (sbl : Int), .int .i64 (sa : Int)] 61)) := (Below.refl _ _).alloc (Nat.le_refl _) _
      have HBW := Lib.hid hbw
      clear hbw
      go_wp2_with (at_builtin; refine wpList_append_dot rfl (.tmp 161) (.tmp 163) rfl (N + 1) _ DD ⟨sr, sg, sbl, sa⟩ rfl (OwnD.alloc HO6.out _) ⟨w6.heap.size, 0, none⟩ 1 rfl (dot_at w6 ⟨sr, sg, sbl, sa⟩ _ _ rfl) hdl (by rw [size_alloc]; omega) ?_; intro v7 w7 ho7 hb7 hg7; clear hg7)
      rw [← NXD.out] at ho7
      have HO7 := Lib.hid ho7
      have HS7 := Lib.hid ((HS6.out.next HBW.out).nextB hb7 (by rw [HNN.out]; exact Nat.le_refl _))
      clear ho7 hb7 hgN hgl
      go_roundw
      case rel => exact ⟨t + 1, q2, by omega, Lib.hid HQ2.out.1, by go_num, HO7.out, HS7.out⟩
      case measure => have := HQ2.out; simp [intOf]; omega
  · obtain rfl : t = n := by omega
    obtain ⟨q2, hq2⟩ : ∃ q2, q2 = q + 1 := ⟨_, rfl⟩
    have mq : (q : Int) + 1 = (q2 : Int) := by omega
    have vq : IntKind.i64.wrap (q2 : Int) = (q2 : Int) := i64_in _ ⟨by omega, by have := HQ.out; omega⟩
    have d1 : ¬ q2 ≤ m := by have := HQ.out; have := hm.out; omega
    have HO := Lib.hid hown
    have HSR := Lib.hid hS
    clear hown hS hq2 HO2 HS2
    go_wp2_with fail
    go_ret2
    exact ⟨_, rfl, by rw [← HF.out]; exact OwnD.mono (base := N + 1) (base' := w.heap.size) HO.out (by have := HNN.out; omega), HSR.out.bel⟩
end Go.Proofs.YtkiibhpmembcgaaGreatDoor
