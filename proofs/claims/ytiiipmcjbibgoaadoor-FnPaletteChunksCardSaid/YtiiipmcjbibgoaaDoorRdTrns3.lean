/- The contract of ZZReadTransparency at a palette. -/
import Derived.Test.YtiiipmcjbibgoaaDoorRdTrns2
namespace Go.Proofs.YtiiipmcjbibgoaaDoor
open Go.ChangeShapes Go.WideShapes Go.ChangeAt Go.RowKit Go.IntWalk

theorem info_color : (Tryd.prog.info? 97).map (fun i => (i.zero, i.size, i.bytes)) = some (some .nilIface, 1, 16) := by kernel_rfl
/-- What a call owns of one-celled things, as a row. -/
theorem own_row {w : World} {base n : Nat} {E : TypeId} {v : Value} {xs : List Value} (h : w.ownsRow base E 1 v n xs) (hn : n ≠ 0) :
    ∃ g cap rest, v = .slice (some ⟨g, 0, none⟩) n cap ∧ base ≤ g ∧ n ≤ cap ∧ w.heap[g]? = some (.cells (xs ++ rest).toArray E (0, 0)) := by
  rcases h.2 with ⟨-, h2⟩ | ⟨g, cap, cur, rfl, hb, hg, hnc, hcm, hcs, htake⟩
  · exact absurd h2 hn
  · refine ⟨g, cap, cur.toList.drop n, rfl, hb, hnc, ?_⟩
    rw [hg]
    congr 2
    apply Array.toList_inj.1
    rw [Nat.mul_one] at htake
    simp only
    rw [← htake, List.take_append_drop]
theorem oneCell_rg (S : List Sh) : ∀ u ∈ S.map rgV, u.oneCell' = true := by
  intro u hu
  obtain ⟨b, _, rfl⟩ := List.mem_map.1 hu
  rfl
/-- Colors are appended to a call's own ones. -/
theorem wpList_append_colors {w : World} {ops : Array Oper} {rest : List Oper} {o : Oper} {a : Act} {Q : Exit → Act → World → Prop} (hgd : o.guard = none) (s x : Operand)
    (ho : o.op = .call { callee := .builtin .append, args := #[s, x], argTypes := #[57, 57] })
    (base : Nat) (v : Value) (n : Nat) (xs news : List Value) (hs : a.eval s = v) (hown : w.ownsRow base 97 1 v n xs) (ad : Addr) (m c : Nat) (hx : a.eval x = .slice (some ad) m c)
    (hl : news.length = m) (hr : ∀ j u, news[j]? = some u → w.cell? (ad.add j) = some u) (h1 : ∀ u ∈ news, u.oneCell' = true) (hb : n + m ≤ 100000) (hbase : base ≤ w.heap.size)
    (h : ∀ v' w', w'.ownsRow base 97 1 v' (n + m) (xs ++ news) → Below base w w' → wpList Tryd.prog ops Q rest (a.put o.dst v') w') : wpList Tryd.prog ops Q (o :: rest) a w := by
  obtain ⟨i0, hi, hz0, hz1, hz2⟩ := info_parts info_color
  refine wpList_append_own w hgd s x 57 ho base 97 i0 .nilIface 1 16 Tryd.underlying57 hi hz0 hz1 hz2 rfl (by decide) v n xs hs hown ad m c news hx (by rw [hl, Nat.mul_one]) hr h1 (by unfold maxLen; omega) (by omega) hbase ?_
  intro v' w' ho' hg hnil
  exact h v' w' ho' ((Below.refl _ _).grown hg hbase (fun k hk => (World.ownsRow.lt hown k hk).1))

theorem dC_walk (R C : Nat) (cb : Int) (v : Value) : (((Tryd.zeroCells90.setIfInBounds 0 (.iface 79 (.pointer (some ⟨R, 0, none⟩)))).setIfInBounds 2 (.pointer (some ⟨C, 0, none⟩))).setIfInBounds 7 (.int .i64 cb)).setIfInBounds 6 v = dC R C cb 0 v := by kernel_rfl

/-- What ZZReadTransparency tells of a palette. -/
def ZClrEnd (S : List Sh) (l : List UInt8) (n m : Nat) (w : World) (e : Ending) (w' : World) : Prop :=
  ∃ P pcap rest tr, e = .returned (.tuple #[.slice (some ⟨P, 0, none⟩) m pcap, six tr, .bool false, sumV (crcFrom (crcOf trnsName) (l.take n)) ((l.drop n).take 4)]) ∧
    w'.heap[P]? = some (.cells (clrTo S (l.take n) n ++ rest).toArray 97 (0, 0)) ∧ w.heap.size ≤ P ∧ tr.length = 6 ∧ Below w.heap.size w w'

set_option maxHeartbeats 3200000 in
set_option maxRecDepth 100000 in
theorem zzReadClear_any (n m sb so mc q qcap : Nat) (S : List Sh) (l : List UInt8) (w : World) (hl : Hid (l.length = n + 4)) (hr : RB w (some ⟨sb, so, none⟩) l) (hmc : n + 4 ≤ mc) (ht : Tab w)
    (hn : 0 < n) (hnm : n ≤ m) (hm : m ≤ 256) (hS : Hid (S.length = m)) (hpal : ∀ j u, (S.map rgV)[j]? = some u → w.cell? ((⟨q, 0, none⟩ : Addr).add j) = some u) (hq : q < w.heap.size) :
    Calls Tryd.prog 30 #[.int .i64 10, .slice (some ⟨q, 0, none⟩) m qcap, .int .u32 (n : Int), .slice (some ⟨sb, so, none⟩) (n + 4) mc] w (ZClrEnd S l n m w) := by
  have hsb : sb < w.heap.size := hr.lt (by have := hl.out; intro e; rw [e] at this; simp at this)
  have htb := ht.lt
  obtain ⟨u0, hu0⟩ : ∃ u, u = w.alloc (.cells #[.int .u8 0, .int .u8 0, .int .u8 0, .int .u8 0, .int .u8 0, .int .u8 0] 66) := ⟨_, rfl⟩
  have hs0 : u0.heap.size = w.heap.size + 1 := by rw [hu0, size_alloc]
  have hb0 : Below w.heap.size w u0 := by rw [hu0]; exact (Below.refl _ _).alloc (Nat.le_refl _) _
  have hz0 : u0.heap[w.heap.size]? = some (.cells #[.int .u8 0, .int .u8 0, .int .u8 0, .int .u8 0, .int .u8 0, .int .u8 0] 66 (0, 0)) := by rw [hu0]; exact heap_alloc_new w _
  obtain ⟨u2, hu2⟩ : ∃ u, u = (u0.alloc (.cells #[.slice (some ⟨sb, so, none⟩) (n + 4) mc, .int .i64 0, .int .i64 (-1)] 120)).alloc (.cells #[.int .u32 0] 83) := ⟨_, rfl⟩
  have hs2 : u2.heap.size = w.heap.size + 1 + 1 + 1 := by rw [hu2, size_alloc, size_alloc, hs0]
  have hb2 : Below u0.heap.size u0 u2 := by rw [hu2]; exact ((Below.refl _ _).alloc (Nat.le_refl _) _).alloc (by rw [size_alloc]; omega) _
  have hR2 : u2.heap[w.heap.size + 1]? = some (.cells #[.slice (some ⟨sb, so, none⟩) (n + 4) mc, .int .i64 0, .int .i64 (-1)] 120 (0, 0)) := by
    rw [hu2, heap_alloc_old _ _ (by rw [size_alloc, hs0]; omega)]
    have := heap_alloc_new u0 (.cells #[.slice (some ⟨sb, so, none⟩) (n + 4) mc, .int .i64 0, .int .i64 (-1)] 120)
    rw [hs0] at this
    exact this
  have hC2 : u2.heap[w.heap.size + 1 + 1]? = some (.cells #[.int .u32 0] 83 (0, 0)) := by
    rw [hu2]
    have := heap_alloc_new (u0.alloc (.cells #[.slice (some ⟨sb, so, none⟩) (n + 4) mc, .int .i64 0, .int .i64 (-1)] 120)) (.cells #[.int .u32 0] 83)
    rw [size_alloc, hs0] at this
    exact this
  have hbw2 : Below w.heap.size w u2 := hb0.trans (hb2.mono hb0.size)
  have hz2 : u2.heap[w.heap.size]? = some (.cells #[.int .u8 0, .int .u8 0, .int .u8 0, .int .u8 0, .int .u8 0, .int .u8 0] 66 (0, 0)) := (hb2.block _ (by omega)).trans hz0
  have hpal2 : ∀ j u, (S.map rgV)[j]? = some u → u2.cell? ((⟨q, 0, none⟩ : Addr).add j) = some u := fun j u hj => by
    rw [World.cell?_of_block (w := w) (hbw2.block _ (by rw [Addr.add_lit]; exact hq))]
    exact hpal j u hj
  have HP2 := Lib.hid hpal2
  have HS2 := Lib.hid hs2
  have HZ2 := Lib.hid hz2
  have HB2 := Lib.hid hbw2
  have HS0 := Lib.hid hs0
  have HR2 := Lib.hid hR2
  have HC2 := Lib.hid hC2
  have HPOS := Lib.hid (show sb < w.heap.size ∧ 0 < w.heap.size from ⟨hsb, htb⟩)
  have HR := Lib.hid hr
  have HT := Lib.hid ht
  clear hb0 hb2 hR2 hC2 hbw2 hz2 hs2 hz0 hsb htb hr ht hs0 hpal hpal2
  go_enter Tryd.func30, Tryd.ntmps30
  go_upto_region 1 with fail
  rw [← hu0]
  clear hu0
  go_upto_region 2 with (first
    | (go_at_call 37; refine (newReader_any (some ⟨sb, so, none⟩) (n + 4) mc u0).mono ?_; rintro e w' ⟨rfl, rfl⟩)
    | (at_builtin; rw [← hu2]; clear hu2; refine wpList_append_colors rfl (.const (.slice none 0 0)) (.tmp 19) rfl u2.heap.size _ 0 [] (S.map rgV) rfl (World.ownsRow_nil _ _ _ _) ⟨q, 0, none⟩ m qcap rfl (by rw [List.length_map]; exact hS.out) HP2.out (oneCell_rg S) (by omega) (Nat.le_refl _) ?_; intro v4 u4 hown hb4; rw [Nat.zero_add, List.nil_append] at hown; obtain ⟨P, pcap, rest, rfl, hP2, -, hrow4⟩ := own_row hown (by omega); clear hown))
  rw [dC_walk, HS0.out]
  have hR4 := (hb4.block _ (by rw [HS2.out]; omega)).trans HR2.out
  have hC4 := (hb4.block _ (by rw [HS2.out]; omega)).trans HC2.out
  have hz4 := (hb4.block _ (by rw [HS2.out]; omega)).trans HZ2.out
  have hbw4 : Below w.heap.size w u4 := HB2.out.trans (hb4.mono HB2.out.size)
  have hP4 : P < u4.heap.size := row_lt hrow4
  have hpos := HPOS.out
  obtain ⟨H1, L⟩ := start_rdg (w.heap.size + 1) (w.heap.size + 1) (w.heap.size + 1 + 1) sb so (n + 4) mc 10 0 (.slice (some ⟨P, 0, none⟩) m pcap) l u4 hR4 hC4 (HR.out.below hbw4) (HT.out.below hbw4) (by omega) (by omega) (by omega) (by omega) (by omega)
  have hPR : w.heap.size + 1 ≤ P ∧ P ≠ u4.heap.size ∧ P ≠ w.heap.size + 1 ∧ P ≠ w.heap.size + 1 + 1 := by rw [HS2.out] at hP2; omega
  have HB4 := Lib.hid hbw4
  have HROW4 := Lib.hid hrow4
  have HZ4' := Lib.hid hz4
  have HPR := Lib.hid hPR
  clear hb4 hP2 hrow4 hR4 hC4 hz4 hbw4 hP4 hpos hPR HR2 HC2 HZ2 HP2
  obtain ⟨w3, hw3⟩ : ∃ w3, w3 = u4.alloc (.cells (dC (w.heap.size + 1) (w.heap.size + 1 + 1) 10 0 (.slice (some ⟨P, 0, none⟩) m pcap)) 90) := ⟨_, rfl⟩
  have hb3 : Below w.heap.size w w3 := by rw [hw3]; exact HB4.out.alloc HB4.out.size _
  have hz3 : w3.heap[w.heap.size]? = some (.cells #[.int .u8 0, .int .u8 0, .int .u8 0, .int .u8 0, .int .u8 0, .int .u8 0] 66 (0, 0)) := by
    rw [hw3, heap_alloc_old _ _ (row_lt HZ4'.out)]; exact HZ4'.out
  have hp3 : w3.heap[P]? = some (.cells (S.map rgV ++ rest).toArray 97 (0, 0)) := by
    rw [hw3, heap_alloc_old _ _ (row_lt HROW4.out)]; exact HROW4.out
  have hne : w.heap.size ≠ P := by have := HPR.out; omega
  rw [← hw3] at H1 ⊢
  clear hw3
  generalize hB : u4.heap.size = b at H1 L HPR ⊢
  generalize hC : w.heap.size + 1 + 1 = C at H1 L HPR ⊢
  generalize hR : w.heap.size + 1 = R at H1 L HPR ⊢
  generalize hG : w.heap.size = G at H1 L hb3 hz3 hne ⊢
  have HG := Lib.hid hG
  have HNE := Lib.hid (show G < R from by omega)
  have HB3 := Lib.hid hb3
  have HZ3 := Lib.hid hz3
  have HP3 := Lib.hid hp3
  have HGP := Lib.hid hne
  clear hB hC hR hG HS0 HS2 HB2 hb3 hz3 hp3 HB4 HROW4 HZ4' hne
  have k2 : w3.cell? ⟨b, 2, none⟩ = some (.pointer (some ⟨C, 0, none⟩)) := H1.dec.pre_cell 2 (by rw [← H1.ec]; rfl)
  have H2 := H1.below ((Below.refl _ _).alloc (Nat.le_refl _) (.cells (cellsB trnsName).toArray 5 (4, 5)))
  have hb2 : Hid (Below G w (w3.alloc (.cells (cellsB trnsName).toArray 5 (4, 5)))) := Lib.hid (HB3.out.alloc (by have := HB3.out.size; rw [HG.out] at this; exact this) _)
  have HZ4 : Hid ((w3.alloc (.cells (cellsB trnsName).toArray 5 (4, 5))).heap[G]? = some (.cells #[.int .u8 0, .int .u8 0, .int .u8 0, .int .u8 0, .int .u8 0, .int .u8 0] 66 (0, 0))) := Lib.hid (by
    rw [heap_alloc_old _ _ (row_lt HZ3.out)]; exact HZ3.out)
  have kc := fun (w : World) (C : Array Value) (n c : Nat) => Lib.run_convert_bytes_const (P := Tryd.prog) w 22 5 C n c Tryd.underlying22 Tryd.underlying5
  have hrn := RB.litF w3 trnsName 5 (4, 5)
  have HP4 : Hid ((w3.alloc (.cells (cellsB trnsName).toArray 5 (4, 5))).heap[P]? = some (.cells (S.map rgV ++ rest).toArray 97 (0, 0))) := Lib.hid (by
    rw [heap_alloc_old _ _ (row_lt HP3.out)]; exact HP3.out)
  go_wp2_with fail
  refine (write2_any R b R C sb so (n + 4) mc l _ 0 0 (some ⟨w3.heap.size, 0, none⟩) 4 4 trnsName _ L H2 (Lib.hid rfl) hrn (by omega)).mono ?_
  rintro e w4 ⟨rfl, H4, hb4, o4⟩
  have HP5 : Hid (w4.heap[P]? = some (.cells (S.map rgV ++ rest).toArray 97 (0, 0))) := Lib.hid ((o4.block P HPR.out.2.2.2).trans HP4.out)
  have hb5 : Below G w w4 := hb2.out.trans (hb4.mono (Nat.le_of_lt HNE.out))
  have HZ5 : Hid (w4.heap[G]? = some (.cells #[.int .u8 0, .int .u8 0, .int .u8 0, .int .u8 0, .int .u8 0, .int .u8 0] 66 (0, 0))) := Lib.hid ((hb4.block G HNE.out).trans HZ4.out)
  clear kc hrn H1 H2 hb2 hb4 k2 HB3 HZ3 HZ4 HP3 HP4 o4
  have HB5 := Lib.hid hb5
  clear hb5
  go_wp2_with fail
  refine (trns_pal R b R C sb so mc n _ P m pcap S rest l _ w4 L H4 hl hmc hn hnm hm hS HP5.out HPR.out.1 HPR.out.2.1 HPR.out.2.2.1 HPR.out.2.2.2 rfl rfl).mono ?_
  rintro e w5 ⟨rfl, hrow6, q6, htr, q7, hb6⟩
  change RB w5 (some ⟨b, 780, none⟩) tr0 at htr
  change w5.cell? ⟨b, 779, none⟩ = some (.bool false) at q7
  have htl : tr0.length = 6 := rfl
  have HB6 : Hid (Below G w w5) := Lib.hid (HB5.out.trans (hb6.mono (Nat.le_of_lt HNE.out)))
  have hz6 : w5.heap[G]? = some (.cells #[.int .u8 0, .int .u8 0, .int .u8 0, .int .u8 0, .int .u8 0, .int .u8 0] 66 (0, 0)) := (hb6.block G HNE.out).trans HZ5.out
  obtain ⟨x0, x1, x2, x3, x4, x5, hsix, c0, c1, c2, c3, c4, c5⟩ := six_cells htr htl
  obtain ⟨tr, htr'⟩ : ∃ tr, tr = tr0 := ⟨_, rfl⟩
  rw [← htr'] at hsix htl
  have HROW6 := Lib.hid hrow6
  obtain ⟨v, hv⟩ : ∃ v, v = sumV (crcFrom (crcOf trnsName) (l.take n)) ((l.drop n).take 4) := ⟨_, rfl⟩
  have e1 : sumV (crcFrom (crcFrom 0 trnsName) (l.take n)) ((l.drop n).take 4) = v := hv.symm
  rw [e1]
  have HV := Lib.hid hv
  clear hrow6 HP5 hv e1 htr'
  have z0 : w5.cell? ⟨G, 0, none⟩ = some (.int .u8 0) := by rw [cell_of_row w5 G 0 _ _ _ hz6]; rfl
  have f0 : w5.frozen? ⟨G, 0, none⟩ = false := frozen_of_row w5 G 0 _ _ hz6
  have z1 : w5.cell? ⟨G, 1, none⟩ = some (.int .u8 0) := by rw [cell_of_row w5 G 1 _ _ _ hz6]; rfl
  have f1 : w5.frozen? ⟨G, 1, none⟩ = false := frozen_of_row w5 G 1 _ _ hz6
  have z2 : w5.cell? ⟨G, 2, none⟩ = some (.int .u8 0) := by rw [cell_of_row w5 G 2 _ _ _ hz6]; rfl
  have f2 : w5.frozen? ⟨G, 2, none⟩ = false := frozen_of_row w5 G 2 _ _ hz6
  have z3 : w5.cell? ⟨G, 3, none⟩ = some (.int .u8 0) := by rw [cell_of_row w5 G 3 _ _ _ hz6]; rfl
  have f3 : w5.frozen? ⟨G, 3, none⟩ = false := frozen_of_row w5 G 3 _ _ hz6
  have z4 : w5.cell? ⟨G, 4, none⟩ = some (.int .u8 0) := by rw [cell_of_row w5 G 4 _ _ _ hz6]; rfl
  have f4 : w5.frozen? ⟨G, 4, none⟩ = false := frozen_of_row w5 G 4 _ _ hz6
  have z5 : w5.cell? ⟨G, 5, none⟩ = some (.int .u8 0) := by rw [cell_of_row w5 G 5 _ _ _ hz6]; rfl
  have f5 : w5.frozen? ⟨G, 5, none⟩ = false := frozen_of_row w5 G 5 _ _ hz6
  have HSIX := Lib.hid hsix
  have HTL := Lib.hid htl
  have HZ6 := Lib.hid hz6
  clear hsix htl htr hb6 HB5 HZ5 hz6 H4
  go_upto_region 4 with fail
  have hbG : b ≠ G := by have := L.b0; have := HNE.out; omega
  have hGb : G ≠ b := Ne.symm hbG
  go_region_held3 (fun w' => w'.cell? ⟨b, 6, none⟩ = some (.slice (some ⟨P, 0, none⟩) m pcap) ∧ w'.cell? ⟨b, 779, none⟩ = some (.bool false) ∧ w'.cell? ⟨b, 780, none⟩ = some (.int .u8 (x0 : Int)) ∧ w'.cell? ⟨b, 781, none⟩ = some (.int .u8 (x1 : Int)) ∧ w'.cell? ⟨b, 782, none⟩ = some (.int .u8 (x2 : Int)) ∧ w'.cell? ⟨b, 783, none⟩ = some (.int .u8 (x3 : Int)) ∧ w'.cell? ⟨b, 784, none⟩ = some (.int .u8 (x4 : Int)) ∧ w'.cell? ⟨b, 785, none⟩ = some (.int .u8 (x5 : Int))) (go_keep) (fail)
  go_wp2_with fail
  have hrow8 := put6_row (.int .u8 (x0 : Int)) (.int .u8 (x1 : Int)) (.int .u8 (x2 : Int)) (.int .u8 (x3 : Int)) (.int .u8 (x4 : Int)) (.int .u8 (x5 : Int)) HZ6.out
  have hp8 := ((put6_only w5 G (.int .u8 (x0 : Int)) (.int .u8 (x1 : Int)) (.int .u8 (x2 : Int)) (.int .u8 (x3 : Int)) (.int .u8 (x4 : Int)) (.int .u8 (x5 : Int))).block P (Ne.symm HGP.out)).trans HROW6.out
  have hb8 := HB6.out.trans ((put6_only w5 G (.int .u8 (x0 : Int)) (.int .u8 (x1 : Int)) (.int .u8 (x2 : Int)) (.int .u8 (x3 : Int)) (.int .u8 (x4 : Int)) (.int .u8 (x5 : Int))).below (Nat.le_refl _))
  unfold put6 at hrow8 hb8 hp8
  obtain ⟨u1, hu1⟩ : ∃ u1, u1 = (((((w5.setCell ⟨G, 0, none⟩ (.int .u8 (x0 : Int))).setCell ⟨G, 1, none⟩ (.int .u8 (x1 : Int))).setCell ⟨G, 2, none⟩ (.int .u8 (x2 : Int))).setCell ⟨G, 3, none⟩ (.int .u8 (x3 : Int))).setCell ⟨G, 4, none⟩ (.int .u8 (x4 : Int))).setCell ⟨G, 5, none⟩ (.int .u8 (x5 : Int)) := ⟨_, rfl⟩
  rw [← hu1] at hrow8 hb8 hp8 ⊢
  clear hu1
  have hb9 : Below G w u1.drew := ⟨hb8.os, hb8.tape, hb8.output, hb8.size, hb8.block⟩
  have hrow9 : u1.drew.heap[G]? = _ := hrow8
  refine bodyPost_ret (zz_results _ _ G (.slice (some ⟨P, 0, none⟩) m pcap) (.bool false) v _ _ _ _ _ _ rfl rfl rfl rfl hrow9) rfl ?_
  refine ⟨P, pcap, rest, tr, by rw [HSIX.out, HV.out], hp8, ?_, HTL.out, ?_⟩
  · have := HPR.out; have := HNE.out; rw [HG.out]; omega
  · rw [HG.out]
    exact hb9
end Go.Proofs.YtiiipmcjbibgoaaDoor
