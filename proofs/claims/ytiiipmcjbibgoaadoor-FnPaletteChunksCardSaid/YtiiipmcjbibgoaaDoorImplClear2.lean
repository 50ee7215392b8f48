/- The contract of the thin package's ReadClear at a palette. -/
import Derived.Test.YtiiipmcjbibgoaaDoorImplClear
import Derived.Test.YtiiipmcjbibgoaaDoorWPal
namespace Go.Proofs.YtiiipmcjbibgoaaDoor
open Go.ChangeShapes Go.WideShapes Go.ChangeAt Go.RowKit Go.IntWalk

/-- The colors with the alphas of the first ones. -/
def clS (S : List Sh) (l : List UInt8) (n : Nat) : List Sh := (List.range S.length).map fun j => if j < n then { S.getD j Sh.no with a := l.getD j 0 } else S.getD j Sh.no
theorem clS_length (S : List Sh) (l : List UInt8) (n : Nat) : (clS S l n).length = S.length := by simp [clS]
theorem clS_at (S : List Sh) (l : List UInt8) (n j : Nat) (h : j < S.length) : (clS S l n)[j]? = some (if j < n then { S.getD j Sh.no with a := l.getD j 0 } else S.getD j Sh.no) := by simp [clS, h]
theorem cl_at {w : World} {P n : Nat} {S : List Sh} {l : List UInt8} {rest : List Value} (h : w.heap[P]? = some (.cells (clrTo S l n ++ rest).toArray 97 (0, 0))) : PalAt w (some ⟨P, 0, none⟩) (clS S l n) := by
  intro _
  refine ⟨P, rfl, fun j s hs => ?_⟩
  have hj : j < S.length := by
    have := (List.getElem?_eq_some_iff.1 hs).1
    rwa [clS_length] at this
  have hc : w.cell? ⟨P, j, none⟩ = some (if j < n then nrV (S.getD j Sh.no) (l.getD j 0) else rgV (S.getD j Sh.no)) := by
    rw [cell_of_row w P j _ _ _ h, List.getElem?_toArray, List.getElem?_append_left (by rw [clrTo_length]; exact hj), clrTo_at _ _ _ _ hj]
  rw [clS_at _ _ _ _ hj] at hs
  rw [hc]
  by_cases hn : j < n
  · rw [if_pos hn] at hs ⊢
    cases hs
    exact ⟨_, .inr rfl, rfl⟩
  · rw [if_neg hn] at hs ⊢
    cases hs
    exact ⟨_, .inl rfl, rfl⟩
theorem rg_next (S : List Sh) (t : Nat) (s : Sh) (h : S[t]? = some s) : (S.take (t + 1)).map rgV = (S.take t).map rgV ++ [rgV s] := by
  rw [List.take_add_one, h]
  simp
theorem one_at (w : World) (v : Value) (T : TypeId) (g : Nat) (hg : g = w.heap.size) : ∀ j u, [v][j]? = some u → (w.alloc (.cells #[v] T)).cell? ((⟨g, 0, none⟩ : Addr).add j) = some u := by
  intro j u hj
  subst hg
  rw [Addr.add_lit, Nat.zero_add, cell_of_row _ _ _ _ _ _ (heap_alloc_new w _), ← hj]
  simp
def IClrEnd (S : List Sh) (l : List UInt8) (n m c : Nat) (w : World) (e : Ending) (w' : World) : Prop :=
  Below w.heap.size w w' ∧
    ((c = crcOf (trnsName ++ l) ∧ ∃ v0 v1, e = .returned (.tuple #[v0, v1, .bool false, .int .i64 0]) ∧ w'.ownsRow w.heap.size 29 4 v0 m (shAll (clS S l n))) ∨
     (c ≠ crcOf (trnsName ++ l) ∧ e = .returned (.tuple #[.slice none 0 0, .slice none 0 0, .bool false, .int .i64 1])))

set_option maxHeartbeats 3200000 in
set_option maxRecDepth 100000 in
theorem implReadClear_any (ad : Option Addr) (cap n c pb m pcap : Nat) (S : List Sh) (l : List UInt8) (w : World) (hl : Hid (l.length = n)) (hr : RB w ad l) (hn0 : ad = none → n = 0 ∧ cap = 0) (ht : Tab w) (hn : 0 < n) (hnm : n ≤ m) (hm256 : m ≤ 256) (hS : c < 4294967296)
    (hSl : Hid (S.length = m)) (hpal : Hid (∀ j u, (shAll S)[j]? = some u → w.cell? ⟨pb, j, none⟩ = some u)) (hpb : pb < w.heap.size) :
    Calls Tryd.prog 16 #[.int .i64 3, .int .i64 8, .slice (some ⟨pb, 0, none⟩) m pcap, .slice ad n cap, .int .u32 (c : Int)] w (IClrEnd S l n m c w) := by
  have hu : IntKind.u32.signed = false := rfl
  have y0 : (0 : Int) ≤ (n : Int) := by omega
  have y1 : IntKind.u32.wrap (n : Int) = (n : Int) := by rw [IntKind.wrap_u32]; omega
  go_enter Tryd.func16, Tryd.ntmps16
  go_wp2_with fail
  refine (clone_any ad n cap l hl w (by omega) hr hn0).mono ?_
  rintro e w1 ⟨v1, rfl, ho1, hb1, -⟩
  have hb4 := four_at w1 c hS 5
  have HB1 := Lib.hid hb1
  clear hb1
  have hol : OwnB (w1.alloc (.cells #[.int .u8 ((c : Int) / 16777216), .int .u8 ((c : Int) / 65536 % 256), .int .u8 ((c : Int) / 256 % 256), .int .u8 ((c : Int) % 256)] 5)) w.heap.size v1 l := ho1.alloc _
  go_wp2_with (at_builtin; refine wpList_append_bytes rfl (.tmp 23) (.tmp 35) rfl w.heap.size _ l (four c) rfl hol (some ⟨w1.heap.size, 0, none⟩) 4 4 rfl rfl hb4 (by intro h; cases h) (by rw [hl.out]; omega) (by rw [size_alloc]; have := HB1.out.size; omega) ?_; intro v4 w4 ho4 hg4 hb5 hnl4; clear hg4 hnl4)
  have HB4 : Hid (Below w.heap.size w w4) := Lib.hid ((HB1.out.alloc HB1.out.size _).trans hb5)
  obtain ⟨q, hq⟩ : ∃ q, q = l ++ four c := ⟨_, rfl⟩
  rw [← hq] at ho4
  have HM := Lib.hid hq
  have hml : q.length = n + 4 := by rw [hq, List.length_append, hl.out, four_len]
  clear hq
  obtain ⟨a4, n4, c4, rfl, hm4, hr4, hmc4, -, -, -⟩ := ho4.shapeN
  obtain rfl : n4 = n + 4 := by have h1 := hm4.out; omega
  obtain ⟨sb, so, rfl, -⟩ := hr4 (by intro e; rw [e] at hml; simp at hml)
  have ht4 := ht.below HB4.out
  have HPB := Lib.hid hpb
  have HRR := Lib.hid hr4
  have HTT := Lib.hid ht4
  clear ho4 hb5 hb4 hol ho1 hr hml HB1 hpb hr4 ht4 ht
  go_loopw [15, 39] (fun v i wr => ∃ t : Nat, t ≤ m ∧ i = .int .i64 (t : Int) ∧ wr.ownsRow w4.heap.size 97 1 v t ((S.take t).map rgV) ∧ Below w4.heap.size w4 wr) (fun _ i _ => m - (intOf i).toNat)
  case atStart => exact ⟨0, Nat.zero_le _, rfl, World.ownsRow_nil _ _ _ _, Below.refl _ _⟩
  case round =>
    obtain ⟨t, ht, rfl, hown, hbel⟩ := hrel
    by_cases hlt : t < m
    · have i0 : (0 : Int) ≤ (t : Int) := by omega
      have i1 : (t : Int) < (m : Int) := by omega
      have w3 : IntKind.i64.wrap (t : Int) = (t : Int) := i64_in _ ⟨by omega, by omega⟩
      obtain ⟨sh, hsh⟩ : ∃ s, S[t]? = some s := ⟨_, List.getElem?_eq_getElem (by rw [hSl.out]; exact hlt)⟩
      have hC : ∀ j u, j < 4 → (shC sh)[j]? = some u → wr.cell? ⟨pb, t * 4 + j, none⟩ = some u := fun j u hj hu => by
        refine (World.cell?_of_block (w := w4) (hbel.block pb (by have := HPB.out; have := HB4.out.size; omega))).trans ?_
        refine (World.cell?_of_block (w := w) (HB4.out.block pb HPB.out)).trans ?_
        rw [Nat.mul_comm]
        exact hpal.out _ _ ((shAll_at _ t _ hsh j hj).trans hu)
      have g0 := hC 0 _ (by omega) rfl
      have g1 := hC 1 _ (by omega) rfl
      have g2 := hC 2 _ (by omega) rfl
      have g3 := hC 3 _ (by omega) rfl
      rw [Nat.add_zero] at g0
      have NX := Lib.hid (rg_next S t sh hsh)
      have HO := Lib.hid hown
      have HBEL := Lib.hid hbel
      have hbw : Below wr.heap.size wr ((wr.alloc (.cells #[.int .u8 (sh.r.toNat : Int), .int .u8 (sh.g.toNat : Int), .int .u8 (sh.b.toNat : Int), .int .u8 (sh.a.toNat : Int)] 29)).alloc (.cells #[rgV sh] 97)) := ((Below.refl _ _).alloc (Nat.le_refl _) _).alloc (by rw [size_alloc]; omega) _
      have HBW := Lib.hid hbw
      clear hC hsh hown hbel hbw
      go_wp2_with (at_builtin; refine wpList_append_colors rfl (.tmp 43) (.tmp 54) rfl w4.heap.size _ t ((S.take t).map rgV) [rgV sh] rfl (ownsRow_below HO.out HBW.out) _ 1 1 rfl rfl (one_at (wr.alloc _) (rgV sh) _ _ (by simp)) (by intro u hu; rcases List.mem_singleton.1 hu with rfl; rfl) (by omega) (by rw [size_alloc, size_alloc]; have := HBEL.out.size; omega) ?_; intro v2 w2 ho2 hb2)
      go_round
      case rel => exact ⟨t + 1, by omega, by go_num, by rw [NX.out]; exact ho2, (HBEL.out.trans (HBW.out.mono HBEL.out.size)).trans hb2⟩
      case measure => simp [intOf]; omega
    · obtain rfl : m = t := by omega
      rw [List.take_of_length_le (Nat.le_of_eq hSl.out)] at hown
      obtain ⟨g, gcap, rest0, rfl, hg, -, hrow⟩ := own_row hown (by omega)
      have hpal2 : ∀ j u, (S.map rgV)[j]? = some u → wr.cell? ((⟨g, 0, none⟩ : Addr).add j) = some u := fun j u hj => by
        rw [Addr.add_lit, Nat.zero_add, cell_of_row wr g j _ _ _ hrow, List.getElem?_toArray, List.getElem?_append_left (List.getElem?_eq_some_iff.1 hj).1]
        exact hj
      have hgl := row_lt hrow
      have HR5 := Lib.hid (HRR.out.below hbel)
      have HT5 := Lib.hid (HTT.out.below hbel)
      have HB5 : Hid (Below w.heap.size w wr) := Lib.hid (HB4.out.trans (hbel.mono HB4.out.size))
      have HP2 := Lib.hid hpal2
      have HGL := Lib.hid hgl
      clear hown hbel hg hrow hpal2 hgl HRR HTT
      have hk10 : rk (100 * 3 + 8) = 10 := rfl
      go_wp2_with (go_at_call 27; refine (rowKind_any 3 8 (by omega) (by omega) wr).mono ?_; rw [hk10]; rintro e w5 ⟨rfl, rfl⟩)
      refine (zzReadClear_any n m sb so c4 g gcap S q wr hm4 HR5.out hmc4 HT5.out hn hnm hm256 hSl HP2.out HGL.out).mono ?_
      rintro e w5 ⟨P, pc5, rest, tr, rfl, hrow5, hP5, htl, hb5⟩
      have h1 : q.take n = l := by rw [HM.out, ← hl.out]; simp
      have h2 : (q.drop n).take 4 = four c := by rw [HM.out, ← hl.out]; simp [four]
      have h4 : crcFrom (crcOf trnsName) l = crcOf (trnsName ++ l) := by unfold crcOf; rw [crcFrom_append]
      rw [h1] at hrow5
      rw [h1, h2, h4]
      have HB6 : Hid (Below w.heap.size w w5) := Lib.hid (HB5.out.trans (hb5.mono HB5.out.size))
      obtain ⟨x0, x1, x2, x3, x4, x5, rfl, hsix⟩ := six_lit htl
      rw [hsix]
      have HROW5 := Lib.hid hrow5
      clear hb5 HB5 hsix htl h1 h2 h4 hrow5 hP5 HR5 HT5 HP2 HGL
      rcases sum_cases c (crcOf (trnsName ++ l)) hS with ⟨ec, es⟩ | ⟨ec, s, es⟩
      · rw [es]
        have HEC := Lib.hid ec
        clear ec es
        go_upto_region 11 with fail
        have hb6 := HB6.out.alloc HB6.out.size (.cells #[.int .u8 (x0.toNat : Int), .int .u8 (x1.toNat : Int), .int .u8 (x2.toNat : Int), .int .u8 (x3.toNat : Int), .int .u8 (x4.toNat : Int), .int .u8 (x5.toNat : Int)] 66)
        have hr6 := six_rb w5 x0 x1 x2 x3 x4 x5 66
        have hp6 : (w5.alloc (.cells #[.int .u8 (x0.toNat : Int), .int .u8 (x1.toNat : Int), .int .u8 (x2.toNat : Int), .int .u8 (x3.toNat : Int), .int .u8 (x4.toNat : Int), .int .u8 (x5.toNat : Int)] 66)).heap[P]? = some (.cells (clrTo S l n ++ rest).toArray 97 (0, 0)) := by
          rw [heap_alloc_old _ _ (row_lt HROW5.out)]; exact HROW5.out
        obtain ⟨w6, hw6⟩ : ∃ w6, w6 = w5.alloc (.cells #[.int .u8 (x0.toNat : Int), .int .u8 (x1.toNat : Int), .int .u8 (x2.toNat : Int), .int .u8 (x3.toNat : Int), .int .u8 (x4.toNat : Int), .int .u8 (x5.toNat : Int)] 66) := ⟨_, rfl⟩
        rw [← hw6] at hb6 hr6 hp6 ⊢
        obtain ⟨G, hG⟩ : ∃ G, G = w5.heap.size := ⟨_, rfl⟩
        rw [← hG] at hr6 ⊢
        have hr7 : RB w6.drew (some ⟨G, 0, none⟩) [x0, x1, x2, x3, x4, x5] := hr6
        have hp7 : w6.drew.heap[P]? = some (.cells (clrTo S l n ++ rest).toArray 97 (0, 0)) := hp6
        have hpa := cl_at hp7
        have HB7 := Lib.hid hb6
        have h66 : Hid (([x0, x1, x2, x3, x4, x5] : List UInt8).length = 6) := Lib.hid rfl
        have hss : Hid ((clS S l n).length = m) := Lib.hid (by rw [clS_length, hSl.out])
        clear hw6 hG HB6 hr6 hb6 hp6 hp7 HROW5
        go_region_with (first
          | (go_at_call 29; refine (shadesOf_any (some ⟨P, 0, none⟩) pc5 (clS S l n) m w6.drew hss hpa (by omega)).mono ?_; rintro e w7 ⟨v7, rfl, ho7, hb7⟩)
          | (go_at_call 25; refine (clone_any (some ⟨G, 0, none⟩) 6 6 _ h66 w7 (by omega) (hr7.below hb7) (by intro h; cases h)).mono ?_; rintro e w8 ⟨v8, rfl, ho8, hb8, -⟩))
        all_goals
          have hb6d : Below w.heap.size w w6.drew := HB7.out.drew
          have HB8 : Hid (Below w.heap.size w w7) := Lib.hid (hb6d.trans (hb7.mono hb6d.size))
          have HB9 : Hid (Below w.heap.size w w8) := Lib.hid (HB8.out.trans (hb8.mono HB8.out.size))
          rw [hss.out] at ho7
          have HO7 := Lib.hid (ownsRow_below (ownsRow_mono ho7 hb6d.size) hb8)
          clear hb7 hb8 ho7 ho8 hb6d
          go_wp2_with fail
          exact bodyPost_ret (v := .tuple #[v7, v8, .bool false, .int .i64 0]) (by simp [results, Tryd.results16, go_sem]) rfl ⟨HB9.out, .inl ⟨HEC.out, v7, v8, rfl, HO7.out⟩⟩
      · rw [es]
        have HNO := Lib.hid ec
        clear ec es
        go_wp2_with (go_at_call 28; refine (partCode_format s _).mono ?_; rintro e w6 ⟨rfl, rfl⟩)
        exact bodyPost_ret (v := .tuple #[.slice none 0 0, .slice none 0 0, .bool false, .int .i64 1]) (by simp [results, Tryd.results16, go_sem]) rfl ⟨HB6.out.alloc HB6.out.size _, .inr ⟨HNO.out, rfl⟩⟩
end Go.Proofs.YtiiipmcjbibgoaaDoor
