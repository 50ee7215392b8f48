/- The walk through the law FnPaletteChunks. -/
import Derived.Test.YtiiipmcjbibgoaaDoorZPal
import Derived.Test.YtiiipmcjbibgoaaDoorWChunk
import Derived.Deep.AppendLies
namespace Go.Proofs.YtiiipmcjbibgoaaDoor
open Go.ChangeShapes Go.WideShapes Go.ChangeAt Go.RowKit Go.IntWalk

/-- Two slices of the call's own, in two blocks. -/
structure Two (w : World) (base : Nat) (v : Value) (l : List UInt8) (v2 : Value) (l2 : List UInt8) : Prop where
  a : OwnB w base v l
  b : OwnB w base v2 l2
  ne : ∃ g g2, v.ownBlock = some g ∧ v2.ownBlock = some g2 ∧ g ≠ g2
theorem Two.symm {w : World} {base : Nat} {v v2 : Value} {l l2 : List UInt8} (h : Two w base v l v2 l2) : Two w base v2 l2 v l := by
  obtain ⟨g, g2, h1, h2, h3⟩ := h.ne
  exact ⟨h.b, h.a, g2, g, h2, h1, Ne.symm h3⟩
theorem Two.below {w w' : World} {base : Nat} {v v2 : Value} {l l2 : List UInt8} (h : Two w base v l v2 l2) (k : Below w.heap.size w w') : Two w' base v l v2 l2 := ⟨h.a.below k, h.b.below k, h.ne⟩
theorem wpList_append_two {w : World} {ops : Array Oper} {rest : List Oper} {o : Oper} {a : Act} {Q : Exit → Act → World → Prop} (hgd : o.guard = none) (s x : Operand)
    (ho : o.op = .call { callee := .builtin .append, args := #[s, x], argTypes := #[22, 22] })
    (base : Nat) (v v2 : Value) (l l2 news : List UInt8) (hs : a.eval s = v) (hown : Two w base v l v2 l2) (g n c : Nat) (hx : a.eval x = .slice (some ⟨g, 0, none⟩) n c)
    (hm : news.length = n) (hr : RB w (some ⟨g, 0, none⟩) news) (hpos : 0 < n) (hb : l.length + n ≤ 100000) (hbase : base ≤ w.heap.size)
    (h : ∀ v' w', Two w' base v' (l ++ news) v2 l2 → Below base w w' → Lib.OthersKept 5 none w w' → wpList Tryd.prog ops Q rest (a.put o.dst v') w') : wpList Tryd.prog ops Q (o :: rest) a w := by
  obtain ⟨i0, hi, hz0, hz1, hz2⟩ := info_parts info_byte
  refine wpList_append_lies w hgd s x 22 ho base 5 i0 (.int .u8 0) 1 1 Tryd.underlying22 hi hz0 hz1 hz2 rfl (by decide) v _ _ hs hown.a ⟨g, 0, none⟩ n c (cellsB news) hx (by rw [cellsB_length, hm, Nat.mul_one]) (src_of hr) (cellsB_one _) hpos (by unfold maxLen; omega) (by omega) hbase w.heap.size rfl ?_
  intro g' cap' w' ho' hg hlies hlt
  have hbel : Below base w w' := (Below.refl _ _).grown hg hbase (ownBlock_ge hown.a)
  have hkept : Lib.OthersKept 5 none w w' := (Lib.OthersKept.refl _ _ w).grown hg (fun g1 e => by
    rcases hown.a.2 with ⟨k, -⟩ | ⟨g3, cap3, cur, hv, hbg, hgr, r⟩
    · rw [k] at e; cases e
    · rw [hv] at e
      have e3 : g3 = g1 := by simpa [Value.ownBlock] using e
      subst e3
      exact ⟨_, _, hgr⟩)
  refine h _ w' ⟨?_, ?_, ?_⟩ hbel hkept
  · unfold OwnB
    rw [List.length_append, List.map_append, hm]
    exact ho'
  · obtain ⟨g1, g2, h1, h2, h3⟩ := hown.ne
    refine ⟨hown.b.1, ?_⟩
    rcases hown.b.2 with k | ⟨g3, cap3, cur, hv, hbg, hgr, r⟩
    · exact .inl k
    · refine .inr ⟨g3, cap3, cur, hv, hbg, ?_, r⟩
      rw [hv] at h2
      have e3 : g3 = g2 := by simpa [Value.ownBlock] using h2
      subst e3
      rw [hg.block g3 (Lib.lt_of_heap hgr) (by rw [h1]; intro e; exact h3 (Option.some.inj e).symm)]
      exact hgr
  · obtain ⟨g1, g2, h1, h2, h3⟩ := hown.ne
    refine ⟨g', g2, rfl, h2, ?_⟩
    rcases hlies with e | e
    · rw [h1] at e
      exact fun e2 => h3 ((Option.some.inj e).trans e2)
    · intro e2
      have : g2 < w.heap.size := by
        rcases hown.b.2 with ⟨k, -⟩ | ⟨g3, cap3, cur, hv, hbg, hgr, r⟩
        · rw [k] at h2; cases h2
        · rw [hv] at h2
          have e3 : g3 = g2 := by simpa [Value.ownBlock] using h2
          subst e3
          exact Lib.lt_of_heap hgr
      omega
/-- A color's own block is kept. -/
theorem kept_shade {w w' : World} {N : Nat} {sh : Sh} (hk : Lib.OthersKept 5 none w w') (h : w.heap[N]? = some (.cells #[.int .u8 (sh.r.toNat : Int), .int .u8 (sh.g.toNat : Int), .int .u8 (sh.b.toNat : Int), .int .u8 (sh.a.toNat : Int)] 29 (0, 0))) :
    w'.heap[N]? = some (.cells #[.int .u8 (sh.r.toNat : Int), .int .u8 (sh.g.toNat : Int), .int .u8 (sh.b.toNat : Int), .int .u8 (sh.a.toNat : Int)] 29 (0, 0)) ∧ w'.cell? ⟨N, 3, none⟩ = some (.int .u8 (sh.a.toNat : Int)) := by
  have h2 := hk N _ h (fun e => by cases e) (fun c fz e => by cases e)
  refine ⟨h2, ?_⟩
  rw [cell_of_row w' N 3 _ _ _ h2]
  rfl
theorem two_start (w : World) : Two ((w.alloc (.cells #[] 5)).alloc (.cells #[] 5)) w.heap.size (.slice (some ⟨w.heap.size, 0, none⟩) 0 0) [] (.slice (some ⟨w.heap.size + 1, 0, none⟩) 0 0) [] := by
  refine ⟨(OwnB.empty w w.heap.size (Nat.le_refl _)).alloc _, ?_, w.heap.size, w.heap.size + 1, rfl, rfl, by omega⟩
  have := OwnB.empty (w.alloc (.cells #[] 5)) w.heap.size (by rw [size_alloc]; omega)
  rw [size_alloc] at this
  exact this

set_option maxHeartbeats 12800000 in
set_option maxRecDepth 100000 in
theorem palChLaw (m pcap : Nat) (ap : Option Addr) (S : List Sh) (w : World) (hS : Hid (InS w ap m pcap S)) (htab : Tab w) (hpow : Pow w) :
    Calls Tryd.prog 10 #[.slice ap m pcap] w (TrueEnd w) := by
  have hm63 : m ≤ 9223372036854775807 := Nat.le_trans hS.out.hcap hS.out.most
  by_cases hbig : 1000 < m
  · have hcase : decide ((2147483647 : Int) < (m : Int)) = true ∨ (decide ((2147483647 : Int) < (m : Int)) = false ∧ decide ((1000 : Int) < (m : Int)) = true) := by
      by_cases h1 : 2147483647 < m
      · exact .inl (decide_eq_true (by omega))
      · exact .inr ⟨decide_eq_false (by omega), decide_eq_true (by omega)⟩
    clear hbig hm63
    rcases hcase with q1 | ⟨q1, q2⟩
    all_goals
      go_enter Tryd.func10, Tryd.ntmps10
      go_wp2_with fail
      go_ret
      exact ⟨rfl, Below.refl _ _⟩
  have q1 : decide ((2147483647 : Int) < (m : Int)) = false := decide_eq_false (by omega)
  have q2 : decide ((1000 : Int) < (m : Int)) = false := decide_eq_false (by omega)
  by_cases hbad : m = 0 ∨ 256 < m
  · have hcase : ((m : Int) == 0) = true ∨ (((m : Int) == 0) = false ∧ decide ((256 : Int) < (m : Int)) = true) := by
      by_cases h1 : m = 0
      · exact .inl (by rw [h1]; rfl)
      · exact .inr ⟨by simp; omega, decide_eq_true (by omega)⟩
    have hm2 : m ≤ 1000 := by omega
    rcases hcase with q3 | ⟨q3, q4⟩
    all_goals
      go_enter Tryd.func10, Tryd.ntmps10
      go_wp2_with fail
      refine (implPalChunks_bad m pcap ap S w hbad hm2 hS htab hpow).mono ?_
      rintro e w1 ⟨rfl, hb1⟩
      go_wp2_with fail
      go_ret
      exact ⟨rfl, hb1⟩
  have q3 : ((m : Int) == 0) = false := by simp; omega
  have q4 : decide ((256 : Int) < (m : Int)) = false := decide_eq_false (by omega)
  have hm1 : 1 ≤ m := by omega
  have hm : m ≤ 256 := by omega
  have hSl : Hid (S.length = m) := hS.out.hlen
  clear hbig hbad hm63 hpow
  go_enter Tryd.func10, Tryd.ntmps10
  go_upto_region 6 with (go_at_call 23; refine (implPalChunks_ok m pcap ap S w hm1 hm hS htab).mono ?_; rintro e w1 ⟨v1, rfl, ho1, hb1⟩)
  obtain ⟨a3, n3, c3, rfl, hm3, hr3, hle3, hmx3, -, -⟩ := ho1.shapeN
  have HB1 := Lib.hid hb1
  have ht1 := htab.below hb1
  clear ho1 hb1 htab
  go_upto_region 10 with fail
  clear q1 q2 q3 q4
  have h0 := two_start w1
  have hbs : Below w1.heap.size w1 ((w1.alloc (.cells #[] 5)).alloc (.cells #[] 5)) := ((Below.refl _ _).alloc (Nat.le_refl _) _).alloc (by rw [size_alloc]; omega) _
  have H0 := Lib.hid h0
  have HBS := Lib.hid hbs
  clear h0 hbs
  go_loopw [5, 6, 7, 40] (fun v5 v6 v7 i wr => ∃ t : Nat, t ≤ m ∧ i = .int .i64 (t : Int) ∧ v7 = .bool (anyN S t) ∧ Two wr w1.heap.size v5 (rgbs (S.take t)) v6 (als (S.take t)) ∧ Below w1.heap.size w1 wr) (fun _ _ _ i _ => m - (intOf i).toNat)
  case atStart => exact ⟨0, Nat.zero_le _, rfl, rfl, H0.out, HBS.out⟩
  case round =>
    obtain ⟨t, ht, rfl, rfl, htwo, hbel⟩ := hrel
    clear H0 HBS
    by_cases hlt : t < m
    · have i0 : (0 : Int) ≤ (t : Int) := by omega
      have i1 : (t : Int) < (m : Int) := by omega
      have w3 : IntKind.i64.wrap (t : Int) = (t : Int) := i64_in _ ⟨by omega, by omega⟩
      obtain ⟨sh, hsh⟩ : ∃ s, S[t]? = some s := ⟨_, List.getElem?_eq_getElem (by rw [hSl.out]; exact hlt)⟩
      obtain ⟨pb, po, rfl, hpc⟩ := hS.out.rd (by intro e; rw [e] at hsh; simp at hsh)
      have hpb : pb < w.heap.size := by
        have e : (shAll S)[0]? = some ((shAll S)[0]'(by rw [shAll_len, hSl.out]; omega)) := List.getElem?_eq_getElem _
        exact World.block_lt_of_cell? w _ (hpc 0 _ e)
      have hC : ∀ j u, j < 4 → (shC sh)[j]? = some u → wr.cell? ⟨pb, po + t * 4 + j, none⟩ = some u := fun j u hj hu => by
        refine (World.cell?_of_block (w := w1) (hbel.block pb (Nat.lt_of_lt_of_le hpb HB1.out.size))).trans ?_
        refine (World.cell?_of_block (w := w) (HB1.out.block pb hpb)).trans ?_
        rw [Nat.mul_comm, Nat.add_assoc]
        exact hpc _ _ ((shAll_at _ t _ hsh j hj).trans hu)
      have g0 := hC 0 _ (by omega) rfl
      have g1 := hC 1 _ (by omega) rfl
      have g2 := hC 2 _ (by omega) rfl
      have g3 := hC 3 _ (by omega) rfl
      rw [Nat.add_zero] at g0
      have NX := Lib.hid (And.intro (rgbs_next S t sh hsh) (als_next S t sh hsh))
      have hgd : S.getD t Sh.no = sh := by simp [List.getD, hsh]
      have HGD := Lib.hid hgd
      have hlr : (rgbs (S.take t)).length = 3 * t := by rw [rgbs_len, List.length_take, hSl.out]; omega
      have hla : (als (S.take t)).length = t := by rw [als_len, List.length_take, hSl.out]; omega
      have HLL := Lib.hid (And.intro hlr hla)
      have hb5 : Below wr.heap.size wr ((wr.alloc (.cells #[.int .u8 (sh.r.toNat : Int), .int .u8 (sh.g.toNat : Int), .int .u8 (sh.b.toNat : Int), .int .u8 (sh.a.toNat : Int)] 29)).alloc (.cells #[.int .u8 (sh.r.toNat : Int), .int .u8 (sh.g.toNat : Int), .int .u8 (sh.b.toNat : Int)] 5)) := ((Below.refl _ _).alloc (Nat.le_refl _) _).alloc (by rw [size_alloc]; omega) _
      have hT5 := htwo.below hb5
      have hr5 := RB.lit (wr.alloc (.cells #[.int .u8 (sh.r.toNat : Int), .int .u8 (sh.g.toNat : Int), .int .u8 (sh.b.toNat : Int), .int .u8 (sh.a.toNat : Int)] 29)) [sh.r, sh.g, sh.b] 5
      rw [size_alloc] at hr5
      obtain ⟨N, hN⟩ : ∃ N, N = wr.heap.size := ⟨_, rfl⟩
      have hn5 : ((wr.alloc (.cells #[.int .u8 (sh.r.toNat : Int), .int .u8 (sh.g.toNat : Int), .int .u8 (sh.b.toNat : Int), .int .u8 (sh.a.toNat : Int)] 29)).alloc (.cells #[.int .u8 (sh.r.toNat : Int), .int .u8 (sh.g.toNat : Int), .int .u8 (sh.b.toNat : Int)] 5)).heap[N]? = some (.cells #[.int .u8 (sh.r.toNat : Int), .int .u8 (sh.g.toNat : Int), .int .u8 (sh.b.toNat : Int), .int .u8 (sh.a.toNat : Int)] 29 (0, 0)) := by
        rw [hN, heap_alloc_old _ _ (by rw [size_alloc]; omega)]
        exact heap_alloc_new wr _
      have HBEL := Lib.hid hbel
      have HT5 := Lib.hid hT5
      have HR5 := Lib.hid hr5
      have HB5 := Lib.hid hb5
      rw [hN] at hn5
      have HN5 := Lib.hid hn5
      clear hC hsh hgd hlr hla hbel hb5 htwo hT5 hr5 hpc hpb hn5 hN
      obtain ⟨an, han⟩ : ∃ an, an = anyN S t := ⟨_, rfl⟩
      rw [← han]
      have HAN := Lib.hid han
      clear han
      have hcs : an = true ∨ (an = false ∧ sh.a = 255) ∨ (an = false ∧ sh.a ≠ 255) := by
        cases an
        · by_cases h : sh.a = 255
          · exact .inr (.inl ⟨rfl, h⟩)
          · exact .inr (.inr ⟨rfl, h⟩)
        · exact .inl rfl
      have hbl : True := trivial
      rcases hcs with rfl | ⟨rfl, ha⟩ | ⟨rfl, ha⟩
      all_goals
        first
          | (have ha2 : ((sh.a.toNat : Int) != 255) = false := by rw [ha]; rfl)
          | (have ha2 : ((sh.a.toNat : Int) != 255) = true := by
              have : sh.a.toNat ≠ 255 := fun h => ha (UInt8.toNat_inj.1 h)
              simp
              omega)
          | skip
        have HX : Hid (anyN S (t + 1) = (anyN S t || decide (sh.a ≠ 255))) := Lib.hid (by rw [anyN, HGD.out])
        have HA : Hid (True ∧ (sh.a = 255 ∨ sh.a ≠ 255)) := Lib.hid ⟨trivial, Decidable.em _⟩
        try (have HA2 := Lib.hid ha)
        try clear ha
        go_wp2_with (first
          | (at_builtin; refine wpList_append_two rfl (.tmp 44) (.tmp 51) rfl w1.heap.size _ _ (rgbs (S.take t)) (als (S.take t)) [sh.r, sh.g, sh.b] rfl HT5.out (wr.heap.size + 1) 3 3 rfl rfl HR5.out (by omega) (by have := HLL.out.1; omega) (by rw [size_alloc, size_alloc]; have := HBEL.out.size; omega) ?_; intro v52 w2 hT2 hb2 hk2; have hNB : Below w1.heap.size w1 w2 := (HBEL.out.trans (HB5.out.mono HBEL.out.size)).trans hb2; obtain ⟨hn2, s3⟩ := kept_shade hk2 HN5.out; have HT2 := Lib.hid hT2; have HNB := Lib.hid hNB; have HN2 := Lib.hid hn2; clear hT2 hb2 hk2 hNB hn2)
          | (at_builtin; refine wpList_append_two rfl (.tmp 53) (.tmp 56) rfl w1.heap.size _ _ (als (S.take t)) (rgbs (S.take t) ++ [sh.r, sh.g, sh.b]) [sh.a] rfl ((HT2.out.below ((Below.refl _ _).alloc (Nat.le_refl _) _)).symm) w2.heap.size 1 1 rfl rfl (RB.lit w2 [sh.a] 5) (by omega) (by have := HLL.out.2; omega) (by rw [size_alloc]; have := HNB.out.size; omega) ?_; intro v62 w3 hT3 hb3 hk3; obtain ⟨hn3, s4⟩ := kept_shade hk3 ((heap_alloc_old w2 _ (row_lt HN2.out)).trans HN2.out); have HT3 := Lib.hid hT3; have HNB3 : Hid (Below w1.heap.size w1 w3) := Lib.hid ((HNB.out.alloc HNB.out.size _).trans hb3); clear hT3 hb3 hk3 hn3))
        go_round
        case rel =>
          refine ⟨t + 1, by omega, by go_num, ?_, by rw [NX.out.1, NX.out.2]; exact HT3.out.symm, HNB3.out⟩
          rw [HX.out, ← HAN.out]
          first
            | rfl
            | (rw [HA2.out]; rfl)
            | (rw [decide_eq_true HA2.out]; rfl)
        case measure => simp [intOf]; omega
    · obtain rfl : m = t := by omega
      rw [List.take_of_length_le (Nat.le_of_eq hSl.out)] at htwo
      have hO5 := htwo.a
      have hO6 := htwo.b
      obtain ⟨a5, n5, c5, rfl, hm5, hr5, -, -, hnl5, -⟩ := hO5.shapeN
      obtain ⟨a6, n6, c6, rfl, hm6, hr6, hle6, hmx6, -, -⟩ := hO6.shapeN
      obtain rfl : n6 = m := by have := hm6.out; rw [als_len, hSl.out] at this; omega
      have h35 : n5 = 3 * n6 := by have := hm5.out; rw [rgbs_len, hSl.out] at this; omega
      have hal6 : als S ≠ [] := by intro e; have := hm6.out; rw [e] at this; simp at this; omega
      obtain ⟨g6, o6, rfl, -⟩ := id (hr6 hal6)
      have hpne : palChunks S n6 ≠ [] := by intro e; have := (palChunks_len S n6 hSl.out hm).2; rw [e] at this; simp at this
      obtain ⟨g3, o3, rfl, -⟩ := id (hr3 hpne)
      have hr3w := hr3.below hbel
      have HBW : Hid (Below w.heap.size w wr) := Lib.hid (HB1.out.trans (hbel.mono HB1.out.size))
      have H35 := Lib.hid h35
      have HR6 := Lib.hid hr6
      have HR3 := Lib.hid hr3w
      have HLE := Lib.hid (show n6 ≤ c6 ∧ c6 ≤ 9223372036854775807 ∧ n3 ≤ c3 ∧ c3 ≤ 9223372036854775807 from ⟨hle6, by unfold maxLen at hmx6; exact hmx6, hle3, by unfold maxLen at hmx3; exact hmx3⟩)
      clear htwo hO5 hO6 hbel hlt ht h35 hal6 hpne hr3 hr3w hle6 hmx6 hle3 hmx3 hr6
      go_wp2_with fail
      refine (specChunk_any n5 c5 a5 (rgbs S) 80 76 84 69 wr hm5 hr5 hnl5 (by have := H35.out; omega)).mono ?_
      rintro e w5 ⟨v10, rfl, ho10, hb5⟩
      obtain ⟨a10, n10, c10, rfl, hm10, hr10, -, -, -, -⟩ := ho10.shapeN
      have HB5 : Hid (Below w.heap.size w w5) := Lib.hid (HBW.out.trans (hb5.mono HBW.out.size))
      have HR6' := Lib.hid (HR6.out.below hb5)
      have HR3' := Lib.hid (HR3.out.below hb5)
      have HN10 : Hid (n10 = 3 * n6 + 12) := Lib.hid (by have := hm10.out; rw [chunk_length _ _ rfl, hm5.out, H35.out] at this; omega)
      clear ho10 hb5 HR6 HR3 hr5 hnl5
      obtain ⟨first, hfi⟩ : ∃ first, first = chunk plteName (rgbs S) := ⟨_, rfl⟩
      have hm10' : Hid (first.length = n10) := Lib.hid (by rw [hfi]; exact hm10.out)
      have hr10' : RB w5 a10 first := by rw [hfi]; exact hr10
      have HFI := Lib.hid hfi
      clear hfi hr10 hm10
      obtain ⟨rest, hre⟩ : ∃ rest, palChunks S n6 = first ++ rest ∧ rest = (if laN S n6 = 0 then [] else chunk trnsName ((als S).take (laN S n6))) := ⟨_, by rw [HFI.out]; rfl, rfl⟩
      have HRE := Lib.hid hre
      clear hre
      have hpl : n3 = n10 + rest.length := by have := hm3.out; rw [HRE.out.1, List.length_append, hm10'.out] at this; omega
      have HPL := Lib.hid hpl
      have x1 : decide (n3 < n10) = false := decide_eq_false (by omega)
      have x2 : (n10 : Int) ≤ (c3 : Int) := by have := HLE.out; omega
      have x3 : (n10 : Int) ≤ (n3 : Int) := by omega
      have x4 : (n3 : Int) ≤ (c3 : Int) := by have := HLE.out; omega
      have hrt : RB w5 (some ⟨g3, o3, none⟩) first := by
        have := HR3'.out.take n10
        rw [HRE.out.1, List.take_left' hm10'.out] at this
        exact this
      have cv1 := fun q => conv_bytes (w := w5.drewN q) (cap := c3) hrt hm10'
      have cv2 := fun q => conv_bytes (w := w5.drewN q) (cap := c10) hr10' hm10'
      clear hpl
      go_wp2_with fail
      go_quiet (fail)
      clear cv1 cv2 hrt hr10'
      obtain ⟨w6, hw6⟩ : ∃ q, q = w5.drewN nq := ⟨_, rfl⟩
      have HB6 : Hid (Below w.heap.size w w6) := Lib.hid (by rw [hw6]; have := HB5.out; exact ⟨this.os, this.tape, this.output, this.size, this.block⟩)
      have HR6 : Hid (RB w6 (some ⟨g6, o6, none⟩) (als S)) := Lib.hid (by rw [hw6]; exact HR6'.out)
      have HR3 : Hid (RB w6 (some ⟨g3, o3, none⟩) (palChunks S n6)) := Lib.hid (by rw [hw6]; exact HR3'.out)
      rw [← hw6]
      clear hw6 HB5 HR6' HR3' HBW
      by_cases h0 : laN S n6 = 0
      · have hre0 : rest = [] := by rw [HRE.out.2, if_pos h0]
        have e3 : n3 = n10 := by have := HPL.out; rw [hre0] at this; simpa using this
        have hany : anyN S n6 = false := by
          cases hq : anyN S n6
          · rfl
          · exact absurd h0 ((anyN_la S n6).1 hq)
        rw [hany]
        clear hany h0 hre0 x1
        subst e3
        by_cases hc : c3 = n3
        all_goals
          have HCC := Lib.hid hc
          go_wp2_with fail
          go_ret
          exact ⟨by simp, HB6.out⟩
      · obtain ⟨la, hla⟩ : ∃ la, la = laN S n6 := ⟨_, rfl⟩
        have hre1 : rest = chunk trnsName ((als S).take la) := by rw [HRE.out.2, if_neg h0, hla]
        have hlle := laN_le S n6
        have hany : anyN S n6 = true := (anyN_la S n6).2 h0
        obtain ⟨l2, hl2⟩ : ∃ l2, l2 = (als S).take la := ⟨_, rfl⟩
        rw [← hl2] at hre1
        have hl2n : Hid (l2.length = la) := Lib.hid (by rw [hl2, List.length_take, hm6.out]; omega)
        obtain ⟨rl, hrl⟩ : ∃ rl, rl = la + 12 := ⟨_, rfl⟩
        have hrlen : rest.length = rl := by rw [hre1, chunk_length _ _ rfl, hl2n.out, hrl]
        have e3 : n3 - n10 = rl := by have := HPL.out; omega
        have e4 : (rl : Int) - 12 = (la : Int) := by omega
        have e5 : IntKind.i64.wrap (la : Int) = (la : Int) := i64_in _ ⟨by omega, by omega⟩
        have e6 : ¬ c3 = n10 := by have := HPL.out; have := HLE.out; omega
        have e7 : decide ((la : Int) < 1) = false := decide_eq_false (by omega)
        have e8 : decide (n6 < la) = false := decide_eq_false (by omega)
        have e9 : (la : Int) ≤ (c6 : Int) := by have := HLE.out; omega
        have e10 : (la : Int) ≤ (n6 : Int) := by omega
        have e11 : (0 : Int) ≤ (la : Int) := by omega
        have HLA := Lib.hid (show la = laN S n6 ∧ 1 ≤ la ∧ la ≤ n6 from ⟨hla, by omega, by omega⟩)
        have HL2 := Lib.hid hl2
        have HRL := Lib.hid hrl
        rw [hany]
        have hrr : RB w6 (some ⟨g3, o3 + n10, none⟩) (chunk trnsName l2) := by
          have := HR3.out.drop n10
          rw [HRE.out.1, List.drop_left' hm10'.out, hre1] at this
          exact this
        have hmr : Hid ((chunk trnsName l2).length = rl) := Lib.hid (by rw [← hre1]; exact hrlen)
        have hr62 : RB w6 (some ⟨g6, o6, none⟩) l2 := by
          have := HR6.out.take la
          rw [← hl2] at this
          exact this
        clear hany h0 hla hlle hl2 hrl hrlen hre1 x1
        go_upto_region 23 with fail
        have rd1 : RB w6.drew (some ⟨g3, o3 + n10, none⟩) (chunk trnsName l2) := hrr
        have rd2 : RB w6.drew (some ⟨g6, o6, none⟩) l2 := hr62
        have cv1 := conv_bytes (cap := c3 - n10) rd1 hmr
        refine wp_region_held_drew (S := fun w' => (convert 22 9 (.slice (some ⟨g3, o3 + n10, none⟩) rl (c3 - n10))).run Tryd.prog w' = .ok (.string (strOf (chunk trnsName l2))) w') (by kernel_rfl) cv1 (fun hHeld => ?_)
        refine take_at 0 (some 98) (v := ?_) rfl rfl (by kernel_rfl) (by kernel_rfl) (by kernel_rfl) (fun _ _ _ h => h) (Or.inl ⟨by rfl, ?_⟩) (by assumption) ?_
        rotate_left
        · intro w hSw
          (try dsimp only at hSw)
          go_simp
          first | done | with_reducible rfl
        simp only [Act.put, List.setIfInBounds_toArray, List.set_cons_succ, List.set_cons_zero]
        refine take_at 1 (some 99) (v := ?_) rfl rfl (by kernel_rfl) (by kernel_rfl) (by kernel_rfl) (fun _ _ _ h => h) (Or.inl ⟨by rfl, ?_⟩) (by assumption) ?_
        rotate_left
        · intro w hSw
          (try dsimp only at hSw)
          go_simp
          first | done | with_reducible rfl
        simp only [Act.put, List.setIfInBounds_toArray, List.set_cons_succ, List.set_cons_zero]
        refine take_at 2 (some 100) (v := ?_) rfl rfl (by kernel_rfl) (by kernel_rfl) (by kernel_rfl) (fun _ _ _ h => h) (Or.inl ⟨by rfl, ?_⟩) (by assumption) ?_
        rotate_left
        · intro w hSw
          (try dsimp only at hSw)
          go_simp
          first | done | with_reducible rfl
        simp only [Act.put, List.setIfInBounds_toArray, List.set_cons_succ, List.set_cons_zero]
        refine take_at 3 (some 101) (v := ?_) rfl rfl (by kernel_rfl) (by kernel_rfl) (by kernel_rfl) (fun _ _ _ h => h) (Or.inl ⟨by rfl, ?_⟩) (by assumption) ?_
        rotate_left
        · intro w hSw
          (try dsimp only at hSw)
          go_simp
          first | done | with_reducible rfl
        simp only [Act.put, List.setIfInBounds_toArray, List.set_cons_succ, List.set_cons_zero]
        refine take_at 4 (some 102) (v := ?_) rfl rfl (by kernel_rfl) (by kernel_rfl) (by kernel_rfl) (fun _ _ _ h => h) (Or.inl ⟨by rfl, ?_⟩) (by assumption) ?_
        rotate_left
        · intro w hSw
          (try dsimp only at hSw)
          go_simp
          first | done | with_reducible rfl
        simp only [Act.put, List.setIfInBounds_toArray, List.set_cons_succ, List.set_cons_zero]
        refine take_at 5 (some 103) (v := ?_) rfl rfl (by kernel_rfl) (by kernel_rfl) (by kernel_rfl) (fun _ _ _ h => h) (Or.inl ⟨by rfl, ?_⟩) (by assumption) ?_
        rotate_left
        · intro w hSw
          (try dsimp only at hSw)
          go_simp
          first | done | with_reducible rfl
        simp only [Act.put, List.setIfInBounds_toArray, List.set_cons_succ, List.set_cons_zero]
        refine take_at 6 (some 104) (v := ?_) rfl rfl (by kernel_rfl) (by kernel_rfl) (by kernel_rfl) (fun _ _ _ h => h) (Or.inl ⟨by rfl, ?_⟩) (by assumption) ?_
        rotate_left
        · intro w hSw
          (try dsimp only at hSw)
          go_simp
          first | done | with_reducible rfl
        simp only [Act.put, List.setIfInBounds_toArray, List.set_cons_succ, List.set_cons_zero]
        refine take_at 7 (some 105) (v := ?_) rfl rfl (by kernel_rfl) (by kernel_rfl) (by kernel_rfl) (fun _ _ _ h => h) (Or.inl ⟨by rfl, ?_⟩) (by assumption) ?_
        rotate_left
        · intro w hSw
          (try dsimp only at hSw)
          go_simp
          first | done | with_reducible rfl
        simp only [Act.put, List.setIfInBounds_toArray, List.set_cons_succ, List.set_cons_zero]
        refine take_at 8 (some 106) (v := ?_) rfl rfl (by kernel_rfl) (by kernel_rfl) (by kernel_rfl) (fun _ _ _ h => h) (Or.inl ⟨by rfl, ?_⟩) (by assumption) ?_
        rotate_left
        · intro w hSw
          (try dsimp only at hSw)
          go_simp
          first | done | with_reducible rfl
        simp only [Act.put, List.setIfInBounds_toArray, List.set_cons_succ, List.set_cons_zero]
        refine take_at 9 (some 107) (v := ?_) rfl rfl (by kernel_rfl) (by kernel_rfl) (by kernel_rfl) (fun _ _ _ h => h) (Or.inl ⟨by rfl, ?_⟩) (by assumption) ?_
        rotate_left
        · intro w hSw
          (try dsimp only at hSw)
          go_simp
          first | done | with_reducible rfl
        simp only [Act.put, List.setIfInBounds_toArray, List.set_cons_succ, List.set_cons_zero]
        refine take_at 10 (some 108) (v := ?_) rfl rfl (by kernel_rfl) (by kernel_rfl) (by kernel_rfl) (fun _ _ _ h => h) (Or.inl ⟨by rfl, ?_⟩) (by assumption) ?_
        rotate_left
        · intro w hSw
          (try dsimp only at hSw)
          go_simp
          first | done | with_reducible rfl
        simp only [Act.put, List.setIfInBounds_toArray, List.set_cons_succ, List.set_cons_zero]
        refine take_at 11 (some 109) (v := ?_) rfl rfl (by kernel_rfl) (by kernel_rfl) (by kernel_rfl) (fun _ _ _ h => h) (Or.inl ⟨by rfl, ?_⟩) (by assumption) ?_
        rotate_left
        · intro w hSw
          (try dsimp only at hSw)
          go_simp
          first | done | with_reducible rfl
        simp only [Act.put, List.setIfInBounds_toArray, List.set_cons_succ, List.set_cons_zero]
        refine take_at 12 (some 110) (v := ?_) rfl rfl (by kernel_rfl) (by kernel_rfl) (by kernel_rfl) (fun _ _ _ h => h) (Or.inl ⟨by rfl, ?_⟩) (by assumption) ?_
        rotate_left
        · intro w hSw
          (try dsimp only at hSw)
          go_simp
          first | done | with_reducible rfl
        simp only [Act.put, List.setIfInBounds_toArray, List.set_cons_succ, List.set_cons_zero]
        refine take_at 13 (some 111) (v := ?_) rfl rfl (by kernel_rfl) (by kernel_rfl) (by kernel_rfl) (fun _ _ _ h => h) (Or.inl ⟨by rfl, ?_⟩) (by assumption) ?_
        rotate_left
        · intro w hSw
          (try dsimp only at hSw)
          go_simp
          first | done | with_reducible rfl
        simp only [Act.put, List.setIfInBounds_toArray, List.set_cons_succ, List.set_cons_zero]
        refine wpAnyH_ready (rs := [14]) (by kernel_rfl) (by simp) ?_
        refine AllReadyH.cons rfl (fun K hK => ?_) AllReadyH.nil
        go_simp
        go_wp2_with (go_at_call 22; refine Calls.mono (specChunk_any la c6 (some ⟨g6, o6, none⟩) l2 116 82 78 83 w6.drew hl2n rd2 (by intro h; cases h) (by have := HLA.out; omega)) ?_; rintro e w7 ⟨v7, rfl, ho7, hb7⟩)
        obtain ⟨a7, n7, c7, rfl, hm7, hr7, -⟩ := ho7.shapeN
        have cv3 := conv_bytes (cap := c7) hr7 hm7
        have cv4 := conv_bytes (cap := c3 - n10) (rd1.below hb7) hmr
        refine hK.out _ _ cv4 (fun hHeld => ?_)
        clear hK K
        refine wpAnyH_ready (rs := [15]) (by kernel_rfl) (by simp) ?_
        refine AllReadyH.cons rfl (fun K hK => ?_) AllReadyH.nil
        go_simp
        refine hK.out _ _ cv4 (fun hHeld => ?_)
        clear hK K
        refine take_at 16 (some 114) (v := ?_) rfl rfl (by kernel_rfl) (by kernel_rfl) (by kernel_rfl) (fun _ _ _ h => h) (Or.inl ⟨by rfl, ?_⟩) (by assumption) ?_
        rotate_left
        · intro w hSw
          (try dsimp only at hSw)
          go_simp
          first | done | with_reducible rfl
        simp only [Act.put, List.setIfInBounds_toArray, List.set_cons_succ, List.set_cons_zero]
        refine take_at 17 (some 115) (v := ?_) rfl rfl (by kernel_rfl) (by kernel_rfl) (by kernel_rfl) (fun _ _ _ h => h) (Or.inl ⟨by rfl, ?_⟩) (by assumption) ?_
        rotate_left
        · intro w hSw
          (try dsimp only at hSw)
          go_simp
          first | done | with_reducible rfl
        simp only [Act.put, List.setIfInBounds_toArray, List.set_cons_succ, List.set_cons_zero]
        refine wpAnyH_done (by kernel_rfl) ?_ _
        have HB7 : Hid (Below w.heap.size w w7) := Lib.hid (HB6.out.drew.trans (hb7.mono HB6.out.drew.size))
        have HR7 : Hid (RB w7 (some ⟨g6, o6, none⟩) (als S)) := Lib.hid (RB.below (w := w6.drew) HR6.out hb7)
        have eo : strOf (chunk [116, 82, 78, 83] l2) = strOf (chunk trnsName l2) := rfl
        clear hb7 ho7 hr7 cv1 cv3 cv4 rd1 rd2 hrr hr62 HR3 HR6 HB6 hHeld
        rw [eo]
        clear eo
        obtain ⟨rm, hrm⟩ : ∃ rm, rm = n6 - la := ⟨_, rfl⟩
        have e12 : n6 - la = rm := hrm.symm
        have HRM : Hid (n6 = la + rm) := Lib.hid (by have := HLA.out; omega)
        clear hrm
        by_cases hc6 : c6 = la
        · have hz : rm = 0 := by have := HLE.out; have := HRM.out; omega
          subst hz
          go_wp2_with fail
          · exfalso
            have hx : (!((strOf (chunk trnsName l2)).toList == (strOf (chunk trnsName l2)).toList)) = true := by assumption
            simp at hx
          go_loopw [120] (fun i wr => i = .int .i64 0 ∧ wr = w7) (fun _ _ => 0)
          case atStart => exact ⟨rfl, rfl⟩
          case round =>
            obtain ⟨rfl, rfl⟩ := hrel
            go_wp2_with fail
            go_ret
            exact ⟨rfl, HB7.out⟩
        · go_wp2_with fail
          · exfalso
            have hx : (!((strOf (chunk trnsName l2)).toList == (strOf (chunk trnsName l2)).toList)) = true := by assumption
            simp at hx
          go_loopw [120] (fun i wr => ∃ t : Nat, t ≤ rm ∧ i = .int .i64 (t : Int) ∧ wr = w7) (fun i _ => rm - (intOf i).toNat)
          case atStart => exact ⟨0, Nat.zero_le _, rfl, rfl⟩
          case round =>
            obtain ⟨t, ht, rfl, rfl⟩ := hrel
            by_cases hlt : t < rm
            · have i0 : (0 : Int) ≤ (t : Int) := by omega
              have i1 : (t : Int) < (rm : Int) := by omega
              have i2 : (rm : Int) ≤ 256 := by have := HRM.out; omega
              have w3 : IntKind.i64.wrap (t : Int) = (t : Int) := i64_in _ ⟨by omega, by omega⟩
              have ca : wr.cell? ⟨g6, o6 + la + t, none⟩ = some (.int .u8 255) := by
                have hj : la + t < (als S).length := by rw [hm6.out]; have := HRM.out; omega
                obtain ⟨b', o', e, hcell⟩ := HR7.out (by intro e; rw [e] at hj; simp at hj)
                simp only [Option.some.injEq, Addr.mk.injEq, and_true] at e
                obtain ⟨rfl, rfl⟩ := e
                have h1 := hcell (la + t) hj
                have hSj : la + t < S.length := by rw [als_len] at hj; exact hj
                have h2 : (als S).getD (la + t) 0 = 255 := by
                  have h3 := laN_opaque S n6 (la + t) (by have := HLA.out; omega) (by have := HRM.out; omega)
                  simp only [als, List.getD, List.getElem?_map, List.getElem?_eq_getElem hSj, Option.map_some, Option.getD_some] at h3 ⊢
                  exact h3
                rw [h2] at h1
                rw [Nat.add_assoc]
                exact h1
              go_wp2_with fail
              go_round
              case rel => exact ⟨t + 1, by omega, by go_num, trivial⟩
              case measure => simp [intOf]; omega
            · obtain rfl : rm = t := by omega
              go_wp2_with fail
              go_ret
              exact ⟨rfl, HB7.out⟩
end Go.Proofs.YtiiipmcjbibgoaaDoor
