/- The walk through the law FnReadHeaderBent. -/
import Derived.Test.YtiiipmcjbibgoaaDoorWReadHeader
import Derived.Test.YtiiipmcjbibgoaaDoorKindOf
import Derived.Test.YtiiipmcjbibgoaaDoorCrcBurst
namespace Go.Proofs.YtiiipmcjbibgoaaDoor
open Go.ChangeShapes Go.WideShapes Go.ChangeAt Go.RowKit Go.IntWalk

theorem xor_self_iff (x v : UInt8) : x ^^^ v = x ↔ v = 0 := by
  constructor
  · intro h
    have := congrArg (fun y => x ^^^ y) h
    simpa [← UInt8.xor_assoc] using this
  · rintro rfl
    simp
theorem be4_set_ne (q : List UInt8) (hq : q.length = 4) (j : Nat) (hj : j < 4) (v : UInt8) (hv : v ≠ q.getD j 0) : be4 (q.set j v) ≠ be4 q := by
  match q, hq with
  | [a, b, c, d], _ =>
    have h0 := byte_lt a
    have h1 := byte_lt b
    have h2 := byte_lt c
    have h3 := byte_lt d
    have h4 := byte_lt v
    have hn : v.toNat ≠ (([a, b, c, d] : List UInt8).getD j 0).toNat := fun e => hv (UInt8.toNat_inj.1 e)
    obtain rfl | rfl | rfl | rfl : j = 0 ∨ j = 1 ∨ j = 2 ∨ j = 3 := by omega
    all_goals
      simp [List.getD] at hn
      simp [be4, List.getD]
      omega
/-- A byte of a chunk or of its sum is another one: the sum does not fit. -/
theorem bent_sum (hb l : List UInt8) (h13 : hb.length = 13) (hl : l = hb ++ four (crcOf (ihdrName ++ hb))) (k : Nat) (hk : k < 17) (x v : UInt8) (hx : l[k]? = some x) (hv : v ≠ 0) :
    be4 ((l.set k (x ^^^ v)).drop 13) ≠ crcFrom (crcOf ihdrName) ((l.set k (x ^^^ v)).take 13) := by
  intro h
  unfold crcOf at h
  rw [crcFrom_append] at h
  change be4 _ = crcOf _ at h
  rcases Nat.lt_or_ge k 13 with hlt | hge
  · have e1 : (l.set k (x ^^^ v)).drop 13 = four (crcOf (ihdrName ++ hb)) ++ [] := by
      rw [hl, List.set_append_left _ _ (by omega), List.drop_append_of_le_length (by simp; omega), List.drop_of_length_le (by simp; omega)]
      simp
    have e2 : (l.set k (x ^^^ v)).take 13 = hb.set k (x ^^^ v) := by
      rw [hl, List.set_append_left _ _ (by omega), List.take_append_of_le_length (by simp; omega), List.take_of_length_le (by simp; omega)]
    have hxb : hb[k]? = some x := by rw [hl, List.getElem?_append_left (by omega)] at hx; exact hx
    obtain ⟨hkb, hxe⟩ := List.getElem?_eq_some_iff.1 hxb
    rw [e1, e2, be4_four _ (crcOf_lt _)] at h
    have e3 : hb = hb.take k ++ x :: hb.drop (k + 1) := by rw [← hxe]; simp
    have e4 : hb.set k (x ^^^ v) = hb.take k ++ (x ^^^ v) :: hb.drop (k + 1) := by rw [List.set_eq_take_append_cons_drop, if_pos hkb]
    have hz : (x ^^^ v) :: hb.drop (k + 1) = zipX (x :: hb.drop (k + 1)) [v] := by
      show _ = (x ^^^ v) :: zipX (hb.drop (k + 1)) []
      rw [zipX_nil]
    rw [e4] at h
    rw [show crcOf (ihdrName ++ hb) = crcOf ((ihdrName ++ hb.take k) ++ x :: hb.drop (k + 1)) by rw [List.append_assoc, ← e3], ← List.append_assoc, hz] at h
    have := (crcOf_burst _ _ _ (by simp)).1 h
    simp [sameB] at this
    exact hv this
  · have e1 : (l.set k (x ^^^ v)).drop 13 = (four (crcOf (ihdrName ++ hb))).set (k - 13) (x ^^^ v) := by
      rw [hl, List.set_append_right _ _ (by omega), List.drop_append, List.drop_of_length_le (by omega), h13]
      simp
    have e2 : (l.set k (x ^^^ v)).take 13 = hb := by
      rw [hl, List.set_append_right _ _ (by omega), List.take_append_of_le_length (by omega), List.take_of_length_le (by omega)]
    have hxf : (four (crcOf (ihdrName ++ hb))).getD (k - 13) 0 = x := by
      rw [hl, List.getElem?_append_right (by omega), h13] at hx
      simp [List.getD, hx]
    rw [e1, e2] at h
    refine be4_set_ne _ rfl (k - 13) (by omega) (x ^^^ v) ?_ (h.trans ?_)
    · rw [hxf]; exact fun e => hv ((xor_self_iff x v).1 e)
    · have := be4_four _ (crcOf_lt (ihdrName ++ hb)) []
      rw [List.append_nil] at this
      exact this.symm
theorem bent_small (l : List UInt8) (k : Nat) (v : UInt8) (h1 : be4 l ≤ 65536) (h2 : be4 (l.drop 4) ≤ 65536) : be4 (l.set k v) * be4 ((l.set k v).drop 4) ≤ 1125899906842624 := by
  have b1 := be4_lt (l.set k v)
  have b2 := be4_lt ((l.set k v).drop 4)
  rcases Nat.lt_or_ge k 4 with hk | hk
  · have e : be4 ((l.set k v).drop 4) = be4 (l.drop 4) := be4_congr fun j _ => by
      simp only [List.getD, List.getElem?_drop]
      rw [List.getElem?_set_ne (by omega)]
    rw [e]
    calc be4 (l.set k v) * be4 (l.drop 4) ≤ 4294967296 * 65536 := Nat.mul_le_mul (by omega) h2
      _ ≤ 1125899906842624 := by omega
  · have e : be4 (l.set k v) = be4 l := be4_congr fun j hj => by
      simp only [List.getD]
      rw [List.getElem?_set_ne (by omega)]
    rw [e]
    calc be4 l * be4 ((l.set k v).drop 4) ≤ 65536 * 4294967296 := Nat.mul_le_mul h1 (by omega)
      _ ≤ 1125899906842624 := by omega

/-- The bytes of a head, interlaced or not. -/
def HeadOfEnd (W Hh : Nat) (db cb : UInt8) (w : World) (e : Ending) (w' : World) : Prop :=
  ∃ (v : Value) (hb : List UInt8) (il : UInt8), il.toNat ≤ 1 ∧ hb = headBytes W Hh db cb 0 0 il ∧ e = .returned v ∧ OwnB w' w.heap.size v hb ∧ Below w.heap.size w w'
theorem headOf_plain (W Hh : Nat) (hw : W < 4294967296) (hh : Hh < 4294967296) (db cb : UInt8) (w : World) :
    Calls Tryd.prog 17 #[.int .u32 (W : Int), .int .u32 (Hh : Int), .int .u8 (db.toNat : Int), .int .u8 (cb.toNat : Int), .int .u8 0, .int .u8 0, .int .u8 0] w (HeadOfEnd W Hh db cb w) :=
  (headOf_any W Hh hw hh db cb 0 0 0 w).mono fun _ _ ⟨v, he, ho, hb⟩ => ⟨v, _, 0, by decide, rfl, he, ho, hb⟩
theorem headOf_laced (W Hh : Nat) (hw : W < 4294967296) (hh : Hh < 4294967296) (db cb : UInt8) (w : World) :
    Calls Tryd.prog 17 #[.int .u32 (W : Int), .int .u32 (Hh : Int), .int .u8 (db.toNat : Int), .int .u8 (cb.toNat : Int), .int .u8 0, .int .u8 0, .int .u8 1] w (HeadOfEnd W Hh db cb w) :=
  (headOf_any W Hh hw hh db cb 0 0 1 w).mono fun _ _ ⟨v, he, ho, hb⟩ => ⟨v, _, 1, by decide, rfl, he, ho, hb⟩

theorem headOf_il (W Hh : Nat) (hw : W < 4294967296) (hh : Hh < 4294967296) (db cb : UInt8) (w : World) (z : Int) (hz : z = 0 ∨ z = 1) :
    Calls Tryd.prog 17 #[.int .u32 (W : Int), .int .u32 (Hh : Int), .int .u8 (db.toNat : Int), .int .u8 (cb.toNat : Int), .int .u8 0, .int .u8 0, .int .u8 z] w (HeadOfEnd W Hh db cb w) := by
  rcases hz with rfl | rfl
  · exact headOf_plain W Hh hw hh db cb w
  · exact headOf_laced W Hh hw hh db cb w

set_option maxHeartbeats 6400000 in
set_option maxRecDepth 100000 in
theorem bentLaw (kind wide high at' : Nat) (hkind : kind ≤ 255) (hw : wide ≤ 65535) (hh : high ≤ 65535) (hat : at' ≤ 255) (laced : Bool) (v : UInt8) (w : World) (ht : Tab w) :
    Calls Tryd.prog 8 #[.int .u8 (kind : Int), .int .u16 (wide : Int), .int .u16 (high : Int), .bool laced, .int .u8 (at' : Int), .int .u8 (v.toNat : Int)] w (TrueEnd w) := by
  have kc := fun (w : World) (C : Array Value) (n c : Nat) => Lib.run_convert_bytes_const (P := Tryd.prog) w 22 5 C n c Tryd.underlying22 Tryd.underlying5
  obtain ⟨W, hW⟩ : ∃ W, W = 1 + wide := ⟨_, rfl⟩
  obtain ⟨Hh, hH⟩ : ∃ Hh, Hh = 1 + high := ⟨_, rfl⟩
  have eW : (1 : Int) + (wide : Int) = (W : Int) := by omega
  have eH : (1 : Int) + (high : Int) = (Hh : Int) := by omega
  have hk15 : kind % 15 < 15 := by omega
  have hkg := kind_good hk15
  have hkl := kind_le hk15
  obtain ⟨cc, hcc⟩ : ∃ cc, cc = kC (kind % 15) := ⟨_, rfl⟩
  obtain ⟨dd, hdd⟩ : ∃ dd, dd = kD (kind % 15) := ⟨_, rfl⟩
  have HCC := Lib.hid hcc
  have HDD := Lib.hid hdd
  rw [← hcc, ← hdd] at hkg hkl
  obtain ⟨cb, hcb⟩ : ∃ cb : UInt8, cb = UInt8.ofNat cc := ⟨_, rfl⟩
  obtain ⟨db, hdb⟩ : ∃ db : UInt8, db = UInt8.ofNat dd := ⟨_, rfl⟩
  have tc : cb.toNat = cc := by rw [hcb]; simp; omega
  have td : db.toNat = dd := by rw [hdb]; simp; omega
  have ec : IntKind.u8.wrap (cc : Int) = (cb.toNat : Int) := by rw [tc, u8_in _ ⟨by omega, by omega⟩]
  have ed : IntKind.u8.wrap (dd : Int) = (db.toNat : Int) := by rw [td, u8_in _ ⟨by omega, by omega⟩]
  obtain ⟨j, hj⟩ : ∃ j, j = at' % 17 := ⟨_, rfl⟩
  have hj17 : j < 17 := by omega
  have ej : (at' : Int).tmod 17 = (j : Int) := by rw [Int.tmod_eq_emod_of_nonneg (by omega)]; omega
  have ej2 : (at' : Int) % 17 = (j : Int) := by omega
  have hWb : W ≤ 65536 := by omega
  have hHb : Hh ≤ 65536 := by omega
  have hW0 : 0 < W := by omega
  have hH0 : 0 < Hh := by omega
  have KG : Hid (cbOf db.toNat cb.toNat ≠ 0) := Lib.hid (by rw [tc, td]; exact hkg)
  clear hW hH hcc hdd hcb hdb hj hkg tc td
  cases laced
  all_goals
    go_enter Tryd.func8, Tryd.ntmps8
    go_wp2_with fail
    refine (kindOf_any kind hkind w).mono ?_
    rw [← HCC.out, ← HDD.out]
    rintro e w' ⟨rfl, q, rfl⟩
    obtain ⟨w0, hw0⟩ : ∃ w0, w0 = w.drewN q := ⟨_, rfl⟩
    have B0 : Hid (Below w.heap.size w w0) := Lib.hid (by rw [hw0]; exact ⟨rfl, rfl, rfl, Nat.le_refl _, fun _ _ => rfl⟩)
    have ht0 := ht.below B0.out
    rw [← hw0]
    clear hw0
    go_wp2_with fail
    refine (headOf_il W Hh (by omega) (by omega) db cb w0 _ (by first | exact .inl rfl | exact .inr rfl)).mono ?_
    rintro e w1 ⟨v1, hb, il, hil, hhb, rfl, ho1, hb1⟩
    have HHB := Lib.hid hhb
    have hb13 : Hid (hb.length = 13) := Lib.hid (by rw [hhb]; rfl)
    clear hhb
    obtain ⟨a1, n1, c1, rfl, hm1, hr1, -, -, hnil1, -⟩ := ho1.shapeN
    obtain rfl : n1 = 13 := by have h1 := hm1.out; have h2 := hb13.out; omega
    have B1 := Lib.hid hb1
    have hr1' := hr1.below ((Below.refl _ _).alloc (Nat.le_refl _) (.cells (cellsB ihdrName).toArray 5 (4, 5)))
    have hrn := RB.litF w1 ihdrName 5 (4, 5)
    clear hb1
    go_wp2_with (at_builtin; refine wpList_append_named rfl (.tmp 43) (.tmp 44) rfl w1.heap.size ihdrName hb rfl rfl hrn a1 13 c1 rfl hm1.out hr1' (by omega) (by omega) ?_; intro v2 w2 ho2 hb2)
    have B2 : Hid (Below w1.heap.size w1 w2) := Lib.hid (((Below.refl _ _).alloc (Nat.le_refl _) _).trans (hb2.mono (by rw [size_alloc]; omega)))
    obtain ⟨a2, n2, c2, rfl, hm2, hr2, -, -, -, -⟩ := ho2.shapeN
    obtain rfl : n2 = 17 := by have h1 := hm2.out; have h2 := hb13.out; simp [ihdrName] at h1; omega
    clear hb2 hrn hr1'
    go_wp2_with fail
    refine (specCrc_any a2 17 c2 (ihdrName ++ hb) hm2 w2 (by omega) hr2).mono ?_
    rintro e w3 ⟨rfl, rfl⟩
    go_wp2_with fail
    refine (four_any (crcOf (ihdrName ++ hb)) (crcOf_lt _) w2).mono ?_
    rintro e w3 ⟨rfl, ho3, hb3⟩
    obtain ⟨a3, n3, c3, e3, hm3, hr3, -, -, hnil3, -⟩ := ho3.shapeN
    obtain ⟨rfl, rfl, rfl⟩ : a3 = some ⟨w2.heap.size, 0, none⟩ ∧ n3 = 4 ∧ c3 = 4 := by injection e3 with h1 h2 h3; exact ⟨h1.symm, h2.symm, h3.symm⟩
    have B3 : Hid (Below w1.heap.size w1 w3) := Lib.hid (B2.out.trans (hb3.mono B2.out.size))
    have ho1' := ho1.below B3.out
    obtain ⟨l, hll⟩ : ∃ l, l = hb ++ four (crcOf (ihdrName ++ hb)) := ⟨_, rfl⟩
    clear ho1 ho2 ho3 hr1 hr2 hb3
    have HLL := Lib.hid hll
    have hl17 : l.length = 17 := by rw [hll, List.length_append, hb13.out, four_len]
    go_upto_region 7 with (at_builtin; refine wpList_append_bytes rfl (.tmp 41) (.tmp 47) rfl w0.heap.size _ hb (four (crcOf (ihdrName ++ hb))) rfl ho1' (some ⟨w2.heap.size, 0, none⟩) 4 4 rfl rfl hr3 (by intro h; cases h) (by rw [hb13.out]; omega) (Nat.le_trans B1.out.size B3.out.size) ?_; intro v4 w4 ho4 hg4 hb4 hnl4; clear hg4 hnl4; rw [← hll] at ho4; obtain ⟨g, n4, c4, post, rfl, hm4, hgb, hmc, hcm, hseg, hback⟩ := ho4.seg (by intro e; rw [e] at hl17; simp at hl17); obtain rfl : n4 = 17 := (by have h1 := hm4.out; omega))
    have B4 : Hid (Below w0.heap.size w0 w4) := Lib.hid ((B1.out.trans (B3.out.mono B1.out.size)).trans hb4)
    obtain ⟨x, HX, hx⟩ := hseg.at rfl j (by omega)
    rw [List.length_nil, Nat.zero_add] at hx
    have hfz := hseg.frozen j
    have hsg := hseg.store rfl (show j < l.length by omega) (x ^^^ v)
    rw [List.length_nil, Nat.zero_add] at hsg
    have xl := byte_lt x
    have vl := byte_lt v
    have exx : bits .xor .u8 (x.toNat : Int) (v.toNat : Int) = ((x ^^^ v).toNat : Int) := by rw [u8_xor_nat _ _ xl vl, UInt8.toNat_xor]
    obtain ⟨y, hy⟩ : ∃ y, y = x ^^^ v := ⟨_, rfl⟩
    rw [← hy] at hsg exx
    have HY := Lib.hid hy
    have O5 : Hid (Only g w4 (w4.setCell ⟨g, j, none⟩ (.int .u8 (y.toNat : Int)))) := Lib.hid ((Only.refl _ _).setCell _ _)
    have hr5 := hsg.rb (o := 0) rfl
    have i0 : (0 : Int) ≤ (j : Int) := by omega
    have i1 : (j : Int) < 17 := by omega
    have HSG := Lib.hid hsg
    clear hseg hback ho4 hy hsg hll hr3 ho1' hb4
    go_wp2_with fail
    have B5 : Hid (Below w.heap.size w (w4.setCell ⟨g, j, none⟩ (.int .u8 (y.toNat : Int)))) := Lib.hid (B0.out.trans ((B4.out.trans (O5.out.below hgb)).mono B0.out.size))
    obtain ⟨g1, g2, g3, g4, g5, g6, g7, g8, g9⟩ := goodH_iff W Hh (by omega) (by omega) db cb 0 0 il l (by rw [HLL.out, HHB.out])
    have HBG : Hid (0 < be4 (l.set j y) → 0 < be4 ((l.set j y).drop 4) → be4 (l.set j y) * be4 ((l.set j y).drop 4) ≤ 1125899906842624) := Lib.hid (fun _ _ => bent_small l j y (by rw [g1]; exact hWb) (by rw [g2]; exact hHb))
    have GI : Hid (GoodH (l.set j y) (crcOf ihdrName) ↔ v = 0) := Lib.hid (by
      constructor
      · intro gg
        by_cases hv : v = 0
        · exact hv
        · exact absurd gg.sum (by rw [HY.out]; exact bent_sum hb l hb13.out HLL.out j hj17 x v HX.out hv)
      · intro hv
        have e : l.set j y = l := by
          rw [HY.out, hv]
          obtain ⟨h1, h2⟩ := List.getElem?_eq_some_iff.1 HX.out
          rw [← h2]
          simp
        rw [e]
        exact ⟨by rw [g5]; rfl, by rw [g6]; rfl, by rw [g7]; exact hil, by rw [g1]; exact hW0, by rw [g1]; omega, by rw [g2]; exact hH0, by rw [g2]; omega, by rw [g3, g4]; exact KG.out, g9⟩)
    have hl5 : Hid ((l.set j y).length = 17) := Lib.hid (by rw [List.length_set]; exact hl17)
    have ht5 := ht.below B5.out
    clear g1 g2 g3 g4 g5 g6 g7 g8 g9 hx hfz exx
    obtain ⟨l5, hl5e⟩ : ∃ l5, l5 = l.set j y := ⟨_, rfl⟩
    rw [← hl5e] at HBG GI hl5 hr5
    clear hl5e
    refine (implReadHeader_any (some ⟨g, 0, none⟩) c4 l5 _ hl5 hr5 ht5 HBG).mono ?_
    rintro e w6 ⟨hb6, hend⟩
    have B6 : Hid (Below w.heap.size w w6) := Lib.hid (B5.out.trans (hb6.mono B5.out.size))
    clear hb6 hr5 ht5
    by_cases hv : v = 0
    · have vz : ((v.toNat : Int) == 0) = true := by rw [hv]; rfl
      rcases hend with ⟨gg, rfl⟩ | ⟨ng, z, hz, rfl⟩
      · clear gg hv
        go_wp2_with fail
        go_ret
        exact ⟨by simp, B6.out⟩
      · exact absurd (GI.out.2 hv) ng
    · have vz : ((v.toNat : Int) == 0) = false := by
        rw [← isNought]
        simpa using hv
      rcases hend with ⟨gg, rfl⟩ | ⟨ng, z, hz, rfl⟩
      · exact absurd (GI.out.1 gg) hv
      · have zz : ((z : Int) == 0) = false := by rcases hz with rfl | rfl <;> rfl
        clear ng hv hz
        go_wp2_with fail
        go_ret
        exact ⟨by simp, B6.out⟩
end Go.Proofs.YtiiipmcjbibgoaaDoor
