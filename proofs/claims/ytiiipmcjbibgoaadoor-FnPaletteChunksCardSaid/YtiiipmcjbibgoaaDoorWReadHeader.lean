/- The walk through the law FnReadHeader. -/
import Derived.Test.YtiiipmcjbibgoaaDoorHeadLaw
namespace Go.Proofs.YtiiipmcjbibgoaaDoor
open Go.ChangeShapes Go.WideShapes Go.ChangeAt Go.RowKit Go.IntWalk

theorem be4_four (n : Nat) (h : n < 4294967296) (r : List UInt8) : be4 (four n ++ r) = n := by
  simp [be4, four, List.getD]
  omega
theorem headBytes_len (wide high : Nat) (d c p f il : UInt8) : (headBytes wide high d c p f il).length = 13 := rfl
/-- A head with its sum is told as it was made. -/
theorem goodH_iff (wide high : Nat) (hw : wide < 4294967296) (hh : high < 4294967296) (d c p f il : UInt8) (l : List UInt8) (hl : l = headBytes wide high d c p f il ++ four (crcOf (ihdrName ++ headBytes wide high d c p f il))) :
    be4 l = wide ∧ be4 (l.drop 4) = high ∧ l.getD 8 0 = d ∧ l.getD 9 0 = c ∧ l.getD 10 0 = p ∧ l.getD 11 0 = f ∧ l.getD 12 0 = il ∧ l.length = 17 ∧ be4 (l.drop 13) = crcFrom (crcOf ihdrName) (l.take 13) := by
  have h1 : l.take 13 = headBytes wide high d c p f il := by rw [hl]; rfl
  have h2 : l.drop 13 = four (crcOf (ihdrName ++ headBytes wide high d c p f il)) ++ [] := by rw [hl]; rfl
  refine ⟨?_, ?_, ?_, ?_, ?_, ?_, ?_, ?_, ?_⟩
  · rw [hl, headBytes, List.append_assoc, List.append_assoc]; exact be4_four wide hw _
  · have : l.drop 4 = four high ++ ([d, c, p, f, il] ++ four (crcOf (ihdrName ++ headBytes wide high d c p f il))) := by rw [hl]; rfl
    rw [this]; exact be4_four high hh _
  · rw [hl]; rfl
  · rw [hl]; rfl
  · rw [hl]; rfl
  · rw [hl]; rfl
  · rw [hl]; rfl
  · rw [hl]; rfl
  · rw [h1, h2, be4_four _ (crcOf_lt _)]
    unfold crcOf
    rw [crcFrom_append]

def TrueEnd (w : World) (e : Ending) (w' : World) : Prop := e = .returned (.bool true) ∧ Below w.heap.size w w'

set_option maxHeartbeats 6400000 in
set_option maxRecDepth 100000 in
theorem readHeaderLaw (wide high : Nat) (hw : wide < 4294967296) (hh : high < 4294967296) (d c p f il : UInt8) (w : World) (ht : Tab w) :
    Calls Tryd.prog 7 #[.int .u32 (wide : Int), .int .u32 (high : Int), .int .u8 (d.toNat : Int), .int .u8 (c.toNat : Int), .int .u8 (p.toNat : Int), .int .u8 (f.toNat : Int), .int .u8 (il.toNat : Int)] w (TrueEnd w) := by
  have kc := fun (w : World) (C : Array Value) (n c : Nat) => Lib.run_convert_bytes_const (P := Tryd.prog) w 22 5 C n c Tryd.underlying22 Tryd.underlying5
  obtain ⟨Q, hQ⟩ : ∃ Q, Q = 1125899906842624 / high := ⟨_, rfl⟩
  have eQ : IntKind.i64.wrap ((1125899906842624 : Int).tdiv (high : Int)) = (Q : Int) := by
    rw [Int.tdiv_eq_ediv_of_nonneg (by omega), hQ]
    rw [i64_in _ ⟨by have : (0:Int) ≤ 1125899906842624 / (high : Int) := Int.ediv_nonneg (by omega) (by omega); omega, by have : (1125899906842624 : Int) / (high : Int) ≤ 1125899906842624 := Int.ediv_le_self _ (by omega); omega⟩]
    simp
  by_cases hA : 0 < high ∧ Q < wide
  · obtain ⟨h1, h2⟩ := hA
    have x1 : (0 : Int) < (high : Int) := by omega
    have x2 : (Q : Int) < (wide : Int) := by omega
    have x3 : ¬ ((high : Int) = 0) := by omega
    clear hQ
    go_enter Tryd.func7, Tryd.ntmps7
    go_wp2_with fail
    go_ret
    exact ⟨rfl, Below.refl _ _⟩
  · have hbd : 0 < wide → 0 < high → wide * high ≤ 1125899906842624 := fun _ h2 => by
      have h3 : wide ≤ Q := by omega
      rw [hQ] at h3
      calc wide * high ≤ (1125899906842624 / high) * high := Nat.mul_le_mul_right _ h3
        _ ≤ 1125899906842624 := Nat.div_mul_le_self _ _
    have HBD := Lib.hid hbd
    have hq : 0 < high → wide ≤ Q := fun h => by omega
    clear hQ hbd hA
    obtain ⟨hb, hhb⟩ : ∃ hb, hb = headBytes wide high d c p f il := ⟨_, rfl⟩
    have HHB := Lib.hid hhb
    have hb13 : Hid (hb.length = 13) := Lib.hid (by rw [hhb]; rfl)
    clear hhb
    have HQ := Lib.hid hq
    clear hq
    by_cases hp0 : 0 < high
    all_goals
      first
        | (have x1 : (0 : Int) < (high : Int) := by omega
           have x2 : (wide : Int) ≤ (Q : Int) := by have := HQ.out hp0; omega
           have x3 : ¬ ((high : Int) = 0) := by omega)
        | (have x1 : (high : Int) ≤ 0 := by omega)
      go_enter Tryd.func7, Tryd.ntmps7
      go_wp2_with fail
      clear eQ
      refine (headOf_any wide high hw hh d c p f il w).mono ?_
      rw [← HHB.out]
      rintro e w1 ⟨v1, rfl, ho1, hb1⟩
      obtain ⟨a1, n1, c1, rfl, hm1, hr1, -, -, hnil1, -⟩ := ho1.shapeN
      obtain rfl : n1 = 13 := by have h1 := hm1.out; have h2 := hb13.out; omega
      have B1 := Lib.hid hb1
      have ht1 := ht.below hb1
      have hr1' := hr1.below ((Below.refl _ _).alloc (Nat.le_refl _) (.cells (cellsB ihdrName).toArray 5 (4, 5)))
      have hrn := RB.litF w1 ihdrName 5 (4, 5)
      clear hb1
      go_wp2_with (at_builtin; refine wpList_append_named rfl (.tmp 44) (.tmp 45) rfl w1.heap.size ihdrName hb rfl rfl hrn a1 13 c1 rfl hm1.out hr1' (by omega) (by omega) ?_; intro v2 w2 ho2 hb2)
      have B2 : Hid (Below w1.heap.size w1 w2) := Lib.hid (((Below.refl _ _).alloc (Nat.le_refl _) _).trans (hb2.mono (by rw [size_alloc]; omega)))
      obtain ⟨a2, n2, c2, rfl, hm2, hr2, -, -, -, -⟩ := ho2.shapeN
      obtain rfl : n2 = 17 := by have h1 := hm2.out; have h2 := hb13.out; simp [ihdrName] at h1; omega
      clear hb2 hrn hr1'
      go_wp2_with fail
      refine (specCrc_any a2 17 c2 (ihdrName ++ hb) hm2 w2 (by omega) hr2).mono ?_
      rintro e w3 ⟨rfl, rfl⟩
      go_wp2_with fail
      refine (four_any (crcOf (ihdrName ++ hb)) (crcOf_lt _) w2).mono ?_
      rintro e w3 ⟨rfl, ho3, hb3⟩
      obtain ⟨a3, n3, c3, e3, hm3, hr3, -, -, hnil3, -⟩ := ho3.shapeN
      obtain ⟨rfl, rfl, rfl⟩ : a3 = some ⟨w2.heap.size, 0, none⟩ ∧ n3 = 4 ∧ c3 = 4 := by injection e3 with h1 h2 h3; exact ⟨h1.symm, h2.symm, h3.symm⟩
      have B3 : Hid (Below w1.heap.size w1 w3) := Lib.hid (B2.out.trans (hb3.mono B2.out.size))
      have ho1' := ho1.below B3.out
      obtain ⟨l, hll⟩ : ∃ l, l = hb ++ four (crcOf (ihdrName ++ hb)) := ⟨_, rfl⟩
      clear ho1 ho2 ho3 hr1 hr2 hb3
      go_wp2_with (at_builtin; refine wpList_append_bytes rfl (.tmp 42) (.tmp 48) rfl w.heap.size _ hb (four (crcOf (ihdrName ++ hb))) rfl ho1' (some ⟨w2.heap.size, 0, none⟩) 4 4 rfl rfl hr3 (by intro h; cases h) (by rw [hb13.out]; omega) (Nat.le_trans B1.out.size B3.out.size) ?_; intro v4 w4 ho4 hg4 hb4 hnl4; clear hg4 hnl4)
      rw [← hll] at ho4
      obtain ⟨a4, n4, c4, rfl, hm4, hr4, -, -, -, -⟩ := ho4.shapeN
      obtain ⟨g1, g2, g3, g4, g5, g6, g7, g8, g9⟩ := goodH_iff wide high hw hh d c p f il l (by rw [hll, HHB.out])
      obtain rfl : n4 = 17 := by have h1 := hm4.out; omega
      have B4 : Hid (Below w.heap.size w w4) := Lib.hid ((B1.out.trans (B3.out.mono B1.out.size)).trans hb4)
      have ht4 := ht.below B4.out
      have HBG : Hid (0 < be4 l → 0 < be4 (l.drop 4) → be4 l * be4 (l.drop 4) ≤ 1125899906842624) := Lib.hid (by rw [g1, g2]; exact HBD.out)
      have GI : Hid (GoodH l (crcOf ihdrName) ↔ (0 < wide ∧ wide < 2147483648 ∧ 0 < high ∧ high < 2147483648 ∧ isKindB c.toNat d.toNat = true ∧ p.toNat = 0 ∧ f.toNat = 0 ∧ il.toNat ≤ 1)) := Lib.hid (by
        constructor
        · intro g
          have h1 := g.w0; have h2 := g.w1; have h3 := g.h0; have h4 := g.h1; have h5 := g.cb; have h6 := g.pk; have h7 := g.ft; have h8 := g.il
          rw [g1] at h1 h2; rw [g2] at h3 h4; rw [g3, g4] at h5; rw [g5] at h6; rw [g6] at h7; rw [g7] at h8
          exact ⟨h1, h2, h3, h4, by simp [isKindB, h5], h6, h7, h8⟩
        · rintro ⟨h1, h2, h3, h4, h5, h6, h7, h8⟩
          exact ⟨by rw [g5]; exact h6, by rw [g6]; exact h7, by rw [g7]; exact h8, by rw [g1]; exact h1, by rw [g1]; exact h2, by rw [g2]; exact h3, by rw [g2]; exact h4, by rw [g3, g4]; simpa [isKindB] using h5, g9⟩)
      have HE : Hid (be4 l = wide ∧ be4 (l.drop 4) = high ∧ l.getD 9 0 = c ∧ l.getD 8 0 = d ∧ l.getD 12 0 = il) := Lib.hid ⟨g1, g2, g4, g3, g7⟩
      clear g1 g2 g3 g4 g5 g6 g7 g8 g9 hll ho4 hb4 hr3 ho1'
      go_wp2_with fail
      refine (implReadHeader_any a4 c4 l w4 hm4 hr4 ht4 HBG).mono ?_
      rintro e w5 ⟨hb5, hend⟩
      obtain ⟨i1, i2, i3, i4, i5⟩ := HE.out
      rw [i1, i2, i3, i4, i5] at hend
      have B5 : Hid (Below w.heap.size w w5) := Lib.hid (B4.out.trans (hb5.mono B4.out.size))
      clear i1 i2 i3 i4 i5 hb5 hr4 ht4
      have dl := byte_lt d
      have cl := byte_lt c
      have pl := byte_lt p
      have fl := byte_lt f
      have ill := byte_lt il
      rcases hend with ⟨g, rfl⟩ | ⟨ng, z, hz, rfl⟩
      · obtain ⟨h1, h2, h3, h4, h5, h6, h7, h8⟩ := GI.out.1 g
        first
          | exact absurd h3 hp0
          | (have y1 : decide (0 < wide) = true := decide_eq_true h1
             have y2 : decide ((wide : Int) < 2147483648) = true := decide_eq_true (by omega)
             have y3 : decide (0 < high) = true := decide_eq_true h3
             have y4 : decide ((high : Int) < 2147483648) = true := decide_eq_true (by omega)
             have y8 : decide ((il.toNat : Int) < 2) = true := decide_eq_true (by omega)
             have kw : IntKind.i64.wrap (wide : Int) = (wide : Int) := i64_in _ ⟨by omega, by omega⟩
             have kh : IntKind.i64.wrap (high : Int) = (high : Int) := i64_in _ ⟨by omega, by omega⟩
             clear hw hh
             have H5 := Lib.hid h5
             clear g h1 h2 h3 h4 h8 h5
             go_wp2_with (go_at_call 20; refine (isKind_any c.toNat d.toNat _).mono ?_; rw [H5.out]; rintro e w' ⟨rfl, rfl⟩)
             go_ret
             exact ⟨by simp, B5.out⟩)
      · have NG := Lib.hid ng
        have zz : ((z : Int) != 0) = true := by rcases hz with rfl | rfl <;> rfl
        clear ng hz
        by_cases h1 : 0 < wide
        case neg =>
          have y1 : decide (0 < wide) = false := decide_eq_false h1
          go_wp2_with fail
          go_ret
          exact ⟨by simp, B5.out⟩
        have y1 : decide (0 < wide) = true := decide_eq_true h1
        by_cases h2 : wide < 2147483648
        case neg =>
          have y2 : decide ((wide : Int) < 2147483648) = false := decide_eq_false (by omega)
          clear h2 hw hh
          go_wp2_with fail
          go_ret
          exact ⟨by simp, B5.out⟩
        have y2 : decide ((wide : Int) < 2147483648) = true := decide_eq_true (by omega)
        by_cases h3 : 0 < high
        case neg =>
          first
            | exact absurd hp0 h3
            | (have y3 : decide (0 < high) = false := decide_eq_false h3
               clear h2 hw hh
               go_wp2_with fail
               go_ret
               exact ⟨by simp, B5.out⟩)
        have y3 : decide (0 < high) = true := decide_eq_true h3
        by_cases h4 : high < 2147483648
        case neg =>
          have y4 : decide ((high : Int) < 2147483648) = false := decide_eq_false (by omega)
          clear h2 h4 hw hh
          go_wp2_with fail
          go_ret
          exact ⟨by simp, B5.out⟩
        have y4 : decide ((high : Int) < 2147483648) = true := decide_eq_true (by omega)
        have H2 := Lib.hid h2
        have H4 := Lib.hid h4
        clear h2 h4 hw hh
        by_cases h5 : isKindB c.toNat d.toNat = true
        case neg =>
          have H5 : Hid (isKindB c.toNat d.toNat = false) := Lib.hid (by simpa using h5)
          clear h5
          go_wp2_with (go_at_call 20; refine (isKind_any c.toNat d.toNat _).mono ?_; rw [H5.out]; rintro e w' ⟨rfl, rfl⟩)
          go_ret
          exact ⟨by simp, B5.out⟩
        have H5 := Lib.hid h5
        clear h5
        by_cases h6 : p.toNat = 0
        case neg =>
          have y6 : ((p.toNat : Int) == 0) = false := by simp; omega
          go_wp2_with (go_at_call 20; refine (isKind_any c.toNat d.toNat _).mono ?_; rw [H5.out]; rintro e w' ⟨rfl, rfl⟩)
          go_ret
          exact ⟨by simp, B5.out⟩
        have y6 : ((p.toNat : Int) == 0) = true := by simp; omega
        by_cases h7 : f.toNat = 0
        case neg =>
          have y7 : ((f.toNat : Int) == 0) = false := by simp; omega
          go_wp2_with (go_at_call 20; refine (isKind_any c.toNat d.toNat _).mono ?_; rw [H5.out]; rintro e w' ⟨rfl, rfl⟩)
          go_ret
          exact ⟨by simp, B5.out⟩
        have y7 : ((f.toNat : Int) == 0) = true := by simp; omega
        have h8 : ¬ il.toNat ≤ 1 := fun h => NG.out (GI.out.2 ⟨h1, H2.out, h3, H4.out, H5.out, h6, h7, h⟩)
        have y8 : decide ((il.toNat : Int) < 2) = false := decide_eq_false (by omega)
        clear h6 h7 h8
        go_wp2_with (go_at_call 20; refine (isKind_any c.toNat d.toNat _).mono ?_; rw [H5.out]; rintro e w' ⟨rfl, rfl⟩)
        go_ret
        exact ⟨by simp, B5.out⟩
end Go.Proofs.YtiiipmcjbibgoaaDoor
