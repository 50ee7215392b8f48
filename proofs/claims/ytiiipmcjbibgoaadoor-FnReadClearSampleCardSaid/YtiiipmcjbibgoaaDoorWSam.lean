/- The walk through the law FnReadClearSample. -/
import Derived.Test.YtiiipmcjbibgoaaDoorImplClear
import Derived.Test.YtiiipmcjbibgoaaDoorWPal
import Derived.Test.YtiiipmcjbibgoaaDoorConv
import Derived.Outline
namespace Go.Proofs.YtiiipmcjbibgoaaDoor
open Go.ChangeShapes Go.WideShapes Go.ChangeAt Go.RowKit Go.IntWalk

/-- How many bytes a sample has, by the colour type. -/
def samN (c : Nat) : Nat := if c = 2 then 6 else 2
theorem kind_sam {k : Nat} (h : k < 15) (h8 : 8 ≤ kD k) (h3 : kC k ≠ 3) :
    (kD k = 1 ∨ kD k = 2 ∨ kD k = 4 ∨ kD k = 8 ∨ kD k = 16) ∧ samKind (rk (100 * kC k + kD k)) ∧ (∀ n, clearBad (rk (100 * kC k + kD k)) n ↔ (2 < kC k ∨ n ≠ samN (kC k))) ∧ kC k ≤ 255 := by
  obtain rfl | rfl | rfl | rfl | rfl | rfl | rfl | rfl | rfl | rfl | rfl | rfl | rfl | rfl | rfl := lt15 h
  all_goals first
    | (exfalso; revert h8; decide)
    | (exfalso; revert h3; decide)
    | (refine ⟨by decide, by unfold samKind; decide, fun n => ?_, by decide⟩
       simp [clearBad, rk, kC, kD, samN])

set_option maxHeartbeats 6400000 in
set_option maxRecDepth 100000 in
theorem samLaw (kn n cap : Nat) (hkn : kn ≤ 255) (ad : Option Addr) (l : List UInt8) (w : World) (hl : Hid (l.length = n)) (hr : RB w ad l) (hnil : ad = none → n = 0 ∧ cap = 0) (hmax : n ≤ 9223372036854775807) (ht : Tab w) :
    Calls Tryd.prog 6 #[.int .u8 (kn : Int), .slice ad n cap] w (TrueEnd w) := by
  have kc := fun (w : World) (C : Array Value) (n c : Nat) => Lib.run_convert_bytes_const (P := Tryd.prog) w 22 5 C n c Tryd.underlying22 Tryd.underlying5
  by_cases hbig : 2147483647 < n
  · have x1 : decide ((2147483647 : Int) < (n : Int)) = true := decide_eq_true (by omega)
    go_enter Tryd.func6, Tryd.ntmps6
    go_wp2_with fail
    go_ret
    exact ⟨rfl, Below.refl _ _⟩
  have x1 : decide ((2147483647 : Int) < (n : Int)) = false := decide_eq_false (by omega)
  have p0 := kind_le (Nat.mod_lt kn (show 0 < 15 by omega))
  have p1 := fun a b => kind_sam (Nat.mod_lt kn (show 0 < 15 by omega)) a b
  obtain ⟨c, hc⟩ : ∃ c, c = kC (kn % 15) := ⟨_, rfl⟩
  obtain ⟨d, hd⟩ : ∃ d, d = kD (kn % 15) := ⟨_, rfl⟩
  rw [← hc, ← hd] at p1 p0
  have HC := Lib.hid hc
  have HD := Lib.hid hd
  have HMX := Lib.hid hmax
  clear hbig hc hd hmax
  by_cases hbad : d < 8 ∨ c = 3 ∨ 1000 < n
  · have hcase : decide ((d : Int) < 8) = true ∨ (decide ((d : Int) < 8) = false ∧ ((c : Int) == 3) = true) ∨ (decide ((d : Int) < 8) = false ∧ ((c : Int) == 3) = false ∧ decide ((1000 : Int) < (n : Int)) = true) := by
      by_cases h1 : d < 8
      · exact .inl (decide_eq_true (by omega))
      by_cases h2 : c = 3
      · exact .inr (.inl ⟨decide_eq_false (by omega), by rw [h2]; rfl⟩)
      · exact .inr (.inr ⟨decide_eq_false (by omega), by simp; omega, decide_eq_true (by omega)⟩)
    clear p1 hbad
    rcases hcase with q1 | ⟨q1, q2⟩ | ⟨q1, q2, q3⟩
    all_goals
      go_enter Tryd.func6, Tryd.ntmps6
      go_wp2_with (go_at_call 15; refine (kindOf_any kn hkn w).mono ?_; rw [← HC.out, ← HD.out]; rintro e w' ⟨rfl, q, rfl⟩)
      go_ret
      exact ⟨rfl, ⟨rfl, rfl, rfl, Nat.le_refl _, fun _ _ => rfl⟩⟩
  obtain ⟨p2, p3, p4, p5⟩ := p1 (by omega) (by omega)
  have p4 := p4 n
  obtain ⟨K, hK⟩ : ∃ K, rk (100 * c + d) = K := ⟨_, rfl⟩
  obtain ⟨nn, hnn⟩ : ∃ nn, nn = samN c := ⟨_, rfl⟩
  rw [hK, ← hnn] at p4
  rw [hK] at p3
  have HK := Lib.hid hK
  have HNN := Lib.hid hnn
  have HP3 := Lib.hid p3
  have HP4 := Lib.hid p4
  have hn1 : n ≤ 1000 := by omega
  have q1 : decide ((d : Int) < 8) = false := decide_eq_false (by omega)
  have q2 : ((c : Int) == 3) = false := by simp; omega
  have q3 : decide ((1000 : Int) < (n : Int)) = false := decide_eq_false (by omega)
  clear p1 p3 p4 hK hnn hbad
  go_enter Tryd.func6, Tryd.ntmps6
  go_upto_region 6 with (go_at_call 15; refine (kindOf_any kn hkn w).mono ?_; rw [← HC.out, ← HD.out]; rintro e w' ⟨rfl, q, rfl⟩)
  obtain ⟨w0, hw0⟩ : ∃ w0, w0 = w.drewN q := ⟨_, rfl⟩
  have B0 : Hid (Below w.heap.size w w0) := Lib.hid (by rw [hw0]; exact ⟨rfl, rfl, rfl, Nat.le_refl _, fun _ _ => rfl⟩)
  have ht0 := ht.below B0.out
  have hr0 := hr.below B0.out
  rw [← hw0]
  clear hw0 hr q1 q2 q3
  have hrn := RB.litF w0 trnsName 5 (4, 5)
  have hr1 := hr0.below ((Below.refl _ _).alloc (Nat.le_refl _) (.cells (cellsB trnsName).toArray 5 (4, 5)))
  go_wp2_with (at_builtin; refine wpList_append_name rfl (.tmp 36) (.tmp 37) rfl w0.heap.size trnsName l rfl rfl hrn ad n cap rfl hl.out hr1 (by omega) ?_; intro a2 c2 w2 hr2 hb2)
  have B2 : Hid (Below w0.heap.size w0 w2) := Lib.hid (((Below.refl _ _).alloc (Nat.le_refl _) _).trans (hb2.mono (by rw [size_alloc]; omega)))
  have B3 : Hid (Below w.heap.size w w2) := Lib.hid (B0.out.trans (B2.out.mono B0.out.size))
  have hm2 : Hid ((trnsName ++ l).length = n + 4) := Lib.hid (by rw [List.length_append, hl.out]; show 4 + n = n + 4; omega)
  have ht2 := ht.below B3.out
  have hr3 := hr0.below B2.out
  obtain ⟨S, hS⟩ : ∃ S, S = crcOf (trnsName ++ l) := ⟨_, rfl⟩
  have hSlt : S < 4294967296 := by rw [hS]; exact crcOf_lt _
  have HS := Lib.hid hS
  clear hb2 hrn hr1
  go_wp2_with fail
  refine (specCrc_any a2 (n + 4) c2 (trnsName ++ l) hm2 w2 (by omega) hr2).mono ?_
  rintro e w3 ⟨rfl, rfl⟩
  rw [← hS]
  clear hS
  go_wp2_with fail
  refine (implReadSam_any ad cap c d n S K l w2 hl hr3 hnil ht2 hn1 hSlt p2 p5 HK HP3).mono ?_
  rintro e w5 ⟨hb5, hend⟩
  have B5 : Hid (Below w.heap.size w w5) := Lib.hid (B3.out.trans (hb5.mono B3.out.size))
  have hr5 := hr3.below hb5
  have hok : samOk l n K S ↔ ¬ (2 < c ∨ n ≠ nn) := by
    unfold samOk
    rw [HP4.out]
    exact ⟨fun h => h.1, fun h => ⟨h, HS.out⟩⟩
  clear hb5 hr2 hr3 ht2 ht0 hr0 hSlt kc
  rcases hend with ⟨hy, v0, v, tr, rfl, hown, htl, htk⟩ | ⟨hno, rfl⟩
  · obtain ⟨f1, f2⟩ : c ≤ 2 ∧ n = nn := by have := hok.1 hy; omega
    have HTK := Lib.hid htk
    have HTL := Lib.hid htl
    obtain ⟨ad6, m6, c6, rfl, hm6, hr6, hmc6, hcm6, -, -⟩ := hown.shapeN
    obtain rfl : m6 = 6 := by have := hm6.out; omega
    obtain ⟨g6, o6, rfl, -⟩ := hr6 (by intro e; rw [e] at htl; simp at htl)
    unfold maxLen at hcm6
    have u1 : (6 : Int) ≤ (c6 : Int) := by omega
    have u2 : (2 : Int) ≤ (c6 : Int) := by omega
    clear hok hy htk htl hown
    have f1' : decide ((2 : Int) < (c : Int)) = false := decide_eq_false (by omega)
    have hnc : (c = 2 ∧ nn = 6) ∨ (c ≠ 2 ∧ nn = 2) := by
      have := HNN.out
      unfold samN at this
      by_cases h : c = 2
      · rw [if_pos h] at this; exact .inl ⟨h, this⟩
      · rw [if_neg h] at this; exact .inr ⟨h, this⟩
    rcases hnc with ⟨rfl, rfl⟩ | ⟨hc2, rfl⟩
    · subst f2
      have cv1 := fun q => conv_bytes (w := w5.drewN q) (cap := cap) hr5 hl
      have hr7 : RB w5 (some ⟨g6, o6, none⟩) (tr.take 6) := by rw [List.take_of_length_le (by rw [HTL.out]; omega)]; exact hr6
      rw [HTK.out] at hr7
      have cv2 := fun q => conv_bytes (w := w5.drewN q) (cap := c6) hr7 hl
      go_wp2_with fail
      go_quiet (fail)
      go_wp2_with fail
      go_ret
      exact ⟨rfl, ⟨B5.out.os, B5.out.tape, B5.out.output, B5.out.size, B5.out.block⟩⟩
    · subst f2
      have q1 : ((c : Int) == 2) = false := by simp; omega
      have cv1 := fun q => conv_bytes (w := w5.drewN q) (cap := cap) hr5 hl
      have hr7 : RB w5 (some ⟨g6, o6, none⟩) (tr.take 2) := hr6.take 2
      rw [HTK.out] at hr7
      have cv2 := fun q => conv_bytes (w := w5.drewN q) (cap := c6) hr7 hl
      clear hc2
      go_wp2_with fail
      go_quiet (fail)
      go_wp2_with fail
      go_ret
      exact ⟨rfl, ⟨B5.out.os, B5.out.tape, B5.out.output, B5.out.size, B5.out.block⟩⟩
  · have hno' : 2 < c ∨ n ≠ nn := Decidable.byContradiction fun h => hno (hok.2 h)
    clear hok hno
    have hcase : (decide ((2 : Int) < (c : Int)) = true ∧ ((c : Int) == 2) = false) ∨ (c = 2 ∧ ((n : Int) != 6) = true) ∨ (decide ((2 : Int) < (c : Int)) = false ∧ ((c : Int) == 2) = false ∧ ((n : Int) != 2) = true) := by
      have := HNN.out
      unfold samN at this
      by_cases h1 : 2 < c
      · exact .inl ⟨decide_eq_true (by omega), by simp; omega⟩
      by_cases h2 : c = 2
      · rw [if_pos h2] at this
        exact .inr (.inl ⟨h2, by simp; omega⟩)
      · rw [if_neg h2] at this
        exact .inr (.inr ⟨decide_eq_false (by omega), by simp; omega, by simp; omega⟩)
    clear hno'
    rcases hcase with ⟨z1, z2⟩ | ⟨rfl, z1⟩ | ⟨z1, z2, z3⟩
    all_goals
      go_wp2_with fail
      go_ret
      exact ⟨rfl, B5.out⟩
end Go.Proofs.YtiiipmcjbibgoaaDoor
