/- The walk through the law FnReadPaletteKind. -/
import Derived.Test.YtiiipmcjbibgoaaDoorImplPal
import Derived.Test.YtiiipmcjbibgoaaDoorWReadHeader
import Derived.Test.YtiiipmcjbibgoaaDoorKindOf
import Derived.Deep.DeepCutAuto
namespace Go.Proofs.YtiiipmcjbibgoaaDoor
open Go.ChangeShapes Go.WideShapes Go.ChangeAt Go.RowKit Go.IntWalk

theorem kind_pal {k : Nat} (h : k < 15) : (kD k = 1 ∨ kD k = 2 ∨ kD k = 4 ∨ kD k = 8 ∨ kD k = 16) ∧ rk (100 * kC k + kD k) ≠ 0 ∧ (((7 ≤ rk (100 * kC k + kD k) ∧ rk (100 * kC k + kD k) ≤ 10) ∨ isTrue (rk (100 * kC k + kD k)) = true) ↔ (kC k ≠ 0 ∧ kC k ≠ 4)) ∧ kC k ≤ 255 := by
  obtain rfl | rfl | rfl | rfl | rfl | rfl | rfl | rfl | rfl | rfl | rfl | rfl | rfl | rfl | rfl := lt15 h
  all_goals decide
theorem xor_same (a b : Nat) : a ^^^ b = a ↔ b = 0 := by
  constructor
  · intro h
    have : a ^^^ (a ^^^ b) = a ^^^ a := by rw [h]
    rwa [← Nat.xor_assoc, Nat.xor_self, Nat.zero_xor] at this
  · rintro rfl; simp
/-- So many bytes are refused. -/
def badN (n d : Nat) : Bool := decide (n / 3 = 0 ∨ n % 3 ≠ 0 ∨ 256 < n / 3 ∨ 2 ^ d < n / 3)

set_option maxHeartbeats 6400000 in
set_option maxRecDepth 100000 in
theorem palKindLaw (kn n cap bx : Nat) (hkn : kn ≤ 255) (hbx : bx < 4294967296) (ad : Option Addr) (l : List UInt8) (w : World) (hl : Hid (l.length = n)) (hr : RB w ad l) (hnil : ad = none → n = 0 ∧ cap = 0) (hmax : n ≤ 9223372036854775807) (ht : Tab w) :
    Calls Tryd.prog 4 #[.int .u8 (kn : Int), .slice ad n cap, .int .u32 (bx : Int)] w (TrueEnd w) := by
  have kc := fun (w : World) (C : Array Value) (n c : Nat) => Lib.run_convert_bytes_const (P := Tryd.prog) w 22 5 C n c Tryd.underlying22 Tryd.underlying5
  by_cases hbig : 2147483647 < n
  · have x1 : decide ((2147483647 : Int) < (n : Int)) = true := decide_eq_true (by omega)
    go_enter Tryd.func4, Tryd.ntmps4
    go_wp2_with fail
    go_ret
    exact ⟨rfl, Below.refl _ _⟩
  have x1 : decide ((2147483647 : Int) < (n : Int)) = false := decide_eq_false (by omega)
  obtain ⟨p1, p2, p3, p4⟩ := kind_pal (Nat.mod_lt kn (show 0 < 15 by omega))
  obtain ⟨c, hc⟩ : ∃ c, c = kC (kn % 15) := ⟨_, rfl⟩
  obtain ⟨d, hd⟩ : ∃ d, d = kD (kn % 15) := ⟨_, rfl⟩
  obtain ⟨K, hK⟩ : ∃ K, rk (100 * c + d) = K := ⟨_, rfl⟩
  rw [← hc, ← hd, hK] at p2 p3
  rw [← hd] at p1
  rw [← hc] at p4
  obtain ⟨np, hnp⟩ : ∃ np, np = n / 3 := ⟨_, rfl⟩
  obtain ⟨rm, hrm⟩ : ∃ rm, rm = n % 3 := ⟨_, rfl⟩
  have e1 : (n : Int).tdiv 3 = (np : Int) := by rw [Int.tdiv_eq_ediv_of_nonneg (by omega)]; omega
  have e3 : (n : Int) / 3 = (np : Int) := by omega
  have e4 : (n : Int) % 3 = (rm : Int) := by omega
  have e5 : IntKind.i64.wrap (np : Int) = (np : Int) := i64_in _ ⟨by omega, by omega⟩
  have e2 : (n : Int).tmod 3 = (rm : Int) := by rw [Int.tmod_eq_emod_of_nonneg (by omega)]; omega
  have hn31 : n ≤ 2147483647 := by omega
  have HNN : Hid (n = 3 * np + rm ∧ np = n / 3 ∧ rm = n % 3) := Lib.hid ⟨by omega, hnp, hrm⟩
  have HC := Lib.hid hc
  have HD := Lib.hid hd
  have HK := Lib.hid hK
  have HMX := Lib.hid hmax
  have HN31 := Lib.hid hn31
  clear hbig hnp hrm hc hd hK hmax hn31
  go_enter Tryd.func4, Tryd.ntmps4
  go_upto_region 5 with (go_at_call 15; refine (kindOf_any kn hkn w).mono ?_; rw [← HC.out, ← HD.out]; rintro e w' ⟨rfl, q, rfl⟩)
  obtain ⟨w0, hw0⟩ : ∃ w0, w0 = w.drewN q := ⟨_, rfl⟩
  have B0 : Hid (Below w.heap.size w w0) := Lib.hid (by rw [hw0]; exact ⟨rfl, rfl, rfl, Nat.le_refl _, fun _ _ => rfl⟩)
  have ht0 := ht.below B0.out
  have hr0 := hr.below B0.out
  rw [← hw0]
  clear hw0 hr
  go_cut [40] from 23 to 40 (fun cc wx => cc = .bool (badN n d) ∧ wx = w0)
  case first =>
    by_cases h1 : np = 0
    · have y1 : ((np : Int) == 0) = true := by rw [h1]; rfl
      go_wp2_with fail
      go_meet
      case rel => exact ⟨by have := HNN.out; simp [badN, show n / 3 = 0 by omega], rfl⟩
    have y1 : ((np : Int) == 0) = false := by simp; omega
    by_cases h2 : rm = 0
    case neg =>
      have y2 : ((rm : Int) != 0) = true := by simp; omega
      go_wp2_with fail
      go_meet
      case rel => exact ⟨by have := HNN.out; simp [badN, show n % 3 ≠ 0 by omega], rfl⟩
    have y2 : ((rm : Int) != 0) = false := by rw [h2]; rfl
    by_cases h3 : 256 < np
    · have y3 : (256 : Int) < (np : Int) := by omega
      go_wp2_with fail
      go_meet
      case rel => exact ⟨by have := HNN.out; simp [badN, show 256 < n / 3 by omega], rfl⟩
    have y3 : (np : Int) ≤ 256 := by omega
    have hbad : badN n d = decide (2 ^ d < np) := by
      have := HNN.out
      unfold badN
      rw [this.2.1.symm, this.2.2.symm]
      simp [h1, h2, h3]
    have y4 : (0 : Int) ≤ (np : Int) := by omega
    have HBAD := Lib.hid hbad
    clear hbad
    by_cases h4 : 2 ^ d < np
    all_goals
      have HB : Hid (badN n d = decide (2 ^ d < np)) := HBAD
      rcases p1 with rfl | rfl | rfl | rfl | rfl
      all_goals
        first
          | (exfalso; omega)
          | (have y5 := h4
             have HH4 := Lib.hid h4
             clear h4
             simp at y5
             go_wp2_with fail
             go_meet
             case rel => exact ⟨by rw [HB.out]; (first | rw [decide_eq_true HH4.out] | rw [decide_eq_false HH4.out]) <;> (simp; omega), rfl⟩)
  case rest =>
    obtain ⟨rfl, rfl⟩ := hcut
    have HP3 := Lib.hid p3
    clear p3 e1 e2 e3 e4 e5
    obtain hbad | hbad : badN n d = true ∨ badN n d = false := by cases badN n d <;> simp
    · rw [hbad]
      go_wp2_with fail
      go_ret
      exact ⟨rfl, B0.out⟩
    rw [hbad]
    have hgood : ¬ (n / 3 = 0 ∨ n % 3 ≠ 0 ∨ 256 < n / 3 ∨ 2 ^ d < n / 3) := by simpa [badN] using hbad
    have hgl : ¬ badLen n d := by unfold badLen; intro h; apply hgood; omega
    have hnpos : 0 < n := by omega
    have hn768 : n ≤ 768 := by omega
    have HG := Lib.hid hgl
    clear hbad hgood hgl
    have hrn := RB.litF wc plteName 5 (4, 5)
    have hr1 := hr0.below ((Below.refl _ _).alloc (Nat.le_refl _) (.cells (cellsB plteName).toArray 5 (4, 5)))
    go_wp2_with (at_builtin; refine wpList_append_named rfl (.tmp 46) (.tmp 47) rfl wc.heap.size plteName l rfl rfl hrn ad n cap rfl hl.out hr1 (by omega) (by omega) ?_; intro v2 w2 ho2 hb2)
    have B2 : Hid (Below wc.heap.size wc w2) := Lib.hid (((Below.refl _ _).alloc (Nat.le_refl _) _).trans (hb2.mono (by rw [size_alloc]; omega)))
    obtain ⟨a2, n2, c2, rfl, hm2, hr2, -, -, -, -⟩ := ho2.shapeN
    obtain rfl : n2 = n + 4 := by have h1 := hm2.out; have h2 := hl.out; simp [plteName] at h1; omega
    have B3 : Hid (Below w.heap.size w w2) := Lib.hid (B0.out.trans (B2.out.mono B0.out.size))
    have ht2 := ht.below B3.out
    have hr3 := hr0.below B2.out
    have exx := u32_xor_nat (crcOf (plteName ++ l)) bx (crcOf_lt _) hbx
    obtain ⟨S, hS⟩ : ∃ S, S = crcOf (plteName ++ l) ^^^ bx := ⟨_, rfl⟩
    have hSlt : S < 4294967296 := by rw [hS]; exact Nat.xor_lt_two_pow (n := 32) (crcOf_lt _) hbx
    rw [← hS] at exx
    have HS := Lib.hid hS
    clear hb2 hrn hr1 ho2 hr0 ht0 hS
    go_wp2_with fail
    refine (specCrc_any a2 (n + 4) c2 (plteName ++ l) hm2 w2 (by omega) hr2).mono ?_
    rintro e w3 ⟨rfl, rfl⟩
    go_wp2_with fail
    refine (implReadPalette_any ad cap c d n S K l w2 hl hr3 hnil ht2 (by omega) hSlt p1 p4 HK p2).mono ?_
    rintro e w5 ⟨v, hb5, hend⟩
    have B5 : Hid (Below w.heap.size w w5) := Lib.hid (B3.out.trans (hb5.mono B3.out.size))
    have hiff : palOk l n d K S ↔ (bx = 0 ∧ c ≠ 0 ∧ c ≠ 4) := by
      unfold palOk
      rw [HP3.out, HS.out, xor_same]
      exact ⟨fun h => ⟨h.2.2, h.2.1⟩, fun h => ⟨HG.out, h.2, h.1⟩⟩
    clear hb5 hr2 hr3 ht2 exx HS hSlt
    rcases hend with ⟨hok, rfl, -⟩ | ⟨hno, rfl⟩
    · obtain ⟨rfl, h2, h3⟩ := hiff.1 hok
      have q1 : ((c : Int) != 0) = true := by simp; omega
      have q2 : ((c : Int) != 4) = true := by simp; omega
      clear hiff hok
      go_wp2_with fail
      go_ret
      exact ⟨rfl, B5.out⟩
    · have hno' := fun h => hno (hiff.2 h)
      clear hiff hno
      by_cases hb0 : bx = 0
      · obtain rfl := hb0
        by_cases h0 : c = 0
        · have q1 : ((c : Int) != 0) = false := by rw [h0]; rfl
          clear hno' h0
          go_wp2_with fail
          go_ret
          exact ⟨rfl, B5.out⟩
        · have q1 : ((c : Int) != 0) = true := by simp; omega
          have q2 : ((c : Int) != 4) = false := by
            have : c = 4 := Decidable.byContradiction fun h => hno' ⟨rfl, h0, h⟩
            rw [this]; rfl
          clear hno' h0
          go_wp2_with fail
          go_ret
          exact ⟨rfl, B5.out⟩
      · have q0 : ((bx : Int) == 0) = false := by simp; omega
        clear hno' hb0
        go_wp2_with fail
        go_ret
        exact ⟨rfl, B5.out⟩
end Go.Proofs.YtiiipmcjbibgoaaDoor
