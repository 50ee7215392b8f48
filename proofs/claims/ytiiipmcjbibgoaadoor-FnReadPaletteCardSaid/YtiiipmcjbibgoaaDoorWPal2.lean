/- The walk through the law FnReadPalette. -/
import Derived.Test.YtiiipmcjbibgoaaDoorWPal
namespace Go.Proofs.YtiiipmcjbibgoaaDoor
open Go.ChangeShapes Go.WideShapes Go.ChangeAt Go.RowKit Go.IntWalk

/-- The bits a sample that the law picks, and the package's number of the kind. -/
theorem pal_kinds {j : Nat} (h : j < 4) : (2 ^ j = 1 ∨ 2 ^ j = 2 ∨ 2 ^ j = 4 ∨ 2 ^ j = 8 ∨ 2 ^ j = 16) ∧ 2 ^ j ≤ 8 ∧ rk (100 * 3 + 2 ^ j) ≠ 0 ∧ (7 ≤ rk (100 * 3 + 2 ^ j) ∧ rk (100 * 3 + 2 ^ j) ≤ 10) := by
  obtain rfl | rfl | rfl | rfl : j = 0 ∨ j = 1 ∨ j = 2 ∨ j = 3 := by omega
  all_goals decide

/-- So many bytes are refused. -/
def badP (n d : Nat) : Bool := decide (n / 3 = 0 ∨ n % 3 ≠ 0 ∨ 2 ^ d < n / 3)

set_option maxHeartbeats 6400000 in
set_option maxRecDepth 100000 in
theorem palLaw (kn n cap : Nat) (hkn : kn ≤ 255) (ad : Option Addr) (l : List UInt8) (w : World) (hl : Hid (l.length = n)) (hr : RB w ad l) (hnil : ad = none → n = 0 ∧ cap = 0) (hmax : n ≤ 9223372036854775807) (ht : Tab w) :
    Calls Tryd.prog 3 #[.int .u8 (kn : Int), .slice ad n cap] w (TrueEnd w) := by
  have kc := fun (w : World) (C : Array Value) (n c : Nat) => Lib.run_convert_bytes_const (P := Tryd.prog) w 22 5 C n c Tryd.underlying22 Tryd.underlying5
  by_cases hbig : 2147483647 < n
  · have x1 : decide ((2147483647 : Int) < (n : Int)) = true := decide_eq_true (by omega)
    go_enter Tryd.func3, Tryd.ntmps3
    go_wp2_with fail
    go_ret
    exact ⟨rfl, Below.refl _ _⟩
  have x1 : decide ((2147483647 : Int) < (n : Int)) = false := decide_eq_false (by omega)
  obtain ⟨k, hk⟩ : ∃ k, k = kn % 4 := ⟨_, rfl⟩
  have hk4 : k < 4 := by omega
  have e0 : (kn : Int).tmod 4 = (k : Int) := by rw [Int.tmod_eq_emod_of_nonneg (by omega)]; omega
  have e00 : (kn : Int) % 4 = (k : Int) := by omega
  obtain ⟨p1, p2, p3, p4⟩ := pal_kinds hk4
  by_cases hbig2 : 1000 < n
  · have x2 : decide ((1000 : Int) < (n : Int)) = true := decide_eq_true (by omega)
    clear p1 p2 p3 p4 hk hbig hbig2 hmax
    obtain rfl | rfl | rfl | rfl : k = 0 ∨ k = 1 ∨ k = 2 ∨ k = 3 := by omega
    all_goals
      go_enter Tryd.func3, Tryd.ntmps3
      go_wp2_with fail
      go_ret
      exact ⟨rfl, Below.refl _ _⟩
  have x2 : decide ((1000 : Int) < (n : Int)) = false := decide_eq_false (by omega)
  obtain ⟨d, hd⟩ : ∃ d, d = 2 ^ k := ⟨_, rfl⟩
  obtain ⟨K, hK⟩ : ∃ K, rk (100 * 3 + d) = K := ⟨_, rfl⟩
  rw [← hd] at p1 p2
  rw [← hd, hK] at p3 p4
  have HD := Lib.hid hd
  have HK := Lib.hid hK
  have hn1 : n ≤ 1000 := by omega
  clear hbig hbig2 hk hd hK hmax
  go_enter Tryd.func3, Tryd.ntmps3
  go_upto_region 3 with fail
  go_cut [5] from 14 to 16 (fun v wx => v = .int .i64 (d : Int) ∧ wx = w)
  case first =>
    have HX := Lib.hid p1
    clear p1 p2 p3 p4
    obtain rfl | rfl | rfl | rfl : k = 0 ∨ k = 1 ∨ k = 2 ∨ k = 3 := by omega
    all_goals
      go_wp2_with fail
      go_meet
      case rel => exact ⟨by rw [HD.out]; rfl, rfl⟩
  case rest =>
    obtain ⟨rfl, rfl⟩ := hcut
    obtain ⟨wA, rfl⟩ : ∃ q, q = wc := ⟨_, rfl⟩
    clear e0 e00
    have hrn := RB.litF wA plteName 5 (4, 5)
    have hr1 := hr.below ((Below.refl _ _).alloc (Nat.le_refl _) (.cells (cellsB plteName).toArray 5 (4, 5)))
    go_wp2_with (at_builtin; refine wpList_append_name rfl (.tmp 24) (.tmp 25) rfl wA.heap.size plteName l rfl rfl hrn ad n cap rfl hl.out hr1 (by omega) ?_; intro a2 c2 w2 hr2 hb2)
    have B2 : Hid (Below wA.heap.size wA w2) := Lib.hid (((Below.refl _ _).alloc (Nat.le_refl _) _).trans (hb2.mono (by rw [size_alloc]; omega)))
    have hm2 : Hid ((plteName ++ l).length = n + 4) := Lib.hid (by rw [List.length_append, hl.out]; show 4 + n = n + 4; omega)
    have ht2 := ht.below B2.out
    have hr3 := hr.below B2.out
    obtain ⟨S, hS⟩ : ∃ S, S = crcOf (plteName ++ l) := ⟨_, rfl⟩
    have hSlt : S < 4294967296 := by rw [hS]; exact crcOf_lt _
    have HS := Lib.hid hS
    clear hb2 hrn hr1
    go_wp2_with fail
    refine (specCrc_any a2 (n + 4) c2 (plteName ++ l) hm2 w2 (by omega) hr2).mono ?_
    rintro e w3 ⟨rfl, rfl⟩
    rw [← hS]
    clear hS
    go_wp2_with fail
    refine (implReadPalette_any ad cap 3 d n S K l w2 hl hr3 hnil ht2 hn1 hSlt (by omega) (by omega) HK p3).mono ?_
    rintro e w5 ⟨v, hb5, hend⟩
    have B5 : Hid (Below wA.heap.size wA w5) := Lib.hid (B2.out.trans (hb5.mono B2.out.size))
    obtain ⟨np, hnp⟩ : ∃ np, np = n / 3 := ⟨_, rfl⟩
    obtain ⟨rm, hrm⟩ : ∃ rm, rm = n % 3 := ⟨_, rfl⟩
    have e1 : (n : Int).tdiv 3 = (np : Int) := by rw [Int.tdiv_eq_ediv_of_nonneg (by omega)]; omega
    have e3 : (n : Int) / 3 = (np : Int) := by omega
    have e4 : (n : Int) % 3 = (rm : Int) := by omega
    have e5 : IntKind.i64.wrap (np : Int) = (np : Int) := i64_in _ ⟨by omega, by omega⟩
    have e2 : (n : Int).tmod 3 = (rm : Int) := by rw [Int.tmod_eq_emod_of_nonneg (by omega)]; omega
    have HNN : Hid (n = 3 * np + rm ∧ np = n / 3 ∧ rm = n % 3) := Lib.hid ⟨by omega, hnp, hrm⟩
    have H14 := Lib.hid (show (d = 1 ∨ d = 2 ∨ d = 4 ∨ d = 8 ∨ d = 16) ∧ d ≤ 8 from ⟨p1, p2⟩)
    clear hnp hrm hb5 hr2 ht2 hSlt p1 p2
    have hok : palOk l n d K S ↔ ¬ (np = 0 ∨ rm ≠ 0 ∨ 2 ^ d < np) := by
      have h1 := HNN.out
      have h2 : 2 ^ d ≤ 256 := by rcases H14.out.1 with rfl | rfl | rfl | rfl | rfl <;> first | decide | (have := H14.out.2; omega)
      unfold palOk badLen
      rw [h1.2.1.symm, h1.2.2.symm]
      constructor
      · rintro ⟨h, -, -⟩ h'
        apply h
        omega
      · intro h
        exact ⟨by omega, .inl p4, HS.out⟩
    obtain ⟨d1, d2⟩ := H14.out
    rcases hend with ⟨hy, rfl, SS, hown, hSS⟩ | ⟨hno, rfl⟩
    · obtain ⟨f1, f2, f3⟩ : np ≠ 0 ∧ rm = 0 ∧ np ≤ 2 ^ d := by have := hok.1 hy; omega
      have HOWN := Lib.hid hown
      have HSS := Lib.hid (hSS p4)
      clear hok hy hown hSS
      have y1 : ((np : Int) == 0) = false := by simp; omega
      have y2 : ((rm : Int) != 0) = false := by rw [f2]; rfl
      go_upto_region 8 with fail
      go_cut [47] from 34 to 47 (fun cc wx => cc = .bool false ∧ wx = w5)
      case first =>
        rcases d1 with rfl | rfl | rfl | rfl | rfl
        all_goals
          first
            | (exfalso; omega)
            | (have y5 := f3
               simp at y5
               go_wp2_with fail
               go_meet
               case rel => exact ⟨by first | rfl | (simp; omega), rfl⟩)
      case rest =>
        obtain ⟨rfl, rfl⟩ := hcut
        obtain ⟨w6, rfl⟩ : ∃ q, q = wc := ⟨_, rfl⟩
        have hown := HOWN.out
        have hSS := HSS.out
        rw [← HNN.out.2.1] at hSS
        subst hSS
        rw [palS_length] at hown
        obtain ⟨g, gc, rfl, hg, hcells⟩ := shades_shape hown f1
        have HCE := Lib.hid hcells
        have hr6 := hr.below B5.out
        have hdat : ∃ db dof, ad = some ⟨db, dof, none⟩ ∧ db < w6.heap.size ∧ ∀ j, j < n → w6.cell? ⟨db, dof + j, none⟩ = some (.int .u8 ((l.getD j 0).toNat : Int)) := by
          have h1 := hl.out
          have h2 := HNN.out
          obtain ⟨db, dof, e, hc⟩ := hr6 (by intro e; rw [e] at h1; simp at h1; omega)
          exact ⟨db, dof, e, World.block_lt_of_cell? w6 _ (hc 0 (by omega)), fun j hj => hc j (by omega)⟩
        obtain ⟨db, dof, rfl, hdb, hdc⟩ := hdat
        have HDC := Lib.hid hdc
        have HDB := Lib.hid hdb
        have HG := Lib.hid hg
        clear hdc hr6 hr hdb hg
        have hnl : Hid (n = 3 * np) := Lib.hid (by have := HNN.out; omega)
        clear HOWN HSS hown hcells hr3 d1 d2 y1 y2 e1 e2 e3 e4 e5 f3
        go_upto_region 13 with fail
        go_loopw [65] (fun i wr => ∃ t : Nat, t ≤ np ∧ i = .int .i64 (t : Int) ∧ Below w6.heap.size w6 wr) (fun i _ => np - (intOf i).toNat)
        case atStart => exact ⟨0, Nat.zero_le _, rfl, Below.refl _ _⟩
        case round =>
          obtain ⟨t, ht, rfl, hbel⟩ := hrel
          by_cases hlt : t < np
          · have i0 : (0 : Int) ≤ (t : Int) := by omega
            have i1 : (t : Int) < (np : Int) := by omega
            have i2 : (np : Int) ≤ 334 := by have := hnl.out; omega
            obtain ⟨q0, hq0⟩ : ∃ q, q = 3 * t := ⟨_, rfl⟩
            obtain ⟨q1, hq1⟩ : ∃ q, q = 3 * t + 1 := ⟨_, rfl⟩
            obtain ⟨q2, hq2⟩ : ∃ q, q = 3 * t + 2 := ⟨_, rfl⟩
            have hnn := hnl.out
            have z0 : (3 : Int) * (t : Int) = (q0 : Int) := by omega
            have z1 : (q0 : Int) + 1 = (q1 : Int) := by omega
            have z2 : (q0 : Int) + 2 = (q2 : Int) := by omega
            have r0 : (0 : Int) ≤ (q0 : Int) := by omega
            have r1 : (0 : Int) ≤ (q1 : Int) := by omega
            have r2 : (0 : Int) ≤ (q2 : Int) := by omega
            have v0 : (q0 : Int) < (n : Int) := by omega
            have v1 : (q1 : Int) < (n : Int) := by omega
            have v2 : (q2 : Int) < (n : Int) := by omega
            have k0 : IntKind.i64.wrap (q0 : Int) = (q0 : Int) := i64_in _ ⟨by omega, by omega⟩
            have k1 : IntKind.i64.wrap (q1 : Int) = (q1 : Int) := i64_in _ ⟨by omega, by omega⟩
            have k2 : IntKind.i64.wrap (q2 : Int) = (q2 : Int) := i64_in _ ⟨by omega, by omega⟩
            have k3 : IntKind.i64.wrap (t : Int) = (t : Int) := i64_in _ ⟨by omega, by omega⟩
            have hD : ∀ j, j < n → wr.cell? ⟨db, dof + j, none⟩ = some (.int .u8 ((l.getD j 0).toNat : Int)) := fun j hj => (World.cell?_of_block (w := w6) (hbel.block db HDB.out)).trans (HDC.out j hj)
            have hA := palS_at l np t hlt
            have hC : ∀ j u, j < 4 → (shC ⟨l.getD (3 * t) 0, l.getD (3 * t + 1) 0, l.getD (3 * t + 2) 0, 255⟩)[j]? = some u → wr.cell? ⟨g, t * 4 + j, none⟩ = some u := fun j u hj hu => by
              refine (World.cell?_of_block (w := w6) (hbel.block g HG.out)).trans ?_
              rw [Nat.mul_comm]
              exact HCE.out _ _ ((shAll_at _ t _ hA j hj).trans hu)
            have g0 := hC 0 _ (by omega) rfl
            have g1 := hC 1 _ (by omega) rfl
            have g2 := hC 2 _ (by omega) rfl
            have g3 := hC 3 _ (by omega) rfl
            rw [Nat.add_zero] at g0
            have c0 := hD q0 (by omega)
            have c1 := hD q1 (by omega)
            have c2 := hD q2 (by omega)
            rw [hq0] at c0
            rw [hq1] at c1
            rw [hq2] at c2
            obtain ⟨b0, hb0⟩ : ∃ b, b = (l.getD (3 * t) 0).toNat := ⟨_, rfl⟩
            obtain ⟨b1, hb1⟩ : ∃ b, b = (l.getD (3 * t + 1) 0).toNat := ⟨_, rfl⟩
            obtain ⟨b2, hb2⟩ : ∃ b, b = (l.getD (3 * t + 2) 0).toNat := ⟨_, rfl⟩
            rw [← hq0] at c0
            rw [← hq1] at c1
            rw [← hq2] at c2
            change wr.cell? _ = some (.int .u8 (((l.getD (3 * t) 0).toNat : Nat) : Int)) at g0
            change wr.cell? _ = some (.int .u8 (((l.getD (3 * t + 1) 0).toNat : Nat) : Int)) at g1
            change wr.cell? _ = some (.int .u8 (((l.getD (3 * t + 2) 0).toNat : Nat) : Int)) at g2
            change wr.cell? _ = some (.int .u8 255) at g3
            have hgl : g < wr.heap.size := World.block_lt_of_cell? wr _ g0
            have hdl : db < wr.heap.size := World.block_lt_of_cell? wr _ c0
            rw [← hq0] at hb0 g0
            rw [← hq1] at hb1 g1
            rw [← hq2] at hb2 g2
            rw [← hb0] at c0 g0
            rw [← hb1] at c1 g1
            rw [← hb2] at c2 g2
            have HBEL := Lib.hid hbel
            clear hb0 hb1 hb2 hq0 hq1 hq2 hC hD hA hnn hbel
            go_wp2_with fail
            go_quiet (fail)
            go_wp2_with fail
            go_round
            case rel => exact ⟨t + 1, by omega, by go_num, by
              have hb9 := HBEL.out.trans (((Below.refl _ _).alloc (Nat.le_refl _) (.cells #[.int .u8 (b0 : Int), .int .u8 (b1 : Int), .int .u8 (b2 : Int), .int .u8 255] 29)).mono HBEL.out.size)
              exact ⟨hb9.os, hb9.tape, hb9.output, hb9.size, hb9.block⟩⟩
            case measure => simp [intOf]; omega
          · obtain rfl : np = t := by omega
            go_wp2_with fail
            go_ret
            exact ⟨rfl, B5.out.trans (hbel.mono B5.out.size)⟩
    · have hb : np = 0 ∨ rm ≠ 0 ∨ 2 ^ d < np := Decidable.byContradiction fun h => hno (hok.2 h)
      clear hok hno
      go_upto_region 8 with fail
      go_cut [47] from 34 to 47 (fun cc wx => cc = .bool true ∧ wx = w5)
      case first =>
        by_cases h1 : np = 0
        · have y1 : ((np : Int) == 0) = true := by rw [h1]; rfl
          go_wp2_with fail
          go_meet
          case rel => exact ⟨rfl, rfl⟩
        have y1 : ((np : Int) == 0) = false := by simp; omega
        by_cases h2 : rm = 0
        case neg =>
          have y2 : ((rm : Int) != 0) = true := by simp; omega
          go_wp2_with fail
          go_meet
          case rel => exact ⟨rfl, rfl⟩
        have y2 : ((rm : Int) != 0) = false := by rw [h2]; rfl
        have f3 : 2 ^ d < np := by omega
        clear hb
        rcases d1 with rfl | rfl | rfl | rfl | rfl
        all_goals
          first
            | (exfalso; omega)
            | (have y5 := f3
               simp at y5
               go_wp2_with fail
               go_meet
               case rel => exact ⟨by first | rfl | (simp; omega), rfl⟩)
      case rest =>
        obtain ⟨rfl, rfl⟩ := hcut
        go_wp2_with fail
        go_ret
        exact ⟨rfl, B5.out⟩
end Go.Proofs.YtiiipmcjbibgoaaDoor
