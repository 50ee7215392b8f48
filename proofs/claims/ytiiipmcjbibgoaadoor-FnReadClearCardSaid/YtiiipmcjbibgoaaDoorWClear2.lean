/- The walk through the law FnReadClear. -/
import Derived.Test.YtiiipmcjbibgoaaDoorWClear
namespace Go.Proofs.YtiiipmcjbibgoaaDoor
open Go.ChangeShapes Go.WideShapes Go.ChangeAt Go.RowKit Go.IntWalk Go.Deep

set_option maxHeartbeats 6400000 in
set_option maxRecDepth 100000 in
theorem clrLaw (m pcap n cap bx : Nat) (hbx : bx < 4294967296) (ap ad : Option Addr) (S0 : List Sh) (l : List UInt8) (w : World) (hS : Hid (InS w ap m pcap S0)) (hl : Hid (l.length = n)) (hr : RB w ad l) (hnil : ad = none → n = 0 ∧ cap = 0) (hmax : n ≤ 9223372036854775807) (ht : Tab w) :
    Calls Tryd.prog 5 #[.slice ap m pcap, .slice ad n cap, .int .u32 (bx : Int)] w (TrueEnd w) := by
  have kc := fun (w : World) (C : Array Value) (n c : Nat) => Lib.run_convert_bytes_const (P := Tryd.prog) w 22 5 C n c Tryd.underlying22 Tryd.underlying5
  have hm63 : m ≤ 9223372036854775807 := Nat.le_trans hS.out.hcap hS.out.most
  by_cases hbad : 2147483647 < m ∨ 2147483647 < n ∨ n = 0 ∨ m < n ∨ 256 < m
  · have hcase : decide ((2147483647 : Int) < (m : Int)) = true ∨
        (decide ((2147483647 : Int) < (m : Int)) = false ∧ decide ((2147483647 : Int) < (n : Int)) = true) ∨
        (decide ((2147483647 : Int) < (m : Int)) = false ∧ decide ((2147483647 : Int) < (n : Int)) = false ∧ ((n : Int) == 0) = true) ∨
        (decide ((2147483647 : Int) < (m : Int)) = false ∧ decide ((2147483647 : Int) < (n : Int)) = false ∧ ((n : Int) == 0) = false ∧ decide (m < n) = true) ∨
        (decide ((2147483647 : Int) < (m : Int)) = false ∧ decide ((2147483647 : Int) < (n : Int)) = false ∧ ((n : Int) == 0) = false ∧ decide (m < n) = false ∧ decide ((256 : Int) < (m : Int)) = true) := by
      by_cases h1 : 2147483647 < m
      · exact .inl (decide_eq_true (by omega))
      by_cases h2 : 2147483647 < n
      · exact .inr (.inl ⟨decide_eq_false (by omega), decide_eq_true (by omega)⟩)
      by_cases h3 : n = 0
      · exact .inr (.inr (.inl ⟨decide_eq_false (by omega), decide_eq_false (by omega), by rw [h3]; rfl⟩))
      by_cases h4 : m < n
      · exact .inr (.inr (.inr (.inl ⟨decide_eq_false (by omega), decide_eq_false (by omega), by simp; omega, decide_eq_true h4⟩)))
      · exact .inr (.inr (.inr (.inr ⟨decide_eq_false (by omega), decide_eq_false (by omega), by simp; omega, decide_eq_false h4, decide_eq_true (by omega)⟩)))
    clear hbad hbx hmax hm63
    rcases hcase with q1 | ⟨q1, q2⟩ | ⟨q1, q2, q3⟩ | ⟨q1, q2, q3, q4⟩ | ⟨q1, q2, q3, q4, q5⟩
    all_goals
      go_enter Tryd.func5, Tryd.ntmps5
      go_wp2_with fail
      go_ret
      exact ⟨rfl, Below.refl _ _⟩
  have q1 : decide ((2147483647 : Int) < (m : Int)) = false := decide_eq_false (by omega)
  have q2 : decide ((2147483647 : Int) < (n : Int)) = false := decide_eq_false (by omega)
  have q3 : ((n : Int) == 0) = false := by simp; omega
  have q4 : decide (m < n) = false := decide_eq_false (by omega)
  have q5 : decide ((256 : Int) < (m : Int)) = false := decide_eq_false (by omega)
  have hn0 : 0 < n := by omega
  have hnm : n ≤ m := by omega
  have hm256 : m ≤ 256 := by omega
  have hSl : Hid (S0.length = m) := hS.out.hlen
  obtain ⟨pb, po, rfl, hpc⟩ := hS.out.rd (by intro e; have := hSl.out; rw [e] at this; simp at this; omega)
  have hpb : pb < w.heap.size := by
    have e : (shAll S0)[0]? = some ((shAll S0)[0]'(by rw [shAll_len, hSl.out]; omega)) := List.getElem?_eq_getElem _
    exact World.block_lt_of_cell? w _ (hpc 0 _ e)
  have HPC := Lib.hid hpc
  have HPB := Lib.hid hpb
  clear hbad hpc hpb hmax hm63
  go_enter Tryd.func5, Tryd.ntmps5
  go_upto_region 7 with fail
  clear q1 q2 q3 q4 q5
  have h0 : (w.alloc (.cells #[] 29)).ownsRow w.heap.size 29 4 (.slice (some ⟨w.heap.size, 0, none⟩) 0 0) 0 (shAll (opq (S0.take 0))) := World.ownsRow_lit w #[] 0 (Nat.le_refl _) (by unfold maxLen; omega) rfl
  have hb1 : Below w.heap.size w (w.alloc (.cells #[] 29)) := (Below.refl _ _).alloc (Nat.le_refl _) _
  have HB1 := Lib.hid hb1
  have H0 := Lib.hid h0
  clear hb1 h0
  go_loopw [7, 43] (fun v i wr => ∃ t : Nat, t ≤ m ∧ i = .int .i64 (t : Int) ∧ wr.ownsRow w.heap.size 29 4 v t (shAll (opq (S0.take t))) ∧ Below w.heap.size w wr) (fun _ i _ => m - (intOf i).toNat)
  case atStart => exact ⟨0, Nat.zero_le _, rfl, H0.out, HB1.out⟩
  case round =>
    obtain ⟨t, ht1, rfl, hown, hbel⟩ := hrel
    clear H0 HB1
    by_cases hlt : t < m
    · have i0 : (0 : Int) ≤ (t : Int) := by omega
      have i1 : (t : Int) < (m : Int) := by omega
      have w3 : IntKind.i64.wrap (t : Int) = (t : Int) := i64_in _ ⟨by omega, by omega⟩
      obtain ⟨sh, hsh⟩ : ∃ s, S0[t]? = some s := ⟨_, List.getElem?_eq_getElem (by rw [hSl.out]; exact hlt)⟩
      have hC : ∀ j u, j < 4 → (shC sh)[j]? = some u → wr.cell? ⟨pb, po + t * 4 + j, none⟩ = some u := fun j u hj hu => by
        refine (World.cell?_of_block (w := w) (hbel.block pb HPB.out)).trans ?_
        rw [Nat.mul_comm, Nat.add_assoc]
        exact HPC.out _ _ ((shAll_at _ t _ hsh j hj).trans hu)
      have g0 := hC 0 _ (by omega) rfl
      have g1 := hC 1 _ (by omega) rfl
      have g2 := hC 2 _ (by omega) rfl
      have g3 := hC 3 _ (by omega) rfl
      rw [Nat.add_zero] at g0
      have NX := Lib.hid (opq_next S0 t sh hsh)
      have HO := Lib.hid hown
      have HBEL := Lib.hid hbel
      have hbw : Below wr.heap.size wr ((wr.alloc (.cells #[.int .u8 (sh.r.toNat : Int), .int .u8 (sh.g.toNat : Int), .int .u8 (sh.b.toNat : Int), .int .u8 (sh.a.toNat : Int)] 29)).alloc (.cells #[.int .u8 (sh.r.toNat : Int), .int .u8 (sh.g.toNat : Int), .int .u8 (sh.b.toNat : Int), .int .u8 255] 29)) := ((Below.refl _ _).alloc (Nat.le_refl _) _).alloc (by rw [size_alloc]; omega) _
      have HBW := Lib.hid hbw
      clear hC hsh hown hbel hbw
      go_wp2_with (at_builtin; refine wpList_append_shade rfl (.tmp 47) (.tmp 55) rfl w.heap.size _ t (shAll (opq (S0.take t))) { sh with a := 255 } rfl (ownsRow_below HO.out HBW.out) _ 1 rfl (shade_at (wr.alloc _) { sh with a := 255 } _ _ (by simp)) (by omega) (by rw [size_alloc, size_alloc]; have := HBEL.out.size; omega) ?_; intro v2 w2 ho2 hb2)
      go_round
      case rel => exact ⟨t + 1, by omega, by go_num, by rw [NX.out]; exact ho2, (HBEL.out.trans (HBW.out.mono HBEL.out.size)).trans hb2⟩
      case measure => simp [intOf]; omega
    · obtain rfl : m = t := by omega
      rw [List.take_of_length_le (Nat.le_of_eq hSl.out)] at hown
      obtain ⟨g, gcap, rfl, hg, hcells⟩ := shades_shape hown (by omega)
      obtain ⟨S, hSS⟩ : ∃ S, S = opq S0 := ⟨_, rfl⟩
      rw [← hSS] at hcells
      have HSS := Lib.hid hSS
      have hSm : Hid (S.length = m) := Lib.hid (by rw [hSS, opq_length]; exact hSl.out)
      have B0 := Lib.hid hbel
      have hr0 := hr.below (hbel.mono (Nat.le_refl _))
      have ht0 := ht.below (hbel.mono (Nat.le_refl _))
      obtain ⟨w0, rfl⟩ : ∃ q, q = wr := ⟨_, rfl⟩
      have HCE := Lib.hid hcells
      have HG := Lib.hid hg
      clear hown hbel hcells hSS hg ht1 hlt hr ht
      have hrn := RB.litF w0 trnsName 5 (4, 5)
      have hr1 := hr0.below ((Below.refl _ _).alloc (Nat.le_refl _) (.cells (cellsB trnsName).toArray 5 (4, 5)))
      go_wp2_with (at_builtin; refine wpList_append_name rfl (.tmp 62) (.tmp 63) rfl w0.heap.size trnsName l rfl rfl hrn ad n cap rfl hl.out hr1 (by omega) ?_; intro a2 c2 w2 hr2 hb2)
      have B2 : Hid (Below w0.heap.size w0 w2) := Lib.hid (((Below.refl _ _).alloc (Nat.le_refl _) _).trans (hb2.mono (by rw [size_alloc]; omega)))
      have B3 : Hid (Below w.heap.size w w2) := Lib.hid (B0.out.trans (B2.out.mono B0.out.size))
      have hm2 : Hid ((trnsName ++ l).length = n + 4) := Lib.hid (by rw [List.length_append, hl.out]; show 4 + n = n + 4; omega)
      have ht2 := ht0.below B2.out
      have hr3 := hr0.below B2.out
      have HCE2 : Hid (∀ j u, (shAll S)[j]? = some u → w2.cell? ⟨g, j, none⟩ = some u) := Lib.hid fun j u hj => (World.cell?_of_block (w := w0) (B2.out.block g HG.out)).trans (HCE.out j u hj)
      have HG2 : Hid (g < w2.heap.size) := Lib.hid (Nat.lt_of_lt_of_le HG.out B2.out.size)
      have exx := u32_xor_nat (crcOf (trnsName ++ l)) bx (crcOf_lt _) hbx
      obtain ⟨C, hC⟩ : ∃ C, C = crcOf (trnsName ++ l) ^^^ bx := ⟨_, rfl⟩
      have hClt : C < 4294967296 := by rw [hC]; exact Nat.xor_lt_two_pow (n := 32) (crcOf_lt _) hbx
      have hok : C = crcOf (trnsName ++ l) ↔ bx = 0 := by rw [hC]; exact xor_same _ _
      rw [← hC] at exx
      have HOK := Lib.hid hok
      clear hb2 hrn hr1 hC hok hr0 ht0 HCE HG
      go_wp2_with fail
      refine (specCrc_any a2 (n + 4) c2 (trnsName ++ l) hm2 w2 (by omega) hr2).mono ?_
      rintro e w3 ⟨rfl, rfl⟩
      go_wp2_with fail
      refine (implReadClear_any ad cap n C g m gcap S l w2 hl hr3 hnil ht2 hn0 hnm hm256 hClt hSm HCE2 HG2.out).mono ?_
      rintro e w5 ⟨hb5, hend⟩
      have B5 : Hid (Below w.heap.size w w5) := Lib.hid (B3.out.trans (hb5.mono B3.out.size))
      have hr5 := hr3.below hb5
      have HCE5 : Hid (∀ j u, (shAll S)[j]? = some u → w5.cell? ⟨g, j, none⟩ = some u) := Lib.hid fun j u hj => (World.cell?_of_block (w := w2) (hb5.block g HG2.out)).trans (HCE2.out j u hj)
      have HG5 : Hid (g < w5.heap.size) := Lib.hid (Nat.lt_of_lt_of_le HG2.out hb5.size)
      clear hb5 hr2 hr3 ht2 exx hClt kc HCE2 HG2
      rcases hend with ⟨hy, v0, v1, rfl, hown⟩ | ⟨hno, rfl⟩
      · have hb0 : bx = 0 := HOK.out.1 hy
        subst hb0
        obtain ⟨q, qcap, rfl, hq, hqc⟩ := shades_shape hown (by omega)
        have HQ := Lib.hid hq
        have HQC := Lib.hid hqc
        clear hy hown hq hqc
        go_upto_region 17 with fail
        obtain ⟨dbk, dof, rfl, hdc⟩ : ∃ db dof, ad = some ⟨db, dof, none⟩ ∧ ∀ j, j < l.length → w5.cell? ⟨db, dof + j, none⟩ = some (.int .u8 ((l.getD j 0).toNat : Int)) := hr5 (by intro e; have := hl.out; rw [e] at this; simp at this; omega)
        have hdl : dbk < w5.heap.size := World.block_lt_of_cell? w5 _ (hdc 0 (by rw [hl.out]; exact hn0))
        have HDC := Lib.hid hdc
        have HDL := Lib.hid hdl
        clear hr5 hdc hdl
        go_loopw [88] (fun i wr => ∃ t : Nat, t ≤ m ∧ i = .int .i64 (t : Int) ∧ Below w5.heap.size w5 wr) (fun i _ => m - (intOf i).toNat)
        case atStart => exact ⟨0, Nat.zero_le _, rfl, Below.refl _ _⟩
        case round =>
          obtain ⟨t, ht, rfl, hbel⟩ := hrel
          by_cases hlt : t < m
          · have i0 : (0 : Int) ≤ (t : Int) := by omega
            have i1 : (t : Int) < (m : Int) := by omega
            have w3 : IntKind.i64.wrap (t : Int) = (t : Int) := i64_in _ ⟨by omega, by omega⟩
            obtain ⟨sh, hsh⟩ : ∃ s, S[t]? = some s := ⟨_, List.getElem?_eq_getElem (by rw [hSm.out]; exact hlt)⟩
            have hC : ∀ j u, j < 4 → (shC sh)[j]? = some u → wr.cell? ⟨g, t * 4 + j, none⟩ = some u := fun j u hj hu => by
              refine (World.cell?_of_block (w := w5) (hbel.block g HG5.out)).trans ?_
              rw [Nat.mul_comm]
              exact HCE5.out _ _ ((shAll_at _ t _ hsh j hj).trans hu)
            have g0 := hC 0 _ (by omega) rfl
            have g1 := hC 1 _ (by omega) rfl
            have g2 := hC 2 _ (by omega) rfl
            have g3 := hC 3 _ (by omega) rfl
            rw [Nat.add_zero] at g0
            have hcl := clS_at S l n t (by rw [hSm.out]; exact hlt)
            have hgd : S.getD t Sh.no = sh := by simp [List.getD, hsh]
            rw [hgd] at hcl
            have hne := neq_shade
            have hg9 : g < wr.heap.size := Nat.lt_of_lt_of_le HG5.out hbel.size
            have hd9 : dbk < wr.heap.size := Nat.lt_of_lt_of_le HDL.out hbel.size
            have HBEL := Lib.hid hbel
            by_cases htn : t < n
            · rw [if_pos htn] at hcl
              have i2 : (t : Int) < (n : Int) := by omega
              have i3 : decide (t < n) = true := decide_eq_true htn
              have hD : ∀ j u, j < 4 → (shC { sh with a := l.getD t 0 })[j]? = some u → wr.cell? ⟨q, t * 4 + j, none⟩ = some u := fun j u hj hu => by
                refine (World.cell?_of_block (w := w5) (hbel.block q HQ.out)).trans ?_
                rw [Nat.mul_comm]
                exact HQC.out _ _ ((shAll_at _ t _ hcl j hj).trans hu)
              have d0 := hD 0 _ (by omega) rfl
              have d1 := hD 1 _ (by omega) rfl
              have d2 := hD 2 _ (by omega) rfl
              have d3 := hD 3 _ (by omega) rfl
              rw [Nat.add_zero] at d0
              have c0 : wr.cell? ⟨dbk, dof + t, none⟩ = some (.int .u8 ((l.getD t 0).toNat : Int)) := (World.cell?_of_block (w := w5) (hbel.block dbk HDL.out)).trans (HDC.out t (by rw [hl.out]; exact htn))
              obtain ⟨al, hal⟩ : ∃ al, al = l.getD t 0 := ⟨_, rfl⟩
              simp only [← hal] at d0 d1 d2 d3 c0
              clear hC hD hsh hcl hgd hbel hal
              go_wp2_with fail
              go_round
              case rel => exact ⟨t + 1, by omega, by go_num, HBEL.out.trans ((((Below.refl _ _).alloc (Nat.le_refl _) _).alloc (by rw [size_alloc]; omega) _).mono HBEL.out.size)⟩
              case measure => simp [intOf]; omega
            · rw [if_neg htn] at hcl
              have i3 : decide (t < n) = false := decide_eq_false htn
              have hD : ∀ j u, j < 4 → (shC sh)[j]? = some u → wr.cell? ⟨q, t * 4 + j, none⟩ = some u := fun j u hj hu => by
                refine (World.cell?_of_block (w := w5) (hbel.block q HQ.out)).trans ?_
                rw [Nat.mul_comm]
                exact HQC.out _ _ ((shAll_at _ t _ hcl j hj).trans hu)
              have d0 := hD 0 _ (by omega) rfl
              have d1 := hD 1 _ (by omega) rfl
              have d2 := hD 2 _ (by omega) rfl
              have d3 := hD 3 _ (by omega) rfl
              rw [Nat.add_zero] at d0
              clear hC hD hsh hcl hgd hbel
              go_wp2_with fail
              go_round
              case rel => exact ⟨t + 1, by omega, by go_num, HBEL.out.trans ((((Below.refl _ _).alloc (Nat.le_refl _) _).alloc (by rw [size_alloc]; omega) _).mono HBEL.out.size)⟩
              case measure => simp [intOf]; omega
          · obtain rfl : m = t := by omega
            have B9 : Hid (Below w.heap.size w wr) := Lib.hid (B5.out.trans (hbel.mono B5.out.size))
            clear hbel
            go_wp2_with fail
            go_ret
            exact ⟨rfl, B9.out⟩
      · have hb0 : bx ≠ 0 := fun h => hno (HOK.out.2 h)
        have z0 : ((bx : Int) != 0) = true := by simp; omega
        clear hno hb0
        go_wp2_with fail
        go_ret
        exact ⟨rfl, B5.out⟩
end Go.Proofs.YtiiipmcjbibgoaaDoor
