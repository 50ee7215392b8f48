/- The contracts of distance and Paeth of the reference: the same predictor. The contract of the reference's predicted: what a filter takes from the byte at a place. It only reads. The contract of the reference's Unfiltered. -/
import Derived.Test.YtkiibhpmembcgaaDoorGBase
import Derived.Test.YtkiibhpmembcgaaDoorGMath
import Derived.Deep.QuietTactic
import Derived.BigQuiet
import Derived.Deep.RegionLaw
namespace Go.Proofs.YtkiibhpmembcgaaDoor
open Go.ChangeShapes Go.WideShapes Go.ChangeAt Go.RowKit

theorem distance_any (a b : Int) (w : World) (h1 : -100000 ≤ a ∧ a ≤ 100000) (h2 : -100000 ≤ b ∧ b ≤ 100000) :
    Calls Tryd.prog 47 #[.int .i64 a, .int .i64 b] w fun e w' => e = .returned (.int .i64 (absI (a - b))) ∧ w = w' := by
  obtain ⟨a1, a2⟩ := h1
  obtain ⟨b1, b2⟩ := h2
  go_enter Tryd.func47, Tryd.ntmps47
  go_wp2
  all_goals (go_ret; exact ⟨ret_eq (by unfold absI; omega), rfl⟩)

theorem specPaeth_any (a b c : Int) (w : World) (ha : 0 ≤ a ∧ a ≤ 255) (hb : 0 ≤ b ∧ b ≤ 255) (hc : 0 ≤ c ∧ c ≤ 255) :
    Calls Tryd.prog 30 #[.int .i64 a, .int .i64 b, .int .i64 c] w fun e w' => e = .returned (.int .i64 (paethI a b c)) ∧ w = w' := by
  obtain ⟨ha1, ha2⟩ := ha
  obtain ⟨hb1, hb2⟩ := hb
  obtain ⟨hc1, hc2⟩ := hc
  have p1 := absI_nonneg (a + b - c - a)
  have p2 := absI_nonneg (a + b - c - b)
  have p3 := absI_nonneg (a + b - c - c)
  have q1 := absI_le (a + b - c - a) 510 (by omega) (by omega)
  have q2 := absI_le (a + b - c - b) 510 (by omega) (by omega)
  have q3 := absI_le (a + b - c - c) 510 (by omega) (by omega)
  go_enter Tryd.func30, Tryd.ntmps30
  go_wp2_with (go_at_call 47; refine (distance_any _ _ _ (by omega) (by omega)).mono ?_; rintro e w' ⟨rfl, rfl⟩)
  all_goals (go_ret; refine ⟨ret_eq ?_, rfl⟩; (have e1 : a + b - c - a = b - c := by omega); (have e2 : a + b - c - b = a - c := by omega); (have e3 : a + b - c - c = b - c + (a - c) := by omega); simp only [e1, e2, e3] at *; unfold paethI; (repeat' split) <;> omega)
end Go.Proofs.YtkiibhpmembcgaaDoor
namespace Go.Proofs.YtkiibhpmembcgaaDoor
open Go.ChangeShapes Go.WideShapes Go.ChangeAt Go.RowKit Go.IntWalk

/-- What the call leaves: the number, and some draws. -/
def Quietly (z : Int) (w : World) (e : Ending) (w' : World) : Prop := e = .returned (.int .i64 z) ∧ ∃ n, w' = w.drewN n

set_option maxHeartbeats 1600000 in
set_option maxRecDepth 100000 in
theorem predicted_any (k b o n cap c po n2 cap2 i step : Nat) (row above : List UInt8) (w : World) (hk : k ≤ 4) (hn : Hid (row.length = n)) (hr : RB w (some ⟨b, o, none⟩) row)
    (hn2 : Hid (above.length = n2)) (hab : RB w (some ⟨c, po, none⟩) above) (hi : i < n) (hi2 : i < n2) (hs1 : 1 ≤ step) (hs2 : step ≤ 8) (hm : n ≤ 9223372036854775807) :
    Calls Tryd.prog 25 #[.int .i64 (k : Int), .slice (some ⟨b, o, none⟩) n cap, .slice (some ⟨c, po, none⟩) n2 cap2, .int .i64 (i : Int), .int .i64 (step : Int)] w (Quietly (predZ k row above step i) w) := by
  obtain ⟨y, HY, hy⟩ := hab.at i (by have := hn2.out; omega)
  have ry := u8lt y
  have j0 : (0 : Int) ≤ (i : Int) := by omega
  have j1 : (i : Int) < (n2 : Int) := by omega
  by_cases hle : step ≤ i
  · obtain ⟨x, HX, hx⟩ := hr.at (i - step) (by have := hn.out; omega)
    obtain ⟨z, HZ, hz⟩ := hab.at (i - step) (by have := hn2.out; omega)
    have rx := u8lt x
    have rz := u8lt z
    have j2 : (0 : Int) ≤ (i : Int) - (step : Int) := by omega
    have j3 : (i : Int) - (step : Int) < (n : Int) := by omega
    have j4 : (i : Int) - (step : Int) < (n2 : Int) := by omega
    have HP : Hid (predZ k row above step i = predI k (x.toNat : Int) (y.toNat : Int) (z.toNat : Int)) := Lib.hid (by
      unfold predZ aval
      rw [if_pos hle, if_pos hle]
      simp only [List.getD, HX.out, HY.out, HZ.out, Option.getD_some])
    rw [HP.out]
    clear hr hab
    obtain rfl | rfl | rfl | rfl | rfl : k = 0 ∨ k = 1 ∨ k = 2 ∨ k = 3 ∨ k = 4 := by omega
    · go_enter Tryd.func25, Tryd.ntmps25
      go_wp2_with fail
      go_quiet (fail)
      go_wp2_with fail
      go_quiet (fail)
      go_wp2_with fail
      go_ret
      exact ⟨ret_eq (by simp [predI]), _, rfl⟩
    · go_enter Tryd.func25, Tryd.ntmps25
      go_wp2_with fail
      go_quiet (fail)
      go_wp2_with fail
      go_quiet (fail)
      go_wp2_with fail
      go_ret
      exact ⟨ret_eq (by simp [predI]), _, rfl⟩
    · go_enter Tryd.func25, Tryd.ntmps25
      go_wp2_with fail
      go_quiet (fail)
      go_wp2_with fail
      go_quiet (fail)
      go_wp2_with fail
      go_ret
      exact ⟨ret_eq (by simp [predI]), _, rfl⟩
    · go_enter Tryd.func25, Tryd.ntmps25
      go_wp2_with fail
      go_quiet (fail)
      go_wp2_with fail
      go_quiet (fail)
      go_wp2_with fail
      go_ret
      exact ⟨ret_eq (by simp [predI]), _, rfl⟩
    · go_enter Tryd.func25, Tryd.ntmps25
      go_wp2_with fail
      go_quiet (fail)
      go_wp2_with fail
      go_quiet (fail)
      go_wp2_with (go_at_call 30; refine (specPaeth_any _ _ _ _ ⟨by omega, by omega⟩ ⟨by omega, by omega⟩ ⟨by omega, by omega⟩).mono ?_; rintro e w' ⟨rfl, rfl⟩)
      go_ret
      exact ⟨ret_eq (by simp [predI]), _, rfl⟩
  · have HP : Hid (predZ k row above step i = predI k 0 (y.toNat : Int) 0) := Lib.hid (by
      unfold predZ aval
      rw [if_neg hle, if_neg hle]
      simp only [List.getD, HY.out, Option.getD_some]
      rfl)
    rw [HP.out]
    clear hr hab
    obtain rfl | rfl | rfl | rfl | rfl : k = 0 ∨ k = 1 ∨ k = 2 ∨ k = 3 ∨ k = 4 := by omega
    · go_enter Tryd.func25, Tryd.ntmps25
      go_wp2_with fail
      go_quiet (fail)
      go_wp2_with fail
      go_ret
      exact ⟨ret_eq (by simp [predI]), _, rfl⟩
    · go_enter Tryd.func25, Tryd.ntmps25
      go_wp2_with fail
      go_quiet (fail)
      go_wp2_with fail
      go_ret
      exact ⟨ret_eq (by simp [predI]), _, rfl⟩
    · go_enter Tryd.func25, Tryd.ntmps25
      go_wp2_with fail
      go_quiet (fail)
      go_wp2_with fail
      go_ret
      exact ⟨ret_eq (by simp [predI]), _, rfl⟩
    · go_enter Tryd.func25, Tryd.ntmps25
      go_wp2_with fail
      go_quiet (fail)
      go_wp2_with fail
      go_ret
      exact ⟨ret_eq (by simp [predI]), _, rfl⟩
    · go_enter Tryd.func25, Tryd.ntmps25
      go_wp2_with fail
      go_quiet (fail)
      go_wp2_with (go_at_call 30; refine (specPaeth_any _ _ _ _ ⟨by omega, by omega⟩ ⟨by omega, by omega⟩ ⟨by omega, by omega⟩).mono ?_; rintro e w' ⟨rfl, rfl⟩)
      go_ret
      exact ⟨ret_eq (by simp [predI]), _, rfl⟩
end Go.Proofs.YtkiibhpmembcgaaDoor
namespace Go.Proofs.YtkiibhpmembcgaaDoor
open Go.ChangeShapes Go.WideShapes Go.ChangeAt Go.RowKit Go.IntWalk

theorem bel_drewN {B : Nat} {a w : World} (h : Below B a w) (n : Nat) : Below B a (w.drewN n) := ⟨h.os, h.tape, h.output, h.size, h.block⟩
theorem RB.drewN {w : World} {ad : Option Addr} {l : List UInt8} (h : RB w ad l) (n : Nat) : RB (w.drewN n) ad l := h
theorem OwnB.drewN {w : World} {base : Nat} {v : Value} {l : List UInt8} (h : OwnB w base v l) (n : Nat) : OwnB (w.drewN n) base v l := h
def UnfPost2 (k : Nat) (row above : List UInt8) (step : Nat) (w : World) (e : Ending) (w' : World) : Prop :=
  ∃ v out, e = .returned v ∧ IsUnf k row above step out ∧ OwnB w' w.heap.size v out ∧ Below w.heap.size w w'
theorem predZ_mix {k step t n : Nat} {out row above : List UInt8} (ht : t ≤ n) (hs : 1 ≤ step) : predB k (mixL (fun p => decide (p < t)) out row n) above step t = predB k out above step t := by
  refine predB_congr fun hle => ?_
  simp only [List.getD]
  rw [mixL_at (by omega)]
  have e : t - step < t := by omega
  simp [e, List.getD]

set_option maxHeartbeats 1600000 in
theorem specUnfiltered_any (k n cap n2 cap2 step : Nat) (ad ad2 : Option Addr) (row above : List UInt8) (w : World) (hk : k ≤ 4) (hn : Hid (row.length = n)) (hr : RB w ad row) (hnil : ad = none → n = 0 ∧ cap = 0)
    (hn2 : Hid (above.length = n2)) (hab : RB w ad2 above) (hle : n ≤ n2) (hs1 : 1 ≤ step) (hs2 : step ≤ 8) (hm : n ≤ 1000000) :
    Calls Tryd.prog 15 #[.int .i64 (k : Int), .slice ad n cap, .slice ad2 n2 cap2, .int .i64 (step : Int)] w (UnfPost2 k row above step w) := by
  obtain ⟨out, hout⟩ := unf_exists k row above step hs1
  have HO := Lib.hid hout
  have hol : Hid (out.length = n) := Lib.hid (hout.len.trans hn.out)
  clear hout
  by_cases h0 : n = 0
  · subst h0
    have er : row = [] := List.eq_nil_of_length_eq_zero hn.out
    subst er
    go_enter Tryd.func15, Tryd.ntmps15
    go_wp2_with (at_builtin; refine wpList_append_bytes rfl (.tmp 11) (.tmp 12) rfl w.heap.size (.slice (some ⟨w.heap.size, 0, none⟩) 0 0) [] [] rfl (OwnB.empty w w.heap.size (Nat.le_refl _)) ad 0 cap rfl hn.out (hr.below ((Below.refl _ _).alloc (Nat.le_refl _) _)) hnil (by simp) (by simp) ?_; intro v' w1 ho1 hg1 hb1 hnl1; clear hg1 hnl1; rw [List.nil_append] at ho1; obtain ⟨ad1, m1, cap1, rfl, hm1, -⟩ := ho1.shapeN; obtain rfl : m1 = 0 := hm1.out.symm)
    have B1 : Below w.heap.size w w1 := ((Below.refl _ _).alloc (Nat.le_refl _) _).trans hb1
    refine wp_loop_rounds 1 ?_
    rw [rounds_succ]
    go_wp2_with fail
    go_ret
    exact ⟨_, [], rfl, ⟨rfl, fun i hi => by simp at hi⟩, ho1, B1⟩
  · obtain ⟨c, po, rfl, -⟩ := hab (by have := hn2.out; intro e; rw [e] at this; simp at this; omega)
    have hc : c < w.heap.size := hab.lt (by have := hn2.out; intro e; rw [e] at this; simp at this; omega)
    have hne : row ≠ [] := by have := hn.out; intro e; rw [e] at this; simp at this; omega
    go_enter Tryd.func15, Tryd.ntmps15
    go_wp2_with (at_builtin; refine wpList_append_bytes rfl (.tmp 11) (.tmp 12) rfl w.heap.size (.slice (some ⟨w.heap.size, 0, none⟩) 0 0) [] row rfl (OwnB.empty w w.heap.size (Nat.le_refl _)) ad n cap rfl hn.out (hr.below ((Below.refl _ _).alloc (Nat.le_refl _) _)) hnil (by simp; omega) (by simp) ?_; intro v' w1 ho1 hg1 hb1 hnl1; clear hg1 hnl1; rw [List.nil_append] at ho1; obtain ⟨g, m1, cap1, post, rfl, hm1, hgb, hmc, hcm, hseg, hback⟩ := ho1.seg hne; obtain rfl : n = m1 := by (have h1 := hm1.out; have h2 := hn.out; omega))
    have B1 : Below w.heap.size w w1 := ((Below.refl _ _).alloc (Nat.le_refl _) _).trans hb1
    have hab1 := hab.below B1
    clear hr hab ho1 hb1
    go_loopw [16] (fun i wr => ∃ t : Nat, t ≤ n ∧ i = .int .i64 t ∧ Seg wr g [] post (mixL (fun p => decide (p < t)) out row n) ∧ Only g w1 wr) (fun i _ => n - (intOf i).toNat)
    case atStart => exact ⟨0, Nat.zero_le _, rfl, by rw [mixL_none hn.out (fun p _ => by simp)]; exact hseg, Only.refl _ _⟩
    case round =>
      obtain ⟨t, ht, rfl, hsg, honly⟩ := hrel
      by_cases hlt : t < n
      · obtain ⟨ml, hml⟩ : ∃ ml, ml = mixL (fun p => decide (p < t)) out row n := ⟨_, rfl⟩
        have HM := Lib.hid hml
        rw [← hml] at hsg
        have hmx : t < ml.length := by rw [hml, mixL_length]; exact hlt
        have HMN : Hid (ml.length = n) := Lib.hid (by rw [hml, mixL_length])
        clear hml
        have hab2 := hab1.only honly (by omega)
        obtain ⟨x, HX, hx⟩ := hsg.at rfl t hmx
        rw [List.length_nil, Nat.zero_add] at hx
        have HR1 := Lib.hid (hsg.rb rfl)
        have HR2 := Lib.hid hab2
        have rx := u8lt x
        obtain ⟨p, hp⟩ : ∃ p, p = predB k out above step t := ⟨_, rfl⟩
        have rp := u8lt p
        have hpz : predZ k ml above step t = (p.toNat : Int) := by
          rw [← predB_val, HM.out, predZ_mix ht hs1, hp]
        obtain ⟨r, hr⟩ : ∃ r, r = out.getD t 0 := ⟨_, rfl⟩
        have hxr : row.getD t 0 = x := by
          have h1 := HX.out
          rw [HM.out, mixL_at hlt] at h1
          simpa using h1
        have hrv : r = x + p := by rw [hr, HO.out.val t (by rw [hn.out]; exact hlt), hxr, hp]
        have e0 : IntKind.u8.wrap (p.toNat : Int) = (p.toNat : Int) := u8_in _ ⟨by omega, by omega⟩
        have e1 : IntKind.u8.wrap ((x.toNat : Int) + (p.toNat : Int)) = (r.toNat : Int) := by rw [IntKind.wrap_u8', hrv, UInt8.toNat_add]; omega
        have NX := hsg.store rfl hmx r
        rw [HM.out, hr, mixL_set (d' := fun p => decide (p < t + 1)) (fun p _ => by rw [Bool.eq_iff_iff]; simp; omega), ← hr, List.length_nil, Nat.zero_add] at NX
        have OX := honly.setCell t (.int .u8 (r.toNat : Int))
        have hfz := hsg.frozen t
        have HX2 := Lib.hid NX
        have HX3 := Lib.hid OX
        have i0 : (0 : Int) ≤ (t : Int) := by omega
        have i1 : (t : Int) < (n : Int) := by omega
        clear hr hrv hxr hp NX OX hab2 hab1 hsg honly hseg
        go_wp2_with fail
        go_region_law (first | (go_simp; go_at_call 25; refine (predicted_any k g 0 n cap1 c po n2 cap2 t step ml above _ hk HMN (by exact HR1.out) hn2 (by exact HR2.out) hlt (by omega) hs1 hs2 (by omega)).mono ?_; rintro e w2 ⟨rfl, nd, rfl⟩))
        all_goals
          clear hpz e0 e1 hx
          go_wp2_with fail
          go_roundw
          case rel => exact ⟨t + 1, by omega, by go_num, HX2.out, ⟨HX3.out.os, HX3.out.tape, HX3.out.output, HX3.out.size, HX3.out.block⟩⟩
          case measure => simp [intOf]; omega
      · have hsg2 : Seg wr g [] post out := by
          rw [mixL_all hol.out (fun p hp => by simp; omega)] at hsg
          exact hsg
        go_wp2_with fail
        go_ret
        exact ⟨_, out, rfl, HO.out, hback wr out HO.out.len hsg2, B1.trans (honly.below hgb)⟩
end Go.Proofs.YtkiibhpmembcgaaDoor
