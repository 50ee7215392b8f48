/- The contract of filterPaeth of the package: it undoes the Paeth filter of a row in place, for rows of up to a million bytes and steps from 1 to 8. -/
import Derived.Test.YtkiibhpmembcgaaDoorGBase
import Derived.Test.YtkiibhpmembcgaaDoorGMath
namespace Go.Proofs.YtkiibhpmembcgaaDoor
open Go.ChangeShapes Go.WideShapes Go.ChangeAt Go.RowKit Go.IntWalk

theorem and255 (z : Int) (h1 : 0 ≤ z) (h2 : z < 9223372036854775808) : bits .and .i64 z 255 = z % 256 := by
  obtain ⟨a, rfl⟩ := Int.eq_ofNat_of_zero_le h1
  show IntKind.i64.wrap ((BitVec.ofInt 64 (a : Int) &&& BitVec.ofInt 64 255).toNat : Int) = _
  have e : (BitVec.ofInt 64 255).toNat = 255 := by decide
  have e2 : a &&& 255 = a % 256 := Nat.and_two_pow_sub_one_eq_mod a 8
  rw [BitVec.toNat_and, ofInt_u64 a (by omega), e, e2]
  simp [IntKind.wrap, IntKind.bits, IntKind.signed]
  omega
theorem aval_next (l : List UInt8) (step t : Nat) : aval l step (t + step) = l.getD t 0 := by
  unfold aval; rw [if_pos (by omega), Nat.add_sub_cancel]
theorem aval_first (l : List UInt8) {step i : Nat} (h : i < step) : aval l step i = 0 := by
  unfold aval; rw [if_neg (by omega)]
/-- The byte that the loop comes to. -/
theorem paeth_byte {row above out : List UInt8} {step t : Nat} {x a b c : UInt8} {p : Int} (h : IsUnf 4 row above step out) (ht : t < row.length) (hx : row.getD t 0 = x) (ha : aval out step t = a) (hb : above.getD t 0 = b)
    (hc : aval above step t = c) (hp : paethI a.toNat b.toNat c.toNat = p) : (p + (x.toNat : Int)) % 256 = ((out.getD t 0).toNat : Int) := by
  rw [h.val t ht, hx]
  have e : ((predB 4 out above step t).toNat : Int) = p := by
    rw [predB_val]
    unfold predZ predI
    rw [ha, hb, hc, hp]
    simp
  rw [UInt8.toNat_add]
  omega
/-- What the call leaves. -/
def PaethPost (row above : List UInt8) (step : Nat) (b : Nat) (pre post : List Value) (w : World) (e : Ending) (w' : World) : Prop :=
  e = .returned (.tuple #[]) ∧ ∃ out, IsUnf 4 row above step out ∧ Seg w' b pre post out ∧ Only b w w'

set_option maxHeartbeats 1600000 in
theorem filterPaeth_any (b o n cap c po pn pcap step : Nat) (pre post : List Value) (row above : List UInt8) (w : World) (hseg : Seg w b pre post row) (ho : Hid (pre.length = o)) (hn : Hid (row.length = n))
    (hab : RB w (some ⟨c, po, none⟩) above) (hal : Hid (above.length = pn)) (hle : n ≤ pn) (hne : c ≠ b) (hs1 : 1 ≤ step) (hs2 : step ≤ 8) (hm : n ≤ 1000000) :
    Calls Tryd.prog 40 #[.slice (some ⟨b, o, none⟩) n cap, .slice (some ⟨c, po, none⟩) pn pcap, .int .i64 (step : Int)] w (PaethPost row above step b pre post w) := by
  obtain ⟨out, hout⟩ := unf_exists 4 row above step hs1
  have HO := Lib.hid hout
  have hol : Hid (out.length = n) := Lib.hid (hout.len.trans hn.out)
  clear hout
  go_enter Tryd.func40, Tryd.ntmps40
  go_wp2_with fail
  go_loopw [12] (fun i wr => ∃ k : Nat, k ≤ step ∧ i = .int .i64 k ∧ Seg wr b pre post (mixL (passed step k 0) out row n) ∧ Only b w wr) (fun i _ => step - (intOf i).toNat)
  case atStart => exact ⟨0, Nat.zero_le _, rfl, by rw [mixL_none hn.out (fun p _ => passed_none step p)]; exact hseg, Only.refl _ _⟩
  case round =>
    obtain ⟨k, hk, rfl, hsg, honly⟩ := hrel
    obtain ⟨wo, rfl⟩ : ∃ wo : World, wo = wr := ⟨_, rfl⟩
    by_cases hlt : k < step
    · go_wp2_with fail
      go_loopw [6, 8, 13] (fun sa sc j wr => ∃ t : Nat, j = .int .i64 t ∧ t % step = k ∧ t ≤ n + 8 ∧ sa = .int .i64 ((aval out step t).toNat : Int) ∧ sc = .int .i64 ((aval above step t).toNat : Int) ∧
          Seg wr b pre post (mixL (passed step k t) out row n) ∧ Only b w wr) (fun _ _ j _ => n + 8 - (intOf j).toNat)
      case atStart =>
        refine ⟨k, rfl, Nat.mod_eq_of_lt hlt, by omega, by rw [aval_first out hlt]; rfl, by rw [aval_first above hlt]; rfl, ?_, honly⟩
        have e : mixL (passed step k 0) out row n = mixL (passed step k k) out row n := mixL_congr fun p _ => (passed_start hs1 hs2 hlt).symm
        rw [← e]
        exact hsg
      case round =>
        obtain ⟨t, rfl, hmod, htn, rfl, rfl, hsg2, honly2⟩ := hrel
        have HMOD := Lib.hid hmod
        clear hmod
        have S1 := hsg2
        by_cases hjn : t < n
        · have hmx : t < (mixL (passed step k t) out row n).length := by rw [mixL_length]; exact hjn
          obtain ⟨x, HX, hx⟩ := hsg2.at ho.out t hmx
          obtain ⟨y, HY, hy⟩ := (hab.only honly2 hne).at t (by have := hal.out; omega)
          obtain ⟨A, hA⟩ : ∃ A, A = aval out step t := ⟨_, rfl⟩
          obtain ⟨C, hC⟩ : ∃ C, C = aval above step t := ⟨_, rfl⟩
          rw [← hA, ← hC]
          have HA := Lib.hid hA
          have HC := Lib.hid hC
          clear hA hC
          have HXR : Hid (row.getD t 0 = x) := Lib.hid (by
            have h1 := HX.out
            rw [mixL_at hjn, passed_not HMOD.out] at h1
            simpa using h1)
          have HYR : Hid (above.getD t 0 = y) := Lib.hid (by have h1 := HY.out; simp [List.getD, h1])
          have hfz := hsg2.frozen (o + t)
          obtain ⟨r, hr⟩ : ∃ r, r = out.getD t 0 := ⟨_, rfl⟩
          have HR := Lib.hid hr
          clear hr
          have NX := hsg2.store ho.out hmx r
          rw [HR.out, mixL_set (d' := passed step k (t + step)) (fun p _ => passed_step hs1 hs2 HMOD.out), ← HR.out] at NX
          have OX := honly2.setCell (o + t) (.int .u8 (r.toNat : Int))
          have BY : Hid (∀ p, paethI A.toNat y.toNat C.toNat = p → (p + (x.toNat : Int)) % 256 = (r.toNat : Int)) := Lib.hid (fun p hp => by
            rw [HR.out]
            exact paeth_byte HO.out (by rw [hn.out]; exact hjn) HXR.out HA.out.symm HYR.out HC.out.symm hp)
          have rA := u8lt A
          have rC := u8lt C
          have ry := u8lt y
          have rx := u8lt x
          have rr := u8lt r
          have p1 := absI_nonneg ((y.toNat : Int) - (C.toNat : Int))
          have p2 := absI_nonneg ((A.toNat : Int) - (C.toNat : Int))
          have p3 := absI_nonneg ((y.toNat : Int) - (C.toNat : Int) + ((A.toNat : Int) - (C.toNat : Int)))
          have q1 := absI_le ((y.toNat : Int) - (C.toNat : Int)) 255 (by omega) (by omega)
          have q2 := absI_le ((A.toNat : Int) - (C.toNat : Int)) 255 (by omega) (by omega)
          have q3 := absI_le ((y.toNat : Int) - (C.toNat : Int) + ((A.toNat : Int) - (C.toNat : Int))) 510 (by omega) (by omega)
          clear hsg2 hseg hsg honly honly2 S1
          by_cases h1 : absI ((y.toNat : Int) - (C.toNat : Int)) ≤ absI ((A.toNat : Int) - (C.toNat : Int))
          · by_cases h2 : absI ((y.toNat : Int) - (C.toNat : Int)) ≤ absI ((y.toNat : Int) - (C.toNat : Int) + ((A.toNat : Int) - (C.toNat : Int)))
            · have e1 := and255 ((A.toNat : Int) + (x.toNat : Int)) (by omega) (by omega)
              rw [BY.out _ (paethI_a h1 h2)] at e1
              go_wp2_with (go_at_call 51; refine (abs_any _ _ (by omega) (by omega)).mono ?_; rintro e w' ⟨rfl, rfl⟩)
              go_roundw
              case rel => exact ⟨t + step, by go_num, by rw [mod_step HMOD.out], by omega, by rw [aval_next, ← HR.out], by rw [aval_next, HYR.out], NX, OX⟩
              case measure => simp [intOf]; omega
            · have h3 : ¬ absI ((A.toNat : Int) - (C.toNat : Int)) ≤ absI ((y.toNat : Int) - (C.toNat : Int) + ((A.toNat : Int) - (C.toNat : Int))) := by omega
              have e1 := and255 ((C.toNat : Int) + (x.toNat : Int)) (by omega) (by omega)
              rw [BY.out _ (paethI_c (fun h => h2 h.2) h3)] at e1
              go_wp2_with (go_at_call 51; refine (abs_any _ _ (by omega) (by omega)).mono ?_; rintro e w' ⟨rfl, rfl⟩)
              go_roundw
              case rel => exact ⟨t + step, by go_num, by rw [mod_step HMOD.out], by omega, by rw [aval_next, ← HR.out], by rw [aval_next, HYR.out], NX, OX⟩
              case measure => simp [intOf]; omega
          · by_cases h3 : absI ((A.toNat : Int) - (C.toNat : Int)) ≤ absI ((y.toNat : Int) - (C.toNat : Int) + ((A.toNat : Int) - (C.toNat : Int)))
            · have e1 := and255 ((y.toNat : Int) + (x.toNat : Int)) (by omega) (by omega)
              rw [BY.out _ (paethI_b (fun h => h1 h.1) h3)] at e1
              go_wp2_with (go_at_call 51; refine (abs_any _ _ (by omega) (by omega)).mono ?_; rintro e w' ⟨rfl, rfl⟩)
              go_roundw
              case rel => exact ⟨t + step, by go_num, by rw [mod_step HMOD.out], by omega, by rw [aval_next, ← HR.out], by rw [aval_next, HYR.out], NX, OX⟩
              case measure => simp [intOf]; omega
            · have e1 := and255 ((C.toNat : Int) + (x.toNat : Int)) (by omega) (by omega)
              rw [BY.out _ (paethI_c (fun h => h1 h.1) h3)] at e1
              go_wp2_with (go_at_call 51; refine (abs_any _ _ (by omega) (by omega)).mono ?_; rintro e w' ⟨rfl, rfl⟩)
              go_roundw
              case rel => exact ⟨t + step, by go_num, by rw [mod_step HMOD.out], by omega, by rw [aval_next, ← HR.out], by rw [aval_next, HYR.out], NX, OX⟩
              case measure => simp [intOf]; omega
        · go_wp2_with fail
          go_roundw
          case rel =>
            refine ⟨k + 1, by omega, by go_num, ?_, honly2⟩
            have e : mixL (passed step (k + 1) 0) out row n = mixL (passed step k t) out row n := mixL_congr fun p hp => (passed_end hp (by omega)).symm
            rw [e]
            exact hsg2
          case measure => simp [intOf]; omega
    · have e : k = step := by omega
      subst e
      have HS : Seg wo b pre post out := by
        rw [mixL_all hol.out (fun p _ => passed_all hs1)] at hsg
        exact hsg
      go_wp2_with fail
      go_end0
      exact ⟨rfl, out, HO.out, HS, honly⟩
end Go.Proofs.YtkiibhpmembcgaaDoor
