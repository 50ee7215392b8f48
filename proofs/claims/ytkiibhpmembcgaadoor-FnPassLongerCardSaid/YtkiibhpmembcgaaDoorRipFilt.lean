/- The filters of readImagePass: the block of the row turns into the row that stands under the filter. Printed by gen/ripfilt.py. -/
import Derived.Test.YtkiibhpmembcgaaDoorRipCode
import Derived.Test.YtkiibhpmembcgaaDoorGMath
import Derived.Test.YtkiibhpmembcgaaDoorGRead
import Derived.Test.YtkiibhpmembcgaaDoorFilterPaeth
import Derived.StillTailTactics
import Derived.Deep.QuietTactic
import Derived.BigQuiet
import Derived.Deep.DeepCutAuto
import Derived.Deep.CutBlock
import Derived.LoopTactic
import Derived.Outline
namespace Go.Proofs.YtkiibhpmembcgaaDoor
open Go.ChangeShapes Go.WideShapes Go.ChangeAt Go.RowKit Go.IntWalk

theorem f_add {k st t : Nat} {row above out : List UInt8} (h : IsUnf k row above st out) (ht : t < row.length) : (((row.getD t 0).toNat : Int) + predZ k out above st t) % 256 = ((out.getD t 0).toNat : Int) := by
  rw [h.val t ht, UInt8.toNat_add, ← predB_val]
  omega
theorem z_sub {st t : Nat} (out above : List UInt8) (h : st ≤ t) : predZ 1 out above st t = ((out.getD (t - st) 0).toNat : Int) := by
  simp [predZ, predI, aval, h]
theorem z_sub0 {st t : Nat} (out above : List UInt8) (h : t < st) : predZ 1 out above st t = 0 := by
  have : ¬ st ≤ t := by omega
  simp [predZ, predI, aval, this]
theorem z_up (st t : Nat) (out above : List UInt8) : predZ 2 out above st t = ((above.getD t 0).toNat : Int) := by
  simp [predZ, predI]
theorem z_avg0 {st t : Nat} (out above : List UInt8) (h : t < st) : predZ 3 out above st t = ((above.getD t 0).toNat : Int) / 2 := by
  have : ¬ st ≤ t := by omega
  simp [predZ, predI, aval, this]
theorem z_avg {st t : Nat} (out above : List UInt8) (h : st ≤ t) : predZ 3 out above st t = (((out.getD (t - st) 0).toNat : Int) + ((above.getD t 0).toNat : Int)) / 2 := by
  simp [predZ, predI, aval, h]
theorem z_none (st t : Nat) (out above : List UInt8) : predZ 0 out above st t = 0 := by
  simp [predZ, predI]
theorem unf_none {row above : List UInt8} {st : Nat} (hs : 1 ≤ st) : unf 0 row above st = row := by
  refine (unf_is 0 row above st hs).unique hs ⟨rfl, fun i hi => ?_⟩
  have := predB_val 0 row above st i
  rw [z_none] at this
  have e : predB 0 row above st i = 0 := by apply UInt8.toNat_inj.1; simp; omega
  rw [e]
  simp
/-- Two cells hold two values. -/
structure TwoAt (p q : Addr) (u v : Value) (w : World) : Prop where
  one : w.cell? p = some u
  two : w.cell? q = some v
structure ThreeAt (p q r : Addr) (u v x : Value) (w : World) : Prop where
  one : w.cell? p = some u
  two : w.cell? q = some v
  three : w.cell? r = some x
/-- The first st bytes under Sub are the row's. -/
theorem sub_start {row above out : List UInt8} {st n : Nat} (h : IsUnf 1 row above st out) (hn : row.length = n) : mixL (fun p => decide (p < st)) out row n = row := by
  have : mixL (fun p => decide (p < st)) out row n = mixL (fun _ => false) out row n := by
    unfold mixL
    apply List.map_congr_left
    intro p hp
    simp only [List.mem_range] at hp
    by_cases hlt : p < st
    · have h1 := f_add h (by omega : p < row.length)
      rw [z_sub0 _ _ hlt] at h1
      have h2 := (row.getD p 0).toNat_lt
      simp only [hlt, decide_true, if_true, Bool.false_eq_true, if_false]
      apply UInt8.toNat_inj.1
      omega
    · simp [hlt]
  rw [this, mixL_none hn (fun _ _ => rfl)]
theorem mix_next {out row : List UInt8} {n t : Nat} : (mixL (fun p => decide (p < t)) out row n).set t (out.getD t 0) = mixL (fun p => decide (p < t + 1)) out row n :=
  mixL_set fun p _ => by rw [Bool.eq_iff_iff]; simp; omega
theorem mix_at {out row : List UInt8} {n t i : Nat} (hi : i < n) : (mixL (fun p => decide (p < t)) out row n).getD i 0 = if i < t then out.getD i 0 else row.getD i 0 := by
  simp only [List.getD, mixL_at hi]
  by_cases h : i < t <;> simp [h]

def FOut (V : LV) (bc bp y po : Nat) (f : UInt8) (row above : List UInt8) (w0 : World) (a' : Act) (w' : World) : Prop :=
  Live V bc bp y po (.slice (some ⟨bc, 1, none⟩) V.n V.n) (.slice (some ⟨bp, 1, none⟩) V.n V.n) a' ∧ Only bc w0 w' ∧ Seg w' bc [.int .u8 (f.toNat : Int)] [] (unf f.toNat row above V.st)
/-- What the filters' walk is told. -/
structure FIn (V : LV) (bc bp y po : Nat) (f : UInt8) (row above : List UInt8) (a : Act) (w0 : World) : Prop where
  live : Live V bc bp y po (.slice (some ⟨bc, 1, none⟩) V.n V.n) (.slice (some ⟨bp, 1, none⟩) V.n V.n) a
  s355 : a.tmps.getD 355 undef = .int .u8 (f.toNat : Int)
  seg : Seg w0 bc [.int .u8 (f.toNat : Int)] [] row
  ab : RB w0 (some ⟨bp, 1, none⟩) above
  len : row.length = V.n
  len2 : above.length = V.n
  ne : bp ≠ bc
  s1 : 1 ≤ V.st
  s8 : V.st ≤ 8
  sn : V.st ≤ V.n
  most : V.n ≤ 1000
set_option maxRecDepth 1000000 in
set_option maxHeartbeats 6400000 in
theorem filt_0 (V : LV) (bc bp y po : Nat) (f : UInt8) (row above : List UInt8) (a : Act) (w0 : World) (Q : Exit → Act → World → Prop) (hf : (f.toNat : Int) = 0) (h : FIn V bc bp y po f row above a w0)
    (hQ : ∀ a' w', FOut V bc bp y po f row above w0 a' w' → Q .normal a' w') : filtB.wp Tryd.prog Q a w0 := by
  obtain ⟨hlive, h355, hseg, hab, hlen, hlen2, hne, hs1, hs8, hsn, hmost⟩ := h
  obtain ⟨b, r, i12, i13, i14, i15, i16, i17, i18, img, W, H, st, n⟩ := V
  simp only at hs1 hs8 hsn hmost hlen hlen2
  have HSEG := Lib.hid hseg
  have HAB := Lib.hid hab
  have HLEN := Lib.hid hlen
  have HLEN2 := Lib.hid hlen2
  clear hseg hab hlen hlen2
  rw [hf] at h355
  obtain ⟨g, rfl⟩ := hlive.lit355 h355
  clear hlive h355
  conv => arg 2; whnf
  go_wp2_with fail
  have hfk : f.toNat = 0 := by omega
  refine ⟨⟨rfl, rfl, rfl, rfl, rfl, rfl, rfl, rfl, rfl, rfl, rfl, rfl, rfl, rfl, rfl, rfl, rfl, rfl, rfl, rfl, rfl⟩, Only.refl _ _, ?_⟩
  simp only
  rw [hfk, unf_none hs1]
  have := HSEG.out
  rw [hf] at this
  exact this
set_option maxRecDepth 1000000 in
set_option maxHeartbeats 6400000 in
theorem filt_1 (V : LV) (bc bp y po : Nat) (f : UInt8) (row above : List UInt8) (a : Act) (w0 : World) (Q : Exit → Act → World → Prop) (hf : (f.toNat : Int) = 1) (h : FIn V bc bp y po f row above a w0)
    (hQ : ∀ a' w', FOut V bc bp y po f row above w0 a' w' → Q .normal a' w') : filtB.wp Tryd.prog Q a w0 := by
  obtain ⟨hlive, h355, hseg, hab, hlen, hlen2, hne, hs1, hs8, hsn, hmost⟩ := h
  obtain ⟨b, r, i12, i13, i14, i15, i16, i17, i18, img, W, H, st, n⟩ := V
  simp only at hs1 hs8 hsn hmost hlen hlen2
  have HSEG := Lib.hid hseg
  have HAB := Lib.hid hab
  have HLEN := Lib.hid hlen
  have HLEN2 := Lib.hid hlen2
  clear hseg hab hlen hlen2
  rw [hf] at h355
  obtain ⟨g, rfl⟩ := hlive.lit355 h355
  clear hlive h355
  conv => arg 2; whnf
  obtain ⟨out, hout⟩ : ∃ out, out = unf f.toNat row above st := ⟨_, rfl⟩
  have hfk : f.toNat = 1 := by omega
  have hun := unf_is f.toNat row above st hs1
  rw [← hout, hfk] at hun
  have HU := Lib.hid hun
  have HOUT := Lib.hid hout
  have HOL : Hid (out.length = n) := Lib.hid (hun.len.trans HLEN.out)
  have hfk' := Lib.hid hfk
  clear hun hout hfk hf
  go_upto_region 96 with fail
  go_loopw [32] (fun iv wr' => ∃ t : Nat, st ≤ t ∧ t ≤ n ∧ iv = .int .i64 (t : Int) ∧ Only bc w0 wr' ∧ Seg wr' bc [.int .u8 (f.toNat : Int)] [] (mixL (fun p => decide (p < t)) out row n)) (fun iv _ => n - (intOf iv).toNat)
  case atStart => exact ⟨st, Nat.le_refl _, hsn, rfl, Only.refl _ _, by rw [sub_start HU.out HLEN.out]; exact HSEG.out⟩
  case round =>
  obtain ⟨t, hlo, ht, rfl, hon, hsg⟩ := hrel
  by_cases hlt : t < n
  · skip
    have hlen2 := HLEN2.out
    obtain ⟨M, hM⟩ : ∃ M, M = mixL (fun p => decide (p < t)) out row n := ⟨_, rfl⟩
    rw [← hM] at hsg
    have hMl : M.length = n := by rw [hM, mixL_length]
    obtain ⟨x, hxe, hx⟩ := seg_at (o := 1) hsg rfl t (by omega)
    have hxv : x = row.getD t 0 := by rw [hxe, hM, mix_at hlt, if_neg (by omega)]
    obtain ⟨o, ho⟩ : ∃ o, o = out.getD t 0 := ⟨_, rfl⟩
    have hadd := f_add HU.out (by rw [HLEN.out]; exact hlt : t < row.length)
    rw [← hxv, ← ho] at hadd
    have hnx := hsg.store (o := 1) rfl (show t < M.length by omega) o
    rw [hM, ho, mix_next, ← ho] at hnx
    have hfz := hsg.frozen (1 + t)
    have hon2 := hon.setCell (1 + t) (.int .u8 (o.toNat : Int))
    have HNX := Lib.hid hnx
    have HON2 := Lib.hid hon2
    have lbc := hsg.lt
    have rx := u8lt x
    have ro := u8lt o
    have i0 : (0 : Int) ≤ (t : Int) := by omega
    have i1 : (t : Int) < (n : Int) := by omega
    obtain ⟨q, hq⟩ : ∃ q, q = t - st := ⟨_, rfl⟩
    have mq : (t : Int) - (st : Int) = (q : Int) := by omega
    have vq : IntKind.i64.wrap (q : Int) = (q : Int) := i64_in _ ⟨by omega, by omega⟩
    have iq0 : (0 : Int) ≤ (q : Int) := by omega
    have iq1 : (q : Int) < (n : Int) := by omega
    obtain ⟨l, hle, hl⟩ := seg_at (o := 1) hsg rfl q (by omega)
    have hlv : l = out.getD q 0 := by rw [hle, hM, mix_at (by omega), if_pos (by omega)]
    have rl := u8lt l
    have e1 : IntKind.u8.wrap ((x.toNat : Int) + (l.toNat : Int)) = (o.toNat : Int) := by
      rw [z_sub _ _ hlo, ← hq, ← hlv] at hadd
      rw [IntKind.wrap_u8']
      exact hadd
    clear hadd hxv hxe hle hlv ho hM hnx hon2 hsg hon hq
    go_upto_region 98 with fail
    refine abs_frame _ (fun A hA => ?_)
    have hsz : A.tmps.size = 1540 := by rw [hA]; kernel_rfl
    have h30 : A.tmps.getD 30 undef = (.slice (some ⟨bc, 1, none⟩) n n) := by rw [hA]; rfl
    have h32 : A.tmps.getD 32 undef = .int .i64 (t : Int) := by rw [hA]; rfl
    have h23 : A.tmps.getD 23 undef = .int .i64 (st : Int) := by rw [hA]; rfl
    have HA := Lib.hid hA
    clear hA
    have gne := @gd_ne
    have geq := @gd_eq
    refine region_still_tail 12 (by kernel_rfl) (by kernel_rfl) (fun wd hwd => ?_)
    simp only [List.take_succ_cons, List.take_zero, List.drop_succ_cons, List.drop_zero]
    have hx' := cell_drew hwd hx
    have hfz' := froz_drew hwd hfz
    have lbc' := lt_drew hwd lbc
    have hl' := cell_drew hwd hl
    have HWD := Lib.hid hwd
    clear hx hfz lbc hl hwd
    refine still_at (some 368) (v := ?_) rfl rfl ?_ ?_
    rotate_left
    · refine ⟨?_⟩
      go_simp
      first | done | with_reducible rfl
    refine still_at (some 369) (v := ?_) rfl rfl ?_ ?_
    rotate_left
    · refine ⟨?_⟩
      go_simp
      first | done | with_reducible rfl
    refine still_at (some 370) (v := ?_) rfl rfl ?_ ?_
    rotate_left
    · refine ⟨?_⟩
      go_simp
      first | done | with_reducible rfl
    refine still_at (some 371) (v := ?_) rfl rfl ?_ ?_
    rotate_left
    · refine ⟨?_⟩
      go_simp
      first | done | with_reducible rfl
    refine still_at (some 372) (v := ?_) rfl rfl ?_ ?_
    rotate_left
    · refine ⟨?_⟩
      go_simp
      first | done | with_reducible rfl
    refine still_at (some 373) (v := ?_) rfl rfl ?_ ?_
    rotate_left
    · refine ⟨?_⟩
      go_simp
      first | done | with_reducible rfl
    refine still_at (some 374) (v := ?_) rfl rfl ?_ ?_
    rotate_left
    · refine ⟨?_⟩
      go_simp
      first | done | with_reducible rfl
    refine still_at (some 375) (v := ?_) rfl rfl ?_ ?_
    rotate_left
    · refine ⟨?_⟩
      go_simp
      first | done | with_reducible rfl
    refine still_at (some 376) (v := ?_) rfl rfl ?_ ?_
    rotate_left
    · refine ⟨?_⟩
      go_simp
      first | done | with_reducible rfl
    refine still_at (some 377) (v := ?_) rfl rfl ?_ ?_
    rotate_left
    · refine ⟨?_⟩
      go_simp
      first | done | with_reducible rfl
    refine still_at (some 378) (v := ?_) rfl rfl ?_ ?_
    rotate_left
    · refine ⟨?_⟩
      go_simp
      first | done | with_reducible rfl
    refine still_at (some 379) (v := ?_) rfl rfl ?_ ?_
    rotate_left
    · refine ⟨?_⟩
      go_simp
      first | done | with_reducible rfl
    refine still_nil ?_
    refine list_skip (w' := ?_) rfl rfl ?_ ?_
    rotate_left
    · refine ⟨?_⟩
      go_simp
      first | done | with_reducible rfl
    refine list_nil ?_
    rw [HA.out, HWD.out]
    simp only [Act.put, List.setIfInBounds_toArray, List.set_cons_succ, List.set_cons_zero]
    go_wp2_with fail
    go_roundw
    case rel => exact ⟨t + 1, by omega, by omega, by go_num, HON2.out.drew, HNX.out⟩
    case measure => simp [intOf]; omega
  · obtain rfl : n = t := by omega
    go_wp2_with fail
    rw [mixL_all HOL.out (fun p hp => by simp [hp])] at hsg
    have e2 := HOUT.out
    refine ⟨⟨rfl, rfl, rfl, rfl, rfl, rfl, rfl, rfl, rfl, rfl, rfl, rfl, rfl, rfl, rfl, rfl, rfl, rfl, rfl, rfl, rfl⟩, hon, ?_⟩
    simp only
    rw [← e2]
    exact hsg
set_option maxRecDepth 1000000 in
set_option maxHeartbeats 6400000 in
theorem filt_2 (V : LV) (bc bp y po : Nat) (f : UInt8) (row above : List UInt8) (a : Act) (w0 : World) (Q : Exit → Act → World → Prop) (hf : (f.toNat : Int) = 2) (h : FIn V bc bp y po f row above a w0)
    (hQ : ∀ a' w', FOut V bc bp y po f row above w0 a' w' → Q .normal a' w') : filtB.wp Tryd.prog Q a w0 := by
  obtain ⟨hlive, h355, hseg, hab, hlen, hlen2, hne, hs1, hs8, hsn, hmost⟩ := h
  obtain ⟨b, r, i12, i13, i14, i15, i16, i17, i18, img, W, H, st, n⟩ := V
  simp only at hs1 hs8 hsn hmost hlen hlen2
  have HSEG := Lib.hid hseg
  have HAB := Lib.hid hab
  have HLEN := Lib.hid hlen
  have HLEN2 := Lib.hid hlen2
  clear hseg hab hlen hlen2
  rw [hf] at h355
  obtain ⟨g, rfl⟩ := hlive.lit355 h355
  clear hlive h355
  conv => arg 2; whnf
  obtain ⟨out, hout⟩ : ∃ out, out = unf f.toNat row above st := ⟨_, rfl⟩
  have hfk : f.toNat = 2 := by omega
  have hun := unf_is f.toNat row above st hs1
  rw [← hout, hfk] at hun
  have HU := Lib.hid hun
  have HOUT := Lib.hid hout
  have HOL : Hid (out.length = n) := Lib.hid (hun.len.trans HLEN.out)
  have hfk' := Lib.hid hfk
  clear hun hout hfk hf
  go_upto_region 101 with fail
  go_loopw [384] (fun iv wr' => ∃ t : Nat, 0 ≤ t ∧ t ≤ n ∧ iv = .int .i64 (t : Int) ∧ Only bc w0 wr' ∧ Seg wr' bc [.int .u8 (f.toNat : Int)] [] (mixL (fun p => decide (p < t)) out row n)) (fun iv _ => n - (intOf iv).toNat)
  case atStart => exact ⟨0, Nat.le_refl _, Nat.zero_le _, rfl, Only.refl _ _, by rw [mixL_none HLEN.out (fun p _ => by simp)]; exact HSEG.out⟩
  case round =>
  obtain ⟨t, hlo, ht, rfl, hon, hsg⟩ := hrel
  by_cases hlt : t < n
  · skip
    have hlen2 := HLEN2.out
    obtain ⟨M, hM⟩ : ∃ M, M = mixL (fun p => decide (p < t)) out row n := ⟨_, rfl⟩
    rw [← hM] at hsg
    have hMl : M.length = n := by rw [hM, mixL_length]
    obtain ⟨x, hxe, hx⟩ := seg_at (o := 1) hsg rfl t (by omega)
    have hxv : x = row.getD t 0 := by rw [hxe, hM, mix_at hlt, if_neg (by omega)]
    obtain ⟨o, ho⟩ : ∃ o, o = out.getD t 0 := ⟨_, rfl⟩
    have hadd := f_add HU.out (by rw [HLEN.out]; exact hlt : t < row.length)
    rw [← hxv, ← ho] at hadd
    have hnx := hsg.store (o := 1) rfl (show t < M.length by omega) o
    rw [hM, ho, mix_next, ← ho] at hnx
    have hfz := hsg.frozen (1 + t)
    have hon2 := hon.setCell (1 + t) (.int .u8 (o.toNat : Int))
    have HNX := Lib.hid hnx
    have HON2 := Lib.hid hon2
    have lbc := hsg.lt
    have rx := u8lt x
    have ro := u8lt o
    have i0 : (0 : Int) ≤ (t : Int) := by omega
    have i1 : (t : Int) < (n : Int) := by omega
    obtain ⟨z, hze, hz⟩ := rb_at (RB.only HAB.out hon hne) t (by omega)
    have rz := u8lt z
    have e1 : IntKind.u8.wrap ((x.toNat : Int) + (z.toNat : Int)) = (o.toNat : Int) := by
      rw [z_up, ← hze] at hadd
      rw [IntKind.wrap_u8']
      exact hadd
    clear hadd hxv hxe hze ho hM hnx hon2 hsg hon
    go_wp2_with fail
    go_roundw
    case rel => exact ⟨t + 1, by omega, by omega, by go_num, HON2.out, HNX.out⟩
    case measure => simp [intOf]; omega
  · obtain rfl : n = t := by omega
    go_wp2_with fail
    rw [mixL_all HOL.out (fun p hp => by simp [hp])] at hsg
    have e2 := HOUT.out
    refine ⟨⟨rfl, rfl, rfl, rfl, rfl, rfl, rfl, rfl, rfl, rfl, rfl, rfl, rfl, rfl, rfl, rfl, rfl, rfl, rfl, rfl, rfl⟩, hon, ?_⟩
    simp only
    rw [← e2]
    exact hsg
set_option maxRecDepth 1000000 in
set_option maxHeartbeats 6400000 in
theorem filt_3 (V : LV) (bc bp y po : Nat) (f : UInt8) (row above : List UInt8) (a : Act) (w0 : World) (Q : Exit → Act → World → Prop) (hf : (f.toNat : Int) = 3) (h : FIn V bc bp y po f row above a w0)
    (hQ : ∀ a' w', FOut V bc bp y po f row above w0 a' w' → Q .normal a' w') : filtB.wp Tryd.prog Q a w0 := by
  obtain ⟨hlive, h355, hseg, hab, hlen, hlen2, hne, hs1, hs8, hsn, hmost⟩ := h
  obtain ⟨b, r, i12, i13, i14, i15, i16, i17, i18, img, W, H, st, n⟩ := V
  simp only at hs1 hs8 hsn hmost hlen hlen2
  have HSEG := Lib.hid hseg
  have HAB := Lib.hid hab
  have HLEN := Lib.hid hlen
  have HLEN2 := Lib.hid hlen2
  clear hseg hab hlen hlen2
  rw [hf] at h355
  obtain ⟨g, rfl⟩ := hlive.lit355 h355
  clear hlive h355
  conv => arg 2; whnf
  obtain ⟨out, hout⟩ : ∃ out, out = unf f.toNat row above st := ⟨_, rfl⟩
  have hfk : f.toNat = 3 := by omega
  have hun := unf_is f.toNat row above st hs1
  rw [← hout, hfk] at hun
  have HU := Lib.hid hun
  have HOUT := Lib.hid hout
  have HOL : Hid (out.length = n) := Lib.hid (hun.len.trans HLEN.out)
  have hfk' := Lib.hid hfk
  clear hun hout hfk hf
  go_upto_region 107 with fail
  go_loopw [35] (fun iv wr' => ∃ t : Nat, 0 ≤ t ∧ t ≤ st ∧ iv = .int .i64 (t : Int) ∧ Only bc w0 wr' ∧ Seg wr' bc [.int .u8 (f.toNat : Int)] [] (mixL (fun p => decide (p < t)) out row n)) (fun iv _ => st - (intOf iv).toNat)
  case atStart => exact ⟨0, Nat.le_refl _, Nat.zero_le _, rfl, Only.refl _ _, by rw [mixL_none HLEN.out (fun p _ => by simp)]; exact HSEG.out⟩
  case round =>
  obtain ⟨t, hlo, ht, rfl, hon, hsg⟩ := hrel
  by_cases hlt0 : t < st
  · skip
    have hlt : t < n := by omega
    have hlen2 := HLEN2.out
    obtain ⟨M, hM⟩ : ∃ M, M = mixL (fun p => decide (p < t)) out row n := ⟨_, rfl⟩
    rw [← hM] at hsg
    have hMl : M.length = n := by rw [hM, mixL_length]
    obtain ⟨x, hxe, hx⟩ := seg_at (o := 1) hsg rfl t (by omega)
    have hxv : x = row.getD t 0 := by rw [hxe, hM, mix_at hlt, if_neg (by omega)]
    obtain ⟨o, ho⟩ : ∃ o, o = out.getD t 0 := ⟨_, rfl⟩
    have hadd := f_add HU.out (by rw [HLEN.out]; exact hlt : t < row.length)
    rw [← hxv, ← ho] at hadd
    have hnx := hsg.store (o := 1) rfl (show t < M.length by omega) o
    rw [hM, ho, mix_next, ← ho] at hnx
    have hfz := hsg.frozen (1 + t)
    have hon2 := hon.setCell (1 + t) (.int .u8 (o.toNat : Int))
    have HNX := Lib.hid hnx
    have HON2 := Lib.hid hon2
    have lbc := hsg.lt
    have rx := u8lt x
    have ro := u8lt o
    have i0 : (0 : Int) ≤ (t : Int) := by omega
    have i1 : (t : Int) < (n : Int) := by omega
    obtain ⟨z, hze, hz⟩ := rb_at (RB.only HAB.out hon hne) t (by omega)
    have rz := u8lt z
    have i2 : (t : Int) < (st : Int) := by omega
    have e5 : IntKind.u8.wrap ((z.toNat : Int) / 2) = (z.toNat : Int) / 2 := u8_in _ ⟨by omega, by omega⟩
    have e1 : IntKind.u8.wrap ((x.toNat : Int) + (z.toNat : Int) / 2) = (o.toNat : Int) := by
      rw [z_avg0 _ _ hlt0, ← hze] at hadd
      rw [IntKind.wrap_u8']
      exact hadd
    clear hadd hxv hxe hze ho hM hnx hon2 hsg hon
    go_upto_region 109 with fail
    refine abs_frame _ (fun A hA => ?_)
    have hsz : A.tmps.size = 1540 := by rw [hA]; kernel_rfl
    have h30 : A.tmps.getD 30 undef = (.slice (some ⟨bc, 1, none⟩) n n) := by rw [hA]; rfl
    have h31 : A.tmps.getD 31 undef = (.slice (some ⟨bp, 1, none⟩) n n) := by rw [hA]; rfl
    have h35 : A.tmps.getD 35 undef = .int .i64 (t : Int) := by rw [hA]; rfl
    have HA := Lib.hid hA
    clear hA
    have gne := @gd_ne
    have geq := @gd_eq
    refine region_still_tail 11 (by kernel_rfl) (by kernel_rfl) (fun wd hwd => ?_)
    simp only [List.take_succ_cons, List.take_zero, List.drop_succ_cons, List.drop_zero]
    have hx' := cell_drew hwd hx
    have hfz' := froz_drew hwd hfz
    have lbc' := lt_drew hwd lbc
    have hz' := cell_drew hwd hz
    have HWD := Lib.hid hwd
    clear hx hfz lbc hz hwd
    refine still_at (some 404) (v := ?_) rfl rfl ?_ ?_
    rotate_left
    · refine ⟨?_⟩
      go_simp
      first | done | with_reducible rfl
    refine still_at (some 405) (v := ?_) rfl rfl ?_ ?_
    rotate_left
    · refine ⟨?_⟩
      go_simp
      first | done | with_reducible rfl
    refine still_at (some 406) (v := ?_) rfl rfl ?_ ?_
    rotate_left
    · refine ⟨?_⟩
      go_simp
      first | done | with_reducible rfl
    refine still_at (some 407) (v := ?_) rfl rfl ?_ ?_
    rotate_left
    · refine ⟨?_⟩
      go_simp
      first | done | with_reducible rfl
    refine still_at (some 408) (v := ?_) rfl rfl ?_ ?_
    rotate_left
    · refine ⟨?_⟩
      go_simp
      first | done | with_reducible rfl
    refine still_at (some 409) (v := ?_) rfl rfl ?_ ?_
    rotate_left
    · refine ⟨?_⟩
      go_simp
      first | done | with_reducible rfl
    refine still_at (some 410) (v := ?_) rfl rfl ?_ ?_
    rotate_left
    · refine ⟨?_⟩
      go_simp
      first | done | with_reducible rfl
    refine still_at (some 411) (v := ?_) rfl rfl ?_ ?_
    rotate_left
    · refine ⟨?_⟩
      go_simp
      first | done | with_reducible rfl
    refine still_at (some 412) (v := ?_) rfl rfl ?_ ?_
    rotate_left
    · refine ⟨?_⟩
      go_simp
      first | done | with_reducible rfl
    refine still_at (some 413) (v := ?_) rfl rfl ?_ ?_
    rotate_left
    · refine ⟨?_⟩
      go_simp
      first | done | with_reducible rfl
    refine still_at (some 414) (v := ?_) rfl rfl ?_ ?_
    rotate_left
    · refine ⟨?_⟩
      go_simp
      first | done | with_reducible rfl
    refine still_nil ?_
    refine list_skip (w' := ?_) rfl rfl ?_ ?_
    rotate_left
    · refine ⟨?_⟩
      go_simp
      first | done | with_reducible rfl
    refine list_nil ?_
    rw [HA.out, HWD.out]
    simp only [Act.put, List.setIfInBounds_toArray, List.set_cons_succ, List.set_cons_zero]
    go_wp2_with fail
    go_roundw
    case rel => exact ⟨t + 1, by omega, by omega, by go_num, HON2.out.drew, HNX.out⟩
    case measure => simp [intOf]; omega
  obtain rfl : st = t := by omega
  have hon9 := hon
  have hsg9 := hsg
  clear hon hsg
  go_upto_region 111 with fail
  go_loopw [36] (fun iv wr' => ∃ t : Nat, st ≤ t ∧ t ≤ n ∧ iv = .int .i64 (t : Int) ∧ Only bc w0 wr' ∧ Seg wr' bc [.int .u8 (f.toNat : Int)] [] (mixL (fun p => decide (p < t)) out row n)) (fun iv _ => n - (intOf iv).toNat)
  case atStart => exact ⟨st, Nat.le_refl _, hsn, rfl, hon9, hsg9⟩
  case round =>
  obtain ⟨t, hlo, ht, rfl, hon, hsg⟩ := hrel
  by_cases hlt : t < n
  · skip
    have hlen2 := HLEN2.out
    obtain ⟨M, hM⟩ : ∃ M, M = mixL (fun p => decide (p < t)) out row n := ⟨_, rfl⟩
    rw [← hM] at hsg
    have hMl : M.length = n := by rw [hM, mixL_length]
    obtain ⟨x, hxe, hx⟩ := seg_at (o := 1) hsg rfl t (by omega)
    have hxv : x = row.getD t 0 := by rw [hxe, hM, mix_at hlt, if_neg (by omega)]
    obtain ⟨o, ho⟩ : ∃ o, o = out.getD t 0 := ⟨_, rfl⟩
    have hadd := f_add HU.out (by rw [HLEN.out]; exact hlt : t < row.length)
    rw [← hxv, ← ho] at hadd
    have hnx := hsg.store (o := 1) rfl (show t < M.length by omega) o
    rw [hM, ho, mix_next, ← ho] at hnx
    have hfz := hsg.frozen (1 + t)
    have hon2 := hon.setCell (1 + t) (.int .u8 (o.toNat : Int))
    have HNX := Lib.hid hnx
    have HON2 := Lib.hid hon2
    have lbc := hsg.lt
    have rx := u8lt x
    have ro := u8lt o
    have i0 : (0 : Int) ≤ (t : Int) := by omega
    have i1 : (t : Int) < (n : Int) := by omega
    obtain ⟨z, hze, hz⟩ := rb_at (RB.only HAB.out hon hne) t (by omega)
    have rz := u8lt z
    obtain ⟨q, hq⟩ : ∃ q, q = t - st := ⟨_, rfl⟩
    have mq : (t : Int) - (st : Int) = (q : Int) := by omega
    have vq : IntKind.i64.wrap (q : Int) = (q : Int) := i64_in _ ⟨by omega, by omega⟩
    have iq0 : (0 : Int) ≤ (q : Int) := by omega
    have iq1 : (q : Int) < (n : Int) := by omega
    obtain ⟨l, hle, hl⟩ := seg_at (o := 1) hsg rfl q (by omega)
    have hlv : l = out.getD q 0 := by rw [hle, hM, mix_at (by omega), if_pos (by omega)]
    have rl := u8lt l
    have e5 : IntKind.i64.wrap (l.toNat : Int) = (l.toNat : Int) := i64_in _ ⟨by omega, by omega⟩
    have e6 : IntKind.i64.wrap (z.toNat : Int) = (z.toNat : Int) := i64_in _ ⟨by omega, by omega⟩
    have e7 : IntKind.i64.wrap ((l.toNat : Int) + (z.toNat : Int)) = (l.toNat : Int) + (z.toNat : Int) := i64_in _ ⟨by omega, by omega⟩
    have e8 : IntKind.i64.wrap (((l.toNat : Int) + (z.toNat : Int)).tdiv 2) = ((l.toNat : Int) + (z.toNat : Int)) / 2 := by
      rw [Int.tdiv_eq_ediv_of_nonneg (by omega)]
      exact i64_in _ ⟨by omega, by omega⟩
    have e9 : IntKind.u8.wrap (((l.toNat : Int) + (z.toNat : Int)) / 2) = ((l.toNat : Int) + (z.toNat : Int)) / 2 := u8_in _ ⟨by omega, by omega⟩
    have e1 : IntKind.u8.wrap ((x.toNat : Int) + ((l.toNat : Int) + (z.toNat : Int)) / 2) = (o.toNat : Int) := by
      rw [z_avg _ _ hlo, ← hze, ← hq, ← hlv] at hadd
      rw [IntKind.wrap_u8']
      exact hadd
    clear hadd hxv hxe hze hle hlv ho hM hnx hon2 hsg hon hq hon9 hsg9
    go_upto_region 113 with fail
    refine abs_frame _ (fun A hA => ?_)
    have hsz : A.tmps.size = 1540 := by rw [hA]; kernel_rfl
    have h30 : A.tmps.getD 30 undef = (.slice (some ⟨bc, 1, none⟩) n n) := by rw [hA]; rfl
    have h31 : A.tmps.getD 31 undef = (.slice (some ⟨bp, 1, none⟩) n n) := by rw [hA]; rfl
    have h36 : A.tmps.getD 36 undef = .int .i64 (t : Int) := by rw [hA]; rfl
    have h23 : A.tmps.getD 23 undef = .int .i64 (st : Int) := by rw [hA]; rfl
    have HA := Lib.hid hA
    clear hA
    have gne := @gd_ne
    have geq := @gd_eq
    refine region_still_tail 21 (by kernel_rfl) (by kernel_rfl) (fun wd hwd => ?_)
    simp only [List.take_succ_cons, List.take_zero, List.drop_succ_cons, List.drop_zero]
    have hx' := cell_drew hwd hx
    have hfz' := froz_drew hwd hfz
    have lbc' := lt_drew hwd lbc
    have hz' := cell_drew hwd hz
    have hl' := cell_drew hwd hl
    have HWD := Lib.hid hwd
    clear hx hfz lbc hz hl hwd
    refine still_at (some 422) (v := ?_) rfl rfl ?_ ?_
    rotate_left
    · refine ⟨?_⟩
      go_simp
      first | done | with_reducible rfl
    refine still_at (some 423) (v := ?_) rfl rfl ?_ ?_
    rotate_left
    · refine ⟨?_⟩
      go_simp
      first | done | with_reducible rfl
    refine still_at (some 424) (v := ?_) rfl rfl ?_ ?_
    rotate_left
    · refine ⟨?_⟩
      go_simp
      first | done | with_reducible rfl
    refine still_at (some 425) (v := ?_) rfl rfl ?_ ?_
    rotate_left
    · refine ⟨?_⟩
      go_simp
      first | done | with_reducible rfl
    refine still_at (some 426) (v := ?_) rfl rfl ?_ ?_
    rotate_left
    · refine ⟨?_⟩
      go_simp
      first | done | with_reducible rfl
    refine still_at (some 427) (v := ?_) rfl rfl ?_ ?_
    rotate_left
    · refine ⟨?_⟩
      go_simp
      first | done | with_reducible rfl
    refine still_at (some 428) (v := ?_) rfl rfl ?_ ?_
    rotate_left
    · refine ⟨?_⟩
      go_simp
      first | done | with_reducible rfl
    refine still_at (some 429) (v := ?_) rfl rfl ?_ ?_
    rotate_left
    · refine ⟨?_⟩
      go_simp
      first | done | with_reducible rfl
    refine still_at (some 430) (v := ?_) rfl rfl ?_ ?_
    rotate_left
    · refine ⟨?_⟩
      go_simp
      first | done | with_reducible rfl
    refine still_at (some 431) (v := ?_) rfl rfl ?_ ?_
    rotate_left
    · refine ⟨?_⟩
      go_simp
      first | done | with_reducible rfl
    refine still_at (some 432) (v := ?_) rfl rfl ?_ ?_
    rotate_left
    · refine ⟨?_⟩
      go_simp
      first | done | with_reducible rfl
    refine still_at (some 433) (v := ?_) rfl rfl ?_ ?_
    rotate_left
    · refine ⟨?_⟩
      go_simp
      first | done | with_reducible rfl
    refine still_at (some 434) (v := ?_) rfl rfl ?_ ?_
    rotate_left
    · refine ⟨?_⟩
      go_simp
      first | done | with_reducible rfl
    refine still_at (some 435) (v := ?_) rfl rfl ?_ ?_
    rotate_left
    · refine ⟨?_⟩
      go_simp
      first | done | with_reducible rfl
    refine still_at (some 436) (v := ?_) rfl rfl ?_ ?_
    rotate_left
    · refine ⟨?_⟩
      go_simp
      first | done | with_reducible rfl
    refine still_at (some 437) (v := ?_) rfl rfl ?_ ?_
    rotate_left
    · refine ⟨?_⟩
      go_simp
      first | done | with_reducible rfl
    refine still_at (some 438) (v := ?_) rfl rfl ?_ ?_
    rotate_left
    · refine ⟨?_⟩
      go_simp
      first | done | with_reducible rfl
    refine still_at (some 439) (v := ?_) rfl rfl ?_ ?_
    rotate_left
    · refine ⟨?_⟩
      go_simp
      first | done | with_reducible rfl
    refine still_at (some 440) (v := ?_) rfl rfl ?_ ?_
    rotate_left
    · refine ⟨?_⟩
      go_simp
      first | done | with_reducible rfl
    refine still_at (some 441) (v := ?_) rfl rfl ?_ ?_
    rotate_left
    · refine ⟨?_⟩
      go_simp
      first | done | with_reducible rfl
    refine still_at (some 442) (v := ?_) rfl rfl ?_ ?_
    rotate_left
    · refine ⟨?_⟩
      go_simp
      first | done | with_reducible rfl
    refine still_nil ?_
    refine list_skip (w' := ?_) rfl rfl ?_ ?_
    rotate_left
    · refine ⟨?_⟩
      go_simp
      first | done | with_reducible rfl
    refine list_nil ?_
    rw [HA.out, HWD.out]
    simp only [Act.put, List.setIfInBounds_toArray, List.set_cons_succ, List.set_cons_zero]
    go_wp2_with fail
    go_roundw
    case rel => exact ⟨t + 1, by omega, by omega, by go_num, HON2.out.drew, HNX.out⟩
    case measure => simp [intOf]; omega
  · obtain rfl : n = t := by omega
    go_wp2_with fail
    rw [mixL_all HOL.out (fun p hp => by simp [hp])] at hsg
    have e2 := HOUT.out
    refine ⟨⟨rfl, rfl, rfl, rfl, rfl, rfl, rfl, rfl, rfl, rfl, rfl, rfl, rfl, rfl, rfl, rfl, rfl, rfl, rfl, rfl, rfl⟩, hon, ?_⟩
    simp only
    rw [← e2]
    exact hsg
set_option maxRecDepth 1000000 in
set_option maxHeartbeats 6400000 in
theorem filt_4 (V : LV) (bc bp y po : Nat) (f : UInt8) (row above : List UInt8) (a : Act) (w0 : World) (Q : Exit → Act → World → Prop) (hf : (f.toNat : Int) = 4) (h : FIn V bc bp y po f row above a w0)
    (hQ : ∀ a' w', FOut V bc bp y po f row above w0 a' w' → Q .normal a' w') : filtB.wp Tryd.prog Q a w0 := by
  obtain ⟨hlive, h355, hseg, hab, hlen, hlen2, hne, hs1, hs8, hsn, hmost⟩ := h
  obtain ⟨b, r, i12, i13, i14, i15, i16, i17, i18, img, W, H, st, n⟩ := V
  simp only at hs1 hs8 hsn hmost hlen hlen2
  have HSEG := Lib.hid hseg
  have HAB := Lib.hid hab
  have HLEN := Lib.hid hlen
  have HLEN2 := Lib.hid hlen2
  clear hseg hab hlen hlen2
  rw [hf] at h355
  obtain ⟨g, rfl⟩ := hlive.lit355 h355
  clear hlive h355
  conv => arg 2; whnf
  go_wp2_with (go_at_call 40; refine (filterPaeth_any bc 1 n n bp 1 n n st [.int .u8 (f.toNat : Int)] [] row above _ HSEG.out (Lib.hid rfl) HLEN HAB.out HLEN2 (Nat.le_refl _) hne hs1 hs8 (by omega)).mono ?_; rintro e w' ⟨rfl, out, hun, hsg, hon⟩)
  refine ⟨⟨rfl, rfl, rfl, rfl, rfl, rfl, rfl, rfl, rfl, rfl, rfl, rfl, rfl, rfl, rfl, rfl, rfl, rfl, rfl, rfl, rfl⟩, hon, ?_⟩
  simp only
  have hfk : f.toNat = 4 := by omega
  rw [hfk] at hsg ⊢
  rw [(unf_is 4 row above st hs1).unique hs1 hun]
  exact hsg
/-- The frame of a return with an error. -/
structure BadOut (a : Act) : Prop where
  dfr : a.defers = []
  s8 : a.tmps.getD 8 undef = .nilIface
  s9 : ∃ s, a.tmps.getD 9 undef = .iface 80 (.string s)
set_option maxRecDepth 1000000 in
set_option maxHeartbeats 6400000 in
theorem filt_bad (V : LV) (bc bp y po : Nat) (f : UInt8) (row above : List UInt8) (a : Act) (w0 : World) (Q : Exit → Act → World → Prop) (hf : 4 < f.toNat) (h : FIn V bc bp y po f row above a w0)
    (hQ : ∀ a', BadOut a' → Q .ret a' w0) : filtB.wp Tryd.prog Q a w0 := by
  obtain ⟨hlive, h355, hseg, hab, hlen, hlen2, hne, hs1, hs8, hsn, hmost⟩ := h
  obtain ⟨b, r, i12, i13, i14, i15, i16, i17, i18, img, W, H, st, n⟩ := V
  simp only at hs1 hs8 hsn hmost hlen hlen2
  have HSEG := Lib.hid hseg
  have HAB := Lib.hid hab
  have HLEN := Lib.hid hlen
  have HLEN2 := Lib.hid hlen2
  clear hseg hab hlen hlen2
  have n0 : ((f.toNat : Int) = 0) = False := by simp; omega
  have n1 : ((f.toNat : Int) = 1) = False := by simp; omega
  have n2 : ((f.toNat : Int) = 2) = False := by simp; omega
  have n3 : ((f.toNat : Int) = 3) = False := by simp; omega
  have n4 : ((f.toNat : Int) = 4) = False := by simp; omega
  obtain ⟨g, rfl⟩ := hlive.lit355 h355
  clear hlive h355
  conv => arg 2; whnf
  go_wp2_with fail
  exact ⟨rfl, rfl, _, rfl⟩
end Go.Proofs.YtkiibhpmembcgaaDoor
