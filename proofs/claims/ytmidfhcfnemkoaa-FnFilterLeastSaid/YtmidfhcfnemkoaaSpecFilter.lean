/- The contracts of the reference's Filtered and Unfiltered: the row under a filter, and the row that stands under one, in new memory. -/
import Derived.Test.YtmidfhcfnemkoaaPredicted
import Derived.Deep.RegionLaw
namespace Go.Proofs.Ytmidfhcfnemkoaa
open Go.ChangeShapes Go.WideShapes Go.ChangeAt Go.RowKit Go.IntWalk

def FiltPost (k : Nat) (row above : List UInt8) (step : Nat) (w : World) (e : Ending) (w' : World) : Prop :=
  ∃ v, e = .returned v ∧ OwnB w' w.heap.size v (filtered k row above step) ∧ Below w.heap.size w w'
theorem bel_drewN {B : Nat} {a w : World} (h : Below B a w) (n : Nat) : Below B a (w.drewN n) := ⟨h.os, h.tape, h.output, h.size, h.block⟩
theorem RB.drewN {w : World} {ad : Option Addr} {l : List UInt8} (h : RB w ad l) (n : Nat) : RB (w.drewN n) ad l := h
theorem OwnB.drewN {w : World} {base : Nat} {v : Value} {l : List UInt8} (h : OwnB w base v l) (n : Nat) : OwnB (w.drewN n) base v l := h

set_option maxHeartbeats 1600000 in
theorem specFiltered_any (k n cap n2 cap2 step : Nat) (ad ad2 : Option Addr) (row above : List UInt8) (w : World) (hk : k ≤ 4) (hn : Hid (row.length = n)) (hr : RB w ad row)
    (hn2 : Hid (above.length = n2)) (hab : RB w ad2 above) (hle : n ≤ n2) (hs1 : 1 ≤ step) (hs2 : step ≤ 8) (hm : n ≤ 1000000) :
    Calls Try.prog 10 #[.int .i64 (k : Int), .slice ad n cap, .slice ad2 n2 cap2, .int .i64 (step : Int)] w (FiltPost k row above step w) := by
  have FL : Hid ((filtered k row above step).length = n) := Lib.hid (by rw [filtered_length]; exact hn.out)
  go_enter Try.func10, Try.ntmps10
  go_wp2_with fail
  go_loopw [9, 15] (fun v i wr => ∃ t : Nat, t ≤ n ∧ i = .int .i64 t ∧ OwnB wr w.heap.size v ((filtered k row above step).take t) ∧ Below w.heap.size w wr) (fun _ i _ => n - (intOf i).toNat)
  case atStart => exact ⟨0, Nat.zero_le _, rfl, by rw [List.take_zero]; exact OwnB.empty w w.heap.size (Nat.le_refl _), (Below.refl _ _).alloc (Nat.le_refl _) _⟩
  case round =>
    obtain ⟨t, ht, rfl, hown, hbel⟩ := hrel
    obtain ⟨l, hl⟩ : ∃ l, l = (filtered k row above step).take t := ⟨_, rfl⟩
    rw [← hl] at hown
    have HL := Lib.hid hl
    have hll : l.length = t := by rw [hl, List.length_take]; have := FL.out; omega
    have HLL := Lib.hid hll
    have hll2 : l.length ≤ t := by omega
    clear hl hll
    by_cases hlt : t < n
    · obtain ⟨b, o, rfl, -⟩ := hr (by have := hn.out; intro e; rw [e] at this; simp at this; omega)
      obtain ⟨c, po, rfl, -⟩ := hab (by have := hn2.out; intro e; rw [e] at this; simp at this; omega)
      have hr' := hr.below hbel
      have hab' := hab.below hbel
      obtain ⟨x, HX, hx⟩ := hr'.at t (by have := hn.out; omega)
      have rx := u8lt x
      have HC := Lib.hid (predicted_any k b o n cap c po n2 cap2 t step row above wr hk hn hr' hn2 hab' hlt (by omega) hs1 hs2 (by omega))
      rw [← predB_val] at HC
      obtain ⟨p, hp⟩ : ∃ p, p = predB k row above step t := ⟨_, rfl⟩
      rw [← hp] at HC
      have HP := Lib.hid hp
      clear hp
      have rp := u8lt p
      have NX : Hid ((filtered k row above step).take (t + 1) = l ++ [x - p]) := Lib.hid (by
        have e : (filtered k row above step)[t]? = some (x - p) := by
          rw [filtered_at k row above step t (by rw [hn.out]; exact hlt), ← HP.out]
          simp only [List.getD, HX.out, Option.getD_some]
        rw [List.take_add_one, e, HL.out]
        rfl)
      obtain ⟨d, hd⟩ : ∃ d : UInt8, d = x - p := ⟨_, rfl⟩
      rw [← hd] at NX
      have e1 : ((x.toNat : Int) - (p.toNat : Int)) % 256 = (d.toNat : Int) := by
        rw [hd, UInt8.toNat_sub]; omega
      clear hd hr hab
      have hbs := hbel.size
      go_wp2_with fail
      refine HC.out.mono ?_
      rintro e w1 ⟨rfl, nd, rfl⟩
      go_wp2_with (at_builtin; refine wpList_append_bytes rfl (.tmp 20) (.tmp 30) rfl w.heap.size _ l [d] rfl ((hown.drewN nd).alloc _) (some ⟨wr.heap.size, 0, none⟩) 1 1 rfl rfl (RB.one (wr.drewN nd) d 5) (by intro h; cases h) (by omega) (by simp; omega) ?_; intro v' w1 ho1 hg1 hb1 hnl1; clear hg1 hnl1)
      have hb2 : Below w.heap.size w w1 := ((bel_drewN hbel nd).alloc (by exact hbs) _).trans hb1
      rw [← NX.out] at ho1
      go_roundw
      case rel => exact ⟨t + 1, by omega, by go_num, ho1, hb2⟩
      case measure => simp [intOf]; omega
    · have e : t = n := by omega
      have e2 : l = filtered k row above step := by rw [HL.out, e]; exact List.take_of_length_le (by rw [FL.out]; exact Nat.le_refl _)
      have E2 := Lib.hid e2
      clear e2
      go_wp2_with fail
      go_ret
      exact ⟨_, rfl, by rw [← E2.out]; exact hown, hbel⟩

def UnfPost2 (k : Nat) (row above : List UInt8) (step : Nat) (w : World) (e : Ending) (w' : World) : Prop :=
  ∃ v out, e = .returned v ∧ IsUnf k row above step out ∧ OwnB w' w.heap.size v out ∧ Below w.heap.size w w'
theorem predZ_mix {k step t n : Nat} {out row above : List UInt8} (ht : t ≤ n) (hs : 1 ≤ step) : predB k (mixL (fun p => decide (p < t)) out row n) above step t = predB k out above step t := by
  refine predB_congr fun hle => ?_
  simp only [List.getD]
  rw [mixL_at (by omega)]
  have e : t - step < t := by omega
  simp [e, List.getD]

set_option maxHeartbeats 1600000 in
theorem specUnfiltered_any (k n cap n2 cap2 step : Nat) (ad ad2 : Option Addr) (row above : List UInt8) (w : World) (hk : k ≤ 4) (hn : Hid (row.length = n)) (hr : RB w ad row) (hnil : ad = none → n = 0 ∧ cap = 0)
    (hn2 : Hid (above.length = n2)) (hab : RB w ad2 above) (hle : n ≤ n2) (hs1 : 1 ≤ step) (hs2 : step ≤ 8) (hm : n ≤ 1000000) :
    Calls Try.prog 9 #[.int .i64 (k : Int), .slice ad n cap, .slice ad2 n2 cap2, .int .i64 (step : Int)] w (UnfPost2 k row above step w) := by
  obtain ⟨out, hout⟩ := unf_exists k row above step hs1
  have HO := Lib.hid hout
  have hol : Hid (out.length = n) := Lib.hid (hout.len.trans hn.out)
  clear hout
  by_cases h0 : n = 0
  · subst h0
    have er : row = [] := List.eq_nil_of_length_eq_zero hn.out
    subst er
    go_enter Try.func9, Try.ntmps9
    go_wp2_with (at_builtin; refine wpList_append_bytes rfl (.tmp 11) (.tmp 12) rfl w.heap.size (.slice (some ⟨w.heap.size, 0, none⟩) 0 0) [] [] rfl (OwnB.empty w w.heap.size (Nat.le_refl _)) ad 0 cap rfl hn.out (hr.below ((Below.refl _ _).alloc (Nat.le_refl _) _)) hnil (by simp) (by simp) ?_; intro v' w1 ho1 hg1 hb1 hnl1; clear hg1 hnl1; rw [List.nil_append] at ho1; obtain ⟨ad1, m1, cap1, rfl, hm1, -⟩ := ho1.shapeN; obtain rfl : m1 = 0 := hm1.out.symm)
    have B1 : Below w.heap.size w w1 := ((Below.refl _ _).alloc (Nat.le_refl _) _).trans hb1
    refine wp_loop_rounds 1 ?_
    rw [rounds_succ]
    go_wp2_with fail
    go_ret
    exact ⟨_, [], rfl, ⟨rfl, fun i hi => by simp at hi⟩, ho1, B1⟩
  · obtain ⟨c, po, rfl, -⟩ := hab (by have := hn2.out; intro e; rw [e] at this; simp at this; omega)
    have hc : c < w.heap.size := hab.lt (by have := hn2.out; intro e; rw [e] at this; simp at this; omega)
    have hne : row ≠ [] := by have := hn.out; intro e; rw [e] at this; simp at this; omega
    go_enter Try.func9, Try.ntmps9
    go_wp2_with (at_builtin; refine wpList_append_bytes rfl (.tmp 11) (.tmp 12) rfl w.heap.size (.slice (some ⟨w.heap.size, 0, none⟩) 0 0) [] row rfl (OwnB.empty w w.heap.size (Nat.le_refl _)) ad n cap rfl hn.out (hr.below ((Below.refl _ _).alloc (Nat.le_refl _) _)) hnil (by simp; omega) (by simp) ?_; intro v' w1 ho1 hg1 hb1 hnl1; clear hg1 hnl1; rw [List.nil_append] at ho1; obtain ⟨g, m1, cap1, post, rfl, hm1, hgb, hmc, hcm, hseg, hback⟩ := ho1.seg hne; obtain rfl : n = m1 := by (have h1 := hm1.out; have h2 := hn.out; omega))
    have B1 : Below w.heap.size w w1 := ((Below.refl _ _).alloc (Nat.le_refl _) _).trans hb1
    have hab1 := hab.below B1
    clear hr hab ho1 hb1
    go_loopw [16] (fun i wr => ∃ t : Nat, t ≤ n ∧ i = .int .i64 t ∧ Seg wr g [] post (mixL (fun p => decide (p < t)) out row n) ∧ Only g w1 wr) (fun i _ => n - (intOf i).toNat)
    case atStart => exact ⟨0, Nat.zero_le _, rfl, by rw [mixL_none hn.out (fun p _ => by simp)]; exact hseg, Only.refl _ _⟩
    case round =>
      obtain ⟨t, ht, rfl, hsg, honly⟩ := hrel
      by_cases hlt : t < n
      · obtain ⟨ml, hml⟩ : ∃ ml, ml = mixL (fun p => decide (p < t)) out row n := ⟨_, rfl⟩
        have HM := Lib.hid hml
        rw [← hml] at hsg
        have hmx : t < ml.length := by rw [hml, mixL_length]; exact hlt
        have HMN : Hid (ml.length = n) := Lib.hid (by rw [hml, mixL_length])
        clear hml
        have hab2 := hab1.only honly (by omega)
        obtain ⟨x, HX, hx⟩ := hsg.at rfl t hmx
        rw [List.length_nil, Nat.zero_add] at hx
        have HR1 := Lib.hid (hsg.rb rfl)
        have HR2 := Lib.hid hab2
        have rx := u8lt x
        obtain ⟨p, hp⟩ : ∃ p, p = predB k out above step t := ⟨_, rfl⟩
        have rp := u8lt p
        have hpz : predZ k ml above step t = (p.toNat : Int) := by
          rw [← predB_val, HM.out, predZ_mix ht hs1, hp]
        obtain ⟨r, hr⟩ : ∃ r, r = out.getD t 0 := ⟨_, rfl⟩
        have hxr : row.getD t 0 = x := by
          have h1 := HX.out
          rw [HM.out, mixL_at hlt] at h1
          simpa using h1
        have hrv : r = x + p := by rw [hr, HO.out.val t (by rw [hn.out]; exact hlt), hxr, hp]
        have e0 : IntKind.u8.wrap (p.toNat : Int) = (p.toNat : Int) := u8_in _ ⟨by omega, by omega⟩
        have e1 : IntKind.u8.wrap ((x.toNat : Int) + (p.toNat : Int)) = (r.toNat : Int) := by rw [IntKind.wrap_u8', hrv, UInt8.toNat_add]; omega
        have NX := hsg.store rfl hmx r
        rw [HM.out, hr, mixL_set (d' := fun p => decide (p < t + 1)) (fun p _ => by rw [Bool.eq_iff_iff]; simp; omega), ← hr, List.length_nil, Nat.zero_add] at NX
        have OX := honly.setCell t (.int .u8 (r.toNat : Int))
        have hfz := hsg.frozen t
        have HX2 := Lib.hid NX
        have HX3 := Lib.hid OX
        have i0 : (0 : Int) ≤ (t : Int) := by omega
        have i1 : (t : Int) < (n : Int) := by omega
        clear hr hrv hxr hp NX OX hab2 hab1 hsg honly hseg
        go_wp2_with fail
        go_region_law (first | (go_simp; go_at_call 16; refine (predicted_any k g 0 n cap1 c po n2 cap2 t step ml above _ hk HMN (by exact HR1.out) hn2 (by exact HR2.out) hlt (by omega) hs1 hs2 (by omega)).mono ?_; rintro e w2 ⟨rfl, nd, rfl⟩))
        all_goals
          clear hpz e0 e1 hx
          go_wp2_with fail
          go_roundw
          case rel => exact ⟨t + 1, by omega, by go_num, HX2.out, ⟨HX3.out.os, HX3.out.tape, HX3.out.output, HX3.out.size, HX3.out.block⟩⟩
          case measure => simp [intOf]; omega
      · have hsg2 : Seg wr g [] post out := by
          rw [mixL_all hol.out (fun p hp => by simp; omega)] at hsg
          exact hsg
        go_wp2_with fail
        go_ret
        exact ⟨_, out, rfl, HO.out, hback wr out HO.out.len hsg2, B1.trans (honly.below hgb)⟩
theorem specUnfiltered4_any (n cap n2 cap2 step : Nat) (ad ad2 : Option Addr) (row above : List UInt8) (w : World) (hn : Hid (row.length = n)) (hr : RB w ad row) (hnil : ad = none → n = 0 ∧ cap = 0)
    (hn2 : Hid (above.length = n2)) (hab : RB w ad2 above) (hle : n ≤ n2) (hs1 : 1 ≤ step) (hs2 : step ≤ 8) (hm : n ≤ 1000000) :
    Calls Try.prog 9 #[.int .i64 4, .slice ad n cap, .slice ad2 n2 cap2, .int .i64 (step : Int)] w (UnfPost2 4 row above step w) :=
  specUnfiltered_any 4 n cap n2 cap2 step ad ad2 row above w (by omega) hn hr hnil hn2 hab hle hs1 hs2 hm
theorem specFiltered4_any (n cap n2 cap2 step : Nat) (ad ad2 : Option Addr) (row above : List UInt8) (w : World) (hn : Hid (row.length = n)) (hr : RB w ad row)
    (hn2 : Hid (above.length = n2)) (hab : RB w ad2 above) (hle : n ≤ n2) (hs1 : 1 ≤ step) (hs2 : step ≤ 8) (hm : n ≤ 1000000) :
    Calls Try.prog 10 #[.int .i64 4, .slice ad n cap, .slice ad2 n2 cap2, .int .i64 (step : Int)] w (FiltPost 4 row above step w) :=
  specFiltered_any 4 n cap n2 cap2 step ad ad2 row above w (by omega) hn hr hn2 hab hle hs1 hs2 hm
theorem bel_undrew {B : Nat} {w w' : World} (h : Below B w.drew w') : Below B w w' := ⟨h.os, h.tape, h.output, h.size, h.block⟩
end Go.Proofs.Ytmidfhcfnemkoaa
