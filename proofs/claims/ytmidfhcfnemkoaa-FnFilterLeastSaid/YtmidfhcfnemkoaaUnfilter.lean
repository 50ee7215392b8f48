/- The contracts of filterPaeth at an empty row, of ZZUnfilterPaeth and of the thin package's Unfilter: the row that stands under the Paeth filter, in new memory. -/
import Derived.Test.YtmidfhcfnemkoaaFilterPaeth
import Derived.Test.YtmidfhcfnemkoaaClone
namespace Go.Proofs.Ytmidfhcfnemkoaa
open Go.ChangeShapes Go.WideShapes Go.ChangeAt Go.RowKit Go.IntWalk

theorem filterPaeth_empty (ad ad2 : Option Addr) (cap n2 cap2 step : Nat) (w : World) (hs2 : step ≤ 8) :
    Calls Try.prog 18 #[.slice ad 0 cap, .slice ad2 n2 cap2, .int .i64 (step : Int)] w fun e w' => e = .returned (.tuple #[]) ∧ w = w' := by
  go_enter Try.func18, Try.ntmps18
  go_wp2_with fail
  go_loop [12] (fun i => ∃ k : Nat, k ≤ step ∧ i = .int .i64 k) (fun i => step - (intOf i).toNat)
  case atStart => exact ⟨0, Nat.zero_le _, rfl⟩
  case round =>
    obtain ⟨k, hk, rfl⟩ := hrel
    by_cases hlt : k < step
    · go_wp2_with fail
      refine wp_loop_rounds 1 ?_
      rw [rounds_succ]
      go_wp2_with fail
      go_round
      case rel => exact ⟨k + 1, by omega, by go_num⟩
      case measure => simp [intOf]; omega
    · go_wp2_with fail
      go_end0
      exact ⟨rfl, rfl⟩

/-- What the two calls leave: the row that stands under the filter, in new memory. -/
def UnfPost (k : Nat) (row above : List UInt8) (step : Nat) (w : World) (e : Ending) (w' : World) : Prop :=
  ∃ v out, e = .returned v ∧ IsUnf k row above step out ∧ OwnB w' w.heap.size v out ∧ Below w.heap.size w w'

set_option maxHeartbeats 800000 in
theorem zzUnfilter_any (ad ad2 : Option Addr) (n cap n2 cap2 step : Nat) (row above : List UInt8) (w : World) (hn : Hid (row.length = n)) (hr : RB w ad row) (hnil : ad = none → n = 0 ∧ cap = 0)
    (hn2 : Hid (above.length = n2)) (hab : RB w ad2 above) (hle : n ≤ n2) (hs1 : 1 ≤ step) (hs2 : step ≤ 8) (hm : n ≤ 1000000) :
    Calls Try.prog 15 #[.slice ad n cap, .slice ad2 n2 cap2, .int .i64 (step : Int)] w (UnfPost 4 row above step w) := by
  by_cases h0 : n = 0
  · subst h0
    have er : row = [] := List.eq_nil_of_length_eq_zero hn.out
    subst er
    have hz : ∃ v w1, OwnB w1 w.heap.size v [] ∧ Below w.heap.size w w1 := ⟨_, _, OwnB.nil w _, Below.refl _ _⟩
    clear hz
    go_enter Try.func15, Try.ntmps15
    go_wp2_with (at_builtin; refine wpList_append_bytes rfl (.const (.slice none 0 0)) (.tmp 8) rfl w.heap.size (.slice none 0 0) [] [] rfl (OwnB.nil w _) ad 0 cap rfl rfl hr hnil (by simp) (Nat.le_refl _) ?_; intro v' w1 hown hg hb hnl)
    obtain ⟨ad1, m1, cap1, rfl, hm1, -⟩ := hown.shapeN
    obtain rfl : m1 = 0 := hm1.out.symm
    go_wp2_with (go_at_call 18; refine (filterPaeth_empty _ _ _ _ _ _ _ hs2).mono ?_; rintro e w' ⟨rfl, rfl⟩)
    go_ret
    exact ⟨_, [], rfl, ⟨rfl, fun i hi => by simp at hi⟩, hown, hb⟩
  · obtain ⟨c, po, rfl, -⟩ := hab (by have := hn2.out; intro e; rw [e] at this; simp at this; omega)
    have hc : c < w.heap.size := hab.lt (by have := hn2.out; intro e; rw [e] at this; simp at this; omega)
    go_enter Try.func15, Try.ntmps15
    go_wp2_with (at_builtin; refine wpList_append_bytes rfl (.const (.slice none 0 0)) (.tmp 8) rfl w.heap.size (.slice none 0 0) [] row rfl (OwnB.nil w _) ad n cap rfl hn.out hr hnil (by simp; omega) (Nat.le_refl _) ?_; intro v' w1 hown hg hb hnl)
    rw [List.nil_append] at hown
    obtain ⟨g, m1, cap1, post, rfl, hm1, hgb, hmc, -, hseg, hback⟩ := hown.seg (by have := hn.out; intro e; rw [e] at this; simp at this; omega)
    obtain rfl : n = m1 := by have h1 := hm1.out; have h2 := hn.out; omega
    clear hnl hg hnil
    go_wp2_with fail
    refine (filterPaeth_any g 0 n cap1 c po n2 cap2 step [] post row above w1 hseg (Lib.hid rfl) hn (hab.below hb) hn2 hle (by omega) hs1 hs2 hm).mono ?_
    rintro e w2 ⟨rfl, out, hout, hseg2, honly⟩
    have hown2 := hback w2 out hout.len hseg2
    have hb2 : Below w.heap.size w w2 := hb.trans (honly.below hgb)
    clear hseg2 honly hback hseg hown
    go_wp2_with fail
    go_ret
    exact ⟨_, out, rfl, hout, hown2, hb2⟩

set_option maxHeartbeats 800000 in
theorem implUnfilter_any (ad ad2 : Option Addr) (n cap n2 cap2 step : Nat) (row above : List UInt8) (w : World) (hn : Hid (row.length = n)) (hr : RB w ad row) (hnil : ad = none → n = 0 ∧ cap = 0)
    (hn2 : Hid (above.length = n2)) (hab : RB w ad2 above) (hnil2 : ad2 = none → n2 = 0 ∧ cap2 = 0) (hle : n ≤ n2) (hs1 : 1 ≤ step) (hs2 : step ≤ 8) (hm : n ≤ 1000000) (hm2 : n2 ≤ 1000000) :
    Calls Try.prog 8 #[.slice ad n cap, .slice ad2 n2 cap2, .int .i64 (step : Int)] w (UnfPost 4 row above step w) := by
  go_enter Try.func8, Try.ntmps8
  go_wp2_with fail
  refine (clone_any ad n cap row hn w (by omega) hr hnil).mono ?_
  rintro e w1 ⟨v1, rfl, ho1, hb1, -⟩
  obtain ⟨a1, m1, c1, rfl, hm1, hr1, -, -, hnil1, -⟩ := ho1.shapeN
  obtain rfl : n = m1 := by have h1 := hm1.out; have h2 := hn.out; omega
  go_wp2_with fail
  refine (clone_any ad2 n2 cap2 above hn2 w1 (by omega) (hab.below hb1) hnil2).mono ?_
  rintro e w2 ⟨v2, rfl, ho2, hb2, -⟩
  obtain ⟨a2, m2, c2, rfl, hm2', hr2, -, -, -, -⟩ := ho2.shapeN
  obtain rfl : n2 = m2 := by have h1 := hm2'.out; have h2 := hn2.out; omega
  have B2 : Below w.heap.size w w2 := hb1.trans (hb2.mono hb1.size)
  go_wp2_with fail
  refine (zzUnfilter_any a1 a2 n c1 n2 c2 step row above w2 hn (hr1.below hb2) hnil1 hn2 hr2 hle hs1 hs2 hm).mono ?_
  rintro e w3 ⟨v3, out, rfl, hout, ho3, hb3⟩
  obtain ⟨a3, m3, c3, rfl, hm3, hr3, -, -, hnil3, -⟩ := ho3.shapeN
  have B3 : Below w.heap.size w w3 := B2.trans (hb3.mono B2.size)
  have hlo : m3 = n := by have h1 := hm3.out; have h2 := hn.out; have h3 := hout.len; omega
  obtain rfl : n = m3 := hlo.symm
  go_wp2_with fail
  refine (clone_any a3 n c3 out hm3 w3 (by omega) hr3 hnil3).mono ?_
  rintro e w4 ⟨v4, rfl, ho4, hb4, -⟩
  go_wp2_with fail
  go_ret
  exact ⟨_, out, rfl, hout, ho4.mono B3.size, B3.trans (hb4.mono B3.size)⟩
end Go.Proofs.Ytmidfhcfnemkoaa
