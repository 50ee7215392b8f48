/- Proved here: for every input that can be read as data, laws.FnFilterLeast returns true and every argument reads afterwards as it did before. Conditions: none beyond the given row's own. (The frame was written by the kit's proof-skeleton.mjs.) -/
import Derived.Test.YtmidfhcfnemkoaaRows
import Derived.WalkKit
import Derived.ProofKit
import Derived.OpenShut
import Derived.ShutString
import Derived.ChangeOld
import Derived.Below
import Derived.Test.YtmidfhcfnemkoaaUnfilter
import Derived.Test.YtmidfhcfnemkoaaSpecFilter
import Derived.Test.YtmidfhcfnemkoaaConv
import Derived.Test.YtmidfhcfnemkoaaFrame
import Derived.Test.YtmidfhcfnemkoaaZZFilter
import Derived.Test.YtmidfhcfnemkoaaWeight
import Derived.Outline
namespace Go.Proofs.Ytmidfhcfnemkoaa.fnFilterLeast
open Go.ChangeShapes Go.WideShapes Go.ChangeAt Go.RowKit
open Go.ChangeMaps (open_string shut_string)
set_option linter.unusedVariables false

theorem own : ownKnob Try.prog.godebug = none := by kernel_rfl
theorem laidOut : laidOutB Try.prog = true := by kernel_rfl

/-- WHAT THE WALK IS TOLD OF A SLICE OF INTEGERS THAT CAME IN: it is nil; or it leads to a row of 'cap' cells, the numbers 'zs' (the first 'len' are its elements, the rest its spare room), each fitting its kind. -/
def IsRow (k : IntKind) (w : World) (a : Option Addr) (len cap : Nat) (zs : List Int) : Prop :=
  (a = none ∧ len = 0 ∧ cap = 0 ∧ zs = []) ∨
  ∃ x, a = some x ∧ len ≤ cap ∧ cap ≤ maxLen ∧ zs.length = cap ∧ (∀ i, i < zs.length → w.cell? (x.add i) = some (.int k (zs.getD i 0))) ∧ ∀ n ∈ zs, (Lit.int k n).wf = true

/-! ### STEP 1: THE WALK: the Go text returns true, AND WRITES NOTHING THAT WAS THERE: 'Below w.heap.size w w'' (Derived/Below.lean: '.refl', '.alloc', '.drew', '.setCell' at a new block, '.trans'). Open each 'IsRow' by 'rcases' AHEAD of 'go_enter'; part every test ahead of the walk. -/
set_option maxHeartbeats 3200000 in
theorem walk (a0 : Option Addr) (len0 cap0 : Nat) (z0 : List Int) (a1 : Option Addr) (len1 cap1 : Nat) (z1 : List Int) (a2 : Int) (w : World) (w0 : IsRow .u8 w a0 len0 cap0 z0) (w1 : IsRow .u8 w a1 len1 cap1 z1) (w2 : (Lit.int .u8 a2).wf = true) :
    Calls Try.prog 7 #[.slice a0 len0 cap0, .slice a1 len1 cap1, .int .u8 a2] w fun e w' => e = .returned (.bool true) ∧ Below w.heap.size w w' := by
  obtain ⟨l0, w0⟩ := inB_of_rows w0
  obtain ⟨l1, w1⟩ := inB_of_rows w1
  obtain ⟨hlen0, rb0, hnil0, hcap0, most0⟩ := w0
  obtain ⟨hlen1, rb1, hnil1, hcap1, most1⟩ := w1
  have hstep := bounds_u8 w2
  obtain ⟨st1, st2⟩ := hstep
  obtain ⟨step, rfl⟩ := Int.eq_ofNat_of_zero_le st1
  clear w2
  have k1 : IntKind.i64.wrap (step : Int) = (step : Int) := IntWalk.i64_in _ ⟨by omega, by omega⟩
  by_cases hs : len1 = len0 ∧ len0 ≤ 4096 ∧ 1 ≤ step ∧ step ≤ 8 ∧ step ≤ len0
  · obtain ⟨rfl, hs, hs1, hs2, hs3⟩ := hs
    have c1 : decide ((2147483647 : Int) < (len1 : Int)) = false := decide_eq_false (by omega)
    go_enter Try.func7, Try.ntmps7
    go_wp2_with (first
      | (go_at_call 11; refine (rowsOk_yes a0 a1 len1 cap0 cap1 step w hs hs1 hs2 hs3).mono ?_; rintro e w' ⟨rfl, rfl⟩)
      | (go_at_call 12; refine (implFilter_any a0 a1 len1 cap0 cap1 step l0 l1 w hlen0 rb0 hnil0 hlen1 rb1 hnil1 hs1 hs2 hs3 (by omega)).mono ?_; rintro e w1 ⟨f, v1, out1, rfl, hch, ho1, hb1⟩; obtain ⟨ad1, m1, cp1, rfl, hm1, hr1, -, -, hnl1, -⟩ := ho1.shapeN))
    have HCH := Lib.hid hch
    obtain rfl : len1 = m1 := by have h1 := hm1.out; have h2 := hlen0.out; rw [hch.is, filtered_length] at h1; omega
    clear c1 hch ho1
    go_loopw [31] (fun i wr => ∃ t : Nat, t ≤ 5 ∧ i = .int .i64 t ∧ Below w1.heap.size w1 wr) (fun i _ => 5 - (intOf i).toNat)
    case atStart => exact ⟨0, by omega, rfl, Below.refl _ _⟩
    case round =>
      obtain ⟨t, ht, rfl, hbel⟩ := hrel
      by_cases hlt : t < 5
      · have RB0 := (rb0.below hb1).below hbel
        have RB1 := (rb1.below hb1).below hbel
        have RB2 := hr1.below hbel
        have hle := HCH.out.least t (by omega)
        have WL : weight (filtered t l0 l1 step) ≤ 1000000 := by
          have h1 := weight_le (filtered t l0 l1 step)
          have h2 := hlen0.out
          rw [filtered_length] at h1
          omega
        obtain ⟨wf, hwf⟩ : ∃ wf, wf = weight (filtered t l0 l1 step) := ⟨_, rfl⟩
        obtain ⟨wo, hwo⟩ : ∃ wo, wo = weight out1 := ⟨_, rfl⟩
        rw [← hwf] at hle WL
        rw [← hwo] at hle
        have HWF := Lib.hid hwf
        have HWO := Lib.hid hwo
        clear hwf hwo
        have c2 : decide ((wf : Int) < (wo : Int)) = false := decide_eq_false (by omega)
        go_wp2_with fail
        refine (specFiltered_any t len1 cap0 len1 cap1 step a0 a1 l0 l1 wr (by omega) hlen0 RB0 hlen1 RB1 (Nat.le_refl _) hs1 hs2 (by omega)).mono ?_
        rintro e w2 ⟨v2, rfl, ho2, hb2⟩
        obtain ⟨ad2, m2, cp2, rfl, hm2, hr2, -⟩ := ho2.shapeN
        have HM2 : Hid (m2 = len1) := Lib.hid (by have h1 := hm2.out; have h2 := hlen0.out; rw [filtered_length] at h1; omega)
        have RB3 := RB2.below hb2
        go_wp2_with fail
        refine (specWeight_any ad2 m2 cp2 _ w2 hm2 hr2 (by have := HM2.out; omega)).mono ?_
        rw [← HWF.out]
        rintro e w3 ⟨rfl, rfl⟩
        go_wp2_with fail
        refine (specWeight_any ad1 len1 cp1 _ w2 hm1 RB3 (by omega)).mono ?_
        rw [← HWO.out]
        rintro e w3 ⟨rfl, rfl⟩
        go_wp2_with fail
        go_roundw
        case rel => exact ⟨t + 1, by omega, by go_num, hbel.trans (hb2.mono hbel.size)⟩
        case measure => simp [intOf]; omega
      · obtain rfl : t = 5 := by omega
        go_wp2_with fail
        go_ret
        exact ⟨by simp, hb1.trans (hbel.mono hb1.size)⟩
  · have hno := rowsOk_no a0 a1 len0 len1 cap0 cap1 step w (by omega) hs
    go_enter Try.func7, Try.ntmps7
    go_wp2_with (go_at_call 11; refine hno.mono ?_; rintro e w' ⟨rfl, rfl⟩)
    all_goals first | (exfalso; omega) | skip
    all_goals go_ret
    all_goals exact ⟨rfl, Below.refl _ _⟩

/-! ### THE ROW's STEP: WRITTEN OUT: LEAVE IT -/
set_option maxRecDepth 100000 in
theorem lifted (os : Os) (started : os.Started) (H : Type) (enc : TypeId × Value → H) :
    ReturnsInHanded {} Try.checked os 7 .any (Rows.fnFilterLeastSpec.pre6 enc Try.prog Try.f7 Rows.fnFilterLeastRow.domain false) (Rows.fnFilterLeastSpec.post enc Try.prog Try.f7 false true false false) := by
  refine returnsInHanded_of_change (C := Try.checked) own started (by kernel_rfl) Try.func7
    (ChangeSpec.witness6 (enc := enc) (C := Try.checked) false ⟨#[], #[.slice none 0 0, .slice none 0 0, .int .u8 0], []⟩ 8 (by kernel_rfl) (by kernel_rfl) (by kernel_rfl) (by kernel_rfl)) ?_
  intro W base args ds gs before hval0 hW hcnd _
  have hval : ∀ (j : Nat) t v, Try.f7.params[j]? = some t → args[j]? = some v → Value.okWide Try.prog W .any base t v := hval0
  have hW' := hW
  obtain ⟨p, q, hA0, hV, rfl, hfz, hnd⟩ := hW
  have hA : DataW.TrodAll enc Try.prog W 0 (fun _ => true) true Try.f7.params.toList args.toList ds p := hA0
  rw [Try.params7] at hA hval
  obtain ⟨v0, vs0, d0, ds0, p0, q0, hargs, rfl, rfl, h0, r0⟩ := trodAll_cons hA
  obtain ⟨v1, vs1, d1, ds1, p1, q1, rfl, rfl, rfl, h1, r1⟩ := trodAll_cons r0
  obtain ⟨v2, vs2, d2, ds2, p2, q2, rfl, rfl, rfl, h2, r2⟩ := trodAll_cons r1
  obtain ⟨rfl, rfl, rfl⟩ := trodAll_nil r2
  obtain rfl : args = #[v0, v1, v2] := by cases args; simp_all
  obtain ⟨rfl, rfl⟩ := trodVars_none hV
  obtain ⟨a0, len0, cap0, rfl⟩ := okWide_slice Try.underlying22 (hval 0 22 v0 rfl rfl)
  have k0 := h0
  have lt0 : ∀ x ∈ p0, x.block < W.heap.size := by obtain ⟨m, hm⟩ := k0; exact DataW.trod_lt m _ _ _ hm
  obtain ⟨z0, w0⟩ : ∃ zs, IsRow .u8 W a0 len0 cap0 zs := by
    obtain ⟨fuel, hf⟩ := h0
    rcases open_ints Try.underlying22 Try.underlying5 (by kernel_rfl) hf with ⟨hcs, _⟩ | ⟨x, l, c, zs, hcs, _, hl, hm, hz, _, hcell, hwz⟩
    · simp [Value.cells] at hcs
      obtain ⟨rfl, rfl, rfl⟩ := hcs
      exact ⟨[], .inl ⟨rfl, rfl, rfl, rfl⟩⟩
    · simp [Value.cells] at hcs
      obtain ⟨rfl, rfl, rfl⟩ := hcs
      exact ⟨zs, .inr ⟨_, rfl, hl, hm, by simpa using hz, hcell, hwz⟩⟩
  obtain ⟨a1, len1, cap1, rfl⟩ := okWide_slice Try.underlying22 (hval 1 22 v1 rfl rfl)
  have k1 := h1
  have lt1 : ∀ x ∈ p1, x.block < W.heap.size := by obtain ⟨m, hm⟩ := k1; exact DataW.trod_lt m _ _ _ hm
  obtain ⟨z1, w1⟩ : ∃ zs, IsRow .u8 W a1 len1 cap1 zs := by
    obtain ⟨fuel, hf⟩ := h1
    rcases open_ints Try.underlying22 Try.underlying5 (by kernel_rfl) hf with ⟨hcs, _⟩ | ⟨x, l, c, zs, hcs, _, hl, hm, hz, _, hcell, hwz⟩
    · simp [Value.cells] at hcs
      obtain ⟨rfl, rfl, rfl⟩ := hcs
      exact ⟨[], .inl ⟨rfl, rfl, rfl, rfl⟩⟩
    · simp [Value.cells] at hcs
      obtain ⟨rfl, rfl, rfl⟩ := hcs
      exact ⟨zs, .inr ⟨_, rfl, hl, hm, by simpa using hz, hcell, hwz⟩⟩
  obtain ⟨a2, rfl, rfl, rfl, w2⟩ := open_int Try.underlying5 (hval 2 5 v2 rfl rfl) h2
  clear hA0 hval0
  refine (walk a0 len0 cap0 z0 a1 len1 cap1 z1 a2 W w0 w1 w2).mono fun e W' ⟨he, bel⟩ => ?_
  subst he
  exact ⟨_, rfl, _, _, _, [], _, [], hW', trodAll_mk1 (shut_bool Try.underlying4 _), (trodAll_cons_mk (Below.trod laidOut (by kernel_rfl) (of_decide_eq_true (by kernel_rfl)) k0 bel lt0) (trodAll_cons_mk (Below.trod laidOut (by kernel_rfl) (of_decide_eq_true (by kernel_rfl)) k1 bel lt1) (trodAll_cons_mk (shut_int Try.underlying5 w2) trodAll_mk0))), rfl, bel.frame _, fun h => by cases h⟩

theorem over : Rows.fnFilterLeastRow.holds Try.pinned (OpenSpec.ofChange Rows.fnFilterLeastSpec) :=
  OpenClaim.holds_of_wide 7 Try.f7 rfl rfl rfl rfl rfl rfl rfl ⟨rfl, rfl, rfl, rfl, rfl⟩ rfl rfl rfl rfl rfl (by kernel_rfl) Try.func7 (by kernel_rfl)
    (of_decide_eq_true (by kernel_rfl)) (by unfold Func.isWrapper; first | (rw [if_pos (by decide +kernel)]; kernel_rfl) | (rw [if_neg (by decide +kernel)]; exact ⟨rfl, rfl⟩))
    (fun os started H enc _ => lifted os started H enc)

/-- ████ THE STATEMENT ████ -/
theorem proved : Rows.FnFilterLeastSaid := over
#print axioms proved
end Go.Proofs.Ytmidfhcfnemkoaa.fnFilterLeast
