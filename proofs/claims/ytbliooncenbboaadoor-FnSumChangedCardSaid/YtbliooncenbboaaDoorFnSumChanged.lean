/- Proved here: for every input that can be read as data, laws.FnSumChanged returns true and every argument reads afterwards as it did before, where the package-level variables that the row lists hold what the program's text lays (the card ties them). Conditions: none beyond the given row's and card's own. (The frame after the given UptoLaidToy.lean, written by wip/door.py.) -/
import Derived.Test.YtbliooncenbboaaDoorCards
import Derived.Test.YtbliooncenbboaaDoorTie
import Derived.Test.YtbliooncenbboaaDoorFrame
import Derived.WalkKit
import Derived.ProofKit
import Derived.OpenShut
import Derived.ShutString
import Derived.ChangeOld
import Derived.Below
import Derived.Deep.DeepHandedRow
import Derived.Lib.LaidTab
import Derived.Test.YtbliooncenbboaaDoorSum
import Derived.Test.YtbliooncenbboaaDoorFour
import Derived.Test.YtbliooncenbboaaDoorCrcBurst
namespace Go.Proofs.YtbliooncenbboaaDoor.fnSumChanged
open Go.ChangeShapes Go.WideShapes Go.ChangeAt Go.RowKit Go.IntWalk
open Go.ChangeMaps (open_string shut_string)
set_option linter.unusedVariables false

/-- The table of the CRC-32 as integers. -/
def crcTab : List Int := (List.range 256).map fun i => ((crcByte i : Nat) : Int)
/-- What the listed variables hold. -/
def LaidF (w : World) : Prop := Tab w
theorem gTab : Tryd.prog.globalNamed "loop.example/pub-g03424/pub/pngparts.ieeeTable" = some 0 := by kernel_rfl
theorem gTabType : (Tryd.prog.globals[0]?).map (·.type) = some 40 := by kernel_rfl
theorem tab_eq {H : Type} : (Rows.laid_loop_example_pub_g03424_pub_pngparts_ieeeTable : DataW H) = Lib.tabData .u32 crcTab := by kernel_rfl
theorem laidF_of {W : World} (h : laidMetH Tryd.prog Rows.fnSumChangedRow.laid W) : LaidF W := by
  have h' : laidMetH Tryd.prog [("loop.example/pub-g03424/pub/pngparts.ieeeTable", Lib.tabData .u32 crcTab)] W := by
    rw [← tab_eq (H := Unit)]
    exact h
  have hT := Lib.tabIs_of_head (rest := []) gTab gTabType Tryd.underlying40 Tryd.underlying23 (by kernel_rfl) (by kernel_rfl) h'
  intro i hi
  have := hT.cell gTab i (by simpa [crcTab] using hi)
  rw [this]
  simp [crcTab, List.getD, hi]
/-- A world for the witness: the settled one, the table holding what its initialiser lays. -/
noncomputable def laidWorld (os : Os) : World :=
  { World.holding Tryd.prog os ⟨#[], #[], []⟩ with heap := (World.holding Tryd.prog os ⟨#[], #[], []⟩).heap.modify 0 fun
      | .cells _ t frozen => .cells (crcTab.map fun z => Value.int .u32 z).toArray t frozen
      | o => o }


/-- The walk: the Go text returns true and writes nothing that was there. -/
theorem walk (a0 : Option Addr) (len0 cap0 : Nat) (l0 : List UInt8) (a1 : Int) (a2 : Int) (w : World) (w0 : InB w a0 len0 cap0 l0) (w1 : (Lit.int .u16 a1).wf = true) (w2 : (Lit.int .u32 a2).wf = true) (hL : LaidF w) :
    Calls Tryd.prog 4 #[.slice a0 len0 cap0, .int .u16 a1, .int .u32 a2] w fun e w' => e = .returned (.bool true) ∧ Below w.heap.size w w' := by
  have ht : Tab w := hL
  obtain ⟨hlen0, rb0, hnil0, hcap0, most0⟩ := w0
  by_cases hs : 0 < len0 ∧ len0 ≤ 65536
  · obtain ⟨hs1, hs2⟩ := hs
    have hat := bounds_u16 w1
    have hby := bounds_u32 w2
    obtain ⟨hat1, hat2⟩ := hat
    obtain ⟨by', rfl⟩ := Int.eq_ofNat_of_zero_le hby.1
    have hbylt : by' < 4294967296 := by omega
    clear hby w1 w2
    obtain ⟨i0, hi0⟩ := Int.eq_ofNat_of_zero_le (a := a1 % (len0 : Int)) (Int.emod_nonneg _ (by omega))
    have hi0lt : i0 < len0 := by have := Int.emod_lt_of_pos a1 (b := (len0 : Int)) (by omega); omega
    obtain ⟨b0, o0, rfl, -⟩ := rb0 (by have := hlen0.out; intro e; rw [e] at this; simp at this; omega)
    have q0 : b0 < w.heap.size := rb0.lt (by have := hlen0.out; intro e; rw [e] at this; simp at this; omega)
    have c1 : decide ((65536 : Int) < (len0 : Int)) = false := decide_eq_false (by omega)
    have c2 : ((len0 : Int) == 0) = false := by simp; omega
    go_enter Tryd.func4, Tryd.ntmps4
    go_wp2_with (at_builtin; refine wpList_append_bytes rfl (.tmp 23) (.tmp 24) rfl w.heap.size (.slice (some ⟨w.heap.size, 0, none⟩) 0 0) [] l0 rfl (OwnB.empty w w.heap.size (Nat.le_refl _)) (some ⟨b0, o0, none⟩) len0 cap0 rfl hlen0.out (rb0.below ((Below.refl _ _).alloc (Nat.le_refl _) _)) (by intro h; cases h) (by simp; omega) (by simp) ?_; intro v' w1 ho hg hb hnil)
    rw [List.nil_append] at ho
    obtain ⟨ad, n1, cap1, rfl, HN, hr1, hc1, hc2, hnil1, hblk⟩ := ho.shapeN
    obtain rfl : len0 = n1 := by have h1 := HN.out; have h2 := hlen0.out; omega
    cases ad with
    | none => exfalso; have := (hnil1 rfl).1; omega
    | some p =>
      obtain ⟨g, go, gs⟩ := p
      obtain ⟨hg1, hg2, rfl, rfl⟩ := hblk _ rfl
      simp only at hg1 hg2
      have B1 : Below w.heap.size w w1 := ((Below.refl _ _).alloc (Nat.le_refl _) _).trans hb
      clear hb hg hnil hnil1 hblk hc2 hnil0
      refine (four_any by' hbylt w1).mono ?_
      rintro e w2 ⟨rfl, ho4, hb2⟩
      have B2 : Below w.heap.size w w2 := B1.trans (hb2.mono B1.size)
      have ho2 := ho.below hb2
      obtain ⟨ad4, cap4, e4, hr4, -⟩ := ho4.shape
      simp only [Value.slice.injEq] at e4
      obtain ⟨rfl, -, -⟩ := e4
      have hs4 := hb2.size
      obtain ⟨xs, hxs⟩ : ∃ xs, xs = l0.take i0 := ⟨_, rfl⟩
      obtain ⟨ys, hys⟩ : ∃ ys, ys = l0.drop i0 := ⟨_, rfl⟩
      obtain ⟨vs, hvs⟩ : ∃ vs, vs = four by' := ⟨_, rfl⟩
      rw [← hvs] at hr4
      have XY : Hid (l0 = xs ++ ys) := Lib.hid (by rw [hxs, hys, List.take_append_drop])
      have XL : Hid (xs.length = i0) := Lib.hid (by rw [hxs, List.length_take]; have := hlen0.out; omega)
      have YL : Hid (i0 + ys.length = len0) := Lib.hid (by rw [hys, List.length_drop]; have := hlen0.out; omega)
      have VL : Hid (vs.length = 4) := Lib.hid (by rw [hvs]; rfl)
      have ho3 : OwnB w2 w.heap.size (.slice (some ⟨g, 0, none⟩) len0 cap1) (xs ++ zipX ys (vs.take 0)) := by
        rw [List.take_zero, zipX_nil, ← XY.out]; exact ho2
      clear hxs hys hvs ho ho2 ho4
      go_wp2_with fail
      clear c1 c2
      go_loopw [8, 29] (fun s i wr => ∃ k : Nat, k ≤ 4 ∧ i = .int .i64 k ∧ s = .bool (sameB ys (vs.take k)) ∧ OwnB wr w.heap.size (.slice (some ⟨g, 0, none⟩) len0 cap1) (xs ++ zipX ys (vs.take k)) ∧ Below w.heap.size w wr ∧ RB wr (some ⟨w1.heap.size, 0, none⟩) vs) (fun _ i _ => 4 - (intOf i).toNat)
      case atStart => exact ⟨0, Nat.zero_le _, rfl, by rw [List.take_zero]; simp [sameB], ho3, B2, hr4⟩
      case round =>
        obtain ⟨k, hk, rfl, rfl, hown, hbel, hr4'⟩ := hrel
        by_cases hlt : k < 4
        · obtain ⟨v, HV, hv⟩ := hr4'.at k (by have := VL.out; omega)
          rw [Nat.zero_add] at hv
          have KL : Hid ((vs.take k).length = k) := Lib.hid (by rw [List.length_take]; have := VL.out; omega)
          by_cases hin : i0 + k < len0
          · have hq : i0 + k < (xs ++ zipX ys (vs.take k)).length := by rw [List.length_append, zipX_length, XL.out]; have := YL.out; omega
            obtain ⟨ad, n2, cap2, e2, -, hrq, -⟩ := hown.shapeN
            simp only [Value.slice.injEq] at e2
            obtain ⟨rfl, -, -⟩ := e2
            obtain ⟨x, HX, hx⟩ := hrq.at (i0 + k) hq
            rw [Nat.zero_add] at hx
            have hfz : wr.frozen? ⟨g, i0 + k, none⟩ = false := by
              have h1 : wr.ownsRow w.heap.size 5 1 (.slice (some ⟨g, 0, none⟩) len0 cap1) (xs ++ zipX ys (vs.take k)).length _ := hown
              have h2 : (xs ++ zipX ys (vs.take k)).length = len0 := by rw [List.length_append, zipX_length, XL.out]; have := YL.out; omega
              rw [h2] at h1
              exact World.ownsRow.frozenAt h1 (i0 + k)
            obtain ⟨xv, hxv⟩ : ∃ t : UInt8, t = x ^^^ v := ⟨_, rfl⟩
            have e1 : bits .xor .u8 (x.toNat : Int) (v.toNat : Int) = (xv.toNat : Int) := by rw [hxv, u8_xor_nat _ _ (byte_lt x) (byte_lt v), UInt8.toNat_xor]
            have HXV := Lib.hid hxv
            clear hxv
            have TK : Hid (vs.take (k + 1) = vs.take k ++ [v]) := Lib.hid (take_succ_of HV.out)
            have NEXT : Hid (xs ++ zipX ys (vs.take (k + 1)) = (xs ++ zipX ys (vs.take k)).set (i0 + k) xv) := Lib.hid (by
              have h1 := HX.out
              rw [← XL.out, at_mid] at h1
              rw [TK.out, zipX_snoc ys (vs.take k) v x (by rw [KL.out]; exact h1), KL.out, ← XL.out, set_mid, HXV.out])
            have SNEXT : Hid (sameB ys (vs.take (k + 1)) = (sameB ys (vs.take k) && ((v.toNat : Int) == 0))) := Lib.hid (by
              rw [TK.out, sameB_snoc ys (vs.take k) v (by rw [KL.out]; have := YL.out; omega), isNought v])
            obtain ⟨sm, hsm⟩ : ∃ sm, sm = sameB ys (vs.take k) := ⟨_, rfl⟩
            rw [← hsm]
            have HSM := Lib.hid hsm
            clear hsm
            have hlen2 : Hid ((xs ++ zipX ys (vs.take k)).length = len0) := Lib.hid (by rw [List.length_append, zipX_length, XL.out]; have := YL.out; omega)
            have own2 := OwnB.stored hown hlen2.out (i0 + k) xv
            rw [← NEXT.out] at own2
            have bel2 := hbel.setCell (p := ⟨g, i0 + k, none⟩) hg1 (.int .u8 (xv.toNat : Int))
            have rb2 := hr4'.setOther (g := g) (j := i0 + k) (u := .int .u8 (xv.toNat : Int)) (by omega)
            clear hr4' hown hbel
            cases sm
            · go_wp2_with fail
              go_roundw
              case rel => exact ⟨k + 1, by omega, by go_num, by rw [SNEXT.out, ← HSM.out]; rfl, own2, bel2, rb2⟩
              case measure => simp [intOf]; omega
            · go_wp2_with fail
              go_roundw
              case rel => exact ⟨k + 1, by omega, by go_num, by rw [SNEXT.out, ← HSM.out]; rfl, own2, bel2, rb2⟩
              case measure => simp [intOf]; omega
          · go_wp2_with fail
            go_roundw
            case rel =>
              have TK : vs.take (k + 1) = vs.take k ++ [v] := take_succ_of HV.out
              have hl : ys.length ≤ (vs.take k).length := by rw [KL.out]; have := YL.out; omega
              exact ⟨k + 1, by omega, by go_num, by rw [TK, sameB_past _ _ _ hl], by rw [TK, zipX_past _ _ _ hl]; exact hown, hbel, hr4'⟩
            case measure => simp [intOf]; omega
        · have TV : Hid (vs.take k = vs) := Lib.hid (List.take_of_length_le (by have := VL.out; omega))
          rw [TV.out] at hown ⊢
          obtain ⟨ad, n2, cap2, e2, HN2, hrq, -, -, hnq, -⟩ := hown.shapeN
          simp only [Value.slice.injEq] at e2
          obtain ⟨rfl, rfl, rfl⟩ := e2
          have KEY := Lib.hid (crcOf_burst xs ys vs (by rw [VL.out]; omega))
          go_wp2_with fail
          refine (implSum_any (some ⟨b0, o0, none⟩) len0 cap0 l0 hlen0 wr (by omega) (rb0.below hbel) (by intro h; cases h) (ht.below hbel)).mono ?_
          rintro e w3 ⟨rfl, hb3⟩
          have B3 := hbel.trans (hb3.mono hbel.size)
          go_wp2_with fail
          refine (implSum_any (some ⟨g, 0, none⟩) len0 cap1 _ HN2 w3 (by omega) (hrq.below hb3) (by intro h; cases h) (ht.below B3)).mono ?_
          rintro e w4 ⟨rfl, hb4⟩
          go_wp2
          go_ret
          refine ⟨?_, B3.trans (hb4.mono B3.size)⟩
          have k1 := KEY.out
          rw [← XY.out] at k1
          cases hsb : sameB ys vs
          · rw [hsb] at k1
            simp only [Bool.false_eq_true, iff_false] at k1
            simp
            omega
          · rw [hsb] at k1
            simp only [iff_true] at k1
            simp [k1]
  · go_enter Tryd.func4, Tryd.ntmps4
    go_wp2_with fail
    all_goals first | (exfalso; omega) | skip
    all_goals go_ret
    all_goals exact ⟨rfl, Below.refl _ _⟩

theorem contract (H : Type) (enc : TypeId × Value → H) (W : World) (base : Nat) (args : Array Value) (ds gs : List (DataW H)) (before : List MemPlace)
    (hval : ∀ (j : Nat) t v, Tryd.f4.params[j]? = some t → args[j]? = some v → Value.okWide Tryd.prog W .any base t v)
    (hW : DataW.Whole enc Tryd.prog Tryd.f4.params.toList Rows.fnSumChangedSpec.vars false W args.toList ds gs before) (hL : laidMetH Tryd.prog Rows.fnSumChangedRow.laid W) :
    Calls Tryd.prog 4 args W fun e W' => ∃ v, e = .returned v ∧ Rows.fnSumChangedSpec.post enc Tryd.prog Tryd.f4 false true false false W args v W' := by
  have hW' := hW
  obtain ⟨p, q, hA0, hV0, rfl, hfz, hnd⟩ := hW
  have hA : DataW.TrodAll enc Tryd.prog W 0 (fun _ => true) true Tryd.f4.params.toList args.toList ds p := hA0
  have hV : DataW.TrodVars enc Tryd.prog W (fun _ => true) ["loop.example/pub-g03424/pub/pngparts.ieeeTable"] gs q := hV0
  rw [Tryd.params4] at hA hval
  obtain ⟨v0, vs0, d0, ds0, p0, q0, hargs, rfl, rfl, h0, r0⟩ := trodAll_cons hA
  obtain ⟨v1, vs1, d1, ds1, p1, q1, rfl, rfl, rfl, h1, r1⟩ := trodAll_cons r0
  obtain ⟨v2, vs2, d2, ds2, p2, q2, rfl, rfl, rfl, h2, r2⟩ := trodAll_cons r1
  obtain ⟨rfl, rfl, rfl⟩ := trodAll_nil r2
  obtain rfl : args = #[v0, v1, v2] := by cases args; simp_all
  obtain ⟨g1, rfl⟩ : ∃ g1, gs = [g1] := by
    have := trodVars_len hV
    match gs, this with
    | [g1], _ => exact ⟨g1, rfl⟩
  obtain ⟨a0, len0, cap0, rfl⟩ := okWide_slice Tryd.underlying22 (hval 0 22 v0 rfl rfl)
  have k0 := h0
  have lt0 : ∀ x ∈ p0, x.block < W.heap.size := by obtain ⟨m, hm⟩ := k0; exact DataW.trod_lt m _ _ _ hm
  obtain ⟨l0, w0⟩ := inB_of h0
  obtain ⟨a1, rfl, rfl, rfl, w1⟩ := open_int Tryd.underlying26 (hval 1 26 v1 rfl rfl) h1
  obtain ⟨a2, rfl, rfl, rfl, w2⟩ := open_int Tryd.underlying23 (hval 2 23 v2 rfl rfl) h2
  clear hA0 hV0
  refine (walk a0 len0 cap0 l0 a1 a2 W w0 w1 w2 (laidF_of hL)).mono fun e W' ⟨he, bel⟩ => ?_
  subst he
  exact ⟨_, rfl, _, _, _, [], _, q, hW', trodAll_mk1 (shut_bool Tryd.underlying4 _), (trodAll_cons_mk (Below.trod laidOut (by kernel_rfl) (of_decide_eq_true (by kernel_rfl)) k0 bel lt0) (trodAll_cons_mk (shut_int Tryd.underlying26 w1) (trodAll_cons_mk (shut_int Tryd.underlying23 w2) trodAll_mk0))), vars_below laidOut bel (by kernel_rfl) hV, bel.frame _, fun h => by cases h⟩

theorem laid_met (os : Os) : laidMet Tryd.prog Rows.fnSumChangedRow.laid ((laidWorld os).forCall (fun _ _ => 0) ⟨#[], #[.slice none 0 0, .int .u16 0, .int .u32 0], []⟩).memory :=
  laidMet_of_run' 12 (by kernel_rfl) (by kernel_rfl)
theorem reads (os : Os) {H : Type} (enc : TypeId × Value → H) : ∃ gs places, DataW.whole enc Tryd.prog ((laidWorld os).forCall (fun _ _ => 0) ⟨#[], #[.slice none 0 0, .int .u16 0, .int .u32 0], []⟩).memory Tryd.f4.params.toList Rows.fnSumChangedSpec.vars false #[.slice none 0 0, .int .u16 0, .int .u32 0].toList 12 = some ([.nil, .lit (.int .u16 0), .lit (.int .u32 0)], gs, places) := by
  have hw : (DataW.whole enc Tryd.prog ((laidWorld os).forCall (fun _ _ => 0) ⟨#[], #[.slice none 0 0, .int .u16 0, .int .u32 0], []⟩).memory Tryd.f4.params.toList Rows.fnSumChangedSpec.vars false #[.slice none 0 0, .int .u16 0, .int .u32 0].toList 12).map (fun x => x.1) = some [.nil, .lit (.int .u16 0), .lit (.int .u32 0)] := by kernel_rfl
  obtain ⟨⟨x1, x2, x3⟩, hx, hx1⟩ := Option.map_eq_some_iff.1 hw
  simp only at hx1
  subst hx1
  exact ⟨x2, x3, hx⟩

set_option maxRecDepth 100000 in
theorem lifted (os : Os) (started : os.Started) (H : Type) (enc : TypeId × Value → H) (F : Stop.Interp) :
    ReturnsInHanded {} Tryd.checked os 4 .any ((OpenSpec.ofChange Rows.fnSumChangedSpec).preRow enc Tryd.prog Tryd.f4 Rows.fnSumChangedRow.domain false Rows.fnSumChangedRow.laid) (((OpenSpec.ofChange Rows.fnSumChangedSpec).at F).post enc Tryd.prog Tryd.f4 false true false false) := by
  obtain ⟨gs, places, hx⟩ := reads os enc
  refine returnsInHanded_of_row (C := Tryd.checked) (s := OpenSpec.ofChange Rows.fnSumChangedSpec) own started (by kernel_rfl) Tryd.func4
    (witness_row_at (enc := enc) (C := Tryd.checked) false (laidWorld os) #[.slice none 0 0, .int .u16 0, .int .u32 0] rfl (by kernel_rfl) (by kernel_rfl) (by kernel_rfl)
      (OpenSpec.preRow_of_cond 12 hx (by kernel_rfl) (fun k hk => by cases hk) (by kernel_rfl) (laid_met os))) ?_
  intro W base args ds gs before hval hW _ _ _ hL _ _
  exact contract H enc W base args ds gs before hval hW hL

theorem said : Rows.FnSumChangedSaid :=
  OpenClaim.holds_of_cond 4 Tryd.f4 rfl rfl rfl rfl rfl rfl rfl ⟨rfl, rfl, rfl, rfl, rfl⟩ rfl rfl rfl rfl rfl (by kernel_rfl) Tryd.func4 (by kernel_rfl)
    (of_decide_eq_true (by kernel_rfl)) (by unfold Func.isWrapper; first | (rw [if_pos (by decide +kernel)]; kernel_rfl) | (rw [if_neg (by decide +kernel)]; exact ⟨rfl, rfl⟩))
    (fun os started H enc _ F => by rw [OpenClaim.pre_eq_preRow]; exact lifted os started H enc F)

theorem plain (f : FuncId) (fn : Func) (hf : Tryd.pinned.checked.prog.funcNamed "loop.example/pub-g03424/laws.FnSumChanged" = some f) (hfn : Tryd.pinned.checked.prog.funcs[f]? = some fn) :
    false = Tryd.pinned.checked.prog.looks [] ∧ ∀ (j : Nat) t, fn.params[j]? = some t → Tryd.pinned.checked.prog.wantsStandIn t = false := by
  obtain rfl : f = 4 := Option.some.inj ((show Tryd.prog.funcNamed "loop.example/pub-g03424/laws.FnSumChanged" = some 4 by kernel_rfl).symm.trans hf) |>.symm
  obtain rfl : fn = Tryd.f4 := (Option.some.inj (Tryd.func4.symm.trans hfn)).symm
  refine ⟨by kernel_rfl, fun j t ht => ?_⟩
  rw [Tryd.params4] at ht
  have hm := Array.mem_of_getElem? ht
  have hall : ([22, 26, 23] : List TypeId).all (fun t => !Tryd.prog.wantsStandIn t) = true := by kernel_rfl
  have := List.all_eq_true.1 hall t (by simpa using hm)
  exact (show Tryd.prog.wantsStandIn t = false by simpa using this)

/-- The statement. -/
theorem card : Rows.FnSumChangedCardSaid :=
  Claim7.holds_tied_plain_at .later [] _ _ _ _ said (fun _ h => by cases h) (by kernel_rfl) (fun _ h => by cases h) fnSumChanged_row_tie rfl ⟨rfl, rfl⟩ (by kernel_rfl) rfl plain (by kernel_rfl)
#print axioms card
end Go.Proofs.YtbliooncenbboaaDoor.fnSumChanged
