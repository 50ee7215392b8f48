/- Proved here: for every input that can be read as data, laws.FnSum returns true and every argument reads afterwards as it did before, where the package-level variables that the row lists hold what the program's text lays (the card ties them). Conditions: none beyond the given row's and card's own. (The frame after the given UptoLaidToy.lean, written by wip/door.py.) -/
import Derived.Test.YtbliooncenbboaaDoorCards
import Derived.Test.YtbliooncenbboaaDoorTie
import Derived.Test.YtbliooncenbboaaDoorFrame
import Derived.WalkKit
import Derived.ProofKit
import Derived.OpenShut
import Derived.ShutString
import Derived.ChangeOld
import Derived.Below
import Derived.Deep.DeepHandedRow
import Derived.Lib.LaidTab
import Derived.Test.YtbliooncenbboaaDoorSum
namespace Go.Proofs.YtbliooncenbboaaDoor.fnSum
open Go.ChangeShapes Go.WideShapes Go.ChangeAt Go.RowKit Go.IntWalk
open Go.ChangeMaps (open_string shut_string)
set_option linter.unusedVariables false

/-- The table of the CRC-32 as integers. -/
def crcTab : List Int := (List.range 256).map fun i => ((crcByte i : Nat) : Int)
/-- What the listed variables hold. -/
def LaidF (w : World) : Prop := Tab w
theorem gTab : Tryd.prog.globalNamed "loop.example/pub-g03424/pub/pngparts.ieeeTable" = some 0 := by kernel_rfl
theorem gTabType : (Tryd.prog.globals[0]?).map (·.type) = some 40 := by kernel_rfl
theorem tab_eq {H : Type} : (Rows.laid_loop_example_pub_g03424_pub_pngparts_ieeeTable : DataW H) = Lib.tabData .u32 crcTab := by kernel_rfl
theorem laidF_of {W : World} (h : laidMetH Tryd.prog Rows.fnSumRow.laid W) : LaidF W := by
  have h' : laidMetH Tryd.prog [("loop.example/pub-g03424/pub/pngparts.ieeeTable", Lib.tabData .u32 crcTab)] W := by
    rw [← tab_eq (H := Unit)]
    exact h
  have hT := Lib.tabIs_of_head (rest := []) gTab gTabType Tryd.underlying40 Tryd.underlying23 (by kernel_rfl) (by kernel_rfl) h'
  intro i hi
  have := hT.cell gTab i (by simpa [crcTab] using hi)
  rw [this]
  simp [crcTab, List.getD, hi]
/-- A world for the witness: the settled one, the table holding what its initialiser lays. -/
noncomputable def laidWorld (os : Os) : World :=
  { World.holding Tryd.prog os ⟨#[], #[], []⟩ with heap := (World.holding Tryd.prog os ⟨#[], #[], []⟩).heap.modify 0 fun
      | .cells _ t frozen => .cells (crcTab.map fun z => Value.int .u32 z).toArray t frozen
      | o => o }


/-- The walk: the Go text returns true and writes nothing that was there. -/
theorem walk (a0 : Option Addr) (len0 cap0 : Nat) (l0 : List UInt8) (w : World) (w0 : InB w a0 len0 cap0 l0) (hL : LaidF w) :
    Calls Tryd.prog 3 #[.slice a0 len0 cap0] w fun e w' => e = .returned (.bool true) ∧ Below w.heap.size w w' := by
  have ht : Tab w := hL
  obtain ⟨hlen, rb, hnil, hcap, most⟩ := w0
  by_cases hs : len0 ≤ 65536
  · have h1 : decide ((65536 : Int) < (len0 : Int)) = false := decide_eq_false (by omega)
    go_enter Tryd.func3, Tryd.ntmps3
    go_wp2_with fail
    refine (implSum_any a0 len0 cap0 l0 hlen w (by omega) rb hnil ht).mono ?_
    rintro e w1 ⟨rfl, hb⟩
    go_wp2_with (go_at_call 7; refine (specCrc_any a0 len0 cap0 l0 hlen _ (by omega) (rb.below hb)).mono ?_; rintro e w2 ⟨rfl, rfl⟩)
    go_ret
    exact ⟨by simp, hb⟩
  · have h1 : decide ((65536 : Int) < (len0 : Int)) = true := decide_eq_true (by omega)
    go_enter Tryd.func3, Tryd.ntmps3
    go_wp2_with fail
    all_goals go_ret
    all_goals exact ⟨rfl, Below.refl _ _⟩

theorem contract (H : Type) (enc : TypeId × Value → H) (W : World) (base : Nat) (args : Array Value) (ds gs : List (DataW H)) (before : List MemPlace)
    (hval : ∀ (j : Nat) t v, Tryd.f3.params[j]? = some t → args[j]? = some v → Value.okWide Tryd.prog W .any base t v)
    (hW : DataW.Whole enc Tryd.prog Tryd.f3.params.toList Rows.fnSumSpec.vars false W args.toList ds gs before) (hL : laidMetH Tryd.prog Rows.fnSumRow.laid W) :
    Calls Tryd.prog 3 args W fun e W' => ∃ v, e = .returned v ∧ Rows.fnSumSpec.post enc Tryd.prog Tryd.f3 false true false false W args v W' := by
  have hW' := hW
  obtain ⟨p, q, hA0, hV0, rfl, hfz, hnd⟩ := hW
  have hA : DataW.TrodAll enc Tryd.prog W 0 (fun _ => true) true Tryd.f3.params.toList args.toList ds p := hA0
  have hV : DataW.TrodVars enc Tryd.prog W (fun _ => true) ["loop.example/pub-g03424/pub/pngparts.ieeeTable"] gs q := hV0
  rw [Tryd.params3] at hA hval
  obtain ⟨v0, vs0, d0, ds0, p0, q0, hargs, rfl, rfl, h0, r0⟩ := trodAll_cons hA
  obtain ⟨rfl, rfl, rfl⟩ := trodAll_nil r0
  obtain rfl : args = #[v0] := by cases args; simp_all
  obtain ⟨g1, rfl⟩ : ∃ g1, gs = [g1] := by
    have := trodVars_len hV
    match gs, this with
    | [g1], _ => exact ⟨g1, rfl⟩
  obtain ⟨a0, len0, cap0, rfl⟩ := okWide_slice Tryd.underlying22 (hval 0 22 v0 rfl rfl)
  have k0 := h0
  have lt0 : ∀ x ∈ p0, x.block < W.heap.size := by obtain ⟨m, hm⟩ := k0; exact DataW.trod_lt m _ _ _ hm
  obtain ⟨l0, w0⟩ := inB_of h0
  clear hA0 hV0
  refine (walk a0 len0 cap0 l0 W w0 (laidF_of hL)).mono fun e W' ⟨he, bel⟩ => ?_
  subst he
  exact ⟨_, rfl, _, _, _, [], _, q, hW', trodAll_mk1 (shut_bool Tryd.underlying4 _), (trodAll_cons_mk (Below.trod laidOut (by kernel_rfl) (of_decide_eq_true (by kernel_rfl)) k0 bel lt0) trodAll_mk0), vars_below laidOut bel (by kernel_rfl) hV, bel.frame _, fun h => by cases h⟩

theorem laid_met (os : Os) : laidMet Tryd.prog Rows.fnSumRow.laid ((laidWorld os).forCall (fun _ _ => 0) ⟨#[], #[.slice none 0 0], []⟩).memory :=
  laidMet_of_run' 12 (by kernel_rfl) (by kernel_rfl)
theorem reads (os : Os) {H : Type} (enc : TypeId × Value → H) : ∃ gs places, DataW.whole enc Tryd.prog ((laidWorld os).forCall (fun _ _ => 0) ⟨#[], #[.slice none 0 0], []⟩).memory Tryd.f3.params.toList Rows.fnSumSpec.vars false #[.slice none 0 0].toList 12 = some ([.nil], gs, places) := by
  have hw : (DataW.whole enc Tryd.prog ((laidWorld os).forCall (fun _ _ => 0) ⟨#[], #[.slice none 0 0], []⟩).memory Tryd.f3.params.toList Rows.fnSumSpec.vars false #[.slice none 0 0].toList 12).map (fun x => x.1) = some [.nil] := by kernel_rfl
  obtain ⟨⟨x1, x2, x3⟩, hx, hx1⟩ := Option.map_eq_some_iff.1 hw
  simp only at hx1
  subst hx1
  exact ⟨x2, x3, hx⟩

set_option maxRecDepth 100000 in
theorem lifted (os : Os) (started : os.Started) (H : Type) (enc : TypeId × Value → H) (F : Stop.Interp) :
    ReturnsInHanded {} Tryd.checked os 3 .any ((OpenSpec.ofChange Rows.fnSumSpec).preRow enc Tryd.prog Tryd.f3 Rows.fnSumRow.domain false Rows.fnSumRow.laid) (((OpenSpec.ofChange Rows.fnSumSpec).at F).post enc Tryd.prog Tryd.f3 false true false false) := by
  obtain ⟨gs, places, hx⟩ := reads os enc
  refine returnsInHanded_of_row (C := Tryd.checked) (s := OpenSpec.ofChange Rows.fnSumSpec) own started (by kernel_rfl) Tryd.func3
    (witness_row_at (enc := enc) (C := Tryd.checked) false (laidWorld os) #[.slice none 0 0] rfl (by kernel_rfl) (by kernel_rfl) (by kernel_rfl)
      (OpenSpec.preRow_of_cond 12 hx (by kernel_rfl) (fun k hk => by cases hk) (by kernel_rfl) (laid_met os))) ?_
  intro W base args ds gs before hval hW _ _ _ hL _ _
  exact contract H enc W base args ds gs before hval hW hL

theorem said : Rows.FnSumSaid :=
  OpenClaim.holds_of_cond 3 Tryd.f3 rfl rfl rfl rfl rfl rfl rfl ⟨rfl, rfl, rfl, rfl, rfl⟩ rfl rfl rfl rfl rfl (by kernel_rfl) Tryd.func3 (by kernel_rfl)
    (of_decide_eq_true (by kernel_rfl)) (by unfold Func.isWrapper; first | (rw [if_pos (by decide +kernel)]; kernel_rfl) | (rw [if_neg (by decide +kernel)]; exact ⟨rfl, rfl⟩))
    (fun os started H enc _ F => by rw [OpenClaim.pre_eq_preRow]; exact lifted os started H enc F)

theorem plain (f : FuncId) (fn : Func) (hf : Tryd.pinned.checked.prog.funcNamed "loop.example/pub-g03424/laws.FnSum" = some f) (hfn : Tryd.pinned.checked.prog.funcs[f]? = some fn) :
    false = Tryd.pinned.checked.prog.looks [] ∧ ∀ (j : Nat) t, fn.params[j]? = some t → Tryd.pinned.checked.prog.wantsStandIn t = false := by
  obtain rfl : f = 3 := Option.some.inj ((show Tryd.prog.funcNamed "loop.example/pub-g03424/laws.FnSum" = some 3 by kernel_rfl).symm.trans hf) |>.symm
  obtain rfl : fn = Tryd.f3 := (Option.some.inj (Tryd.func3.symm.trans hfn)).symm
  refine ⟨by kernel_rfl, fun j t ht => ?_⟩
  rw [Tryd.params3] at ht
  have hm : t = 22 := by
    have := Array.mem_of_getElem? ht
    simp at this
    omega
  subst hm
  · exact (show Tryd.prog.wantsStandIn 22 = false by kernel_rfl)

/-- The statement. -/
theorem card : Rows.FnSumCardSaid :=
  Claim7.holds_tied_plain_at .later [] _ _ _ _ said (fun _ h => by cases h) (by kernel_rfl) (fun _ h => by cases h) fnSum_row_tie rfl ⟨rfl, rfl⟩ (by kernel_rfl) rfl plain (by kernel_rfl)
#print axioms card
end Go.Proofs.YtbliooncenbboaaDoor.fnSum
