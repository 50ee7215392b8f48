/- Proved here: for every input that can be read as data, laws.FnHeaderBack returns true and every argument reads afterwards as it did before, where the package-level variables that the row lists hold what the program's text lays (the card ties them). Conditions: none beyond the given row's and card's own. (The frame after the given UptoLaidToy.lean, written by wip/door.py.) -/
import Derived.Test.YtiiipmcjbibgoaaDoorCards
import Derived.Test.YtiiipmcjbibgoaaDoorTie
import Derived.Test.YtiiipmcjbibgoaaDoorFrame
import Derived.WalkKit
import Derived.ProofKit
import Derived.OpenShut
import Derived.ShutString
import Derived.ChangeOld
import Derived.Below
import Derived.Deep.DeepHandedRow
import Derived.Lib.LaidTab
import Derived.Test.YtiiipmcjbibgoaaDoorWHeadB
import Derived.Shelf.Strconv.Itoa3
namespace Go.Proofs.YtiiipmcjbibgoaaDoor.fnHeaderBack
open Go.ChangeShapes Go.WideShapes Go.ChangeAt Go.RowKit Go.IntWalk
open Go.ChangeMaps (open_string shut_string)
set_option linter.unusedVariables false

/-- The table of the CRC-32 as integers. -/
def crcTab : List Int := (List.range 256).map fun i => ((crcByte i : Nat) : Int)
/-- What the listed variables hold, as far as it is used. -/
def LaidF (w : World) : Prop := Tab w ∧ Lib.TabIs Tryd.prog w "internal/strconv.uint64pow10" .u64 Lib.pow10Tab
theorem gTab : Tryd.prog.globalNamed "loop.example/pub-g03424/pub/pngparts.ieeeTable" = some 0 := by kernel_rfl
theorem gTabType : (Tryd.prog.globals[0]?).map (·.type) = some 121 := by kernel_rfl
theorem tab_eq {H : Type} : (Rows.laid_loop_example_pub_g03424_pub_pngparts_ieeeTable : DataW H) = Lib.tabData .u32 crcTab := by kernel_rfl
theorem laidT_of {W : World} (h : laidMetH Tryd.prog Rows.fnHeaderBackRow.laid W) : Tab W := by
  have h2 : laidMetH Tryd.prog [("loop.example/pub-g03424/pub/pngparts.ieeeTable", Rows.laid_loop_example_pub_g03424_pub_pngparts_ieeeTable)] W := by
    have e : Rows.fnHeaderBackRow.laid.filter (fun x => x.1 == "loop.example/pub-g03424/pub/pngparts.ieeeTable") = [("loop.example/pub-g03424/pub/pngparts.ieeeTable", Rows.laid_loop_example_pub_g03424_pub_pngparts_ieeeTable)] := by kernel_rfl
    rw [← e]
    exact h.filter _
  have h' : laidMetH Tryd.prog [("loop.example/pub-g03424/pub/pngparts.ieeeTable", Lib.tabData .u32 crcTab)] W := by
    rw [← tab_eq (H := Unit)]
    exact h2
  have hT := Lib.tabIs_of_head (rest := []) gTab gTabType Tryd.underlying121 Tryd.underlying26 (by kernel_rfl) (by kernel_rfl) h'
  intro i hi
  have := hT.cell gTab i (by simpa [crcTab] using hi)
  rw [this]
  simp [crcTab, List.getD, hi]
theorem gPow : Tryd.prog.globalNamed "internal/strconv.uint64pow10" = some 5 := by kernel_rfl
theorem gPowType : (Tryd.prog.globals[5]?).map (·.type) = some 146 := by kernel_rfl
theorem pow_eq {H : Type} : (Rows.laid_internal_strconv_uint64pow10 : DataW H) = Lib.tabData .u64 Lib.pow10Tab := by kernel_rfl
theorem laidF_of {W : World} (h : laidMetH Tryd.prog Rows.fnHeaderBackRow.laid W) : LaidF W := by
  refine ⟨laidT_of h, ?_⟩
  have h2 : laidMetH Tryd.prog [("internal/strconv.uint64pow10", Rows.laid_internal_strconv_uint64pow10)] W := by
    have e : Rows.fnHeaderBackRow.laid.filter (fun x => x.1 == "internal/strconv.uint64pow10") = [("internal/strconv.uint64pow10", Rows.laid_internal_strconv_uint64pow10)] := by kernel_rfl
    rw [← e]
    exact h.filter _
  have h' : laidMetH Tryd.prog [("internal/strconv.uint64pow10", Lib.tabData .u64 Lib.pow10Tab)] W := by
    rw [← pow_eq (H := Unit)]
    exact h2
  exact Lib.tabIs_of_head (rest := []) gPow gPowType Tryd.underlying146 Tryd.underlying140 (by kernel_rfl) (by kernel_rfl) h'
/-- How many blocks lie before those of the witness. -/
noncomputable def low : Nat := (World.holding Tryd.prog default ⟨#[], #[], []⟩).heap.size
def ptrTo (b : Nat) (o : Obj) : Obj := match o with
  | .cells _ t frozen => .cells #[.iface 153 (.pointer (some ⟨b, 0, none⟩))] t frozen
  | o => o
/-- A table's numbers as cells. -/
def tabCells (d : DataW Unit) : Array Value := match d with
  | .agg ds => (ds.map fun x => match x with | .lit (.int k n) => Value.int k n | _ => .nilIface).toArray
  | _ => #[]
def tabTo (d : DataW Unit) (o : Obj) : Obj := match o with
  | .cells _ t frozen => .cells (tabCells d) t frozen
  | o => o
/-- A world for the witness: the settled one, the listed variables holding what their initialisers lay. -/
noncomputable def laidWorld (os : Os) : World :=
  let w0 := World.holding Tryd.prog os ⟨#[.cells #[.string ⟨#[115, 104, 111, 114, 116, 32, 98, 117, 102, 102, 101, 114]⟩] 177, .cells #[.string ⟨#[69, 79, 70]⟩] 177, .cells #[.string ⟨#[117, 110, 101, 120, 112, 101, 99, 116, 101, 100, 32, 69, 79, 70]⟩] 177, .cells #[.string ⟨#[98, 121, 116, 101, 115, 46, 66, 117, 102, 102, 101, 114, 58, 32, 116, 111, 111, 32, 108, 97, 114, 103, 101]⟩] 177], #[], []⟩
  { w0 with heap := ((((((((w0.heap.modify 1 (ptrTo (low + 0))).modify 2 (ptrTo (low + 1))).modify 3 (ptrTo (low + 2))).modify 4 (ptrTo (low + 3))).modify 6 (tabTo Rows.laid_math_bits_deBruijn32tab)).modify 7 (tabTo Rows.laid_math_bits_deBruijn64tab)).modify 5 (tabTo Rows.laid_internal_strconv_uint64pow10)).modify 0 (tabTo Rows.laid_loop_example_pub_g03424_pub_pngparts_ieeeTable)) }


/-- The walk: the Go text returns true and writes nothing that was there. -/
theorem walk (a0 : Int) (a1 : Int) (a2 : Int) (w : World) (w0 : (Lit.int .u8 a0).wf = true) (w1 : (Lit.int .u32 a1).wf = true) (w2 : (Lit.int .u32 a2).wf = true) (hL : LaidF w) :
    Calls Tryd.prog 12 #[.int .u8 a0, .int .u32 a1, .int .u32 a2] w fun e w' => e = .returned (.bool true) ∧ Below w.heap.size w w' := by
  have b0 := bounds_u8 w0
  have b1 := bounds_u32 w1
  have b2 := bounds_u32 w2
  obtain ⟨n0, rfl⟩ := Int.eq_ofNat_of_zero_le b0.1
  obtain ⟨n1, rfl⟩ := Int.eq_ofNat_of_zero_le b1.1
  obtain ⟨n2, rfl⟩ := Int.eq_ofNat_of_zero_le b2.1
  exact headBackLaw n0 n1 n2 (by omega) (by omega) (by omega) w hL.1

set_option maxRecDepth 100000 in
theorem contract (H : Type) (enc : TypeId × Value → H) (W : World) (base : Nat) (args : Array Value) (ds gs : List (DataW H)) (before : List MemPlace)
    (hval : ∀ (j : Nat) t v, Tryd.f12.params[j]? = some t → args[j]? = some v → Value.okWide Tryd.prog W .any base t v)
    (hW : DataW.Whole enc Tryd.prog Tryd.f12.params.toList Rows.fnHeaderBackSpec.vars false W args.toList ds gs before) (hL : laidMetH Tryd.prog Rows.fnHeaderBackRow.laid W) :
    Calls Tryd.prog 12 args W fun e W' => ∃ v, e = .returned v ∧ Rows.fnHeaderBackSpec.post enc Tryd.prog Tryd.f12 false true false false W args v W' := by
  have hW' := hW
  obtain ⟨p, q, hA0, hV0, rfl, hfz, hnd⟩ := hW
  have hA : DataW.TrodAll enc Tryd.prog W 0 (fun _ => true) true Tryd.f12.params.toList args.toList ds p := hA0
  have hV : DataW.TrodVars enc Tryd.prog W (fun _ => true) ["loop.example/pub-g03424/pub/pngparts.ieeeTable"] gs q := hV0
  rw [Tryd.params12] at hA hval
  obtain ⟨v0, vs0, d0, ds0, p0, q0, hargs, rfl, rfl, h0, r0⟩ := trodAll_cons hA
  obtain ⟨v1, vs1, d1, ds1, p1, q1, rfl, rfl, rfl, h1, r1⟩ := trodAll_cons r0
  obtain ⟨v2, vs2, d2, ds2, p2, q2, rfl, rfl, rfl, h2, r2⟩ := trodAll_cons r1
  obtain ⟨rfl, rfl, rfl⟩ := trodAll_nil r2
  obtain rfl : args = #[v0, v1, v2] := by cases args; simp_all
  obtain ⟨g1, rfl⟩ : ∃ g1, gs = [g1] := by
    have := trodVars_len hV
    match gs, this with
    | [g1], _ => exact ⟨g1, rfl⟩
  obtain ⟨a0, rfl, rfl, rfl, w0⟩ := open_int Tryd.underlying5 (hval 0 5 v0 rfl rfl) h0
  obtain ⟨a1, rfl, rfl, rfl, w1⟩ := open_int Tryd.underlying26 (hval 1 26 v1 rfl rfl) h1
  obtain ⟨a2, rfl, rfl, rfl, w2⟩ := open_int Tryd.underlying26 (hval 2 26 v2 rfl rfl) h2
  clear hA0 hV0
  refine (walk a0 a1 a2 W w0 w1 w2 (laidF_of hL)).mono fun e W' ⟨he, bel⟩ => ?_
  subst he
  exact ⟨_, rfl, _, _, _, [], _, q, hW', trodAll_mk1 (shut_bool Tryd.underlying4 _), (trodAll_cons_mk (shut_int Tryd.underlying5 w0) (trodAll_cons_mk (shut_int Tryd.underlying26 w1) (trodAll_cons_mk (shut_int Tryd.underlying26 w2) trodAll_mk0))), vars_below laidOut bel (by kernel_rfl) hV, bel.frame _, fun h => by cases h⟩

theorem laid_met (os : Os) : laidMet Tryd.prog Rows.fnHeaderBackRow.laid ((laidWorld os).forCall (fun _ _ => 0) ⟨#[], #[.int .u8 0, .int .u32 0, .int .u32 0], []⟩).memory :=
  laidMet_of_run' 12 (by kernel_rfl) (by kernel_rfl)
theorem reads (os : Os) {H : Type} (enc : TypeId × Value → H) : ∃ gs places, DataW.whole enc Tryd.prog ((laidWorld os).forCall (fun _ _ => 0) ⟨#[], #[.int .u8 0, .int .u32 0, .int .u32 0], []⟩).memory Tryd.f12.params.toList Rows.fnHeaderBackSpec.vars false #[.int .u8 0, .int .u32 0, .int .u32 0].toList 12 = some ([.lit (.int .u8 0), .lit (.int .u32 0), .lit (.int .u32 0)], gs, places) := by
  have hw : (DataW.whole enc Tryd.prog ((laidWorld os).forCall (fun _ _ => 0) ⟨#[], #[.int .u8 0, .int .u32 0, .int .u32 0], []⟩).memory Tryd.f12.params.toList Rows.fnHeaderBackSpec.vars false #[.int .u8 0, .int .u32 0, .int .u32 0].toList 12).map (fun x => x.1) = some [.lit (.int .u8 0), .lit (.int .u32 0), .lit (.int .u32 0)] := by kernel_rfl
  obtain ⟨⟨x1, x2, x3⟩, hx, hx1⟩ := Option.map_eq_some_iff.1 hw
  simp only at hx1
  subst hx1
  exact ⟨x2, x3, hx⟩

set_option maxRecDepth 100000 in
theorem lifted (os : Os) (started : os.Started) (H : Type) (enc : TypeId × Value → H) (F : Stop.Interp) :
    ReturnsInHanded {} Tryd.checked os 12 .any ((OpenSpec.ofChange Rows.fnHeaderBackSpec).preRow enc Tryd.prog Tryd.f12 Rows.fnHeaderBackRow.domain false Rows.fnHeaderBackRow.laid) (((OpenSpec.ofChange Rows.fnHeaderBackSpec).at F).post enc Tryd.prog Tryd.f12 false true false false) := by
  obtain ⟨gs, places, hx⟩ := reads os enc
  refine returnsInHanded_of_row (C := Tryd.checked) (s := OpenSpec.ofChange Rows.fnHeaderBackSpec) own started (by kernel_rfl) Tryd.func12
    (witness_row_at (enc := enc) (C := Tryd.checked) false (laidWorld os) #[.int .u8 0, .int .u32 0, .int .u32 0] rfl (by kernel_rfl) (by kernel_rfl) (by kernel_rfl)
      (OpenSpec.preRow_of_cond 12 hx (by kernel_rfl) (fun k hk => by cases hk) (by kernel_rfl) (laid_met os))) ?_
  intro W base args ds gs before hval hW _ _ _ hL _ _
  exact contract H enc W base args ds gs before hval hW hL

theorem said : Rows.FnHeaderBackSaid :=
  OpenClaim.holds_of_cond 12 Tryd.f12 rfl rfl rfl rfl rfl rfl rfl ⟨rfl, rfl, rfl, rfl, rfl⟩ rfl rfl rfl rfl rfl (by kernel_rfl) Tryd.func12 (by kernel_rfl)
    (of_decide_eq_true (by kernel_rfl)) (by unfold Func.isWrapper; first | (rw [if_pos (by decide +kernel)]; kernel_rfl) | (rw [if_neg (by decide +kernel)]; exact ⟨rfl, rfl⟩))
    (fun os started H enc _ F => by rw [OpenClaim.pre_eq_preRow]; exact lifted os started H enc F)

theorem plain (f : FuncId) (fn : Func) (hf : Tryd.pinned.checked.prog.funcNamed "loop.example/pub-g03424/laws.FnHeaderBack" = some f) (hfn : Tryd.pinned.checked.prog.funcs[f]? = some fn) :
    true = Tryd.pinned.checked.prog.looks [] ∧ ∀ (j : Nat) t, fn.params[j]? = some t → Tryd.pinned.checked.prog.wantsStandIn t = false := by
  obtain rfl : f = 12 := Option.some.inj ((show Tryd.prog.funcNamed "loop.example/pub-g03424/laws.FnHeaderBack" = some 12 by kernel_rfl).symm.trans hf) |>.symm
  obtain rfl : fn = Tryd.f12 := (Option.some.inj (Tryd.func12.symm.trans hfn)).symm
  refine ⟨by kernel_rfl, fun j t ht => ?_⟩
  rw [Tryd.params12] at ht
  have hm := Array.mem_of_getElem? ht
  have hall : ([5, 26, 26] : List TypeId).all (fun t => !Tryd.prog.wantsStandIn t) = true := by kernel_rfl
  have := List.all_eq_true.1 hall t (by simpa using hm)
  exact (show Tryd.prog.wantsStandIn t = false by simpa using this)

/-- The statement. -/
theorem card : Rows.FnHeaderBackCardSaid :=
  Claim7.holds_tied_plain_at .later [] _ _ _ _ said (fun _ h => by cases h) (by kernel_rfl) (fun _ h => by cases h) fnHeaderBack_row_tie rfl ⟨rfl, rfl⟩ (by kernel_rfl) rfl plain (by kernel_rfl)
#print axioms card
end Go.Proofs.YtiiipmcjbibgoaaDoor.fnHeaderBack
