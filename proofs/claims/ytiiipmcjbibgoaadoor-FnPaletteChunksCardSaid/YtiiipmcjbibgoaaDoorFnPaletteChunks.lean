/- Proved here: for every input that can be read as data, laws.FnPaletteChunks returns true and every argument reads afterwards as it did before, where the package-level variables that the row lists hold what the program's text lays (the card ties them). Conditions: none beyond the given row's and card's own. (The frame after the given UptoLaidToy.lean, written by wip/door.py.) -/
import Derived.Test.YtiiipmcjbibgoaaDoorCards
import Derived.Test.YtiiipmcjbibgoaaDoorTie
import Derived.Test.YtiiipmcjbibgoaaDoorFrame
import Derived.WalkKit
import Derived.ProofKit
import Derived.OpenShut
import Derived.ShutString
import Derived.ChangeOld
import Derived.Below
import Derived.Deep.DeepHandedRow
import Derived.Lib.LaidTab
import Derived.Test.YtiiipmcjbibgoaaDoorWPalCh
import Derived.Shelf.Strconv.Itoa3
namespace Go.Proofs.YtiiipmcjbibgoaaDoor.fnPaletteChunks
open Go.ChangeShapes Go.WideShapes Go.ChangeAt Go.RowKit Go.IntWalk
open Go.ChangeMaps (open_string shut_string)
set_option linter.unusedVariables false

/-- The table of the CRC-32 as integers. -/
def crcTab : List Int := (List.range 256).map fun i => ((crcByte i : Nat) : Int)
/-- What the listed variables hold, as far as it is used. -/
def LaidF (w : World) : Prop := Tab w ∧ Lib.TabIs Tryd.prog w "internal/strconv.uint64pow10" .u64 Lib.pow10Tab
theorem gTab : Tryd.prog.globalNamed "loop.example/pub-g03424/pub/pngparts.ieeeTable" = some 0 := by kernel_rfl
theorem gTabType : (Tryd.prog.globals[0]?).map (·.type) = some 121 := by kernel_rfl
theorem tab_eq {H : Type} : (Rows.laid_loop_example_pub_g03424_pub_pngparts_ieeeTable : DataW H) = Lib.tabData .u32 crcTab := by kernel_rfl
theorem laidT_of {W : World} (h : laidMetH Tryd.prog Rows.fnPaletteChunksRow.laid W) : Tab W := by
  have h2 : laidMetH Tryd.prog [("loop.example/pub-g03424/pub/pngparts.ieeeTable", Rows.laid_loop_example_pub_g03424_pub_pngparts_ieeeTable)] W := by
    have e : Rows.fnPaletteChunksRow.laid.filter (fun x => x.1 == "loop.example/pub-g03424/pub/pngparts.ieeeTable") = [("loop.example/pub-g03424/pub/pngparts.ieeeTable", Rows.laid_loop_example_pub_g03424_pub_pngparts_ieeeTable)] := by kernel_rfl
    rw [← e]
    exact h.filter _
  have h' : laidMetH Tryd.prog [("loop.example/pub-g03424/pub/pngparts.ieeeTable", Lib.tabData .u32 crcTab)] W := by
    rw [← tab_eq (H := Unit)]
    exact h2
  have hT := Lib.tabIs_of_head (rest := []) gTab gTabType Tryd.underlying121 Tryd.underlying26 (by kernel_rfl) (by kernel_rfl) h'
  intro i hi
  have := hT.cell gTab i (by simpa [crcTab] using hi)
  rw [this]
  simp [crcTab, List.getD, hi]
theorem gPow : Tryd.prog.globalNamed "internal/strconv.uint64pow10" = some 5 := by kernel_rfl
theorem gPowType : (Tryd.prog.globals[5]?).map (·.type) = some 146 := by kernel_rfl
theorem pow_eq {H : Type} : (Rows.laid_internal_strconv_uint64pow10 : DataW H) = Lib.tabData .u64 Lib.pow10Tab := by kernel_rfl
theorem laidF_of {W : World} (h : laidMetH Tryd.prog Rows.fnPaletteChunksRow.laid W) : LaidF W := by
  refine ⟨laidT_of h, ?_⟩
  have h2 : laidMetH Tryd.prog [("internal/strconv.uint64pow10", Rows.laid_internal_strconv_uint64pow10)] W := by
    have e : Rows.fnPaletteChunksRow.laid.filter (fun x => x.1 == "internal/strconv.uint64pow10") = [("internal/strconv.uint64pow10", Rows.laid_internal_strconv_uint64pow10)] := by kernel_rfl
    rw [← e]
    exact h.filter _
  have h' : laidMetH Tryd.prog [("internal/strconv.uint64pow10", Lib.tabData .u64 Lib.pow10Tab)] W := by
    rw [← pow_eq (H := Unit)]
    exact h2
  exact Lib.tabIs_of_head (rest := []) gPow gPowType Tryd.underlying146 Tryd.underlying140 (by kernel_rfl) (by kernel_rfl) h'
/-- How many blocks lie before those of the witness. -/
noncomputable def low : Nat := (World.holding Tryd.prog default ⟨#[], #[], []⟩).heap.size
def ptrTo (b : Nat) (o : Obj) : Obj := match o with
  | .cells _ t frozen => .cells #[.iface 153 (.pointer (some ⟨b, 0, none⟩))] t frozen
  | o => o
/-- A table's numbers as cells. -/
def tabCells (d : DataW Unit) : Array Value := match d with
  | .agg ds => (ds.map fun x => match x with | .lit (.int k n) => Value.int k n | _ => .nilIface).toArray
  | _ => #[]
def tabTo (d : DataW Unit) (o : Obj) : Obj := match o with
  | .cells _ t frozen => .cells (tabCells d) t frozen
  | o => o
/-- A world for the witness: the settled one, the listed variables holding what their initialisers lay. -/
noncomputable def laidWorld (os : Os) : World :=
  let w0 := World.holding Tryd.prog os ⟨#[.cells #[.string ⟨#[98, 121, 116, 101, 115, 46, 66, 117, 102, 102, 101, 114, 58, 32, 116, 111, 111, 32, 108, 97, 114, 103, 101]⟩] 177], #[], []⟩
  { w0 with heap := (((((w0.heap.modify 4 (ptrTo (low + 0))).modify 6 (tabTo Rows.laid_math_bits_deBruijn32tab)).modify 7 (tabTo Rows.laid_math_bits_deBruijn64tab)).modify 5 (tabTo Rows.laid_internal_strconv_uint64pow10)).modify 0 (tabTo Rows.laid_loop_example_pub_g03424_pub_pngparts_ieeeTable)) }


/-- The walk: the Go text returns true and writes nothing that was there. -/
theorem walk (a0 : Option Addr) (len0 cap0 : Nat) (l0 : List Sh) (w : World) (w0 : InS w a0 len0 cap0 l0) (hL : LaidF w) :
    Calls Tryd.prog 10 #[.slice a0 len0 cap0] w fun e w' => e = .returned (.bool true) ∧ Below w.heap.size w w' := by
  exact palChLaw len0 cap0 a0 l0 w (Lib.hid w0) hL.1 hL.2

set_option maxRecDepth 100000 in
theorem contract (H : Type) (enc : TypeId × Value → H) (W : World) (base : Nat) (args : Array Value) (ds gs : List (DataW H)) (before : List MemPlace)
    (hval : ∀ (j : Nat) t v, Tryd.f10.params[j]? = some t → args[j]? = some v → Value.okWide Tryd.prog W .any base t v)
    (hW : DataW.Whole enc Tryd.prog Tryd.f10.params.toList Rows.fnPaletteChunksSpec.vars false W args.toList ds gs before) (hL : laidMetH Tryd.prog Rows.fnPaletteChunksRow.laid W) :
    Calls Tryd.prog 10 args W fun e W' => ∃ v, e = .returned v ∧ Rows.fnPaletteChunksSpec.post enc Tryd.prog Tryd.f10 false true false false W args v W' := by
  have hW' := hW
  obtain ⟨p, q, hA0, hV0, rfl, hfz, hnd⟩ := hW
  have hA : DataW.TrodAll enc Tryd.prog W 0 (fun _ => true) true Tryd.f10.params.toList args.toList ds p := hA0
  have hV : DataW.TrodVars enc Tryd.prog W (fun _ => true) ["loop.example/pub-g03424/pub/pngparts.ieeeTable"] gs q := hV0
  rw [Tryd.params10] at hA hval
  obtain ⟨v0, vs0, d0, ds0, p0, q0, hargs, rfl, rfl, h0, r0⟩ := trodAll_cons hA
  obtain ⟨rfl, rfl, rfl⟩ := trodAll_nil r0
  obtain rfl : args = #[v0] := by cases args; simp_all
  obtain ⟨g1, rfl⟩ : ∃ g1, gs = [g1] := by
    have := trodVars_len hV
    match gs, this with
    | [g1], _ => exact ⟨g1, rfl⟩
  obtain ⟨a0, len0, cap0, rfl⟩ := okWide_slice Tryd.underlying23 (hval 0 23 v0 rfl rfl)
  have k0 := h0
  have lt0 : ∀ x ∈ p0, x.block < W.heap.size := by obtain ⟨m, hm⟩ := k0; exact DataW.trod_lt m _ _ _ hm
  obtain ⟨l0, w0⟩ := inS_of h0
  clear hA0 hV0
  refine (walk a0 len0 cap0 l0 W w0 (laidF_of hL)).mono fun e W' ⟨he, bel⟩ => ?_
  subst he
  exact ⟨_, rfl, _, _, _, [], _, q, hW', trodAll_mk1 (shut_bool Tryd.underlying4 _), (trodAll_cons_mk (Below.trod laidOut (by kernel_rfl) (of_decide_eq_true (by kernel_rfl)) k0 bel lt0) trodAll_mk0), vars_below laidOut bel (by kernel_rfl) hV, bel.frame _, fun h => by cases h⟩

theorem laid_met (os : Os) : laidMet Tryd.prog Rows.fnPaletteChunksRow.laid ((laidWorld os).forCall (fun _ _ => 0) ⟨#[], #[.slice none 0 0], []⟩).memory :=
  laidMet_of_run' 12 (by kernel_rfl) (by kernel_rfl)
theorem reads (os : Os) {H : Type} (enc : TypeId × Value → H) : ∃ gs places, DataW.whole enc Tryd.prog ((laidWorld os).forCall (fun _ _ => 0) ⟨#[], #[.slice none 0 0], []⟩).memory Tryd.f10.params.toList Rows.fnPaletteChunksSpec.vars false #[.slice none 0 0].toList 12 = some ([.nil], gs, places) := by
  have hw : (DataW.whole enc Tryd.prog ((laidWorld os).forCall (fun _ _ => 0) ⟨#[], #[.slice none 0 0], []⟩).memory Tryd.f10.params.toList Rows.fnPaletteChunksSpec.vars false #[.slice none 0 0].toList 12).map (fun x => x.1) = some [.nil] := by kernel_rfl
  obtain ⟨⟨x1, x2, x3⟩, hx, hx1⟩ := Option.map_eq_some_iff.1 hw
  simp only at hx1
  subst hx1
  exact ⟨x2, x3, hx⟩

set_option maxRecDepth 100000 in
theorem lifted (os : Os) (started : os.Started) (H : Type) (enc : TypeId × Value → H) (F : Stop.Interp) :
    ReturnsInHanded {} Tryd.checked os 10 .any ((OpenSpec.ofChange Rows.fnPaletteChunksSpec).preRow enc Tryd.prog Tryd.f10 Rows.fnPaletteChunksRow.domain false Rows.fnPaletteChunksRow.laid) (((OpenSpec.ofChange Rows.fnPaletteChunksSpec).at F).post enc Tryd.prog Tryd.f10 false true false false) := by
  obtain ⟨gs, places, hx⟩ := reads os enc
  refine returnsInHanded_of_row (C := Tryd.checked) (s := OpenSpec.ofChange Rows.fnPaletteChunksSpec) own started (by kernel_rfl) Tryd.func10
    (witness_row_at (enc := enc) (C := Tryd.checked) false (laidWorld os) #[.slice none 0 0] rfl (by kernel_rfl) (by kernel_rfl) (by kernel_rfl)
      (OpenSpec.preRow_of_cond 12 hx (by kernel_rfl) (fun k hk => by cases hk) (by kernel_rfl) (laid_met os))) ?_
  intro W base args ds gs before hval hW _ _ _ hL _ _
  exact contract H enc W base args ds gs before hval hW hL

theorem said : Rows.FnPaletteChunksSaid :=
  OpenClaim.holds_of_cond 10 Tryd.f10 rfl rfl rfl rfl rfl rfl rfl ⟨rfl, rfl, rfl, rfl, rfl⟩ rfl rfl rfl rfl rfl (by kernel_rfl) Tryd.func10 (by kernel_rfl)
    (of_decide_eq_true (by kernel_rfl)) (by unfold Func.isWrapper; first | (rw [if_pos (by decide +kernel)]; kernel_rfl) | (rw [if_neg (by decide +kernel)]; exact ⟨rfl, rfl⟩))
    (fun os started H enc _ F => by rw [OpenClaim.pre_eq_preRow]; exact lifted os started H enc F)

theorem plain (f : FuncId) (fn : Func) (hf : Tryd.pinned.checked.prog.funcNamed "loop.example/pub-g03424/laws.FnPaletteChunks" = some f) (hfn : Tryd.pinned.checked.prog.funcs[f]? = some fn) :
    true = Tryd.pinned.checked.prog.looks [] ∧ ∀ (j : Nat) t, fn.params[j]? = some t → Tryd.pinned.checked.prog.wantsStandIn t = false := by
  obtain rfl : f = 10 := Option.some.inj ((show Tryd.prog.funcNamed "loop.example/pub-g03424/laws.FnPaletteChunks" = some 10 by kernel_rfl).symm.trans hf) |>.symm
  obtain rfl : fn = Tryd.f10 := (Option.some.inj (Tryd.func10.symm.trans hfn)).symm
  refine ⟨by kernel_rfl, fun j t ht => ?_⟩
  rw [Tryd.params10] at ht
  have hm := Array.mem_of_getElem? ht
  have hall : ([23] : List TypeId).all (fun t => !Tryd.prog.wantsStandIn t) = true := by kernel_rfl
  have := List.all_eq_true.1 hall t (by simpa using hm)
  exact (show Tryd.prog.wantsStandIn t = false by simpa using this)

/-- The statement. -/
theorem card : Rows.FnPaletteChunksCardSaid :=
  Claim7.holds_tied_plain_at .later [] _ _ _ _ said (fun _ h => by cases h) (by kernel_rfl) (fun _ h => by cases h) fnPaletteChunks_row_tie rfl ⟨rfl, rfl⟩ (by kernel_rfl) rfl plain (by kernel_rfl)
#print axioms card
end Go.Proofs.YtiiipmcjbibgoaaDoor.fnPaletteChunks
