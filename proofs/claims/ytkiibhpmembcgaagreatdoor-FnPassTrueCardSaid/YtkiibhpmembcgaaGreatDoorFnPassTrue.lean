/- Proved here: for every input that can be read as data, laws.FnPassTrue returns true and every argument reads afterwards as it did before, where the package-level variables that the row lists hold what the program's text lays (the card ties them). Conditions: none beyond the given row's and card's own. (The frame after the given UptoLaidToy.lean, written by wip/door.py.) -/
import Derived.Test.YtkiibhpmembcgaaGreatDoorCards
import Derived.Test.YtkiibhpmembcgaaGreatDoorTie
import Derived.Test.YtkiibhpmembcgaaGreatDoorGBase
import Derived.WalkKit
import Derived.ProofKit
import Derived.OpenShut
import Derived.ShutString
import Derived.ChangeOld
import Derived.Below
import Derived.Deep.DeepHandedRow
import Derived.Deep.DeepWitnessRowRef
import Derived.Lib.LaidTab
import Derived.Test.YtkiibhpmembcgaaGreatDoorPassLaw2
import Derived.Test.YtkiibhpmembcgaaGreatDoorGLaid
namespace Go.Proofs.YtkiibhpmembcgaaGreatDoor.fnPassTrue
open Go.ChangeShapes Go.WideShapes Go.ChangeAt Go.RowKit Go.IntWalk
open Go.ChangeMaps (open_string shut_string)
set_option linter.unusedVariables false

/-- What the listed variables hold. -/
def LaidF (w : World) : Prop := Inter w ∧ Eofs w.heap.size w
theorem laidF_of {W : World} (h : laidMetH Tryz.prog Rows.fnPassTrueRow.laid W) : LaidF W := passLaid h
/-- How many blocks lie before those of the witness. -/
noncomputable def low : Nat := (World.holding Tryz.prog default ⟨#[], #[], []⟩).heap.size
def ptrTo (b : Nat) (o : Obj) : Obj := match o with
  | .cells _ t frozen => .cells #[.iface 159 (.pointer (some ⟨b, 0, none⟩))] t frozen
  | o => o
def interCells : Array Value := ((List.range 7).flatMap fun p => [Value.int .i64 ((ptOf p).DX : Int), .int .i64 ((ptOf p).DY : Int), .int .i64 ((ptOf p).X : Int), .int .i64 ((ptOf p).Y : Int)]).toArray
/-- A world for the witness: the settled one, the listed variables holding what their initialisers lay. -/
noncomputable def laidWorld (os : Os) : World :=
  let w0 := World.holding Tryz.prog os ⟨#[.cells #[.string ⟨#[115, 104, 111, 114, 116, 32, 98, 117, 102, 102, 101, 114]⟩] 185, .cells #[.string ⟨#[69, 79, 70]⟩] 185, .cells #[.string ⟨#[117, 110, 101, 120, 112, 101, 99, 116, 101, 100, 32, 69, 79, 70]⟩] 185, .cells interCells 120], #[], []⟩
  { w0 with heap := (((w0.heap.modify 3 (ptrTo low)).modify 1 (ptrTo (low + 1))).modify 2 (ptrTo (low + 2))).modify 0 fun
      | .cells _ t frozen => .cells #[.slice (some ⟨low + 3, 0, none⟩) 7 7] t frozen
      | o => o }


/-- The walk: the Go text returns true and writes nothing that was there. -/
theorem walk (a0 : Bool) (a1 : Int) (a2 : Int) (a3 : Bool) (a4 : Int) (a5 : Bool) (a6 : Int) (a7 : Int) (a8 : Int) (a9 : Option Addr) (len9 cap9 : Nat) (l9 : List UInt8) (w : World) (w1 : (Lit.int .u8 a1).wf = true) (w2 : (Lit.int .u8 a2).wf = true) (w4 : (Lit.int .u8 a4).wf = true) (w6 : (Lit.int .u16 a6).wf = true) (w7 : (Lit.int .u16 a7).wf = true) (w8 : (Lit.int .u16 a8).wf = true) (w9 : InB w a9 len9 cap9 l9) (hL : LaidF w) :
    Calls Tryz.prog 6 #[.bool a0, .int .u8 a1, .int .u8 a2, .bool a3, .int .u8 a4, .bool a5, .int .u16 a6, .int .u16 a7, .int .u16 a8, .slice a9 len9 cap9] w fun e w' => e = .returned (.bool true) ∧ Below w.heap.size w w' := by
  have b1 := bounds_u8 w1
  have b2 := bounds_u8 w2
  have b4 := bounds_u8 w4
  have b6 := bounds_u16 w6
  have b7 := bounds_u16 w7
  have b8 := bounds_u16 w8
  obtain ⟨x1, rfl⟩ := Int.eq_ofNat_of_zero_le b1.1
  obtain ⟨x2, rfl⟩ := Int.eq_ofNat_of_zero_le b2.1
  obtain ⟨x4, rfl⟩ := Int.eq_ofNat_of_zero_le b4.1
  obtain ⟨x6, rfl⟩ := Int.eq_ofNat_of_zero_le b6.1
  obtain ⟨x7, rfl⟩ := Int.eq_ofNat_of_zero_le b7.1
  obtain ⟨x8, rfl⟩ := Int.eq_ofNat_of_zero_le b8.1
  exact passLaw_2 a0 a5 a3 x1 x2 x4 x6 x7 x8 len9 cap9 a9 l9 w (by omega) (by omega) (by omega) (by omega) (by omega) (by omega) (Lib.hid w9) (Lib.hid hL.1) (Lib.hid hL.2)

set_option maxRecDepth 100000 in
theorem contract (H : Type) (enc : TypeId × Value → H) (W : World) (base : Nat) (args : Array Value) (ds gs : List (DataW H)) (before : List MemPlace)
    (hval : ∀ (j : Nat) t v, Tryz.f6.params[j]? = some t → args[j]? = some v → Value.okWide Tryz.prog W .any base t v)
    (hW : DataW.Whole enc Tryz.prog Tryz.f6.params.toList Rows.fnPassTrueSpec.vars false W args.toList ds gs before) (hL : laidMetH Tryz.prog Rows.fnPassTrueRow.laid W) :
    Calls Tryz.prog 6 args W fun e W' => ∃ v, e = .returned v ∧ Rows.fnPassTrueSpec.post enc Tryz.prog Tryz.f6 false true false false W args v W' := by
  have hW' := hW
  obtain ⟨p, q, hA0, hV0, rfl, hfz, hnd⟩ := hW
  have hA : DataW.TrodAll enc Tryz.prog W 0 (fun _ => true) true Tryz.f6.params.toList args.toList ds p := hA0
  have hV : DataW.TrodVars enc Tryz.prog W (fun _ => true) ["loop.example/pub-g03424/pub/pngparts.interlacing"] gs q := hV0
  rw [Tryz.params6] at hA hval
  obtain ⟨v0, vs0, d0, ds0, p0, q0, hargs, rfl, rfl, h0, r0⟩ := trodAll_cons hA
  obtain ⟨v1, vs1, d1, ds1, p1, q1, rfl, rfl, rfl, h1, r1⟩ := trodAll_cons r0
  obtain ⟨v2, vs2, d2, ds2, p2, q2, rfl, rfl, rfl, h2, r2⟩ := trodAll_cons r1
  obtain ⟨v3, vs3, d3, ds3, p3, q3, rfl, rfl, rfl, h3, r3⟩ := trodAll_cons r2
  obtain ⟨v4, vs4, d4, ds4, p4, q4, rfl, rfl, rfl, h4, r4⟩ := trodAll_cons r3
  obtain ⟨v5, vs5, d5, ds5, p5, q5, rfl, rfl, rfl, h5, r5⟩ := trodAll_cons r4
  obtain ⟨v6, vs6, d6, ds6, p6, q6, rfl, rfl, rfl, h6, r6⟩ := trodAll_cons r5
  obtain ⟨v7, vs7, d7, ds7, p7, q7, rfl, rfl, rfl, h7, r7⟩ := trodAll_cons r6
  obtain ⟨v8, vs8, d8, ds8, p8, q8, rfl, rfl, rfl, h8, r8⟩ := trodAll_cons r7
  obtain ⟨v9, vs9, d9, ds9, p9, q9, rfl, rfl, rfl, h9, r9⟩ := trodAll_cons r8
  obtain ⟨rfl, rfl, rfl⟩ := trodAll_nil r9
  obtain rfl : args = #[v0, v1, v2, v3, v4, v5, v6, v7, v8, v9] := by cases args; simp_all
  obtain ⟨g1, rfl⟩ : ∃ g1, gs = [g1] := by
    have := trodVars_len hV
    match gs, this with
    | [g1], _ => exact ⟨g1, rfl⟩
  obtain ⟨a0, rfl, rfl, rfl⟩ := open_bool Tryz.underlying4 (hval 0 4 v0 rfl rfl) h0
  obtain ⟨a1, rfl, rfl, rfl, w1⟩ := open_int Tryz.underlying5 (hval 1 5 v1 rfl rfl) h1
  obtain ⟨a2, rfl, rfl, rfl, w2⟩ := open_int Tryz.underlying5 (hval 2 5 v2 rfl rfl) h2
  obtain ⟨a3, rfl, rfl, rfl⟩ := open_bool Tryz.underlying4 (hval 3 4 v3 rfl rfl) h3
  obtain ⟨a4, rfl, rfl, rfl, w4⟩ := open_int Tryz.underlying5 (hval 4 5 v4 rfl rfl) h4
  obtain ⟨a5, rfl, rfl, rfl⟩ := open_bool Tryz.underlying4 (hval 5 4 v5 rfl rfl) h5
  obtain ⟨a6, rfl, rfl, rfl, w6⟩ := open_int Tryz.underlying22 (hval 6 22 v6 rfl rfl) h6
  obtain ⟨a7, rfl, rfl, rfl, w7⟩ := open_int Tryz.underlying22 (hval 7 22 v7 rfl rfl) h7
  obtain ⟨a8, rfl, rfl, rfl, w8⟩ := open_int Tryz.underlying22 (hval 8 22 v8 rfl rfl) h8
  obtain ⟨a9, len9, cap9, rfl⟩ := okWide_slice Tryz.underlying23 (hval 9 23 v9 rfl rfl)
  have k9 := h9
  have lt9 : ∀ x ∈ p9, x.block < W.heap.size := by obtain ⟨m, hm⟩ := k9; exact DataW.trod_lt m _ _ _ hm
  obtain ⟨l9, w9⟩ := inB_of h9
  clear hA0 hV0
  refine (walk a0 a1 a2 a3 a4 a5 a6 a7 a8 a9 len9 cap9 l9 W w1 w2 w4 w6 w7 w8 w9 (laidF_of hL)).mono fun e W' ⟨he, bel⟩ => ?_
  subst he
  exact ⟨_, rfl, _, _, _, [], _, q, hW', trodAll_mk1 (shut_bool Tryz.underlying4 _), (trodAll_cons_mk (shut_bool Tryz.underlying4 a0) (trodAll_cons_mk (shut_int Tryz.underlying5 w1) (trodAll_cons_mk (shut_int Tryz.underlying5 w2) (trodAll_cons_mk (shut_bool Tryz.underlying4 a3) (trodAll_cons_mk (shut_int Tryz.underlying5 w4) (trodAll_cons_mk (shut_bool Tryz.underlying4 a5) (trodAll_cons_mk (shut_int Tryz.underlying22 w6) (trodAll_cons_mk (shut_int Tryz.underlying22 w7) (trodAll_cons_mk (shut_int Tryz.underlying22 w8) (trodAll_cons_mk (Below.trod laidOut (by kernel_rfl) (of_decide_eq_true (by kernel_rfl)) k9 bel lt9) trodAll_mk0)))))))))), vars_below laidOut bel (by kernel_rfl) hV, bel.frame _, fun h => by cases h⟩

theorem laid_met (os : Os) : laidMet Tryz.prog Rows.fnPassTrueRow.laid ((laidWorld os).forCall (fun _ _ => 0) ⟨#[], #[.bool false, .int .u8 0, .int .u8 0, .bool false, .int .u8 0, .bool false, .int .u16 0, .int .u16 0, .int .u16 0, .slice none 0 0], []⟩).memory :=
  laidMet_of_run' 12 (by kernel_rfl) (by kernel_rfl)
theorem reads (os : Os) {H : Type} (enc : TypeId × Value → H) : ∃ gs places, DataW.whole enc Tryz.prog ((laidWorld os).forCall (fun _ _ => 0) ⟨#[], #[.bool false, .int .u8 0, .int .u8 0, .bool false, .int .u8 0, .bool false, .int .u16 0, .int .u16 0, .int .u16 0, .slice none 0 0], []⟩).memory Tryz.f6.params.toList Rows.fnPassTrueSpec.vars false #[.bool false, .int .u8 0, .int .u8 0, .bool false, .int .u8 0, .bool false, .int .u16 0, .int .u16 0, .int .u16 0, .slice none 0 0].toList 12 = some ([.lit (.bool false), .lit (.int .u8 0), .lit (.int .u8 0), .lit (.bool false), .lit (.int .u8 0), .lit (.bool false), .lit (.int .u16 0), .lit (.int .u16 0), .lit (.int .u16 0), .nil], gs, places) := by
  have hw : (DataW.whole enc Tryz.prog ((laidWorld os).forCall (fun _ _ => 0) ⟨#[], #[.bool false, .int .u8 0, .int .u8 0, .bool false, .int .u8 0, .bool false, .int .u16 0, .int .u16 0, .int .u16 0, .slice none 0 0], []⟩).memory Tryz.f6.params.toList Rows.fnPassTrueSpec.vars false #[.bool false, .int .u8 0, .int .u8 0, .bool false, .int .u8 0, .bool false, .int .u16 0, .int .u16 0, .int .u16 0, .slice none 0 0].toList 12).map (fun x => x.1) = some [.lit (.bool false), .lit (.int .u8 0), .lit (.int .u8 0), .lit (.bool false), .lit (.int .u8 0), .lit (.bool false), .lit (.int .u16 0), .lit (.int .u16 0), .lit (.int .u16 0), .nil] := by kernel_rfl
  obtain ⟨⟨x1, x2, x3⟩, hx, hx1⟩ := Option.map_eq_some_iff.1 hw
  simp only at hx1
  subst hx1
  exact ⟨x2, x3, hx⟩

set_option maxRecDepth 100000 in
theorem lifted (os : Os) (started : os.Started) (H : Type) (enc : TypeId × Value → H) (F : Stop.Interp) :
    ReturnsInHanded {} Tryz.checked os 6 .any ((OpenSpec.ofChange Rows.fnPassTrueSpec).preRow enc Tryz.prog Tryz.f6 Rows.fnPassTrueRow.domain false Rows.fnPassTrueRow.laid) (((OpenSpec.ofChange Rows.fnPassTrueSpec).at F).post enc Tryz.prog Tryz.f6 false true false false) := by
  obtain ⟨gs, places, hx⟩ := reads os enc
  refine returnsInHanded_of_row (C := Tryz.checked) (s := OpenSpec.ofChange Rows.fnPassTrueSpec) own started (by kernel_rfl) Tryz.func6
    (witness_row_atRef (enc := enc) (C := Tryz.checked) false (laidWorld os) #[.bool false, .int .u8 0, .int .u8 0, .bool false, .int .u8 0, .bool false, .int .u16 0, .int .u16 0, .int .u16 0, .slice none 0 0] rfl (by kernel_rfl) (by kernel_rfl) (by kernel_rfl)
      (OpenSpec.preRow_of_cond 12 hx (by kernel_rfl) (fun k hk => by cases hk) (by kernel_rfl) (laid_met os))) ?_
  intro W base args ds gs before hval hW _ _ _ hL _ _
  exact contract H enc W base args ds gs before hval hW hL

theorem said : Rows.FnPassTrueSaid :=
  OpenClaim.holds_of_cond 6 Tryz.f6 rfl rfl rfl rfl rfl rfl rfl ⟨rfl, rfl, rfl, rfl, rfl⟩ rfl rfl rfl rfl rfl (by kernel_rfl) Tryz.func6 (by kernel_rfl)
    (of_decide_eq_true (by kernel_rfl)) (by unfold Func.isWrapper; first | (rw [if_pos (by decide +kernel)]; kernel_rfl) | (rw [if_neg (by decide +kernel)]; exact ⟨rfl, rfl⟩))
    (fun os started H enc _ F => by rw [OpenClaim.pre_eq_preRow]; exact lifted os started H enc F)

theorem plain (f : FuncId) (fn : Func) (hf : Tryz.pinned.checked.prog.funcNamed "loop.example/pub-g03424/laws.FnPassTrue" = some f) (hfn : Tryz.pinned.checked.prog.funcs[f]? = some fn) :
    true = Tryz.pinned.checked.prog.looks [] ∧ ∀ (j : Nat) t, fn.params[j]? = some t → Tryz.pinned.checked.prog.wantsStandIn t = false := by
  obtain rfl : f = 6 := Option.some.inj ((show Tryz.prog.funcNamed "loop.example/pub-g03424/laws.FnPassTrue" = some 6 by kernel_rfl).symm.trans hf) |>.symm
  obtain rfl : fn = Tryz.f6 := (Option.some.inj (Tryz.func6.symm.trans hfn)).symm
  refine ⟨by kernel_rfl, fun j t ht => ?_⟩
  rw [Tryz.params6] at ht
  have hm := Array.mem_of_getElem? ht
  have hall : ([4, 5, 5, 4, 5, 4, 22, 22, 22, 23] : List TypeId).all (fun t => !Tryz.prog.wantsStandIn t) = true := by kernel_rfl
  have := List.all_eq_true.1 hall t (by simpa using hm)
  exact (show Tryz.prog.wantsStandIn t = false by simpa using this)

/-- The statement. -/
theorem card : Rows.FnPassTrueCardSaid :=
  Claim7.holds_tied_plain_at .later [] _ _ _ _ said (fun _ h => by cases h) (by kernel_rfl) (fun _ h => by cases h) fnPassTrue_row_tie rfl ⟨rfl, rfl⟩ (by kernel_rfl) rfl plain (by kernel_rfl)
#print axioms card
end Go.Proofs.YtkiibhpmembcgaaGreatDoor.fnPassTrue
