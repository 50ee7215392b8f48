/- Proved here: for every input that can be read as data, laws.FnSumMixed returns true and every argument reads afterwards as it did before, where the package-level variables that the row lists hold what the program's text lays (the card ties them). Conditions: none beyond the given row's and card's own. (The frame after the given UptoLaidToy.lean, written by wip/door.py.) -/
import Derived.Test.YtbliooncenbboaaDoorCards
import Derived.Test.YtbliooncenbboaaDoorTie
import Derived.Test.YtbliooncenbboaaDoorFrame
import Derived.WalkKit
import Derived.ProofKit
import Derived.OpenShut
import Derived.ShutString
import Derived.ChangeOld
import Derived.Below
import Derived.Deep.DeepHandedRow
import Derived.Lib.LaidTab
import Derived.Test.YtbliooncenbboaaDoorSum
import Derived.Deep.RegionHeld3
import Derived.Deep.AppendLies
namespace Go.Proofs.YtbliooncenbboaaDoor.fnSumMixed
open Go.ChangeShapes Go.WideShapes Go.ChangeAt Go.RowKit Go.IntWalk
open Go.ChangeMaps (open_string shut_string)
set_option linter.unusedVariables false

/-- The table of the CRC-32 as integers. -/
def crcTab : List Int := (List.range 256).map fun i => ((crcByte i : Nat) : Int)
/-- What the listed variables hold. -/
def LaidF (w : World) : Prop := Tab w
theorem gTab : Tryd.prog.globalNamed "loop.example/pub-g03424/pub/pngparts.ieeeTable" = some 0 := by kernel_rfl
theorem gTabType : (Tryd.prog.globals[0]?).map (·.type) = some 40 := by kernel_rfl
theorem tab_eq {H : Type} : (Rows.laid_loop_example_pub_g03424_pub_pngparts_ieeeTable : DataW H) = Lib.tabData .u32 crcTab := by kernel_rfl
theorem laidF_of {W : World} (h : laidMetH Tryd.prog Rows.fnSumMixedRow.laid W) : LaidF W := by
  have h' : laidMetH Tryd.prog [("loop.example/pub-g03424/pub/pngparts.ieeeTable", Lib.tabData .u32 crcTab)] W := by
    rw [← tab_eq (H := Unit)]
    exact h
  have hT := Lib.tabIs_of_head (rest := []) gTab gTabType Tryd.underlying40 Tryd.underlying23 (by kernel_rfl) (by kernel_rfl) h'
  intro i hi
  have := hT.cell gTab i (by simpa [crcTab] using hi)
  rw [this]
  simp [crcTab, List.getD, hi]
/-- A world for the witness: the settled one, the table holding what its initialiser lays. -/
noncomputable def laidWorld (os : Os) : World :=
  { World.holding Tryd.prog os ⟨#[], #[], []⟩ with heap := (World.holding Tryd.prog os ⟨#[], #[], []⟩).heap.modify 0 fun
      | .cells _ t frozen => .cells (crcTab.map fun z => Value.int .u32 z).toArray t frozen
      | o => o }


/-- The walk: the Go text returns true and writes nothing that was there. -/
theorem walk (a0 : Option Addr) (len0 cap0 : Nat) (l0 : List UInt8) (a1 : Option Addr) (len1 cap1 : Nat) (l1 : List UInt8) (a2 : Option Addr) (len2 cap2 : Nat) (l2 : List UInt8) (w : World) (w0 : InB w a0 len0 cap0 l0) (w1 : InB w a1 len1 cap1 l1) (w2 : InB w a2 len2 cap2 l2) (hL : LaidF w) :
    Calls Tryd.prog 5 #[.slice a0 len0 cap0, .slice a1 len1 cap1, .slice a2 len2 cap2] w fun e w' => e = .returned (.bool true) ∧ Below w.heap.size w w' := by
  have ht : Tab w := hL
  obtain ⟨hlen0, rb0, hnil0, hcap0, most0⟩ := w0
  obtain ⟨hlen1, rb1, hnil1, hcap1, most1⟩ := w1
  obtain ⟨hlen2, rb2, hnil2, hcap2, most2⟩ := w2
  by_cases hs : len1 = len0 ∧ len2 = len0 ∧ len0 ≤ 65536
  · obtain ⟨rfl, rfl, hs⟩ := hs
    have c1 : decide ((2147483647 : Int) < (len2 : Int)) = false := decide_eq_false (by omega)
    have c2 : decide ((65536 : Int) < (len2 : Int)) = false := decide_eq_false (by omega)
    have c3 : ((len2 : Int) == (len2 : Int)) = true := by simp
    have c4 : (!((len2 : Int) == (len2 : Int))) = false := by simp
    have HX := Lib.hid (crcOf_mix l0 l1 l2 (by rw [hlen0.out, hlen1.out]) (by rw [hlen0.out, hlen2.out]))
    have HN := Lib.hid (mix3_length l0 l1 l2 (by rw [hlen0.out, hlen1.out]) (by rw [hlen0.out, hlen2.out]))
    go_enter Tryd.func5, Tryd.ntmps5
    go_wp2_with fail
    clear c1 c2 c3 c4
    go_loopw [7, 42] (fun v i wr => ∃ k : Nat, k ≤ len2 ∧ i = .int .i64 k ∧ OwnB wr w.heap.size v ((mix3 l0 l1 l2).take k) ∧ Below w.heap.size w wr) (fun _ i _ => len2 - (intOf i).toNat)
    case atStart => exact ⟨0, Nat.zero_le _, rfl, by simpa using OwnB.empty w w.heap.size (Nat.le_refl _), (Below.refl _ _).alloc (Nat.le_refl _) _⟩
    case round =>
      obtain ⟨k, hk, rfl, hown, hbel⟩ := hrel
      obtain ⟨t, htt⟩ : ∃ t, t = (mix3 l0 l1 l2).take k := ⟨_, rfl⟩
      rw [← htt] at hown
      have HT := Lib.hid htt
      have hlenk : t.length ≤ k := by rw [htt]; exact List.length_take_le _ _
      clear htt
      by_cases hlt : k < len2
      · obtain ⟨b0, o0, rfl, -⟩ := rb0 (by have := hlen0.out; intro e; rw [e] at this; simp at this; omega)
        obtain ⟨b1, o1, rfl, -⟩ := rb1 (by have := hlen1.out; intro e; rw [e] at this; simp at this; omega)
        obtain ⟨b2, o2, rfl, -⟩ := rb2 (by have := hlen2.out; intro e; rw [e] at this; simp at this; omega)
        obtain ⟨x, HX0, hx⟩ := (rb0.below hbel).at k (by have := hlen0.out; omega)
        obtain ⟨y, HX1, hy⟩ := (rb1.below hbel).at k (by have := hlen1.out; omega)
        obtain ⟨z, HX2, hz⟩ := (rb2.below hbel).at k (by have := hlen2.out; omega)
        obtain ⟨xy, hxy⟩ : ∃ t : UInt8, t = x ^^^ y := ⟨_, rfl⟩
        obtain ⟨xyz, hxyz⟩ : ∃ t : UInt8, t = xy ^^^ z := ⟨_, rfl⟩
        have e1 : bits .xor .u8 (x.toNat : Int) (y.toNat : Int) = (xy.toNat : Int) := by rw [hxy, u8_xor_nat _ _ (byte_lt x) (byte_lt y), UInt8.toNat_xor]
        have e2 : bits .xor .u8 (xy.toNat : Int) (z.toNat : Int) = (xyz.toNat : Int) := by rw [hxyz, u8_xor_nat _ _ (byte_lt _) (byte_lt z), ← UInt8.toNat_xor]
        have HXY := Lib.hid hxy
        have HXYZ := Lib.hid hxyz
        clear hxy hxyz
        have lb0 := World.block_lt_of_cell? wr _ hx
        have lb1 := World.block_lt_of_cell? wr _ hy
        have lb2 := World.block_lt_of_cell? wr _ hz
        have q0 : b0 < w.heap.size := rb0.lt (by have := hlen0.out; intro e; rw [e] at this; simp at this; omega)
        have q1 : b1 < w.heap.size := rb1.lt (by have := hlen1.out; intro e; rw [e] at this; simp at this; omega)
        have q2 : b2 < w.heap.size := rb2.lt (by have := hlen2.out; intro e; rw [e] at this; simp at this; omega)
        have ag0 : u7.ownBlock ≠ some b0 := fun e => by have := ownBlock_ge hown b0 e; omega
        have ag1 : u7.ownBlock ≠ some b1 := fun e => by have := ownBlock_ge hown b1 e; omega
        have ag2 : u7.ownBlock ≠ some b2 := fun e => by have := ownBlock_ge hown b2 e; omega
        have i0 : (0 : Int) ≤ (k : Int) := by omega
        have i1 : (k : Int) < (len2 : Int) := by omega
        obtain ⟨ii, hi, hz0, hz1, hz2⟩ := info_parts info_byte
        have hbs := hbel.size
        go_wp2_with fail
        go_region_held3 (fun w' => w'.cell? ⟨b0, o0 + k, none⟩ = some (.int .u8 (x.toNat : Int)) ∧ w'.cell? ⟨b1, o1 + k, none⟩ = some (.int .u8 (y.toNat : Int)) ∧ w'.cell? ⟨b2, o2 + k, none⟩ = some (.int .u8 (z.toNat : Int)))
          (first
            | go_keep
            | (go_split_ands
               refine ⟨?_, ?_, ?_⟩
               · (rw [hgrow.cell_far _ (by simp; omega) (Ne.symm ag0)]; assumption)
               · (rw [hgrow.cell_far _ (by simp; omega) (Ne.symm ag1)]; assumption)
               · (rw [hgrow.cell_far _ (by simp; omega) (Ne.symm ag2)]; assumption)))
          ((refine step_append_lies _ (by rfl) _ _ _ (by rfl) w.heap.size 5 ii _ 1 1 Tryd.underlying22 hi hz0 hz1 hz2 rfl (by omega) _ _ _ (by rfl) ((hown.alloc _).drew) ⟨wr.heap.size, 0, none⟩ 1 1 [.int .u8 (xyz.toNat : Int)] (by rfl) (by rfl) (World.news_of_block (cs := #[.int .u8 (xyz.toNat : Int)]) (t := 5) (fr := (0, 0)) (heap_alloc_new wr _)) (by simp [Value.oneCell']) (by omega) (by unfold maxLen; omega) (by omega) (by simp; omega) (wr.heap.size + 1) (by simp) ?_; intro gg cap w1 hown1 hgrow hat hlt'))
        have hb1 : Below w.heap.size w w1 := ((hbel.alloc (by omega) _).drew).grown hgrow (by simp; omega) (ownBlock_ge hown)
        go_wp2
        go_roundw
        case rel =>
          refine ⟨k + 1, by omega, by go_num, ?_, hb1⟩
          have e : (mix3 l0 l1 l2)[k]? = some xyz := by rw [HXYZ.out, HXY.out]; exact mix3_at l0 l1 l2 k x y z HX0.out HX1.out HX2.out
          rw [take_succ_of e, ← HT.out]
          exact OwnB.of_append hown1 rfl
        case measure => simp [intOf]; omega
      · have hk' : k = len2 := by omega
        have ET : Hid (t = mix3 l0 l1 l2) := Lib.hid (by
          rw [HT.out]
          exact List.take_of_length_le (by have h1 := HN.out; have h2 := hlen0.out; omega))
        obtain ⟨ad, cap, rfl, hr, -, -, hnil, -⟩ := hown.shape
        go_wp2_with fail
        refine (implSum_any ad t.length cap t (Lib.hid rfl) wr (by omega) hr hnil (ht.below hbel)).mono ?_
        rintro e w1 ⟨rfl, hb1⟩
        have B1 := hbel.trans (hb1.mono hbel.size)
        go_wp2_with fail
        refine (implSum_any a0 len2 cap0 l0 hlen0 w1 (by omega) (rb0.below B1) hnil0 (ht.below B1)).mono ?_
        rintro e w2 ⟨rfl, hb2⟩
        have B2 := B1.trans (hb2.mono B1.size)
        go_wp2_with fail
        refine (implSum_any a1 len2 cap1 l1 hlen1 w2 (by omega) (rb1.below B2) hnil1 (ht.below B2)).mono ?_
        rintro e w3 ⟨rfl, hb3⟩
        have B3 := B2.trans (hb3.mono B2.size)
        have y1 := u32_xor_nat (crcOf l0) (crcOf l1) (crcOf_lt _) (crcOf_lt _)
        have y2 := u32_xor_nat (crcOf l0 ^^^ crcOf l1) (crcOf l2) (xor_lt32 (crcOf_lt _) (crcOf_lt _)) (crcOf_lt _)
        have y3 : (((crcOf t : Nat) : Int) == ((crcOf l0 ^^^ crcOf l1 ^^^ crcOf l2 : Nat) : Int)) = true := by
          rw [ET.out, HX.out]; simp
        go_wp2_with fail
        refine (implSum_any a2 len2 cap2 l2 hlen2 w3 (by omega) (rb2.below B3) hnil2 (ht.below B3)).mono ?_
        rintro e w4 ⟨rfl, hb4⟩
        have B4 := B3.trans (hb4.mono B3.size)
        go_wp2_with fail
        have hr0 : RB (w4.alloc (.cells #[.int .u8 0] 5)) (some ⟨w4.heap.size, 0, none⟩) [0] := RB.one w4 0 5
        have B5 : Below w.heap.size w (w4.alloc (.cells #[.int .u8 0] 5)) := B4.alloc B4.size _
        refine (implSum_any (some ⟨w4.heap.size, 0, none⟩) 1 1 [0] (Lib.hid rfl) _ (by omega) hr0 (by intro h; cases h) (ht.below B5)).mono ?_
        rintro e w5 ⟨rfl, hb5⟩
        have y5 : crcOf [0] = 3523407757 := by decide
        go_wp2
        go_ret
        refine ⟨?_, B5.trans (hb5.mono B5.size)⟩
        simp
  · go_enter Tryd.func5, Tryd.ntmps5
    go_wp2_with fail
    all_goals first | (exfalso; omega) | skip
    all_goals go_ret
    all_goals exact ⟨rfl, Below.refl _ _⟩

theorem contract (H : Type) (enc : TypeId × Value → H) (W : World) (base : Nat) (args : Array Value) (ds gs : List (DataW H)) (before : List MemPlace)
    (hval : ∀ (j : Nat) t v, Tryd.f5.params[j]? = some t → args[j]? = some v → Value.okWide Tryd.prog W .any base t v)
    (hW : DataW.Whole enc Tryd.prog Tryd.f5.params.toList Rows.fnSumMixedSpec.vars false W args.toList ds gs before) (hL : laidMetH Tryd.prog Rows.fnSumMixedRow.laid W) :
    Calls Tryd.prog 5 args W fun e W' => ∃ v, e = .returned v ∧ Rows.fnSumMixedSpec.post enc Tryd.prog Tryd.f5 false true false false W args v W' := by
  have hW' := hW
  obtain ⟨p, q, hA0, hV0, rfl, hfz, hnd⟩ := hW
  have hA : DataW.TrodAll enc Tryd.prog W 0 (fun _ => true) true Tryd.f5.params.toList args.toList ds p := hA0
  have hV : DataW.TrodVars enc Tryd.prog W (fun _ => true) ["loop.example/pub-g03424/pub/pngparts.ieeeTable"] gs q := hV0
  rw [Tryd.params5] at hA hval
  obtain ⟨v0, vs0, d0, ds0, p0, q0, hargs, rfl, rfl, h0, r0⟩ := trodAll_cons hA
  obtain ⟨v1, vs1, d1, ds1, p1, q1, rfl, rfl, rfl, h1, r1⟩ := trodAll_cons r0
  obtain ⟨v2, vs2, d2, ds2, p2, q2, rfl, rfl, rfl, h2, r2⟩ := trodAll_cons r1
  obtain ⟨rfl, rfl, rfl⟩ := trodAll_nil r2
  obtain rfl : args = #[v0, v1, v2] := by cases args; simp_all
  obtain ⟨g1, rfl⟩ : ∃ g1, gs = [g1] := by
    have := trodVars_len hV
    match gs, this with
    | [g1], _ => exact ⟨g1, rfl⟩
  obtain ⟨a0, len0, cap0, rfl⟩ := okWide_slice Tryd.underlying22 (hval 0 22 v0 rfl rfl)
  have k0 := h0
  have lt0 : ∀ x ∈ p0, x.block < W.heap.size := by obtain ⟨m, hm⟩ := k0; exact DataW.trod_lt m _ _ _ hm
  obtain ⟨l0, w0⟩ := inB_of h0
  obtain ⟨a1, len1, cap1, rfl⟩ := okWide_slice Tryd.underlying22 (hval 1 22 v1 rfl rfl)
  have k1 := h1
  have lt1 : ∀ x ∈ p1, x.block < W.heap.size := by obtain ⟨m, hm⟩ := k1; exact DataW.trod_lt m _ _ _ hm
  obtain ⟨l1, w1⟩ := inB_of h1
  obtain ⟨a2, len2, cap2, rfl⟩ := okWide_slice Tryd.underlying22 (hval 2 22 v2 rfl rfl)
  have k2 := h2
  have lt2 : ∀ x ∈ p2, x.block < W.heap.size := by obtain ⟨m, hm⟩ := k2; exact DataW.trod_lt m _ _ _ hm
  obtain ⟨l2, w2⟩ := inB_of h2
  clear hA0 hV0
  refine (walk a0 len0 cap0 l0 a1 len1 cap1 l1 a2 len2 cap2 l2 W w0 w1 w2 (laidF_of hL)).mono fun e W' ⟨he, bel⟩ => ?_
  subst he
  exact ⟨_, rfl, _, _, _, [], _, q, hW', trodAll_mk1 (shut_bool Tryd.underlying4 _), (trodAll_cons_mk (Below.trod laidOut (by kernel_rfl) (of_decide_eq_true (by kernel_rfl)) k0 bel lt0) (trodAll_cons_mk (Below.trod laidOut (by kernel_rfl) (of_decide_eq_true (by kernel_rfl)) k1 bel lt1) (trodAll_cons_mk (Below.trod laidOut (by kernel_rfl) (of_decide_eq_true (by kernel_rfl)) k2 bel lt2) trodAll_mk0))), vars_below laidOut bel (by kernel_rfl) hV, bel.frame _, fun h => by cases h⟩

theorem laid_met (os : Os) : laidMet Tryd.prog Rows.fnSumMixedRow.laid ((laidWorld os).forCall (fun _ _ => 0) ⟨#[], #[.slice none 0 0, .slice none 0 0, .slice none 0 0], []⟩).memory :=
  laidMet_of_run' 12 (by kernel_rfl) (by kernel_rfl)
theorem reads (os : Os) {H : Type} (enc : TypeId × Value → H) : ∃ gs places, DataW.whole enc Tryd.prog ((laidWorld os).forCall (fun _ _ => 0) ⟨#[], #[.slice none 0 0, .slice none 0 0, .slice none 0 0], []⟩).memory Tryd.f5.params.toList Rows.fnSumMixedSpec.vars false #[.slice none 0 0, .slice none 0 0, .slice none 0 0].toList 12 = some ([.nil, .nil, .nil], gs, places) := by
  have hw : (DataW.whole enc Tryd.prog ((laidWorld os).forCall (fun _ _ => 0) ⟨#[], #[.slice none 0 0, .slice none 0 0, .slice none 0 0], []⟩).memory Tryd.f5.params.toList Rows.fnSumMixedSpec.vars false #[.slice none 0 0, .slice none 0 0, .slice none 0 0].toList 12).map (fun x => x.1) = some [.nil, .nil, .nil] := by kernel_rfl
  obtain ⟨⟨x1, x2, x3⟩, hx, hx1⟩ := Option.map_eq_some_iff.1 hw
  simp only at hx1
  subst hx1
  exact ⟨x2, x3, hx⟩

set_option maxRecDepth 100000 in
theorem lifted (os : Os) (started : os.Started) (H : Type) (enc : TypeId × Value → H) (F : Stop.Interp) :
    ReturnsInHanded {} Tryd.checked os 5 .any ((OpenSpec.ofChange Rows.fnSumMixedSpec).preRow enc Tryd.prog Tryd.f5 Rows.fnSumMixedRow.domain false Rows.fnSumMixedRow.laid) (((OpenSpec.ofChange Rows.fnSumMixedSpec).at F).post enc Tryd.prog Tryd.f5 false true false false) := by
  obtain ⟨gs, places, hx⟩ := reads os enc
  refine returnsInHanded_of_row (C := Tryd.checked) (s := OpenSpec.ofChange Rows.fnSumMixedSpec) own started (by kernel_rfl) Tryd.func5
    (witness_row_at (enc := enc) (C := Tryd.checked) false (laidWorld os) #[.slice none 0 0, .slice none 0 0, .slice none 0 0] rfl (by kernel_rfl) (by kernel_rfl) (by kernel_rfl)
      (OpenSpec.preRow_of_cond 12 hx (by kernel_rfl) (fun k hk => by cases hk) (by kernel_rfl) (laid_met os))) ?_
  intro W base args ds gs before hval hW _ _ _ hL _ _
  exact contract H enc W base args ds gs before hval hW hL

theorem said : Rows.FnSumMixedSaid :=
  OpenClaim.holds_of_cond 5 Tryd.f5 rfl rfl rfl rfl rfl rfl rfl ⟨rfl, rfl, rfl, rfl, rfl⟩ rfl rfl rfl rfl rfl (by kernel_rfl) Tryd.func5 (by kernel_rfl)
    (of_decide_eq_true (by kernel_rfl)) (by unfold Func.isWrapper; first | (rw [if_pos (by decide +kernel)]; kernel_rfl) | (rw [if_neg (by decide +kernel)]; exact ⟨rfl, rfl⟩))
    (fun os started H enc _ F => by rw [OpenClaim.pre_eq_preRow]; exact lifted os started H enc F)

theorem plain (f : FuncId) (fn : Func) (hf : Tryd.pinned.checked.prog.funcNamed "loop.example/pub-g03424/laws.FnSumMixed" = some f) (hfn : Tryd.pinned.checked.prog.funcs[f]? = some fn) :
    false = Tryd.pinned.checked.prog.looks [] ∧ ∀ (j : Nat) t, fn.params[j]? = some t → Tryd.pinned.checked.prog.wantsStandIn t = false := by
  obtain rfl : f = 5 := Option.some.inj ((show Tryd.prog.funcNamed "loop.example/pub-g03424/laws.FnSumMixed" = some 5 by kernel_rfl).symm.trans hf) |>.symm
  obtain rfl : fn = Tryd.f5 := (Option.some.inj (Tryd.func5.symm.trans hfn)).symm
  refine ⟨by kernel_rfl, fun j t ht => ?_⟩
  rw [Tryd.params5] at ht
  have hm : t = 22 := by
    have := Array.mem_of_getElem? ht
    simp at this
    omega
  subst hm
  · exact (show Tryd.prog.wantsStandIn 22 = false by kernel_rfl)

/-- The statement. -/
theorem card : Rows.FnSumMixedCardSaid :=
  Claim7.holds_tied_plain_at .later [] _ _ _ _ said (fun _ h => by cases h) (by kernel_rfl) (fun _ h => by cases h) fnSumMixed_row_tie rfl ⟨rfl, rfl⟩ (by kernel_rfl) rfl plain (by kernel_rfl)
#print axioms card
end Go.Proofs.YtbliooncenbboaaDoor.fnSumMixed
