/- Proved here: for every input that can be read as data, laws.FnFilterBack returns true and every argument reads afterwards as it did before. Conditions: none beyond the given row's own. (The frame was written by the kit's proof-skeleton.mjs.) -/
import Derived.Test.YtmidfhcfnemkoaaRows
import Derived.WalkKit
import Derived.ProofKit
import Derived.OpenShut
import Derived.ShutString
import Derived.ChangeOld
import Derived.Below
import Derived.Test.YtmidfhcfnemkoaaUnfilter
import Derived.Test.YtmidfhcfnemkoaaSpecFilter
import Derived.Test.YtmidfhcfnemkoaaConv
import Derived.Test.YtmidfhcfnemkoaaFrame
import Derived.Test.YtmidfhcfnemkoaaZZFilter
import Derived.Test.YtmidfhcfnemkoaaWeight
import Derived.Deep.RegionHeld3
namespace Go.Proofs.Ytmidfhcfnemkoaa.fnFilterBack
open Go.ChangeShapes Go.WideShapes Go.ChangeAt Go.RowKit
open Go.ChangeMaps (open_string shut_string)
set_option linter.unusedVariables false

theorem own : ownKnob Try.prog.godebug = none := by kernel_rfl
theorem laidOut : laidOutB Try.prog = true := by kernel_rfl

/-- WHAT THE WALK IS TOLD OF A SLICE OF INTEGERS THAT CAME IN: it is nil; or it leads to a row of 'cap' cells, the numbers 'zs' (the first 'len' are its elements, the rest its spare room), each fitting its kind. -/
def IsRow (k : IntKind) (w : World) (a : Option Addr) (len cap : Nat) (zs : List Int) : Prop :=
  (a = none ∧ len = 0 ∧ cap = 0 ∧ zs = []) ∨
  ∃ x, a = some x ∧ len ≤ cap ∧ cap ≤ maxLen ∧ zs.length = cap ∧ (∀ i, i < zs.length → w.cell? (x.add i) = some (.int k (zs.getD i 0))) ∧ ∀ n ∈ zs, (Lit.int k n).wf = true

/-! ### STEP 1: THE WALK: the Go text returns true, AND WRITES NOTHING THAT WAS THERE: 'Below w.heap.size w w'' (Derived/Below.lean: '.refl', '.alloc', '.drew', '.setCell' at a new block, '.trans'). Open each 'IsRow' by 'rcases' AHEAD of 'go_enter'; part every test ahead of the walk. -/
set_option maxHeartbeats 3200000 in
theorem walk (a0 : Option Addr) (len0 cap0 : Nat) (z0 : List Int) (a1 : Option Addr) (len1 cap1 : Nat) (z1 : List Int) (a2 : Int) (w : World) (w0 : IsRow .u8 w a0 len0 cap0 z0) (w1 : IsRow .u8 w a1 len1 cap1 z1) (w2 : (Lit.int .u8 a2).wf = true) :
    Calls Try.prog 6 #[.slice a0 len0 cap0, .slice a1 len1 cap1, .int .u8 a2] w fun e w' => e = .returned (.bool true) ∧ Below w.heap.size w w' := by
  obtain ⟨l0, w0⟩ := inB_of_rows w0
  obtain ⟨l1, w1⟩ := inB_of_rows w1
  obtain ⟨hlen0, rb0, hnil0, hcap0, most0⟩ := w0
  obtain ⟨hlen1, rb1, hnil1, hcap1, most1⟩ := w1
  have hstep := bounds_u8 w2
  obtain ⟨st1, st2⟩ := hstep
  obtain ⟨step, rfl⟩ := Int.eq_ofNat_of_zero_le st1
  clear w2
  have k1 : IntKind.i64.wrap (step : Int) = (step : Int) := IntWalk.i64_in _ ⟨by omega, by omega⟩
  by_cases hs : len1 = len0 ∧ len0 ≤ 4096 ∧ 1 ≤ step ∧ step ≤ 8 ∧ step ≤ len0
  · obtain ⟨rfl, hs, hs1, hs2, hs3⟩ := hs
    have c1 : decide ((2147483647 : Int) < (len1 : Int)) = false := decide_eq_false (by omega)
    go_enter Try.func6, Try.ntmps6
    go_wp2_with (first
      | (go_at_call 11; refine (rowsOk_yes a0 a1 len1 cap0 cap1 step w hs hs1 hs2 hs3).mono ?_; rintro e w' ⟨rfl, rfl⟩)
      | (go_at_call 12; refine (implFilter_any a0 a1 len1 cap0 cap1 step l0 l1 w hlen0 rb0 hnil0 hlen1 rb1 hnil1 hs1 hs2 hs3 (by omega)).mono ?_; rintro e w1 ⟨f, v1, out1, rfl, hch, ho1, hb1⟩; obtain ⟨ad1, m1, cp1, rfl, hm1, hr1, -, -, hnl1, -⟩ := ho1.shapeN))
    have hf4 := hch.kind
    have HCH := Lib.hid hch
    clear c1 ho1
    obtain rfl : len1 = m1 := by have h1 := hm1.out; have h2 := hlen0.out; rw [hch.is, filtered_length] at h1; omega
    clear hch
    have rd0 : RB w1.drew a0 l0 := rb0.below hb1.drew
    have rd1 : RB w1.drew a1 l1 := rb1.below hb1.drew
    have rd2 : RB w1.drew ad1 out1 := hr1
    have g0 : (0 : Int) ≤ (f : Int) := by omega
    have g1 : (f : Int) ≤ 4 := by omega
    have cv1 := conv_bytes (cap := cap0) rd0 hlen0
    refine wp_region_held_drew (S := fun w' => (convert 22 9 (.slice a0 len1 cap0)).run Try.prog w' = .ok (.string (strOf l0)) w') (by kernel_rfl) cv1 (fun hHeld => ?_)
    refine wpAnyH_take (i := 0) (oi := { dst := some 30, op := Op.move (Operand.tmp 7), type := 3, pos := "small.go:73", after := #[], guard := none }) (v := ?_) rfl (by kernel_rfl) (by kernel_rfl) (by kernel_rfl) (fun _ _ _ h => h) (Or.inl ⟨by rfl, ?_⟩) (by assumption) ?_
    rotate_left
    · intro w hSw
      (try dsimp only at hSw)
      go_simp
      first | done | with_reducible rfl
    simp only [Act.put, List.setIfInBounds_toArray, List.set_cons_succ, List.set_cons_zero]
    refine wpAnyH_take (i := 1) (oi := { dst := some 31, op := Op.binOp BinOp.geq 3 (Operand.tmp 30) (Operand.const (Value.int IntKind.i64 0)) 3, type := 4, pos := "small.go:73", after := #[{ on := 0, ground := Ground.data }], guard := none }) (v := ?_) rfl (by kernel_rfl) (by kernel_rfl) (by kernel_rfl) (fun _ _ _ h => h) (Or.inl ⟨by rfl, ?_⟩) (by assumption) ?_
    rotate_left
    · intro w hSw
      (try dsimp only at hSw)
      go_simp
      first | done | with_reducible rfl
    simp only [Act.put, List.setIfInBounds_toArray, List.set_cons_succ, List.set_cons_zero]
    refine wpAnyH_take (i := 2) (oi := { dst := some 32, op := Op.move (Operand.tmp 31), type := 4, pos := "small.go:73", after := #[{ on := 1, ground := Ground.data }], guard := none }) (v := ?_) rfl (by kernel_rfl) (by kernel_rfl) (by kernel_rfl) (fun _ _ _ h => h) (Or.inl ⟨by rfl, ?_⟩) (by assumption) ?_
    rotate_left
    · intro w hSw
      (try dsimp only at hSw)
      go_simp
      first | done | with_reducible rfl
    simp only [Act.put, List.setIfInBounds_toArray, List.set_cons_succ, List.set_cons_zero]
    refine wpAnyH_take (i := 3) (oi := { dst := some 33, op := Op.move (Operand.tmp 7), type := 3, pos := "small.go:73", after := #[{ on := 2, ground := Ground.guard }], guard := some (2, true) }) (v := ?_) rfl (by kernel_rfl) (by kernel_rfl) (by kernel_rfl) (fun _ _ _ h => h) (Or.inl ⟨by rfl, ?_⟩) (by assumption) ?_
    rotate_left
    · intro w hSw
      (try dsimp only at hSw)
      go_simp
      first | done | with_reducible rfl
    simp only [Act.put, List.setIfInBounds_toArray, List.set_cons_succ, List.set_cons_zero]
    refine wpAnyH_take (i := 4) (oi := { dst := some 34, op := Op.binOp BinOp.leq 3 (Operand.tmp 33) (Operand.const (Value.int IntKind.i64 4)) 3, type := 4, pos := "small.go:73", after := #[{ on := 3, ground := Ground.data }, { on := 2, ground := Ground.guard }], guard := some (2, true) }) (v := ?_) rfl (by kernel_rfl) (by kernel_rfl) (by kernel_rfl) (fun _ _ _ h => h) (Or.inl ⟨by rfl, ?_⟩) (by assumption) ?_
    rotate_left
    · intro w hSw
      (try dsimp only at hSw)
      go_simp
      first | done | with_reducible rfl
    simp only [Act.put, List.setIfInBounds_toArray, List.set_cons_succ, List.set_cons_zero]
    refine wpAnyH_take (i := 5) (oi := { dst := some 35, op := Op.pick (Operand.tmp 32) (Operand.tmp 34) (Operand.const (Value.bool false)), type := 4, pos := "small.go:73", after := #[{ on := 2, ground := Ground.data }, { on := 4, ground := Ground.data }], guard := none }) (v := ?_) rfl (by kernel_rfl) (by kernel_rfl) (by kernel_rfl) (fun _ _ _ h => h) (Or.inl ⟨by rfl, ?_⟩) (by assumption) ?_
    rotate_left
    · intro w hSw
      (try dsimp only at hSw)
      go_simp
      first | done | with_reducible rfl
    simp only [Act.put, List.setIfInBounds_toArray, List.set_cons_succ, List.set_cons_zero]
    refine wpAnyH_take (i := 6) (oi := { dst := some 36, op := Op.move (Operand.tmp 35), type := 4, pos := "small.go:73", after := #[{ on := 5, ground := Ground.data }, { on := 2, ground := Ground.chain }], guard := none }) (v := ?_) rfl (by kernel_rfl) (by kernel_rfl) (by kernel_rfl) (fun _ _ _ h => h) (Or.inl ⟨by rfl, ?_⟩) (by assumption) ?_
    rotate_left
    · intro w hSw
      (try dsimp only at hSw)
      go_simp
      first | done | with_reducible rfl
    simp only [Act.put, List.setIfInBounds_toArray, List.set_cons_succ, List.set_cons_zero]
    refine wpAnyH_take (i := 7) (oi := { dst := some 37, op := Op.move (Operand.tmp 8), type := 22, pos := "small.go:73", after := #[{ on := 6, ground := Ground.guard }], guard := some (6, true) }) (v := ?_) rfl (by kernel_rfl) (by kernel_rfl) (by kernel_rfl) (fun _ _ _ h => h) (Or.inl ⟨by rfl, ?_⟩) (by assumption) ?_
    rotate_left
    · intro w hSw
      (try dsimp only at hSw)
      go_simp
      first | done | with_reducible rfl
    simp only [Act.put, List.setIfInBounds_toArray, List.set_cons_succ, List.set_cons_zero]
    refine wpAnyH_take (i := 8) (oi := { dst := some 38, op := Op.call { callee := Callee.builtin Builtin.len, args := #[Operand.tmp 37], argTypes := #[22] }, type := 3, pos := "small.go:73", after := #[{ on := 7, ground := Ground.data }, { on := 6, ground := Ground.guard }], guard := some (6, true) }) (v := ?_) rfl (by kernel_rfl) (by kernel_rfl) (by kernel_rfl) (fun _ _ _ h => h) (Or.inl ⟨by rfl, ?_⟩) (by assumption) ?_
    rotate_left
    · intro w hSw
      (try dsimp only at hSw)
      go_simp
      first | done | with_reducible rfl
    simp only [Act.put, List.setIfInBounds_toArray, List.set_cons_succ, List.set_cons_zero]
    refine wpAnyH_take (i := 9) (oi := { dst := some 39, op := Op.move (Operand.tmp 0), type := 22, pos := "small.go:73", after := #[{ on := 6, ground := Ground.guard }], guard := some (6, true) }) (v := ?_) rfl (by kernel_rfl) (by kernel_rfl) (by kernel_rfl) (fun _ _ _ h => h) (Or.inl ⟨by rfl, ?_⟩) (by assumption) ?_
    rotate_left
    · intro w hSw
      (try dsimp only at hSw)
      go_simp
      first | done | with_reducible rfl
    simp only [Act.put, List.setIfInBounds_toArray, List.set_cons_succ, List.set_cons_zero]
    refine wpAnyH_take (i := 10) (oi := { dst := some 40, op := Op.call { callee := Callee.builtin Builtin.len, args := #[Operand.tmp 39], argTypes := #[22] }, type := 3, pos := "small.go:73", after := #[{ on := 9, ground := Ground.data }, { on := 6, ground := Ground.guard }], guard := some (6, true) }) (v := ?_) rfl (by kernel_rfl) (by kernel_rfl) (by kernel_rfl) (fun _ _ _ h => h) (Or.inl ⟨by rfl, ?_⟩) (by assumption) ?_
    rotate_left
    · intro w hSw
      (try dsimp only at hSw)
      go_simp
      first | done | with_reducible rfl
    simp only [Act.put, List.setIfInBounds_toArray, List.set_cons_succ, List.set_cons_zero]
    refine wpAnyH_take (i := 11) (oi := { dst := some 41, op := Op.binOp BinOp.eql 3 (Operand.tmp 38) (Operand.tmp 40) 3, type := 4, pos := "small.go:73", after := #[{ on := 8, ground := Ground.data }, { on := 10, ground := Ground.data }, { on := 6, ground := Ground.guard }], guard := some (6, true) }) (v := ?_) rfl (by kernel_rfl) (by kernel_rfl) (by kernel_rfl) (fun _ _ _ h => h) (Or.inl ⟨by rfl, ?_⟩) (by assumption) ?_
    rotate_left
    · intro w hSw
      (try dsimp only at hSw)
      go_simp
      first | done | with_reducible rfl
    simp only [Act.put, List.setIfInBounds_toArray, List.set_cons_succ, List.set_cons_zero]
    refine wpAnyH_take (i := 12) (oi := { dst := some 42, op := Op.pick (Operand.tmp 36) (Operand.tmp 41) (Operand.const (Value.bool false)), type := 4, pos := "small.go:73", after := #[{ on := 6, ground := Ground.data }, { on := 11, ground := Ground.data }], guard := none }) (v := ?_) rfl (by kernel_rfl) (by kernel_rfl) (by kernel_rfl) (fun _ _ _ h => h) (Or.inl ⟨by rfl, ?_⟩) (by assumption) ?_
    rotate_left
    · intro w hSw
      (try dsimp only at hSw)
      go_simp
      first | done | with_reducible rfl
    simp only [Act.put, List.setIfInBounds_toArray, List.set_cons_succ, List.set_cons_zero]
    refine wpAnyH_take (i := 13) (oi := { dst := some 43, op := Op.move (Operand.tmp 42), type := 4, pos := "small.go:73", after := #[{ on := 12, ground := Ground.data }, { on := 6, ground := Ground.chain }], guard := none }) (v := ?_) rfl (by kernel_rfl) (by kernel_rfl) (by kernel_rfl) (fun _ _ _ h => h) (Or.inl ⟨by rfl, ?_⟩) (by assumption) ?_
    rotate_left
    · intro w hSw
      (try dsimp only at hSw)
      go_simp
      first | done | with_reducible rfl
    simp only [Act.put, List.setIfInBounds_toArray, List.set_cons_succ, List.set_cons_zero]
    refine wpAnyH_take (i := 14) (oi := { dst := some 44, op := Op.move (Operand.tmp 7), type := 3, pos := "small.go:73", after := #[{ on := 13, ground := Ground.guard }], guard := some (13, true) }) (v := ?_) rfl (by kernel_rfl) (by kernel_rfl) (by kernel_rfl) (fun _ _ _ h => h) (Or.inl ⟨by rfl, ?_⟩) (by assumption) ?_
    rotate_left
    · intro w hSw
      (try dsimp only at hSw)
      go_simp
      first | done | with_reducible rfl
    simp only [Act.put, List.setIfInBounds_toArray, List.set_cons_succ, List.set_cons_zero]
    refine wpAnyH_take (i := 15) (oi := { dst := some 45, op := Op.move (Operand.tmp 8), type := 22, pos := "small.go:73", after := #[{ on := 13, ground := Ground.guard }], guard := some (13, true) }) (v := ?_) rfl (by kernel_rfl) (by kernel_rfl) (by kernel_rfl) (fun _ _ _ h => h) (Or.inl ⟨by rfl, ?_⟩) (by assumption) ?_
    rotate_left
    · intro w hSw
      (try dsimp only at hSw)
      go_simp
      first | done | with_reducible rfl
    simp only [Act.put, List.setIfInBounds_toArray, List.set_cons_succ, List.set_cons_zero]
    refine wpAnyH_take (i := 16) (oi := { dst := some 46, op := Op.move (Operand.tmp 1), type := 22, pos := "small.go:73", after := #[{ on := 13, ground := Ground.guard }], guard := some (13, true) }) (v := ?_) rfl (by kernel_rfl) (by kernel_rfl) (by kernel_rfl) (fun _ _ _ h => h) (Or.inl ⟨by rfl, ?_⟩) (by assumption) ?_
    rotate_left
    · intro w hSw
      (try dsimp only at hSw)
      go_simp
      first | done | with_reducible rfl
    simp only [Act.put, List.setIfInBounds_toArray, List.set_cons_succ, List.set_cons_zero]
    refine wpAnyH_take (i := 17) (oi := { dst := some 47, op := Op.move (Operand.tmp 2), type := 5, pos := "small.go:73", after := #[{ on := 13, ground := Ground.guard }], guard := some (13, true) }) (v := ?_) rfl (by kernel_rfl) (by kernel_rfl) (by kernel_rfl) (fun _ _ _ h => h) (Or.inl ⟨by rfl, ?_⟩) (by assumption) ?_
    rotate_left
    · intro w hSw
      (try dsimp only at hSw)
      go_simp
      first | done | with_reducible rfl
    simp only [Act.put, List.setIfInBounds_toArray, List.set_cons_succ, List.set_cons_zero]
    refine wpAnyH_take (i := 18) (oi := { dst := some 48, op := Op.convert 5 3 (Operand.tmp 47), type := 3, pos := "small.go:73", after := #[{ on := 17, ground := Ground.data }, { on := 13, ground := Ground.guard }], guard := some (13, true) }) (v := ?_) rfl (by kernel_rfl) (by kernel_rfl) (by kernel_rfl) (fun _ _ _ h => h) (Or.inl ⟨by rfl, ?_⟩) (by assumption) ?_
    rotate_left
    · intro w hSw
      (try dsimp only at hSw)
      go_simp
      first | done | with_reducible rfl
    simp only [Act.put, List.setIfInBounds_toArray, List.set_cons_succ, List.set_cons_zero]
    refine wpAnyH_take (i := 21) (oi := { dst := some 51, op := Op.move (Operand.tmp 0), type := 22, pos := "small.go:73", after := #[{ on := 13, ground := Ground.guard }], guard := some (13, true) }) (v := ?_) rfl (by kernel_rfl) (by kernel_rfl) (by kernel_rfl) (fun _ _ _ h => h) (Or.inl ⟨by rfl, ?_⟩) (by assumption) ?_
    rotate_left
    · intro w hSw
      (try dsimp only at hSw)
      go_simp
      first | done | with_reducible rfl
    simp only [Act.put, List.setIfInBounds_toArray, List.set_cons_succ, List.set_cons_zero]
    refine wpAnyH_take (i := 22) (oi := { dst := some 52, op := Op.convert 22 9 (Operand.tmp 51), type := 9, pos := "small.go:73", after := #[{ on := 21, ground := Ground.data }, { on := 13, ground := Ground.guard }], guard := some (13, true) }) (v := ?_) rfl (by kernel_rfl) (by kernel_rfl) (by kernel_rfl) (fun _ _ _ h => h) (Or.inl ⟨by rfl, ?_⟩) (by assumption) ?_
    rotate_left
    · intro w hSw
      (try dsimp only at hSw)
      go_simp
      first | done | with_reducible rfl
    simp only [Act.put, List.setIfInBounds_toArray, List.set_cons_succ, List.set_cons_zero]
    refine wpAnyH_ready (rs := [19]) (by kernel_rfl) (by simp) ?_
    refine AllReadyH.cons rfl (fun K hK => ?_) AllReadyH.nil
    go_simp
    go_wp2_with (go_at_call 9; refine Calls.mono (specUnfiltered_any f len1 cp1 len1 cap1 step ad1 a1 out1 l1 w1.drew hf4 hm1 rd2 hnl1 hlen1 rd1 (Nat.le_refl _) hs1 hs2 (by omega)) ?_; rintro e w2 ⟨v2, out2, rfl, hu2, ho2, hb2⟩)
    obtain ⟨ad2, m2, cp2, rfl, hm2, hr2, -⟩ := ho2.shapeN
    have cv2 := conv_bytes (cap := cp2) hr2 hm2
    have cv3 := conv_bytes (cap := cap0) (rd0.below hb2) hlen0
    refine hK.out _ _ cv3 (fun hHeld => ?_)
    clear hK K
    refine wpAnyH_ready (rs := [20]) (by kernel_rfl) (by simp) ?_
    refine AllReadyH.cons rfl (fun K hK => ?_) AllReadyH.nil
    go_simp
    refine hK.out _ _ cv3 (fun hHeld => ?_)
    clear hK K
    refine wpAnyH_take (i := 23) (oi := { dst := some 53, op := Op.binOp BinOp.eql 9 (Operand.tmp 50) (Operand.tmp 52) 9, type := 4, pos := "small.go:73", after := #[{ on := 20, ground := Ground.data }, { on := 22, ground := Ground.data }, { on := 13, ground := Ground.guard }], guard := some (13, true) }) (v := ?_) rfl (by kernel_rfl) (by kernel_rfl) (by kernel_rfl) (fun _ _ _ h => h) (Or.inl ⟨by rfl, ?_⟩) (by assumption) ?_
    rotate_left
    · intro w hSw
      (try dsimp only at hSw)
      go_simp
      first | done | with_reducible rfl
    simp only [Act.put, List.setIfInBounds_toArray, List.set_cons_succ, List.set_cons_zero]
    refine wpAnyH_take (i := 24) (oi := { dst := some 54, op := Op.pick (Operand.tmp 43) (Operand.tmp 53) (Operand.const (Value.bool false)), type := 4, pos := "small.go:73", after := #[{ on := 13, ground := Ground.data }, { on := 23, ground := Ground.data }], guard := none }) (v := ?_) rfl (by kernel_rfl) (by kernel_rfl) (by kernel_rfl) (fun _ _ _ h => h) (Or.inl ⟨by rfl, ?_⟩) (by assumption) ?_
    rotate_left
    · intro w hSw
      (try dsimp only at hSw)
      go_simp
      first | done | with_reducible rfl
    simp only [Act.put, List.setIfInBounds_toArray, List.set_cons_succ, List.set_cons_zero]
    refine wpAnyH_take (i := 25) (oi := _) (v := ?_) rfl (by kernel_rfl) (by kernel_rfl) (by kernel_rfl) (fun _ _ _ h => h) (Or.inl ⟨by rfl, ?_⟩) (by assumption) ?_
    rotate_left
    · intro w hSw
      (try dsimp only at hSw)
      go_simp
      first | done | with_reducible rfl
    refine wpAnyH_done (by kernel_rfl) ?_ _
    have eo : out2 = l0 := by have h := hu2; rw [HCH.out.is] at h; exact h.unique hs1 (filtered_back _ l0 l1 step)
    have B : Below w.heap.size w w2 := hb1.trans ((bel_undrew hb2).mono hb1.size)
    go_wp2_with fail
    go_ret
    exact ⟨by simp [eo]; rfl, B⟩
  · have hno := rowsOk_no a0 a1 len0 len1 cap0 cap1 step w (by omega) hs
    go_enter Try.func6, Try.ntmps6
    go_wp2_with (go_at_call 11; refine hno.mono ?_; rintro e w' ⟨rfl, rfl⟩)
    all_goals first | (exfalso; omega) | skip
    all_goals go_ret
    all_goals exact ⟨rfl, Below.refl _ _⟩

/-! ### THE ROW's STEP: WRITTEN OUT: LEAVE IT -/
set_option maxRecDepth 100000 in
theorem lifted (os : Os) (started : os.Started) (H : Type) (enc : TypeId × Value → H) :
    ReturnsInHanded {} Try.checked os 6 .any (Rows.fnFilterBackSpec.pre6 enc Try.prog Try.f6 Rows.fnFilterBackRow.domain false) (Rows.fnFilterBackSpec.post enc Try.prog Try.f6 false true false false) := by
  refine returnsInHanded_of_change (C := Try.checked) own started (by kernel_rfl) Try.func6
    (ChangeSpec.witness6 (enc := enc) (C := Try.checked) false ⟨#[], #[.slice none 0 0, .slice none 0 0, .int .u8 0], []⟩ 8 (by kernel_rfl) (by kernel_rfl) (by kernel_rfl) (by kernel_rfl)) ?_
  intro W base args ds gs before hval0 hW hcnd _
  have hval : ∀ (j : Nat) t v, Try.f6.params[j]? = some t → args[j]? = some v → Value.okWide Try.prog W .any base t v := hval0
  have hW' := hW
  obtain ⟨p, q, hA0, hV, rfl, hfz, hnd⟩ := hW
  have hA : DataW.TrodAll enc Try.prog W 0 (fun _ => true) true Try.f6.params.toList args.toList ds p := hA0
  rw [Try.params6] at hA hval
  obtain ⟨v0, vs0, d0, ds0, p0, q0, hargs, rfl, rfl, h0, r0⟩ := trodAll_cons hA
  obtain ⟨v1, vs1, d1, ds1, p1, q1, rfl, rfl, rfl, h1, r1⟩ := trodAll_cons r0
  obtain ⟨v2, vs2, d2, ds2, p2, q2, rfl, rfl, rfl, h2, r2⟩ := trodAll_cons r1
  obtain ⟨rfl, rfl, rfl⟩ := trodAll_nil r2
  obtain rfl : args = #[v0, v1, v2] := by cases args; simp_all
  obtain ⟨rfl, rfl⟩ := trodVars_none hV
  obtain ⟨a0, len0, cap0, rfl⟩ := okWide_slice Try.underlying22 (hval 0 22 v0 rfl rfl)
  have k0 := h0
  have lt0 : ∀ x ∈ p0, x.block < W.heap.size := by obtain ⟨m, hm⟩ := k0; exact DataW.trod_lt m _ _ _ hm
  obtain ⟨z0, w0⟩ : ∃ zs, IsRow .u8 W a0 len0 cap0 zs := by
    obtain ⟨fuel, hf⟩ := h0
    rcases open_ints Try.underlying22 Try.underlying5 (by kernel_rfl) hf with ⟨hcs, _⟩ | ⟨x, l, c, zs, hcs, _, hl, hm, hz, _, hcell, hwz⟩
    · simp [Value.cells] at hcs
      obtain ⟨rfl, rfl, rfl⟩ := hcs
      exact ⟨[], .inl ⟨rfl, rfl, rfl, rfl⟩⟩
    · simp [Value.cells] at hcs
      obtain ⟨rfl, rfl, rfl⟩ := hcs
      exact ⟨zs, .inr ⟨_, rfl, hl, hm, by simpa using hz, hcell, hwz⟩⟩
  obtain ⟨a1, len1, cap1, rfl⟩ := okWide_slice Try.underlying22 (hval 1 22 v1 rfl rfl)
  have k1 := h1
  have lt1 : ∀ x ∈ p1, x.block < W.heap.size := by obtain ⟨m, hm⟩ := k1; exact DataW.trod_lt m _ _ _ hm
  obtain ⟨z1, w1⟩ : ∃ zs, IsRow .u8 W a1 len1 cap1 zs := by
    obtain ⟨fuel, hf⟩ := h1
    rcases open_ints Try.underlying22 Try.underlying5 (by kernel_rfl) hf with ⟨hcs, _⟩ | ⟨x, l, c, zs, hcs, _, hl, hm, hz, _, hcell, hwz⟩
    · simp [Value.cells] at hcs
      obtain ⟨rfl, rfl, rfl⟩ := hcs
      exact ⟨[], .inl ⟨rfl, rfl, rfl, rfl⟩⟩
    · simp [Value.cells] at hcs
      obtain ⟨rfl, rfl, rfl⟩ := hcs
      exact ⟨zs, .inr ⟨_, rfl, hl, hm, by simpa using hz, hcell, hwz⟩⟩
  obtain ⟨a2, rfl, rfl, rfl, w2⟩ := open_int Try.underlying5 (hval 2 5 v2 rfl rfl) h2
  clear hA0 hval0
  refine (walk a0 len0 cap0 z0 a1 len1 cap1 z1 a2 W w0 w1 w2).mono fun e W' ⟨he, bel⟩ => ?_
  subst he
  exact ⟨_, rfl, _, _, _, [], _, [], hW', trodAll_mk1 (shut_bool Try.underlying4 _), (trodAll_cons_mk (Below.trod laidOut (by kernel_rfl) (of_decide_eq_true (by kernel_rfl)) k0 bel lt0) (trodAll_cons_mk (Below.trod laidOut (by kernel_rfl) (of_decide_eq_true (by kernel_rfl)) k1 bel lt1) (trodAll_cons_mk (shut_int Try.underlying5 w2) trodAll_mk0))), rfl, bel.frame _, fun h => by cases h⟩

theorem over : Rows.fnFilterBackRow.holds Try.pinned (OpenSpec.ofChange Rows.fnFilterBackSpec) :=
  OpenClaim.holds_of_wide 6 Try.f6 rfl rfl rfl rfl rfl rfl rfl ⟨rfl, rfl, rfl, rfl, rfl⟩ rfl rfl rfl rfl rfl (by kernel_rfl) Try.func6 (by kernel_rfl)
    (of_decide_eq_true (by kernel_rfl)) (by unfold Func.isWrapper; first | (rw [if_pos (by decide +kernel)]; kernel_rfl) | (rw [if_neg (by decide +kernel)]; exact ⟨rfl, rfl⟩))
    (fun os started H enc _ => lifted os started H enc)

/-- ████ THE STATEMENT ████ -/
theorem proved : Rows.FnFilterBackSaid := over
#print axioms proved
end Go.Proofs.Ytmidfhcfnemkoaa.fnFilterBack
