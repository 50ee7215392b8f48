/- The walk through the law FnChunk. -/
import Derived.Test.YtiiipmcjbibgoaaDoorSpecChunk
import Derived.Test.YtiiipmcjbibgoaaDoorConv
import Derived.Test.YtiiipmcjbibgoaaDoorWReadHeader
import Derived.Deep.RegionHeld3
namespace Go.Proofs.YtiiipmcjbibgoaaDoor
open Go.ChangeShapes Go.WideShapes Go.ChangeAt Go.RowKit Go.IntWalk

/-- The kit's wpAnyH_take, the slot that is written told by its number. -/
theorem take_at {P : Program} {md : Region.Mode} {ops : Array Oper} {Q : Exit → Act → World → Prop} {S : World → Prop} (i : Nat) (d : Option Tmp) {oi : Oper} {v : Value} {fuel : Nat} {listed : Array Bool} {a : Act} {w : World} (hi : ops[i]? = some oi) (hd : oi.dst = d)
    (hs : Region.noSelect ops = true) (hf : Region.free md ops listed i = true) (hr : (Region.ready md ops listed).contains i = true)
    (hQ : ∀ c a w, Q (.panic c) (a.put d v) w → Q (.panic c) a w) (hy : YieldsIf P ops S oi v a) (hS : S w)
    (h : wpAnyH P md ops Q S fuel (listed.setIfInBounds i true) (a.put d v) w) : wpAnyH P md ops Q S (fuel + 1) listed a w := by
  subst hd
  exact wpAnyH_take hi hs hf hr hQ hy hS h

/-- Four bytes as a string. -/
theorem string_four (s : ByteArray) (h : s.size = 4) : ∃ x0 x1 x2 x3 : UInt8, s = ⟨#[x0, x1, x2, x3]⟩ := by
  obtain ⟨⟨l⟩⟩ := s
  match l, h with
  | [a, b, c, d], _ => exact ⟨a, b, c, d, rfl⟩

set_option maxHeartbeats 6400000 in
set_option maxRecDepth 100000 in
theorem chunkLaw (n cap : Nat) (ad : Option Addr) (l : List UInt8) (s : ByteArray) (w : World) (hs : s.size ≤ maxLen) (hl : Hid (l.length = n)) (hr : RB w ad l) (hnil : ad = none → n = 0 ∧ cap = 0) (hmax : n ≤ 9223372036854775807) (ht : Tab w) :
    Calls Tryd.prog 9 #[.slice ad n cap, .string s] w (TrueEnd w) := by
  unfold maxLen at hs
  by_cases hbad : 2147483647 < n ∨ 2147483647 < s.size ∨ s.size ≠ 4 ∨ 65536 < n
  · have hcase : decide ((2147483647 : Int) < (n : Int)) = true ∨
        (decide ((2147483647 : Int) < (n : Int)) = false ∧ decide ((2147483647 : Int) < (s.size : Int)) = true) ∨
        (decide ((2147483647 : Int) < (n : Int)) = false ∧ decide ((2147483647 : Int) < (s.size : Int)) = false ∧ ((s.size : Int) != 4) = true) ∨
        (decide ((2147483647 : Int) < (n : Int)) = false ∧ decide ((2147483647 : Int) < (s.size : Int)) = false ∧ ((s.size : Int) != 4) = false ∧ decide ((65536 : Int) < (n : Int)) = true) := by
      by_cases h1 : 2147483647 < n
      · exact .inl (decide_eq_true (by omega))
      by_cases h2 : 2147483647 < s.size
      · exact .inr (.inl ⟨decide_eq_false (by omega), decide_eq_true (by omega)⟩)
      by_cases h3 : s.size = 4
      · exact .inr (.inr (.inr ⟨decide_eq_false (by omega), decide_eq_false (by omega), by rw [h3]; rfl, decide_eq_true (by omega)⟩))
      · exact .inr (.inr (.inl ⟨decide_eq_false (by omega), decide_eq_false (by omega), by simp; omega⟩))
    clear hbad hmax hs
    rcases hcase with q1 | ⟨q1, q2⟩ | ⟨q1, q2, q3⟩ | ⟨q1, q2, q3, q4⟩
    all_goals
      go_enter Tryd.func9, Tryd.ntmps9
      go_wp2_with fail
      go_ret
      exact ⟨rfl, Below.refl _ _⟩
  have hn : n ≤ 65536 := by omega
  obtain ⟨x0, x1, x2, x3, rfl⟩ := string_four s (by omega)
  have q1 : decide ((2147483647 : Int) < (n : Int)) = false := decide_eq_false (by omega)
  have q4 : decide ((65536 : Int) < (n : Int)) = false := decide_eq_false (by omega)
  clear hbad hmax hs
  go_enter Tryd.func9, Tryd.ntmps9
  go_wp2_with (go_at_call 21; refine (implChunk_any n cap ad l x0 x1 x2 x3 w hl hr hnil (by omega) ht).mono ?_; rintro e w1 ⟨v1, rfl, ho1, hb1⟩)
  obtain ⟨a1, n1, c1, rfl, hm1, hr1, -, -, -, -⟩ := ho1.shapeN
  have hr2 := hr.below hb1
  have HB1 := Lib.hid hb1
  clear ho1 hb1 hr ht q1 q4
  have rd1 : RB w1.drew a1 (chunk [x0, x1, x2, x3] l) := hr1
  have rd2 : RB w1.drew ad l := hr2
  have cv1 := conv_bytes (cap := c1) rd1 hm1
  refine wp_region_held_drew (S := fun w' => (convert 22 9 (.slice a1 n1 c1)).run Tryd.prog w' = .ok (.string (strOf (chunk [x0, x1, x2, x3] l))) w') (by kernel_rfl) cv1 (fun hHeld => ?_)
  refine take_at 0 (some 29) (v := ?_) rfl rfl (by kernel_rfl) (by kernel_rfl) (by kernel_rfl) (fun _ _ _ h => h) (Or.inl ⟨by rfl, ?_⟩) (by assumption) ?_
  rotate_left
  · intro w hSw
    (try dsimp only at hSw)
    go_simp
    first | done | with_reducible rfl
  simp only [Act.put, List.setIfInBounds_toArray, List.set_cons_succ, List.set_cons_zero]
  refine take_at 1 (some 30) (v := ?_) rfl rfl (by kernel_rfl) (by kernel_rfl) (by kernel_rfl) (fun _ _ _ h => h) (Or.inl ⟨by rfl, ?_⟩) (by assumption) ?_
  rotate_left
  · intro w hSw
    (try dsimp only at hSw)
    go_simp
    first | done | with_reducible rfl
  simp only [Act.put, List.setIfInBounds_toArray, List.set_cons_succ, List.set_cons_zero]
  refine take_at 2 (some 31) (v := ?_) rfl rfl (by kernel_rfl) (by kernel_rfl) (by kernel_rfl) (fun _ _ _ h => h) (Or.inl ⟨by rfl, ?_⟩) (by assumption) ?_
  rotate_left
  · intro w hSw
    (try dsimp only at hSw)
    go_simp
    first | done | with_reducible rfl
  simp only [Act.put, List.setIfInBounds_toArray, List.set_cons_succ, List.set_cons_zero]
  refine take_at 3 (some 32) (v := ?_) rfl rfl (by kernel_rfl) (by kernel_rfl) (by kernel_rfl) (fun _ _ _ h => h) (Or.inl ⟨by rfl, ?_⟩) (by assumption) ?_
  rotate_left
  · intro w hSw
    (try dsimp only at hSw)
    go_simp
    first | done | with_reducible rfl
  simp only [Act.put, List.setIfInBounds_toArray, List.set_cons_succ, List.set_cons_zero]
  refine take_at 4 (some 33) (v := ?_) rfl rfl (by kernel_rfl) (by kernel_rfl) (by kernel_rfl) (fun _ _ _ h => h) (Or.inl ⟨by rfl, ?_⟩) (by assumption) ?_
  rotate_left
  · intro w hSw
    (try dsimp only at hSw)
    go_simp
    first | done | with_reducible rfl
  simp only [Act.put, List.setIfInBounds_toArray, List.set_cons_succ, List.set_cons_zero]
  refine take_at 5 (some 34) (v := ?_) rfl rfl (by kernel_rfl) (by kernel_rfl) (by kernel_rfl) (fun _ _ _ h => h) (Or.inl ⟨by rfl, ?_⟩) (by assumption) ?_
  rotate_left
  · intro w hSw
    (try dsimp only at hSw)
    go_simp
    first | done | with_reducible rfl
  simp only [Act.put, List.setIfInBounds_toArray, List.set_cons_succ, List.set_cons_zero]
  refine wpAnyH_ready (rs := [6]) (by kernel_rfl) (by simp) ?_
  refine AllReadyH.cons rfl (fun K hK => ?_) AllReadyH.nil
  go_simp
  go_wp2_with (go_at_call 22; refine Calls.mono (specChunk_any n cap ad l x0 x1 x2 x3 w1.drew hl rd2 hnil (by omega)) ?_; rintro e w2 ⟨v2, rfl, ho2, hb2⟩)
  obtain ⟨a2, n2, c2, rfl, hm2, hr3, -⟩ := ho2.shapeN
  have cv2 := conv_bytes (cap := c2) hr3 hm2
  have cv3 := conv_bytes (cap := c1) (rd1.below hb2) hm1
  refine hK.out _ _ cv3 (fun hHeld => ?_)
  clear hK K
  refine wpAnyH_ready (rs := [7]) (by kernel_rfl) (by simp) ?_
  refine AllReadyH.cons rfl (fun K hK => ?_) AllReadyH.nil
  go_simp
  refine hK.out _ _ cv3 (fun hHeld => ?_)
  clear hK K
  refine take_at 8 (some 37) (v := ?_) rfl rfl (by kernel_rfl) (by kernel_rfl) (by kernel_rfl) (fun _ _ _ h => h) (Or.inl ⟨by rfl, ?_⟩) (by assumption) ?_
  rotate_left
  · intro w hSw
    (try dsimp only at hSw)
    go_simp
    first | done | with_reducible rfl
  simp only [Act.put, List.setIfInBounds_toArray, List.set_cons_succ, List.set_cons_zero]
  refine take_at 9 (some 38) (v := ?_) rfl rfl (by kernel_rfl) (by kernel_rfl) (by kernel_rfl) (fun _ _ _ h => h) (Or.inl ⟨by rfl, ?_⟩) (by assumption) ?_
  rotate_left
  · intro w hSw
    (try dsimp only at hSw)
    go_simp
    first | done | with_reducible rfl
  simp only [Act.put, List.setIfInBounds_toArray, List.set_cons_succ, List.set_cons_zero]
  refine take_at 10 (some 4) (v := ?_) rfl rfl (by kernel_rfl) (by kernel_rfl) (by kernel_rfl) (fun _ _ _ h => h) (Or.inl ⟨by rfl, ?_⟩) (by assumption) ?_
  rotate_left
  · intro w hSw
    (try dsimp only at hSw)
    go_simp
    first | done | with_reducible rfl
  simp only [Act.put, List.setIfInBounds_toArray, List.set_cons_succ, List.set_cons_zero]
  refine wpAnyH_done (by kernel_rfl) ?_ _
  have B : Below w.heap.size w w2 := HB1.out.drew.trans (hb2.mono HB1.out.drew.size)
  go_wp2_with fail
  go_ret
  exact ⟨by simp, B⟩
end Go.Proofs.YtiiipmcjbibgoaaDoor
