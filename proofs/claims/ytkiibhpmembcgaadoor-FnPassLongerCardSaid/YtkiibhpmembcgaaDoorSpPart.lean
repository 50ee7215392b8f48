/- The contract of the reference's PartSamples. Printed by gen/sppart.py. -/
import Derived.Test.YtkiibhpmembcgaaDoorSpSam
import Derived.Test.YtkiibhpmembcgaaDoorGSpec
import Derived.Test.YtkiibhpmembcgaaDoorGMath
import Derived.Test.YtkiibhpmembcgaaDoorNewImg
import Derived.Deep.RegionHeld3
import Derived.Deep.DeepCutAuto
import Derived.Deep.CutBlock
import Derived.LoopTactic
import Derived.Outline
namespace Go.Proofs.YtkiibhpmembcgaaDoor
open Go.ChangeShapes Go.WideShapes Go.ChangeAt Go.RowKit Go.IntWalk

/-- The rows of a part: how many columns, rows, bytes a row, bytes a step. -/
def rowsOf (W0 H0 c d : Nat) (laced : Bool) (p : Nat) (l : List UInt8) : Option (List (List UInt8)) :=
  upR l (rbN c d (szP (ptL laced p) W0 H0).1) (stN c d) (szP (ptL laced p) W0 H0).2
def PsEnd (W0 H0 c d : Nat) (laced : Bool) (p : Nat) (l : List UInt8) (w : World) (e : Ending) (w' : World) : Prop :=
  (rowsOf W0 H0 c d laced p l = none → e = .returned (.tuple #[.slice none 0 0, .int .i64 1])) ∧
  (∀ R, rowsOf W0 H0 c d laced p l = some R → ∃ v, e = .returned (.tuple #[v, .int .i64 0]) ∧ OwnI w' w.heap.size v (sampsOf d ((szP (ptL laced p) W0 H0).1 * chN c) R)) ∧ Below w.heap.size w w'
theorem rb0 (c d : Nat) : rbN c d 0 = 0 := by simp [rbN]
theorem ne_nil_of_len {l : List UInt8} (h : 0 < l.length) : l ≠ [] := by
  intro e
  rw [e] at h
  simp at h
theorem lastR_nextP (R : List (List UInt8)) (r : List UInt8) (n : Nat) : lastR (R ++ [r]) n = r := by
  unfold lastR
  rw [List.getLastD_concat]
theorem lastR_len {l : List UInt8} {n st y : Nat} {R : List (List UInt8)} (h : upR l n st y = some R) : (lastR R n).length = n := (upR_rows h).last
/-- A shape in a block of the call's own, memory as it was ahead of it. -/
structure ShOn (w : World) (N W H d c : Nat) (laced : Bool) (w' : World) : Prop where
  at_ : ShAt w' N W H d c laced
  bel : Below w.heap.size w w'
  lt : N < w'.heap.size
theorem ShOn.next {w w1 w2 : World} {N W H d c : Nat} {laced : Bool} (h : ShOn w N W H d c laced w1) (hb : Below w1.heap.size w1 w2) : ShOn w N W H d c laced w2 :=
  ⟨h.at_.kept (hb.block N h.lt), h.bel.trans (hb.mono h.bel.size), Nat.lt_of_lt_of_le h.lt hb.size⟩
theorem ShOn.drew {w w1 : World} {N W H d c : Nat} {laced : Bool} (h : ShOn w N W H d c laced w1) : ShOn w N W H d c laced w1.drew := ⟨⟨h.at_.c0, h.at_.c1, h.at_.c2, h.at_.c3, h.at_.c4⟩, bdrew h.bel, h.lt⟩
theorem ShOn.drewN {w w1 : World} {N W H d c : Nat} {laced : Bool} (h : ShOn w N W H d c laced w1) (n : Nat) : ShOn w N W H d c laced (w1.drewN n) := ⟨⟨h.at_.c0, h.at_.c1, h.at_.c2, h.at_.c3, h.at_.c4⟩, bdrewN h.bel n, h.lt⟩
theorem ShOn.nextB {w w1 w2 : World} {N W H d c : Nat} {laced : Bool} (h : ShOn w N W H d c laced w1) (hb : Below (N + 1) w1 w2) (hN : w.heap.size ≤ N) : ShOn w N W H d c laced w2 :=
  ⟨h.at_.kept (hb.block N (by omega)), h.bel.trans (hb.mono (by omega)), Nat.lt_of_lt_of_le h.lt hb.size⟩
/-- The slice of the last row. -/
def AbAt (w : World) (v : Value) (n : Nat) (l : List UInt8) : Prop := ∃ ad cap, v = .slice ad n cap ∧ RB w ad l
theorem AbAt.below {w w' : World} {v : Value} {n : Nat} {l : List UInt8} (h : AbAt w v n l) (hb : Below w.heap.size w w') : AbAt w' v n l := by
  obtain ⟨ad, cap, e, hr⟩ := h
  exact ⟨ad, cap, e, hr.below hb⟩
theorem rb_fit (c d W : Nat) : W * chN c * d ≤ 8 * rbN c d W := by unfold rbN; omega
set_option maxHeartbeats 6400000 in
set_option maxRecDepth 100000 in
theorem partSamples_any (W0 H0 c d p m cap : Nat) (laced : Bool) (ad : Option Addr) (l : List UInt8) (w : World) (ok : OkCD c d) (hp : p < 7) (hW0 : W0 ≤ 40) (hH0 : H0 ≤ 40) (hW1 : 1 ≤ W0) (hH1 : 1 ≤ H0)
    (hl : Hid (l.length = m)) (hr : RB w ad l) (hmc : m ≤ cap) (hm : m ≤ 2000000) (_hcap : cap ≤ 9223372036854775807) :
    Calls Tryd.prog 8 #[shV W0 H0 d c laced, .int .i64 (p : Int), .slice ad m cap] w (PsEnd W0 H0 c d laced p l w) := by
  obtain ⟨w1, hw1, hb1, hlt, hrow, hsh⟩ := boxed w W0 H0 d c laced
  obtain ⟨N, hN⟩ : ∃ N, N = w.heap.size := ⟨_, rfl⟩
  rw [← hN] at hrow hlt hsh
  have hS1 : ShOn w N W0 H0 d c laced w1.drew := (⟨hsh, hb1, hlt⟩ : ShOn w N W0 H0 d c laced w1).drew
  obtain ⟨W, hW⟩ : ∃ W, W = (szP (ptL laced p) W0 H0).1 := ⟨_, rfl⟩
  obtain ⟨H, hH⟩ : ∃ H, H = (szP (ptL laced p) W0 H0).2 := ⟨_, rfl⟩
  obtain ⟨n, hn⟩ : ∃ n, n = rbN c d W := ⟨_, rfl⟩
  obtain ⟨st, hst⟩ : ∃ st, st = stN c d := ⟨_, rfl⟩
  obtain ⟨k, hk⟩ : ∃ k, k = chN c := ⟨_, rfl⟩
  obtain ⟨mm, hmm⟩ : ∃ mm, mm = W * k := ⟨_, rfl⟩
  have hWH := szP_le laced p W0 H0 hW0 hH0
  rw [← hW, ← hH] at hWH
  have hpos : 0 < H → 1 ≤ W := by
    intro h
    rcases Nat.eq_zero_or_pos W with e | e
    · rw [e] at hW
      have := (szP_zero hW.symm).1
      rw [this] at hH
      simp only at hH
      omega
    · exact e
  have hn320 : n ≤ 320 := by rw [hn]; exact ok.rb hWH.1
  have hn1 : 0 < H → 1 ≤ n := fun h => by rw [hn]; exact ok.rb_pos (hpos h)
  have hst1 : 1 ≤ st ∧ st ≤ 8 := by rw [hst]; exact ok.st
  have hk4 : 1 ≤ k ∧ k ≤ 4 := by rw [hk]; exact ok.ch
  have hmm1 : mm ≤ 40 * 4 := by rw [hmm]; exact Nat.mul_le_mul hWH.1 hk4.2
  have hfit : mm * d ≤ 8 * n := by rw [hmm, hk, hn]; exact rb_fit c d W
  have hmkk : (W : Int) * (k : Int) = (mm : Int) := by rw [hmm]; rfl
  have vmm : IntKind.i64.wrap (mm : Int) = (mm : Int) := i64_in _ ⟨by omega, by omega⟩
  have HRO : Hid (rowsOf W0 H0 c d laced p l = upR l n st H) := Lib.hid (by rw [hn, hst, hH, hW]; rfl)
  have HMM : Hid (mm = (szP (ptL laced p) W0 H0).1 * chN c) := Lib.hid (by rw [hmm, hk, hW])
  have HC : ∀ w, Calls Tryd.prog 18 #[.int .i64 (c : Int)] w fun e w' => e = .returned (.int .i64 (k : Int)) ∧ w' = w := by rw [hk]; exact channels_any c ok.c
  have HST : ∀ w, Calls Tryd.prog 16 #[shV W0 H0 d c laced] w fun e w' => e = .returned (.int .i64 (st : Int)) ∧ Below w.heap.size w w' := by rw [hst]; exact step_any W0 H0 d c laced ok
  have HRBY : ∀ w, Calls Tryd.prog 14 #[shV W0 H0 d c laced, .int .i64 (W : Int)] w fun e w' => e = .returned (.int .i64 (n : Int)) ∧ Below w.heap.size w w' := by rw [hn]; exact rowBytes_any W0 H0 d c W laced ok hWH.1
  have HSZ : ∀ w, Calls Tryd.prog 11 #[ptV (ptL laced p), .int .i64 (W0 : Int), .int .i64 (H0 : Int)] w fun e w' => e = .returned (.tuple #[.int .i64 (W : Int), .int .i64 (H : Int)]) ∧ Below w.heap.size w w' := by
    rw [hW, hH]
    exact sizeX_any (ptL laced p) (ptL_ok laced p).1 (ptL_ok laced p).2.1 (ptL_ok laced p).2.2 W0 H0 hW0 hH0 hW1 hH1
  have hmp : 0 < H → 1 ≤ mm := fun h => by rw [hmm]; exact Nat.mul_le_mul (hpos h) hk4.1
  have HMP := Lib.hid hmp
  have HN1 := Lib.hid hn1
  have HFIT := Lib.hid hfit
  have HCC := Lib.hid HC
  have HSTT := Lib.hid HST
  have HRBB := Lib.hid HRBY
  have HSZZ := Lib.hid HSZ
  have HW1 := Lib.hid hw1
  have HN := Lib.hid hN
  obtain ⟨hW40, hH40⟩ := hWH
  clear hmp hw1 hb1 hrow hsh hW hH hn hst hk hmm hpos hn1 hfit HC HST HRBY HSZ hN
  have HR := Lib.hid hr
  clear hr
  unfold shV
  go_enter Tryd.func8, Tryd.ntmps8
  go_upto_region 1 with fail
  rw [← HN.out]
  change Code.wp _ _ _ _ (w.alloc (.cells (shK W0 H0 d c laced) 27))
  rw [← HW1.out]
  refine wp_region_held_drew (S := fun w' => ShOn w N W0 H0 d c laced w') (by kernel_rfl) hS1 (fun hHeld => ?_)
  refine take_at 0 (some 16) (v := ?_) rfl rfl (by kernel_rfl) (by kernel_rfl) (by kernel_rfl) (fun _ _ _ h => h) (Or.inl ⟨by rfl, ?_⟩) (by assumption) ?_
  rotate_left
  · intro w hSw
    (try dsimp only at hSw)
    go_simp
    first | done | with_reducible rfl
  simp only [Act.put, List.setIfInBounds_toArray, List.set_cons_succ, List.set_cons_zero]
  refine take_at 1 (some 17) (v := ?_) rfl rfl (by kernel_rfl) (by kernel_rfl) (by kernel_rfl) (fun _ _ _ h => h) (Or.inl ⟨by rfl, ?_⟩) (by assumption) ?_
  rotate_left
  · intro w hSw
    obtain ⟨c0, c1, c2, c3, c4⟩ := ShOn.at_ hSw
    go_simp
    first | done | with_reducible rfl
  simp only [Act.put, List.setIfInBounds_toArray, List.set_cons_succ, List.set_cons_zero]
  refine take_at 2 (some 18) (v := ?_) rfl rfl (by kernel_rfl) (by kernel_rfl) (by kernel_rfl) (fun _ _ _ h => h) (Or.inl ⟨by rfl, ?_⟩) (by assumption) ?_
  rotate_left
  · intro w hSw
    (try dsimp only at hSw)
    go_simp
    first | done | with_reducible rfl
  simp only [Act.put, List.setIfInBounds_toArray, List.set_cons_succ, List.set_cons_zero]
  refine take_at 4 (some 20) (v := ?_) rfl rfl (by kernel_rfl) (by kernel_rfl) (by kernel_rfl) (fun _ _ _ h => h) (Or.inl ⟨by rfl, ?_⟩) (by assumption) ?_
  rotate_left
  · intro w hSw
    (try dsimp only at hSw)
    go_simp
    first | done | with_reducible rfl
  simp only [Act.put, List.setIfInBounds_toArray, List.set_cons_succ, List.set_cons_zero]
  refine take_at 5 (some 21) (v := ?_) rfl rfl (by kernel_rfl) (by kernel_rfl) (by kernel_rfl) (fun _ _ _ h => h) (Or.inl ⟨by rfl, ?_⟩) (by assumption) ?_
  rotate_left
  · intro w hSw
    obtain ⟨c0, c1, c2, c3, c4⟩ := ShOn.at_ hSw
    go_simp
    first | done | with_reducible rfl
  simp only [Act.put, List.setIfInBounds_toArray, List.set_cons_succ, List.set_cons_zero]
  refine take_at 6 (some 22) (v := ?_) rfl rfl (by kernel_rfl) (by kernel_rfl) (by kernel_rfl) (fun _ _ _ h => h) (Or.inl ⟨by rfl, ?_⟩) (by assumption) ?_
  rotate_left
  · intro w hSw
    (try dsimp only at hSw)
    go_simp
    first | done | with_reducible rfl
  simp only [Act.put, List.setIfInBounds_toArray, List.set_cons_succ, List.set_cons_zero]
  refine take_at 7 (some 23) (v := ?_) rfl rfl (by kernel_rfl) (by kernel_rfl) (by kernel_rfl) (fun _ _ _ h => h) (Or.inl ⟨by rfl, ?_⟩) (by assumption) ?_
  rotate_left
  · intro w hSw
    obtain ⟨c0, c1, c2, c3, c4⟩ := ShOn.at_ hSw
    go_simp
    first | done | with_reducible rfl
  simp only [Act.put, List.setIfInBounds_toArray, List.set_cons_succ, List.set_cons_zero]
  refine wpAnyH_ready (rs := [3]) (by kernel_rfl) (by simp) ?_
  refine AllReadyH.cons rfl (fun K hK => ?_) AllReadyH.nil
  go_simp
  refine (partL_any laced p hp _).mono ?_
  rintro e w2 ⟨rfl, hb2⟩
  have hS2 := hS1.next hb2
  refine hK.out _ _ hS2 (fun hHeld => ?_)
  clear hK K
  refine wpAnyH_ready (rs := [8]) (by kernel_rfl) (by simp) ?_
  refine AllReadyH.cons rfl (fun K hK => ?_) AllReadyH.nil
  go_simp
  refine (HSZZ.out _).mono ?_
  rintro e w3 ⟨rfl, hb3⟩
  have hS3 := hS2.next hb3
  refine hK.out _ _ hS3 (fun hHeld => ?_)
  clear hK K
  refine take_at 9 (some 15) (v := ?_) rfl rfl (by kernel_rfl) (by kernel_rfl) (by kernel_rfl) (fun _ _ _ h => h) (Or.inl ⟨by rfl, ?_⟩) (by assumption) ?_
  rotate_left
  · intro w hSw
    (try dsimp only at hSw)
    go_simp
    first | done | with_reducible rfl
  simp only [Act.put, List.setIfInBounds_toArray, List.set_cons_succ, List.set_cons_zero]
  refine take_at 10 (some 25) (v := ?_) rfl rfl (by kernel_rfl) (by kernel_rfl) (by kernel_rfl) (fun _ _ _ h => h) (Or.inl ⟨by rfl, ?_⟩) (by assumption) ?_
  rotate_left
  · intro w hSw
    (try dsimp only at hSw)
    go_simp
    first | done | with_reducible rfl
  simp only [Act.put, List.setIfInBounds_toArray, List.set_cons_succ, List.set_cons_zero]
  refine take_at 11 (some 26) (v := ?_) rfl rfl (by kernel_rfl) (by kernel_rfl) (by kernel_rfl) (fun _ _ _ h => h) (Or.inl ⟨by rfl, ?_⟩) (by assumption) ?_
  rotate_left
  · intro w hSw
    (try dsimp only at hSw)
    go_simp
    first | done | with_reducible rfl
  simp only [Act.put, List.setIfInBounds_toArray, List.set_cons_succ, List.set_cons_zero]
  refine take_at 12 (some 8) (v := ?_) rfl rfl (by kernel_rfl) (by kernel_rfl) (by kernel_rfl) (fun _ _ _ h => h) (Or.inl ⟨by rfl, ?_⟩) (by assumption) ?_
  rotate_left
  · intro w hSw
    (try dsimp only at hSw)
    go_simp
    first | done | with_reducible rfl
  simp only [Act.put, List.setIfInBounds_toArray, List.set_cons_succ, List.set_cons_zero]
  refine take_at 13 (some 9) (v := ?_) rfl rfl (by kernel_rfl) (by kernel_rfl) (by kernel_rfl) (fun _ _ _ h => h) (Or.inl ⟨by rfl, ?_⟩) (by assumption) ?_
  rotate_left
  · intro w hSw
    (try dsimp only at hSw)
    go_simp
    first | done | with_reducible rfl
  simp only [Act.put, List.setIfInBounds_toArray, List.set_cons_succ, List.set_cons_zero]
  refine wpAnyH_done (by kernel_rfl) ?_ _
  have hmk := make_zb n (by omega)
  obtain ⟨c0, c1, c2, c3, c4⟩ := hS3.at_
  clear hb2 hb3 hHeld
  go_upto_region 3 with (go_at_call 14; refine (HRBB.out _).mono ?_; rintro e w4 ⟨rfl, hb4⟩)
  have hS4 := hS3.next hb4
  obtain ⟨w5, hw5⟩ : ∃ w5, w5 = w4.alloc (.cells (zb n) 5) := ⟨_, rfl⟩
  have hb5 : Below w4.heap.size w4 w5 := hw5 ▸ (Below.refl _ _).alloc (Nat.le_refl _) _
  have hab5 : AbAt w5 (.slice (some ⟨w4.heap.size, 0, none⟩) n n) n (List.replicate n 0) := ⟨_, _, rfl, hw5 ▸ (seg_zb w4 n).rb rfl⟩
  have hS5 := hS4.next hb5
  obtain ⟨w6, hw6⟩ : ∃ w6, w6 = w5.alloc (.cells #[] 3) := ⟨_, rfl⟩
  have hb6 : Below w5.heap.size w5 w6 := hw6 ▸ (Below.refl _ _).alloc (Nat.le_refl _) _
  have hab6 := hab5.below hb6
  have hS6 := hS5.next hb6
  have hown6 : OwnI w6 (N + 1) (.slice (some ⟨w5.heap.size, 0, none⟩) 0 0) [] := hw6 ▸ OwnI.empty w5 (N + 1) hS5.lt
  have HW5 := Lib.hid hw5
  have HW6 := Lib.hid hw6
  have HS6 := Lib.hid hS6
  have HAB6 := Lib.hid hab6
  have HOWN6 := Lib.hid hown6
  clear c0 c1 c2 c3 c4 hb4 hS1 hS2 hS3 hS4 hb5 hab5 hS5 hb6 hab6 hS6 hown6 hw5 hw6
  go_upto_region 4 with fail
  rw [← HW5.out]
  go_upto_region 5 with fail
  rw [← HW6.out]
  clear hmk
  go_upto_region 6 with fail
  go_loopw [11, 12, 34] (fun ab v i wr => ∃ t R, t ≤ H ∧ i = .int .i64 (t : Int) ∧ Hid (upR l n st t = some R) ∧ AbAt wr ab n (lastR R n) ∧ OwnI wr (N + 1) v (sampsOf d mm R) ∧ ShOn w N W0 H0 d c laced wr) (fun _ _ i _ => H - (intOf i).toNat)
  case atStart => exact ⟨0, [], Nat.zero_le _, rfl, Lib.hid rfl, HAB6.out, HOWN6.out, HS6.out⟩
  case round =>
  obtain ⟨t, R, ht, rfl, hup, hab, hown, hS⟩ := hrel
  have HOWN := Lib.hid hown
  clear hown HAB6 HOWN6 HS6
  by_cases hlt : t < H
  · have n1 := HN1.out (by omega)
    obtain ⟨nn, hnn⟩ : ∃ nn, nn = n + 1 := ⟨_, rfl⟩
    obtain ⟨a0, ha0⟩ : ∃ a0, a0 = t * nn := ⟨_, rfl⟩
    obtain ⟨a1, ha1⟩ : ∃ a1, a1 = a0 + 1 := ⟨_, rfl⟩
    obtain ⟨a2, ha2⟩ : ∃ a2, a2 = a1 + n := ⟨_, rfl⟩
    have ha0b : a0 ≤ 40 * 321 := by rw [ha0]; exact Nat.mul_le_mul (by omega) (by omega)
    have e2 : (t + 1) * (n + 1) = a2 := by rw [ha2, ha1, ha0, hnn, Nat.add_mul, Nat.one_mul]; omega
    have HE0 : Hid (t * (n + 1) = a0) := Lib.hid (by rw [ha0, hnn])
    have HE2 := Lib.hid e2
    have m1 : (n : Int) + 1 = (nn : Int) := by omega
    have m2 : (t : Int) * (nn : Int) = (a0 : Int) := by rw [ha0]; rfl
    have m3 : (a0 : Int) + 1 = (a1 : Int) := by omega
    have m4 : (a1 : Int) + (n : Int) = (a2 : Int) := by omega
    have v1 : IntKind.i64.wrap (nn : Int) = (nn : Int) := i64_in _ ⟨by omega, by omega⟩
    have v2 : IntKind.i64.wrap (a0 : Int) = (a0 : Int) := i64_in _ ⟨by omega, by omega⟩
    have v3 : IntKind.i64.wrap (a1 : Int) = (a1 : Int) := i64_in _ ⟨by omega, by omega⟩
    have v4 : IntKind.i64.wrap (a2 : Int) = (a2 : Int) := i64_in _ ⟨by omega, by omega⟩
    have a21 : a2 - a1 = n := by omega
    have HA1 : Hid (a1 = t * (n + 1) + 1) := Lib.hid (by rw [ha1, ha0, hnn])
    have ha1b : a1 = a0 + 1 ∧ a2 = a1 + n ∧ nn = n + 1 := ⟨ha1, ha2, hnn⟩
    have HAS := Lib.hid ha1b
    clear e2 ha0 ha1 ha2 hnn ha1b
    go_upto_region 9 with fail
    by_cases hle : a2 ≤ m
    · have d1 : decide ((m : Int) < (a2 : Int)) = false := decide_eq_false (by omega)
      obtain ⟨b, o, rfl, -⟩ := HR.out (ne_nil_of_len (by have := hl.out; have := HAS.out; omega))
      obtain ⟨x, HX, hx0⟩ := HR.out.at a0 (by have := hl.out; have := HAS.out; omega)
      have hbl : b < w.heap.size := World.block_lt_of_cell? w _ hx0
      have hcell : ∀ w', Below w.heap.size w w' → w'.cell? ⟨b, o + a0, none⟩ = some (.int .u8 (x.toNat : Int)) := fun w' hb => (World.cell?_of_block (w := w) (hb.block b hbl)).trans hx0
      have hx := hcell _ hS.bel
      have HCELL := Lib.hid hcell
      have i0 : (0 : Int) ≤ (a0 : Int) := by omega
      have i1 : (a0 : Int) < (m : Int) := by have := HAS.out; omega
      have hfx : Hid (fltB l n t = x) := Lib.hid (by unfold fltB; rw [HE0.out]; have := HX.out; simp [List.getD, this])
      have rx := u8lt x
      clear hcell hx0 HX
      by_cases hf : x.toNat ≤ 4
      · have d2 : decide ((4 : Int) < (x.toNat : Int)) = false := decide_eq_false (by omega)
        have HUP : Hid (upR l n st (t + 1) = some (R ++ [unf x.toNat (rowB l n t) (lastR R n) st])) := Lib.hid (by have := upR_next hup.out (by rw [HE2.out, hl.out]; exact hle) (by rw [hfx.out]; exact hf); rw [hfx.out] at this; exact this)
        have hrl : (rowB l n t).length = n := rowB_len (by rw [HE2.out, hl.out]; exact hle)
        have hll : (lastR R n).length = n := lastR_len hup.out
        have hRl : R.length = t := (upR_rows hup.out).len
        have HRL := Lib.hid hrl
        have HLL := Lib.hid hll
        have HRR := Lib.hid hRl
        have HS := Lib.hid hS
        obtain ⟨ada, capa, rfl, hra⟩ := hab
        have HRA := Lib.hid hra
        have ne1 : ¬ cap = a1 := by have := HAS.out; omega
        have j1 : (0 : Int) ≤ (a1 : Int) := by omega
        have j2 : (a1 : Int) ≤ (a2 : Int) := by have := HAS.out; omega
        have j3 : (a2 : Int) ≤ (cap : Int) := by omega
        have e5 : IntKind.i64.wrap (x.toNat : Int) = (x.toNat : Int) := i64_in _ ⟨by omega, by omega⟩
        clear hrl hll hRl hra hS
        go_upto_region 11 with fail
        clear hx d1 d2
        have hSd := HS.out.drew
        refine wp_region_held_drew (S := fun w' => ShOn w N W0 H0 d c laced w') (by kernel_rfl) hSd (fun hHeld => ?_)
        refine take_at 0 (some 55) (v := ?_) rfl rfl (by kernel_rfl) (by kernel_rfl) (by kernel_rfl) (fun _ _ _ h => h) (Or.inl ⟨by rfl, ?_⟩) (by assumption) ?_
        rotate_left
        · intro w hSw
          (try dsimp only at hSw)
          go_simp
          first | done | with_reducible rfl
        simp only [Act.put, List.setIfInBounds_toArray, List.set_cons_succ, List.set_cons_zero]
        refine take_at 1 (some 56) (v := ?_) rfl rfl (by kernel_rfl) (by kernel_rfl) (by kernel_rfl) (fun _ _ _ h => h) (Or.inl ⟨by rfl, ?_⟩) (by assumption) ?_
        rotate_left
        · intro w hSw
          (try dsimp only at hSw)
          go_simp
          first | done | with_reducible rfl
        simp only [Act.put, List.setIfInBounds_toArray, List.set_cons_succ, List.set_cons_zero]
        refine take_at 2 (some 57) (v := ?_) rfl rfl (by kernel_rfl) (by kernel_rfl) (by kernel_rfl) (fun _ _ _ h => h) (Or.inl ⟨by rfl, ?_⟩) (by assumption) ?_
        rotate_left
        · intro w hSw
          (try dsimp only at hSw)
          go_simp
          first | done | with_reducible rfl
        simp only [Act.put, List.setIfInBounds_toArray, List.set_cons_succ, List.set_cons_zero]
        refine take_at 3 (some 58) (v := ?_) rfl rfl (by kernel_rfl) (by kernel_rfl) (by kernel_rfl) (fun _ _ _ h => h) (Or.inl ⟨by rfl, ?_⟩) (by assumption) ?_
        rotate_left
        · intro w hSw
          have hx := HCELL.out _ (ShOn.bel hSw)
          go_simp
          first | done | with_reducible rfl
        simp only [Act.put, List.setIfInBounds_toArray, List.set_cons_succ, List.set_cons_zero]
        refine take_at 4 (some 59) (v := ?_) rfl rfl (by kernel_rfl) (by kernel_rfl) (by kernel_rfl) (fun _ _ _ h => h) (Or.inl ⟨by rfl, ?_⟩) (by assumption) ?_
        rotate_left
        · intro w hSw
          (try dsimp only at hSw)
          go_simp
          first | done | with_reducible rfl
        simp only [Act.put, List.setIfInBounds_toArray, List.set_cons_succ, List.set_cons_zero]
        refine take_at 5 (some 60) (v := ?_) rfl rfl (by kernel_rfl) (by kernel_rfl) (by kernel_rfl) (fun _ _ _ h => h) (Or.inl ⟨by rfl, ?_⟩) (by assumption) ?_
        rotate_left
        · intro w hSw
          (try dsimp only at hSw)
          go_simp
          first | done | with_reducible rfl
        simp only [Act.put, List.setIfInBounds_toArray, List.set_cons_succ, List.set_cons_zero]
        refine take_at 6 (some 61) (v := ?_) rfl rfl (by kernel_rfl) (by kernel_rfl) (by kernel_rfl) (fun _ _ _ h => h) (Or.inl ⟨by rfl, ?_⟩) (by assumption) ?_
        rotate_left
        · intro w hSw
          (try dsimp only at hSw)
          go_simp
          first | done | with_reducible rfl
        simp only [Act.put, List.setIfInBounds_toArray, List.set_cons_succ, List.set_cons_zero]
        refine take_at 7 (some 62) (v := ?_) rfl rfl (by kernel_rfl) (by kernel_rfl) (by kernel_rfl) (fun _ _ _ h => h) (Or.inl ⟨by rfl, ?_⟩) (by assumption) ?_
        rotate_left
        · intro w hSw
          (try dsimp only at hSw)
          go_simp
          first | done | with_reducible rfl
        simp only [Act.put, List.setIfInBounds_toArray, List.set_cons_succ, List.set_cons_zero]
        refine take_at 8 (some 63) (v := ?_) rfl rfl (by kernel_rfl) (by kernel_rfl) (by kernel_rfl) (fun _ _ _ h => h) (Or.inl ⟨by rfl, ?_⟩) (by assumption) ?_
        rotate_left
        · intro w hSw
          (try dsimp only at hSw)
          go_simp
          first | done | with_reducible rfl
        simp only [Act.put, List.setIfInBounds_toArray, List.set_cons_succ, List.set_cons_zero]
        refine take_at 9 (some 64) (v := ?_) rfl rfl (by kernel_rfl) (by kernel_rfl) (by kernel_rfl) (fun _ _ _ h => h) (Or.inl ⟨by rfl, ?_⟩) (by assumption) ?_
        rotate_left
        · intro w hSw
          (try dsimp only at hSw)
          go_simp
          first | done | with_reducible rfl
        simp only [Act.put, List.setIfInBounds_toArray, List.set_cons_succ, List.set_cons_zero]
        refine take_at 10 (some 65) (v := ?_) rfl rfl (by kernel_rfl) (by kernel_rfl) (by kernel_rfl) (fun _ _ _ h => h) (Or.inl ⟨by rfl, ?_⟩) (by assumption) ?_
        rotate_left
        · intro w hSw
          (try dsimp only at hSw)
          go_simp
          first | done | with_reducible rfl
        simp only [Act.put, List.setIfInBounds_toArray, List.set_cons_succ, List.set_cons_zero]
        refine take_at 11 (some 66) (v := ?_) rfl rfl (by kernel_rfl) (by kernel_rfl) (by kernel_rfl) (fun _ _ _ h => h) (Or.inl ⟨by rfl, ?_⟩) (by assumption) ?_
        rotate_left
        · intro w hSw
          (try dsimp only at hSw)
          go_simp
          first | done | with_reducible rfl
        simp only [Act.put, List.setIfInBounds_toArray, List.set_cons_succ, List.set_cons_zero]
        refine take_at 12 (some 67) (v := ?_) rfl rfl (by kernel_rfl) (by kernel_rfl) (by kernel_rfl) (fun _ _ _ h => h) (Or.inl ⟨by rfl, ?_⟩) (by assumption) ?_
        rotate_left
        · intro w hSw
          (try dsimp only at hSw)
          go_simp
          first | done | with_reducible rfl
        simp only [Act.put, List.setIfInBounds_toArray, List.set_cons_succ, List.set_cons_zero]
        refine take_at 13 (some 68) (v := ?_) rfl rfl (by kernel_rfl) (by kernel_rfl) (by kernel_rfl) (fun _ _ _ h => h) (Or.inl ⟨by rfl, ?_⟩) (by assumption) ?_
        rotate_left
        · intro w hSw
          (try dsimp only at hSw)
          go_simp
          first | done | with_reducible rfl
        simp only [Act.put, List.setIfInBounds_toArray, List.set_cons_succ, List.set_cons_zero]
        refine take_at 14 (some 69) (v := ?_) rfl rfl (by kernel_rfl) (by kernel_rfl) (by kernel_rfl) (fun _ _ _ h => h) (Or.inl ⟨by rfl, ?_⟩) (by assumption) ?_
        rotate_left
        · intro w hSw
          obtain ⟨c0, c1, c2, c3, c4⟩ := ShOn.at_ hSw
          go_simp
          first | done | with_reducible rfl
        simp only [Act.put, List.setIfInBounds_toArray, List.set_cons_succ, List.set_cons_zero]
        refine wpAnyH_ready (rs := [15]) (by kernel_rfl) (by simp) ?_
        refine AllReadyH.cons rfl (fun K hK => ?_) AllReadyH.nil
        go_simp
        refine (HSTT.out _).mono ?_
        rintro e w2 ⟨rfl, hb2⟩
        have hS2 := hSd.next hb2
        refine hK.out _ _ hS2 (fun hHeld => ?_)
        clear hK K
        refine wpAnyH_ready (rs := [16]) (by kernel_rfl) (by simp) ?_
        refine AllReadyH.cons rfl (fun K hK => ?_) AllReadyH.nil
        go_simp
        try rw [a21]
        refine (specUnfiltered_any x.toNat n (cap - a1) n capa st (some ⟨b, o + a1, none⟩) ada (rowB l n t) (lastR R n) w2 hf HRL (by unfold rowB; rw [← HA1.out]; exact ((HR.out.below hS2.bel).drop a1).take n) (by intro h; cases h) HLL (HRA.out.below (undrew hb2)) (Nat.le_refl _) hst1.1 hst1.2 (by omega)).mono ?_
        rintro e w3 ⟨v3, out, rfl, hu, ho3, hb3⟩
        have hS3 := hS2.next hb3
        obtain ⟨ad3, n3, cap3, rfl, hl3, hr3, -, -, -, hb3k⟩ := ho3.shapeN
        have hwr2 : ∀ p, ad3 = some p → wr.heap.size ≤ p.block ∧ p.block < w3.heap.size := fun p e => ⟨Nat.le_trans hb2.size (hb3k p e).1, (hb3k p e).2.1⟩
        have HAD3 := Lib.hid hwr2
        clear hb3k hwr2
        obtain rfl : out = unf x.toNat (rowB l n t) (lastR R n) st := IsUnf.unique hst1.1 hu (unf_is _ _ _ _ hst1.1)
        obtain rfl : n = n3 := by have := hl3.out; rw [unf_len, HRL.out] at this; exact this
        refine hK.out _ _ hS3 (fun hHeld => ?_)
        clear hK K
        refine take_at 17 (some 11) (v := ?_) rfl rfl (by kernel_rfl) (by kernel_rfl) (by kernel_rfl) (fun _ _ _ h => h) (Or.inl ⟨by rfl, ?_⟩) (by assumption) ?_
        rotate_left
        · intro w hSw
          (try dsimp only at hSw)
          go_simp
          first | done | with_reducible rfl
        simp only [Act.put, List.setIfInBounds_toArray, List.set_cons_succ, List.set_cons_zero]
        refine wpAnyH_done (by kernel_rfl) ?_ _
        have HB23 : Hid (Below wr.heap.size wr w3) := Lib.hid ((undrew hb2).trans (hb3.mono hb2.size))
        have HS3 := Lib.hid hS3
        have HR3 := Lib.hid hr3
        have HOWN3 : Hid (OwnI w3 (N + 1) u12 (sampsOf d mm R)) := Lib.hid (HOWN.out.below HB23.out)
        clear hb2 hb3 hS2 hS3 hr3 hu ho3 hSd hHeld m1 m2 m3 m4 v1 v2 v3 v4 i0 i1 j1 j2 j3 e5 HCELL
        go_upto_region 12 with fail
        have hSd := HS3.out.drew
        refine wp_region_held_drew (S := fun w' => ShOn w N W0 H0 d c laced w') (by kernel_rfl) hSd (fun hHeld => ?_)
        refine take_at 0 (some 72) (v := ?_) rfl rfl (by kernel_rfl) (by kernel_rfl) (by kernel_rfl) (fun _ _ _ h => h) (Or.inl ⟨by rfl, ?_⟩) (by assumption) ?_
        rotate_left
        · intro w hSw
          (try dsimp only at hSw)
          go_simp
          first | done | with_reducible rfl
        simp only [Act.put, List.setIfInBounds_toArray, List.set_cons_succ, List.set_cons_zero]
        refine take_at 1 (some 73) (v := ?_) rfl rfl (by kernel_rfl) (by kernel_rfl) (by kernel_rfl) (fun _ _ _ h => h) (Or.inl ⟨by rfl, ?_⟩) (by assumption) ?_
        rotate_left
        · intro w hSw
          (try dsimp only at hSw)
          go_simp
          first | done | with_reducible rfl
        simp only [Act.put, List.setIfInBounds_toArray, List.set_cons_succ, List.set_cons_zero]
        refine take_at 2 (some 74) (v := ?_) rfl rfl (by kernel_rfl) (by kernel_rfl) (by kernel_rfl) (fun _ _ _ h => h) (Or.inl ⟨by rfl, ?_⟩) (by assumption) ?_
        rotate_left
        · intro w hSw
          (try dsimp only at hSw)
          go_simp
          first | done | with_reducible rfl
        simp only [Act.put, List.setIfInBounds_toArray, List.set_cons_succ, List.set_cons_zero]
        refine take_at 3 (some 75) (v := ?_) rfl rfl (by kernel_rfl) (by kernel_rfl) (by kernel_rfl) (fun _ _ _ h => h) (Or.inl ⟨by rfl, ?_⟩) (by assumption) ?_
        rotate_left
        · intro w hSw
          (try dsimp only at hSw)
          go_simp
          first | done | with_reducible rfl
        simp only [Act.put, List.setIfInBounds_toArray, List.set_cons_succ, List.set_cons_zero]
        refine take_at 4 (some 76) (v := ?_) rfl rfl (by kernel_rfl) (by kernel_rfl) (by kernel_rfl) (fun _ _ _ h => h) (Or.inl ⟨by rfl, ?_⟩) (by assumption) ?_
        rotate_left
        · intro w hSw
          obtain ⟨c0, c1, c2, c3, c4⟩ := ShOn.at_ hSw
          go_simp
          first | done | with_reducible rfl
        simp only [Act.put, List.setIfInBounds_toArray, List.set_cons_succ, List.set_cons_zero]
        refine take_at 7 (some 79) (v := ?_) rfl rfl (by kernel_rfl) (by kernel_rfl) (by kernel_rfl) (fun _ _ _ h => h) (Or.inl ⟨by rfl, ?_⟩) (by assumption) ?_
        rotate_left
        · intro w hSw
          (try dsimp only at hSw)
          go_simp
          first | done | with_reducible rfl
        simp only [Act.put, List.setIfInBounds_toArray, List.set_cons_succ, List.set_cons_zero]
        refine take_at 8 (some 80) (v := ?_) rfl rfl (by kernel_rfl) (by kernel_rfl) (by kernel_rfl) (fun _ _ _ h => h) (Or.inl ⟨by rfl, ?_⟩) (by assumption) ?_
        rotate_left
        · intro w hSw
          obtain ⟨c0, c1, c2, c3, c4⟩ := ShOn.at_ hSw
          go_simp
          first | done | with_reducible rfl
        simp only [Act.put, List.setIfInBounds_toArray, List.set_cons_succ, List.set_cons_zero]
        refine wpAnyH_ready (rs := [5]) (by kernel_rfl) (by simp) ?_
        refine AllReadyH.cons rfl (fun K hK => ?_) AllReadyH.nil
        go_simp
        refine (HCC.out _).mono ?_
        rintro e w4 ⟨rfl, rfl⟩
        refine hK.out _ _ hSd (fun hHeld => ?_)
        clear hK K
        refine take_at 6 (some 78) (v := ?_) rfl rfl (by kernel_rfl) (by kernel_rfl) (by kernel_rfl) (fun _ _ _ h => h) (Or.inl ⟨by rfl, ?_⟩) (by assumption) ?_
        rotate_left
        · intro w hSw
          (try dsimp only at hSw)
          go_simp
          first | done | with_reducible rfl
        simp only [Act.put, List.setIfInBounds_toArray, List.set_cons_succ, List.set_cons_zero]
        refine wpAnyH_ready (rs := [9]) (by kernel_rfl) (by simp) ?_
        refine AllReadyH.cons rfl (fun K hK => ?_) AllReadyH.nil
        go_simp
        refine (samplesOf_any ad3 n cap3 mm c d (unf x.toNat (rowB l n t) (lastR R n) st) _ ok hl3 (by exact HR3.out) (by omega) HFIT.out (by omega)).mono ?_
        rintro e w5 ⟨v5, rfl, ho5, hb5⟩
        have hS5 := hSd.next hb5
        obtain ⟨a5, cap5, rfl, hc5, -, hnil5, -⟩ := ho5.shape
        obtain ⟨p5, rfl⟩ : ∃ p5, a5 = some p5 := by
          cases a5 with
          | none => exact absurd (hnil5 rfl).1 (by rw [sampR_len]; have := HMP.out (by omega); omega)
          | some p => exact ⟨p, rfl⟩
        have ho35 : OwnI w5 (N + 1) u12 (sampsOf d mm R) := HOWN3.out.below (undrew hb5)
        refine hK.out _ _ hS5 (fun hHeld => ?_)
        clear hK K
        refine wpAnyH_ready (rs := [10]) (by kernel_rfl) (by simp) ?_
        refine AllReadyH.cons rfl (fun K hK => ?_) AllReadyH.nil
        refine step_append_ints rfl (.tmp 72) (.tmp 81) rfl (N + 1) u12 (sampsOf d mm R) (sampR d mm (unf x.toNat (rowB l n t) (lastR R n) st)) (by simp [Act.eval]) ho35 p5 _ cap5 (by simp [Act.eval]) rfl (hc5 p5 rfl) (by rw [sampsOf_len, HRR.out, sampR_len]; have : t * mm ≤ 40 * 160 := Nat.mul_le_mul (by omega) (by omega); omega) hS5.lt ?_
        intro v6 w6 ho6 hb6 hg6
        have HG6 := Lib.hid hg6
        clear hg6
        have hS6 := hS5.nextB hb6 (by rw [HN.out]; exact Nat.le_refl _)
        refine hK.out _ _ hS6 (fun hHeld => ?_)
        clear hK K
        refine take_at 11 (some 12) (v := ?_) rfl rfl (by kernel_rfl) (by kernel_rfl) (by kernel_rfl) (fun _ _ _ h => h) (Or.inl ⟨by rfl, ?_⟩) (by assumption) ?_
        rotate_left
        · intro w hSw
          go_simp
          first | done | with_reducible rfl
        refine wpAnyH_done (by kernel_rfl) ?_ _
        rw [← sampsOf_next] at ho6
        have hab6 : AbAt w6 (.slice ad3 n cap3) n (unf x.toNat (rowB l n t) (lastR R n) st) := ⟨ad3, cap3, rfl, (HR3.out.below (undrew hb5)).kept (fun p e => HG6.out.block p.block (Nat.lt_of_lt_of_le (HAD3.out p e).2 (undrew hb5).size) (fun q => by have h1 := (World.ownsRow.lt HOWN.out p.block q.symm).2; have h2 := (HAD3.out p e).1; omega))⟩
        have HAB := Lib.hid hab6
        have HOW := Lib.hid ho6
        have HS6 := Lib.hid hS6
        clear hab6 ho6 hS6 hb5 hb6 hS5 hSd hc5 hnil5 ho5 ho35 hHeld
        go_wp2_with fail
        go_roundw
        case rel => exact ⟨t + 1, _, by omega, by go_num, HUP, by rw [lastR_nextP]; exact HAB.out, HOW.out, HS6.out⟩
        case measure => simp [intOf]; omega
      · have d2 : decide ((4 : Int) < (x.toNat : Int)) = true := decide_eq_true (by omega)
        have hnone : rowsOf W0 H0 c d laced p l = none := by rw [HRO.out]; exact upR_none_le (upR_stop hup.out (by rw [hfx.out]; intro q; exact hf q.2)) hlt
        have HNO := Lib.hid hnone
        have HB := Lib.hid hS.bel
        clear hnone hS
        go_wp2_with fail
        go_ret2
        exact ⟨fun _ => rfl, (fun R hR => by rw [HNO.out] at hR; cases hR), HB.out⟩
    · have d1 : decide ((m : Int) < (a2 : Int)) = true := decide_eq_true (by omega)
      have hnone : rowsOf W0 H0 c d laced p l = none := by rw [HRO.out]; exact upR_none_le (upR_stop hup.out (by rw [HE2.out, hl.out]; intro q; exact hle q.1)) hlt
      have HNO := Lib.hid hnone
      have HB := Lib.hid hS.bel
      clear hnone hS
      go_wp2_with fail
      go_ret2
      exact ⟨fun _ => rfl, (fun R hR => by rw [HNO.out] at hR; cases hR), HB.out⟩
  · obtain rfl : t = H := by omega
    have HSOME : Hid (rowsOf W0 H0 c d laced p l = some R) := Lib.hid (by rw [HRO.out]; exact hup.out)
    have HB := Lib.hid hS.bel
    clear hS hab hup
    go_wp2_with fail
    go_ret2
    exact ⟨(fun h => by rw [HSOME.out] at h; cases h), (fun R' hR' => by rw [HSOME.out] at hR'; cases hR'; exact ⟨_, rfl, by rw [← HMM.out]; exact HOWN.out.mono (by rw [HN.out]; omega)⟩), HB.out⟩
end Go.Proofs.YtkiibhpmembcgaaDoor
