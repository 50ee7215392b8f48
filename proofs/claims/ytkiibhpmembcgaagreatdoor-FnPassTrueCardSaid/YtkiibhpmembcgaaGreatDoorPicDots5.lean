/- The contract of the reference's PictureDots at a kind of picture. Printed by gen/picdots.py. -/
import Derived.Test.YtkiibhpmembcgaaGreatDoorSpSam
import Derived.Test.YtkiibhpmembcgaaGreatDoorGMath
import Derived.Deep.RegionHeld3
import Derived.Deep.DeepCutAuto
import Derived.Deep.CutBlock
import Derived.LoopTactic
import Derived.Outline
namespace Go.Proofs.YtkiibhpmembcgaaGreatDoor
open Go.ChangeShapes Go.WideShapes Go.ChangeAt Go.RowKit Go.IntWalk

/-- A palette of pixels in memory. -/
def PalD (w : World) (pa : Option Addr) (P : List Dt) : Prop := ∀ t s, P[t]? = some s → ∀ j u, (dtC s)[j]? = some u → ∃ g, pa = some ⟨g, 0, none⟩ ∧ w.cell? ⟨g, t * 4 + j, none⟩ = some u
theorem PalD.below {w w' : World} {pa : Option Addr} {P : List Dt} (h : PalD w pa P) (hb : Below w.heap.size w w') : PalD w' pa P := fun t s hs j u hj => by
  obtain ⟨g, e, hc⟩ := h t s hs j u hj
  exact ⟨g, e, (hb.cell (World.block_lt_of_cell? w _ hc)).trans hc⟩
def PdEnd (k : Nat) (P : List Dt) (W H S : Nat) (l : List UInt8) (w : World) (e : Ending) (w' : World) : Prop :=
  ∃ v, e = .returned (.tuple #[v, .bool true]) ∧ OwnD w' w.heap.size v ((List.range (H * W)).map (dotAt k P (nK k) W S l)) ∧ Below w.heap.size w w'
theorem dotAt_at (k : Nat) (P : List Dt) (n W S : Nat) (l : List UInt8) {y x : Nat} (hx : x < W) : dotAt k P n W S l (y * W + x) = dotP k P (fun i => l.getD (y * S + x * n + i) 0) := by
  unfold dotAt
  obtain ⟨h1, h2⟩ := div_mul_add (y := y) hx
  rw [h1, h2]
theorem range_next {α : Type} (f : Nat → α) (n : Nat) : (List.range (n + 1)).map f = (List.range n).map f ++ [f n] := by simp [List.range_succ]
theorem getD_of {l : List UInt8} {i : Nat} {x : UInt8} (h : l[i]? = some x) : l.getD i 0 = x := by simp [List.getD, h]
theorem cell_bel {w : World} {b o j : Nat} {l : List UInt8} {x : UInt8} (h : RB w (some ⟨b, o, none⟩) l) (hx : l[j]? = some x) : ∀ w', Below w.heap.size w w' → w'.cell? ⟨b, o + j, none⟩ = some (.int .u8 (x.toNat : Int)) := by
  intro w' hb
  obtain ⟨hj, -⟩ := List.getElem?_eq_some_iff.1 hx
  obtain ⟨y, hy, hc⟩ := (h.below hb).at j hj
  obtain rfl : x = y := Option.some.inj (hx.symm.trans hy.out)
  exact hc
set_option maxHeartbeats 6400000 in
set_option maxRecDepth 100000 in
theorem pictureDots_5 (W H S L cap pn pc : Nat) (ad pa : Option Addr) (P : List Dt) (l : List UInt8) (w : World) (hW : W ≤ 40) (hH : H ≤ 40) (hS : Hid (S = W * 4)) (hL : Hid (L = H * S)) (hl : Hid (l.length = L)) (hr : RB w ad l) (hcap : L ≤ cap) :
    Calls Tryz.prog 31 #[.int .i64 5, .int .i64 (W : Int), .int .i64 (H : Int), .int .i64 (S : Int), .slice ad L cap, .slice pa pn pc] w (PdEnd 5 P W H S l w) := by
  have hSb : S ≤ 40 * 4 := by rw [hS.out]; exact Nat.mul_le_mul_right _ hW
  have hLb : L ≤ 40 * (40 * 4) := by rw [hL.out]; exact Nat.mul_le_mul hH hSb
  obtain ⟨A, hA⟩ : ∃ A, A = W * H := ⟨_, rfl⟩
  have hAb : A ≤ 40 * 40 := by rw [hA]; exact Nat.mul_le_mul hW hH
  have mA : (W : Int) * (H : Int) = (A : Int) := by rw [hA]; rfl
  have vA : IntKind.i64.wrap (A : Int) = (A : Int) := i64_in _ ⟨by omega, by omega⟩
  have d1 : decide ((W : Int) < 0) = false := decide_eq_false (by omega)
  have d2 : decide ((H : Int) < 0) = false := decide_eq_false (by omega)
  have d3 : decide ((1048576 : Int) < (W : Int)) = false := decide_eq_false (by omega)
  have d4 : decide ((1048576 : Int) < (H : Int)) = false := decide_eq_false (by omega)
  have d5 : decide ((1048576 : Int) < (A : Int)) = false := decide_eq_false (by omega)
  have d6 : decide ((S : Int) < 0) = false := decide_eq_false (by omega)
  have d7 : decide ((1073741824 : Int) < (S : Int)) = false := decide_eq_false (by omega)
  have HR := Lib.hid hr
  clear hA hr
  go_enter Tryz.func31, Tryz.ntmps31
  go_upto_region 3 with (go_at_call 37; refine (pixBytes_any 5 (by omega) (by omega) _).mono ?_; rintro e w' ⟨rfl, he⟩; obtain rfl := he.symm; rw [show (nK 5 : Int) = 4 from rfl])
  go_upto_region 6 with fail
  clear d1 d2 d3 d4 d5 d6 d7 mA vA
  obtain ⟨w1, hw1⟩ : ∃ w1, w1 = w.alloc (.cells #[] 61) := ⟨_, rfl⟩
  have hb1 : Below w.heap.size w w1 := hw1 ▸ (Below.refl _ _).alloc (Nat.le_refl _) _
  have ho1 : OwnD w1 w.heap.size (.slice (some ⟨w.heap.size, 0, none⟩) 0 0) [] := hw1 ▸ OwnD.empty w w.heap.size (Nat.le_refl _)
  rw [← hw1]
  have HB1 := Lib.hid hb1
  have HO1 := Lib.hid ho1
  clear hw1 hb1 ho1
  obtain ⟨f, hf⟩ : ∃ f, f = dotAt 5 P 4 W S l := ⟨_, rfl⟩
  have HF := Lib.hid hf
  have HFIN : Hid ((List.range (H * W)).map (dotAt 5 P (nK 5) W S l) = (List.range (H * W)).map f) := Lib.hid (by rw [hf]; rfl)
  clear hf
  go_loopw [15, 58] (fun v yv wr => ∃ y : Nat, y ≤ H ∧ yv = .int .i64 (y : Int) ∧ OwnD wr w.heap.size v ((List.range (y * W)).map f) ∧ Below w.heap.size w wr) (fun _ yv _ => H - (intOf yv).toNat)
  case atStart => exact ⟨0, Nat.zero_le _, rfl, by rw [Nat.zero_mul]; exact HO1.out, HB1.out⟩
  case round =>
  obtain ⟨y, hy, rfl, hown, hbel⟩ := hrel
  by_cases hly : y < H
  · have HOY := Lib.hid hown
    have HBY := Lib.hid hbel
    clear hown hbel HO1 HB1
    go_upto_region 9 with fail
    go_loopw [15, 62] (fun v xv wr => ∃ x : Nat, x ≤ W ∧ xv = .int .i64 (x : Int) ∧ OwnD wr w.heap.size v ((List.range (y * W + x)).map f) ∧ Below w.heap.size w wr) (fun _ xv _ => W - (intOf xv).toNat)
    case atStart => exact ⟨0, Nat.zero_le _, rfl, by rw [Nat.add_zero]; exact HOY.out, HBY.out⟩
    case round =>
    obtain ⟨x, hx, rfl, hown, hbel⟩ := hrel
    by_cases hlx : x < W
    · clear HOY HBY
      obtain ⟨yS, hyS⟩ : ∃ q, q = y * S := ⟨_, rfl⟩
      obtain ⟨xn, hxn⟩ : ∃ q, q = x * 4 := ⟨_, rfl⟩
      obtain ⟨a0, ha0⟩ : ∃ q, q = yS + xn := ⟨_, rfl⟩
      obtain ⟨a1, ha1⟩ : ∃ q, q = a0 + 4 := ⟨_, rfl⟩
      have hyb : yS ≤ 40 * (40 * 4) := by rw [hyS]; exact Nat.mul_le_mul (by omega) hSb
      have hyL : yS + S ≤ L := by rw [hyS, hL.out, ← Nat.succ_mul]; exact Nat.mul_le_mul_right _ hly
      have hxS : xn + 4 ≤ S := by rw [hS.out, hxn, ← Nat.succ_mul]; exact Nat.mul_le_mul_right _ hlx
      have ha1L : a1 ≤ L := by omega
      have m1 : (y : Int) * (S : Int) = (yS : Int) := by rw [hyS]; rfl
      have m2 : (x : Int) * 4 = (xn : Int) := by omega
      have m3 : (yS : Int) + (xn : Int) = (a0 : Int) := by omega
      have m4 : (a0 : Int) + 4 = (a1 : Int) := by omega
      have v1 : IntKind.i64.wrap (yS : Int) = (yS : Int) := i64_in _ ⟨by omega, by omega⟩
      have v2 : IntKind.i64.wrap (xn : Int) = (xn : Int) := i64_in _ ⟨by omega, by omega⟩
      have v3 : IntKind.i64.wrap (a0 : Int) = (a0 : Int) := i64_in _ ⟨by omega, by omega⟩
      have v4 : IntKind.i64.wrap (a1 : Int) = (a1 : Int) := i64_in _ ⟨by omega, by omega⟩
      have d1 : decide ((L : Int) < (a1 : Int)) = false := decide_eq_false (by omega)
      have i0 : (0 : Int) ≤ (a0 : Int) := by omega
      have i1 : (a0 : Int) ≤ (a1 : Int) := by omega
      have i2 : (a1 : Int) ≤ (cap : Int) := by omega
      have i3 : ¬ cap = a0 := by omega
      have a10 : a1 - a0 = 4 := by omega
      obtain ⟨b, o, rfl, -⟩ := HR.out (by have := hl.out; intro e; rw [e] at this; simp at this; omega)
      have HA : Hid (y * S + x * 4 = a0) := Lib.hid (by rw [ha0, hyS, hxn])
      obtain ⟨x0, hx0⟩ : ∃ q, l[a0 + 0]? = some q := ⟨_, List.getElem?_eq_getElem (by have := hl.out; omega)⟩
      have hc0 : ∀ w', Below w.heap.size w w' → w'.cell? ⟨b, o + a0, none⟩ = some (.int .u8 (x0.toNat : Int)) := by have := cell_bel HR.out hx0; exact this
      have rx0 := u8lt x0
      have e0 : IntKind.i64.wrap (x0.toNat : Int) = (x0.toNat : Int) := i64_in _ ⟨by omega, by omega⟩
      obtain ⟨x1, hx1⟩ : ∃ q, l[a0 + 1]? = some q := ⟨_, List.getElem?_eq_getElem (by have := hl.out; omega)⟩
      have hc1 : ∀ w', Below w.heap.size w w' → w'.cell? ⟨b, o + a0 + 1, none⟩ = some (.int .u8 (x1.toNat : Int)) := by have := cell_bel HR.out hx1; rwa [← Nat.add_assoc] at this
      have rx1 := u8lt x1
      have e1 : IntKind.i64.wrap (x1.toNat : Int) = (x1.toNat : Int) := i64_in _ ⟨by omega, by omega⟩
      obtain ⟨x2, hx2⟩ : ∃ q, l[a0 + 2]? = some q := ⟨_, List.getElem?_eq_getElem (by have := hl.out; omega)⟩
      have hc2 : ∀ w', Below w.heap.size w w' → w'.cell? ⟨b, o + a0 + 2, none⟩ = some (.int .u8 (x2.toNat : Int)) := by have := cell_bel HR.out hx2; rwa [← Nat.add_assoc] at this
      have rx2 := u8lt x2
      have e2 : IntKind.i64.wrap (x2.toNat : Int) = (x2.toNat : Int) := i64_in _ ⟨by omega, by omega⟩
      obtain ⟨x3, hx3⟩ : ∃ q, l[a0 + 3]? = some q := ⟨_, List.getElem?_eq_getElem (by have := hl.out; omega)⟩
      have hc3 : ∀ w', Below w.heap.size w w' → w'.cell? ⟨b, o + a0 + 3, none⟩ = some (.int .u8 (x3.toNat : Int)) := by have := cell_bel HR.out hx3; rwa [← Nat.add_assoc] at this
      have rx3 := u8lt x3
      have e3 : IntKind.i64.wrap (x3.toNat : Int) = (x3.toNat : Int) := i64_in _ ⟨by omega, by omega⟩
      obtain ⟨r0, hr0⟩ : ∃ q, q = 257 * x0.toNat := ⟨_, rfl⟩
      have kr0 : 257 * (x0.toNat : Int) = (r0 : Int) := by omega
      have vvr0 : IntKind.i64.wrap (r0 : Int) = (r0 : Int) := i64_in _ ⟨by omega, by omega⟩
      obtain ⟨r1, hr1⟩ : ∃ q, q = 257 * x1.toNat := ⟨_, rfl⟩
      have kr1 : 257 * (x1.toNat : Int) = (r1 : Int) := by omega
      have vvr1 : IntKind.i64.wrap (r1 : Int) = (r1 : Int) := i64_in _ ⟨by omega, by omega⟩
      obtain ⟨r2, hr2⟩ : ∃ q, q = 257 * x2.toNat := ⟨_, rfl⟩
      have kr2 : 257 * (x2.toNat : Int) = (r2 : Int) := by omega
      have vvr2 : IntKind.i64.wrap (r2 : Int) = (r2 : Int) := i64_in _ ⟨by omega, by omega⟩
      obtain ⟨r3, hr3⟩ : ∃ q, q = 257 * x3.toNat := ⟨_, rfl⟩
      have kr3 : 257 * (x3.toNat : Int) = (r3 : Int) := by omega
      have vvr3 : IntKind.i64.wrap (r3 : Int) = (r3 : Int) := i64_in _ ⟨by omega, by omega⟩
      have HV : Hid (f (y * W + x) = ⟨r0, r1, r2, r3⟩) := Lib.hid (by rw [HF.out, dotAt_at 5 P 4 W S l hlx, HA.out]; simp only [dotP, getD_of hx0, getD_of hx1, getD_of hx2, getD_of hx3, hr0, hr1, hr2, hr3]; rfl)
      have NX : Hid ((List.range (y * W + (x + 1))).map f = (List.range (y * W + x)).map f ++ [⟨r0, r1, r2, r3⟩]) := Lib.hid (by rw [← Nat.add_assoc, range_next, HV.out])
      obtain ⟨DD, hDD⟩ : ∃ q, q = (List.range (y * W + x)).map f := ⟨_, rfl⟩
      rw [← hDD] at hown NX
      have hdl : DD.length ≤ 1000000 := by rw [hDD, List.length_map, List.length_range]; have : y * W ≤ 40 * 40 := Nat.mul_le_mul (by omega) hW; omega
      have HO := Lib.hid hown
      have HB := Lib.hid hbel
      clear hDD hown hbel HV hyS hxn ha0 ha1 hr0 hr1 hr2 hr3 hx0 hx1 hx2 hx3
      go_upto_region 27 with fail
      try rw [a10]
      have hSd := bdrew HB.out
      refine wp_region_held_drew (S := fun w' => Below w.heap.size w w') (by kernel_rfl) hSd (fun hHeld => ?_)
      refine take_at 0 (some 137) (v := ?_) rfl rfl (by kernel_rfl) (by kernel_rfl) (by kernel_rfl) (fun _ _ _ h => h) (Or.inl ⟨by rfl, ?_⟩) (by assumption) ?_
      rotate_left
      · intro w hSw
        have q0 := hc0 _ hSw; have q1 := hc1 _ hSw; have q2 := hc2 _ hSw; have q3 := hc3 _ hSw
        go_simp
        first | done | with_reducible rfl
      simp only [Act.put, List.setIfInBounds_toArray, List.set_cons_succ, List.set_cons_zero]
      refine take_at 1 (some 138) (v := ?_) rfl rfl (by kernel_rfl) (by kernel_rfl) (by kernel_rfl) (fun _ _ _ h => h) (Or.inl ⟨by rfl, ?_⟩) (by assumption) ?_
      rotate_left
      · intro w hSw
        have q0 := hc0 _ hSw; have q1 := hc1 _ hSw; have q2 := hc2 _ hSw; have q3 := hc3 _ hSw
        go_simp
        first | done | with_reducible rfl
      simp only [Act.put, List.setIfInBounds_toArray, List.set_cons_succ, List.set_cons_zero]
      refine take_at 2 (some 139) (v := ?_) rfl rfl (by kernel_rfl) (by kernel_rfl) (by kernel_rfl) (fun _ _ _ h => h) (Or.inl ⟨by rfl, ?_⟩) (by assumption) ?_
      rotate_left
      · intro w hSw
        have q0 := hc0 _ hSw; have q1 := hc1 _ hSw; have q2 := hc2 _ hSw; have q3 := hc3 _ hSw
        go_simp
        first | done | with_reducible rfl
      simp only [Act.put, List.setIfInBounds_toArray, List.set_cons_succ, List.set_cons_zero]
      refine take_at 3 (some 140) (v := ?_) rfl rfl (by kernel_rfl) (by kernel_rfl) (by kernel_rfl) (fun _ _ _ h => h) (Or.inl ⟨by rfl, ?_⟩) (by assumption) ?_
      rotate_left
      · intro w hSw
        have q0 := hc0 _ hSw; have q1 := hc1 _ hSw; have q2 := hc2 _ hSw; have q3 := hc3 _ hSw
        go_simp
        first | done | with_reducible rfl
      simp only [Act.put, List.setIfInBounds_toArray, List.set_cons_succ, List.set_cons_zero]
      refine take_at 4 (some 141) (v := ?_) rfl rfl (by kernel_rfl) (by kernel_rfl) (by kernel_rfl) (fun _ _ _ h => h) (Or.inl ⟨by rfl, ?_⟩) (by assumption) ?_
      rotate_left
      · intro w hSw
        have q0 := hc0 _ hSw; have q1 := hc1 _ hSw; have q2 := hc2 _ hSw; have q3 := hc3 _ hSw
        go_simp
        first | done | with_reducible rfl
      simp only [Act.put, List.setIfInBounds_toArray, List.set_cons_succ, List.set_cons_zero]
      refine take_at 5 (some 142) (v := ?_) rfl rfl (by kernel_rfl) (by kernel_rfl) (by kernel_rfl) (fun _ _ _ h => h) (Or.inl ⟨by rfl, ?_⟩) (by assumption) ?_
      rotate_left
      · intro w hSw
        have q0 := hc0 _ hSw; have q1 := hc1 _ hSw; have q2 := hc2 _ hSw; have q3 := hc3 _ hSw
        go_simp
        first | done | with_reducible rfl
      simp only [Act.put, List.setIfInBounds_toArray, List.set_cons_succ, List.set_cons_zero]
      refine take_at 6 (some 143) (v := ?_) rfl rfl (by kernel_rfl) (by kernel_rfl) (by kernel_rfl) (fun _ _ _ h => h) (Or.inl ⟨by rfl, ?_⟩) (by assumption) ?_
      rotate_left
      · intro w hSw
        have q0 := hc0 _ hSw; have q1 := hc1 _ hSw; have q2 := hc2 _ hSw; have q3 := hc3 _ hSw
        go_simp
        first | done | with_reducible rfl
      simp only [Act.put, List.setIfInBounds_toArray, List.set_cons_succ, List.set_cons_zero]
      refine take_at 7 (some 144) (v := ?_) rfl rfl (by kernel_rfl) (by kernel_rfl) (by kernel_rfl) (fun _ _ _ h => h) (Or.inl ⟨by rfl, ?_⟩) (by assumption) ?_
      rotate_left
      · intro w hSw
        have q0 := hc0 _ hSw; have q1 := hc1 _ hSw; have q2 := hc2 _ hSw; have q3 := hc3 _ hSw
        go_simp
        first | done | with_reducible rfl
      simp only [Act.put, List.setIfInBounds_toArray, List.set_cons_succ, List.set_cons_zero]
      refine take_at 8 (some 145) (v := ?_) rfl rfl (by kernel_rfl) (by kernel_rfl) (by kernel_rfl) (fun _ _ _ h => h) (Or.inl ⟨by rfl, ?_⟩) (by assumption) ?_
      rotate_left
      · intro w hSw
        have q0 := hc0 _ hSw; have q1 := hc1 _ hSw; have q2 := hc2 _ hSw; have q3 := hc3 _ hSw
        go_simp
        first | done | with_reducible rfl
      simp only [Act.put, List.setIfInBounds_toArray, List.set_cons_succ, List.set_cons_zero]
      refine take_at 9 (some 146) (v := ?_) rfl rfl (by kernel_rfl) (by kernel_rfl) (by kernel_rfl) (fun _ _ _ h => h) (Or.inl ⟨by rfl, ?_⟩) (by assumption) ?_
      rotate_left
      · intro w hSw
        have q0 := hc0 _ hSw; have q1 := hc1 _ hSw; have q2 := hc2 _ hSw; have q3 := hc3 _ hSw
        go_simp
        first | done | with_reducible rfl
      simp only [Act.put, List.setIfInBounds_toArray, List.set_cons_succ, List.set_cons_zero]
      refine take_at 10 (some 147) (v := ?_) rfl rfl (by kernel_rfl) (by kernel_rfl) (by kernel_rfl) (fun _ _ _ h => h) (Or.inl ⟨by rfl, ?_⟩) (by assumption) ?_
      rotate_left
      · intro w hSw
        have q0 := hc0 _ hSw; have q1 := hc1 _ hSw; have q2 := hc2 _ hSw; have q3 := hc3 _ hSw
        go_simp
        first | done | with_reducible rfl
      simp only [Act.put, List.setIfInBounds_toArray, List.set_cons_succ, List.set_cons_zero]
      refine take_at 11 (some 148) (v := ?_) rfl rfl (by kernel_rfl) (by kernel_rfl) (by kernel_rfl) (fun _ _ _ h => h) (Or.inl ⟨by rfl, ?_⟩) (by assumption) ?_
      rotate_left
      · intro w hSw
        have q0 := hc0 _ hSw; have q1 := hc1 _ hSw; have q2 := hc2 _ hSw; have q3 := hc3 _ hSw
        go_simp
        first | done | with_reducible rfl
      simp only [Act.put, List.setIfInBounds_toArray, List.set_cons_succ, List.set_cons_zero]
      refine take_at 12 (some 149) (v := ?_) rfl rfl (by kernel_rfl) (by kernel_rfl) (by kernel_rfl) (fun _ _ _ h => h) (Or.inl ⟨by rfl, ?_⟩) (by assumption) ?_
      rotate_left
      · intro w hSw
        have q0 := hc0 _ hSw; have q1 := hc1 _ hSw; have q2 := hc2 _ hSw; have q3 := hc3 _ hSw
        go_simp
        first | done | with_reducible rfl
      simp only [Act.put, List.setIfInBounds_toArray, List.set_cons_succ, List.set_cons_zero]
      refine take_at 13 (some 150) (v := ?_) rfl rfl (by kernel_rfl) (by kernel_rfl) (by kernel_rfl) (fun _ _ _ h => h) (Or.inl ⟨by rfl, ?_⟩) (by assumption) ?_
      rotate_left
      · intro w hSw
        have q0 := hc0 _ hSw; have q1 := hc1 _ hSw; have q2 := hc2 _ hSw; have q3 := hc3 _ hSw
        go_simp
        first | done | with_reducible rfl
      simp only [Act.put, List.setIfInBounds_toArray, List.set_cons_succ, List.set_cons_zero]
      refine take_at 14 (some 151) (v := ?_) rfl rfl (by kernel_rfl) (by kernel_rfl) (by kernel_rfl) (fun _ _ _ h => h) (Or.inl ⟨by rfl, ?_⟩) (by assumption) ?_
      rotate_left
      · intro w hSw
        have q0 := hc0 _ hSw; have q1 := hc1 _ hSw; have q2 := hc2 _ hSw; have q3 := hc3 _ hSw
        go_simp
        first | done | with_reducible rfl
      simp only [Act.put, List.setIfInBounds_toArray, List.set_cons_succ, List.set_cons_zero]
      refine take_at 15 (some 152) (v := ?_) rfl rfl (by kernel_rfl) (by kernel_rfl) (by kernel_rfl) (fun _ _ _ h => h) (Or.inl ⟨by rfl, ?_⟩) (by assumption) ?_
      rotate_left
      · intro w hSw
        have q0 := hc0 _ hSw; have q1 := hc1 _ hSw; have q2 := hc2 _ hSw; have q3 := hc3 _ hSw
        go_simp
        first | done | with_reducible rfl
      simp only [Act.put, List.setIfInBounds_toArray, List.set_cons_succ, List.set_cons_zero]
      refine take_at 16 (some 153) (v := ?_) rfl rfl (by kernel_rfl) (by kernel_rfl) (by kernel_rfl) (fun _ _ _ h => h) (Or.inl ⟨by rfl, ?_⟩) (by assumption) ?_
      rotate_left
      · intro w hSw
        have q0 := hc0 _ hSw; have q1 := hc1 _ hSw; have q2 := hc2 _ hSw; have q3 := hc3 _ hSw
        go_simp
        first | done | with_reducible rfl
      simp only [Act.put, List.setIfInBounds_toArray, List.set_cons_succ, List.set_cons_zero]
      refine take_at 17 (some 154) (v := ?_) rfl rfl (by kernel_rfl) (by kernel_rfl) (by kernel_rfl) (fun _ _ _ h => h) (Or.inl ⟨by rfl, ?_⟩) (by assumption) ?_
      rotate_left
      · intro w hSw
        have q0 := hc0 _ hSw; have q1 := hc1 _ hSw; have q2 := hc2 _ hSw; have q3 := hc3 _ hSw
        go_simp
        first | done | with_reducible rfl
      simp only [Act.put, List.setIfInBounds_toArray, List.set_cons_succ, List.set_cons_zero]
      refine take_at 18 (some 155) (v := ?_) rfl rfl (by kernel_rfl) (by kernel_rfl) (by kernel_rfl) (fun _ _ _ h => h) (Or.inl ⟨by rfl, ?_⟩) (by assumption) ?_
      rotate_left
      · intro w hSw
        have q0 := hc0 _ hSw; have q1 := hc1 _ hSw; have q2 := hc2 _ hSw; have q3 := hc3 _ hSw
        go_simp
        first | done | with_reducible rfl
      simp only [Act.put, List.setIfInBounds_toArray, List.set_cons_succ, List.set_cons_zero]
      refine take_at 19 (some 156) (v := ?_) rfl rfl (by kernel_rfl) (by kernel_rfl) (by kernel_rfl) (fun _ _ _ h => h) (Or.inl ⟨by rfl, ?_⟩) (by assumption) ?_
      rotate_left
      · intro w hSw
        have q0 := hc0 _ hSw; have q1 := hc1 _ hSw; have q2 := hc2 _ hSw; have q3 := hc3 _ hSw
        go_simp
        first | done | with_reducible rfl
      simp only [Act.put, List.setIfInBounds_toArray, List.set_cons_succ, List.set_cons_zero]
      refine take_at 20 (some 157) (v := ?_) rfl rfl (by kernel_rfl) (by kernel_rfl) (by kernel_rfl) (fun _ _ _ h => h) (Or.inl ⟨by rfl, ?_⟩) (by assumption) ?_
      rotate_left
      · intro w hSw
        have q0 := hc0 _ hSw; have q1 := hc1 _ hSw; have q2 := hc2 _ hSw; have q3 := hc3 _ hSw
        go_simp
        first | done | with_reducible rfl
      simp only [Act.put, List.setIfInBounds_toArray, List.set_cons_succ, List.set_cons_zero]
      refine take_at 21 (some 158) (v := ?_) rfl rfl (by kernel_rfl) (by kernel_rfl) (by kernel_rfl) (fun _ _ _ h => h) (Or.inl ⟨by rfl, ?_⟩) (by assumption) ?_
      rotate_left
      · intro w hSw
        have q0 := hc0 _ hSw; have q1 := hc1 _ hSw; have q2 := hc2 _ hSw; have q3 := hc3 _ hSw
        go_simp
        first | done | with_reducible rfl
      simp only [Act.put, List.setIfInBounds_toArray, List.set_cons_succ, List.set_cons_zero]
      have HBW : Hid (Below w.heap.size w (wr.drew.alloc (.cells #[.int .i64 (r0 : Int), .int .i64 (r1 : Int), .int .i64 (r2 : Int), .int .i64 (r3 : Int)] 61))) := Lib.hid (hSd.alloc hSd.size _)
      refine wpAnyH_ready (rs := [22]) (by kernel_rfl) (by simp) ?_
      refine AllReadyH.cons rfl (fun K hK => ?_) AllReadyH.nil
      go_simp
      refine hK.out _ _ HBW.out (fun hHeld => ?_)
      clear hK K
      refine wpAnyH_ready (rs := [23]) (by kernel_rfl) (by simp) ?_
      refine AllReadyH.cons rfl (fun K hK => ?_) AllReadyH.nil
      refine step_append_dot rfl (.tmp 137) (.tmp 159) rfl w.heap.size u15 DD ⟨r0, r1, r2, r3⟩ (by simp [Act.eval]) (OwnD.alloc (show OwnD wr.drew w.heap.size u15 DD from HO.out) _) ⟨wr.heap.size, 0, none⟩ 1 (by simp [Act.eval]) (dot_at wr.drew ⟨r0, r1, r2, r3⟩ _ _ rfl) hdl HBW.out.size ?_
      intro v2 w2 ho2 hb2 hg2
      clear hg2
      have hS2 := HBW.out.trans hb2
      refine hK.out _ _ hS2 (fun hHeld => ?_)
      clear hK K
      refine take_at 24 (some 15) (v := ?_) rfl rfl (by kernel_rfl) (by kernel_rfl) (by kernel_rfl) (fun _ _ _ h => h) (Or.inl ⟨by rfl, ?_⟩) (by assumption) ?_
      rotate_left
      · intro w hSw
        go_simp
        first | done | with_reducible rfl
      refine wpAnyH_done (by kernel_rfl) ?_ _
      rw [← NX.out] at ho2
      have HO2 := Lib.hid ho2
      have HB2 := Lib.hid hS2
      clear ho2 hb2 hS2 hSd hHeld
      go_wp2_with fail
      go_roundw
      case rel => exact ⟨x + 1, by omega, by go_num, HO2.out, HB2.out⟩
      case measure => simp [intOf]; omega
    · obtain rfl : W = x := by omega
      have HO := Lib.hid hown
      have HB := Lib.hid hbel
      clear hown hbel
      go_wp2_with fail
      go_roundw
      case rel => exact ⟨y + 1, by omega, by go_num, by rw [Nat.add_mul, Nat.one_mul]; exact HO.out, HB.out⟩
      case measure => simp [intOf]; omega
  · obtain rfl : H = y := by omega
    have HO := Lib.hid hown
    have HB := Lib.hid hbel
    clear hown hbel
    go_wp2_with fail
    go_ret2
    exact ⟨_, rfl, by rw [HFIN.out]; exact HO.out, HB.out⟩
end Go.Proofs.YtkiibhpmembcgaaGreatDoor
