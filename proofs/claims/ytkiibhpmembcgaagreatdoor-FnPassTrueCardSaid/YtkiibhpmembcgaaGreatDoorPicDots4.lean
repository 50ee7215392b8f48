/- The contract of the reference's PictureDots at a kind of picture. Printed by gen/picdots.py. -/
import Derived.Test.YtkiibhpmembcgaaGreatDoorSpSam
import Derived.Test.YtkiibhpmembcgaaGreatDoorGMath
import Derived.Deep.RegionHeld3
import Derived.Deep.DeepCutAuto
import Derived.Deep.CutBlock
import Derived.LoopTactic
import Derived.Outline
import Derived.Test.YtkiibhpmembcgaaGreatDoorPicDots5
namespace Go.Proofs.YtkiibhpmembcgaaGreatDoor
open Go.ChangeShapes Go.WideShapes Go.ChangeAt Go.RowKit Go.IntWalk

set_option maxHeartbeats 6400000 in
set_option maxRecDepth 100000 in
theorem pictureDots_4 (W H S L cap pn pc : Nat) (ad pa : Option Addr) (P : List Dt) (l : List UInt8) (w : World) (hW : W ≤ 40) (hH : H ≤ 40) (hS : Hid (S = W * 8)) (hL : Hid (L = H * S)) (hl : Hid (l.length = L)) (hr : RB w ad l) (hcap : L ≤ cap) :
    Calls Tryz.prog 31 #[.int .i64 4, .int .i64 (W : Int), .int .i64 (H : Int), .int .i64 (S : Int), .slice ad L cap, .slice pa pn pc] w (PdEnd 4 P W H S l w) := by
  have hSb : S ≤ 40 * 8 := by rw [hS.out]; exact Nat.mul_le_mul_right _ hW
  have hLb : L ≤ 40 * (40 * 8) := by rw [hL.out]; exact Nat.mul_le_mul hH hSb
  obtain ⟨A, hA⟩ : ∃ A, A = W * H := ⟨_, rfl⟩
  have hAb : A ≤ 40 * 40 := by rw [hA]; exact Nat.mul_le_mul hW hH
  have mA : (W : Int) * (H : Int) = (A : Int) := by rw [hA]; rfl
  have vA : IntKind.i64.wrap (A : Int) = (A : Int) := i64_in _ ⟨by omega, by omega⟩
  have d1 : decide ((W : Int) < 0) = false := decide_eq_false (by omega)
  have d2 : decide ((H : Int) < 0) = false := decide_eq_false (by omega)
  have d3 : decide ((1048576 : Int) < (W : Int)) = false := decide_eq_false (by omega)
  have d4 : decide ((1048576 : Int) < (H : Int)) = false := decide_eq_false (by omega)
  have d5 : decide ((1048576 : Int) < (A : Int)) = false := decide_eq_false (by omega)
  have d6 : decide ((S : Int) < 0) = false := decide_eq_false (by omega)
  have d7 : decide ((1073741824 : Int) < (S : Int)) = false := decide_eq_false (by omega)
  have HR := Lib.hid hr
  clear hA hr
  go_enter Tryz.func31, Tryz.ntmps31
  go_upto_region 3 with (go_at_call 37; refine (pixBytes_any 4 (by omega) (by omega) _).mono ?_; rintro e w' ⟨rfl, he⟩; obtain rfl := he.symm; rw [show (nK 4 : Int) = 8 from rfl])
  go_upto_region 6 with fail
  clear d1 d2 d3 d4 d5 d6 d7 mA vA
  obtain ⟨w1, hw1⟩ : ∃ w1, w1 = w.alloc (.cells #[] 61) := ⟨_, rfl⟩
  have hb1 : Below w.heap.size w w1 := hw1 ▸ (Below.refl _ _).alloc (Nat.le_refl _) _
  have ho1 : OwnD w1 w.heap.size (.slice (some ⟨w.heap.size, 0, none⟩) 0 0) [] := hw1 ▸ OwnD.empty w w.heap.size (Nat.le_refl _)
  rw [← hw1]
  have HB1 := Lib.hid hb1
  have HO1 := Lib.hid ho1
  clear hw1 hb1 ho1
  obtain ⟨f, hf⟩ : ∃ f, f = dotAt 4 P 8 W S l := ⟨_, rfl⟩
  have HF := Lib.hid hf
  have HFIN : Hid ((List.range (H * W)).map (dotAt 4 P (nK 4) W S l) = (List.range (H * W)).map f) := Lib.hid (by rw [hf]; rfl)
  clear hf
  go_loopw [15, 58] (fun v yv wr => ∃ y : Nat, y ≤ H ∧ yv = .int .i64 (y : Int) ∧ OwnD wr w.heap.size v ((List.range (y * W)).map f) ∧ Below w.heap.size w wr) (fun _ yv _ => H - (intOf yv).toNat)
  case atStart => exact ⟨0, Nat.zero_le _, rfl, by rw [Nat.zero_mul]; exact HO1.out, HB1.out⟩
  case round =>
  obtain ⟨y, hy, rfl, hown, hbel⟩ := hrel
  by_cases hly : y < H
  · have HOY := Lib.hid hown
    have HBY := Lib.hid hbel
    clear hown hbel HO1 HB1
    go_upto_region 9 with fail
    go_loopw [15, 62] (fun v xv wr => ∃ x : Nat, x ≤ W ∧ xv = .int .i64 (x : Int) ∧ OwnD wr w.heap.size v ((List.range (y * W + x)).map f) ∧ Below w.heap.size w wr) (fun _ xv _ => W - (intOf xv).toNat)
    case atStart => exact ⟨0, Nat.zero_le _, rfl, by rw [Nat.add_zero]; exact HOY.out, HBY.out⟩
    case round =>
    obtain ⟨x, hx, rfl, hown, hbel⟩ := hrel
    by_cases hlx : x < W
    · clear HOY HBY
      obtain ⟨yS, hyS⟩ : ∃ q, q = y * S := ⟨_, rfl⟩
      obtain ⟨xn, hxn⟩ : ∃ q, q = x * 8 := ⟨_, rfl⟩
      obtain ⟨a0, ha0⟩ : ∃ q, q = yS + xn := ⟨_, rfl⟩
      obtain ⟨a1, ha1⟩ : ∃ q, q = a0 + 8 := ⟨_, rfl⟩
      have hyb : yS ≤ 40 * (40 * 8) := by rw [hyS]; exact Nat.mul_le_mul (by omega) hSb
      have hyL : yS + S ≤ L := by rw [hyS, hL.out, ← Nat.succ_mul]; exact Nat.mul_le_mul_right _ hly
      have hxS : xn + 8 ≤ S := by rw [hS.out, hxn, ← Nat.succ_mul]; exact Nat.mul_le_mul_right _ hlx
      have ha1L : a1 ≤ L := by omega
      have m1 : (y : Int) * (S : Int) = (yS : Int) := by rw [hyS]; rfl
      have m2 : (x : Int) * 8 = (xn : Int) := by omega
      have m3 : (yS : Int) + (xn : Int) = (a0 : Int) := by omega
      have m4 : (a0 : Int) + 8 = (a1 : Int) := by omega
      have v1 : IntKind.i64.wrap (yS : Int) = (yS : Int) := i64_in _ ⟨by omega, by omega⟩
      have v2 : IntKind.i64.wrap (xn : Int) = (xn : Int) := i64_in _ ⟨by omega, by omega⟩
      have v3 : IntKind.i64.wrap (a0 : Int) = (a0 : Int) := i64_in _ ⟨by omega, by omega⟩
      have v4 : IntKind.i64.wrap (a1 : Int) = (a1 : Int) := i64_in _ ⟨by omega, by omega⟩
      have d1 : decide ((L : Int) < (a1 : Int)) = false := decide_eq_false (by omega)
      have i0 : (0 : Int) ≤ (a0 : Int) := by omega
      have i1 : (a0 : Int) ≤ (a1 : Int) := by omega
      have i2 : (a1 : Int) ≤ (cap : Int) := by omega
      have i3 : ¬ cap = a0 := by omega
      have a10 : a1 - a0 = 8 := by omega
      obtain ⟨b, o, rfl, -⟩ := HR.out (by have := hl.out; intro e; rw [e] at this; simp at this; omega)
      have HA : Hid (y * S + x * 8 = a0) := Lib.hid (by rw [ha0, hyS, hxn])
      obtain ⟨x0, hx0⟩ : ∃ q, l[a0 + 0]? = some q := ⟨_, List.getElem?_eq_getElem (by have := hl.out; omega)⟩
      have hc0 : ∀ w', Below w.heap.size w w' → w'.cell? ⟨b, o + a0, none⟩ = some (.int .u8 (x0.toNat : Int)) := by have := cell_bel HR.out hx0; exact this
      have rx0 := u8lt x0
      have e0 : IntKind.i64.wrap (x0.toNat : Int) = (x0.toNat : Int) := i64_in _ ⟨by omega, by omega⟩
      obtain ⟨x1, hx1⟩ : ∃ q, l[a0 + 1]? = some q := ⟨_, List.getElem?_eq_getElem (by have := hl.out; omega)⟩
      have hc1 : ∀ w', Below w.heap.size w w' → w'.cell? ⟨b, o + a0 + 1, none⟩ = some (.int .u8 (x1.toNat : Int)) := by have := cell_bel HR.out hx1; rwa [← Nat.add_assoc] at this
      have rx1 := u8lt x1
      have e1 : IntKind.i64.wrap (x1.toNat : Int) = (x1.toNat : Int) := i64_in _ ⟨by omega, by omega⟩
      obtain ⟨x2, hx2⟩ : ∃ q, l[a0 + 2]? = some q := ⟨_, List.getElem?_eq_getElem (by have := hl.out; omega)⟩
      have hc2 : ∀ w', Below w.heap.size w w' → w'.cell? ⟨b, o + a0 + 2, none⟩ = some (.int .u8 (x2.toNat : Int)) := by have := cell_bel HR.out hx2; rwa [← Nat.add_assoc] at this
      have rx2 := u8lt x2
      have e2 : IntKind.i64.wrap (x2.toNat : Int) = (x2.toNat : Int) := i64_in _ ⟨by omega, by omega⟩
      obtain ⟨x3, hx3⟩ : ∃ q, l[a0 + 3]? = some q := ⟨_, List.getElem?_eq_getElem (by have := hl.out; omega)⟩
      have hc3 : ∀ w', Below w.heap.size w w' → w'.cell? ⟨b, o + a0 + 3, none⟩ = some (.int .u8 (x3.toNat : Int)) := by have := cell_bel HR.out hx3; rwa [← Nat.add_assoc] at this
      have rx3 := u8lt x3
      have e3 : IntKind.i64.wrap (x3.toNat : Int) = (x3.toNat : Int) := i64_in _ ⟨by omega, by omega⟩
      obtain ⟨x4, hx4⟩ : ∃ q, l[a0 + 4]? = some q := ⟨_, List.getElem?_eq_getElem (by have := hl.out; omega)⟩
      have hc4 : ∀ w', Below w.heap.size w w' → w'.cell? ⟨b, o + a0 + 4, none⟩ = some (.int .u8 (x4.toNat : Int)) := by have := cell_bel HR.out hx4; rwa [← Nat.add_assoc] at this
      have rx4 := u8lt x4
      have e4 : IntKind.i64.wrap (x4.toNat : Int) = (x4.toNat : Int) := i64_in _ ⟨by omega, by omega⟩
      obtain ⟨x5, hx5⟩ : ∃ q, l[a0 + 5]? = some q := ⟨_, List.getElem?_eq_getElem (by have := hl.out; omega)⟩
      have hc5 : ∀ w', Below w.heap.size w w' → w'.cell? ⟨b, o + a0 + 5, none⟩ = some (.int .u8 (x5.toNat : Int)) := by have := cell_bel HR.out hx5; rwa [← Nat.add_assoc] at this
      have rx5 := u8lt x5
      have e5 : IntKind.i64.wrap (x5.toNat : Int) = (x5.toNat : Int) := i64_in _ ⟨by omega, by omega⟩
      obtain ⟨x6, hx6⟩ : ∃ q, l[a0 + 6]? = some q := ⟨_, List.getElem?_eq_getElem (by have := hl.out; omega)⟩
      have hc6 : ∀ w', Below w.heap.size w w' → w'.cell? ⟨b, o + a0 + 6, none⟩ = some (.int .u8 (x6.toNat : Int)) := by have := cell_bel HR.out hx6; rwa [← Nat.add_assoc] at this
      have rx6 := u8lt x6
      have e6 : IntKind.i64.wrap (x6.toNat : Int) = (x6.toNat : Int) := i64_in _ ⟨by omega, by omega⟩
      obtain ⟨x7, hx7⟩ : ∃ q, l[a0 + 7]? = some q := ⟨_, List.getElem?_eq_getElem (by have := hl.out; omega)⟩
      have hc7 : ∀ w', Below w.heap.size w w' → w'.cell? ⟨b, o + a0 + 7, none⟩ = some (.int .u8 (x7.toNat : Int)) := by have := cell_bel HR.out hx7; rwa [← Nat.add_assoc] at this
      have rx7 := u8lt x7
      have e7 : IntKind.i64.wrap (x7.toNat : Int) = (x7.toNat : Int) := i64_in _ ⟨by omega, by omega⟩
      obtain ⟨r0, hr0⟩ : ∃ q, q = x0.toNat * 256 + x1.toNat := ⟨_, rfl⟩
      have kr0 : bits .or .i64 ((x0.toNat : Int) * 256) (x1.toNat : Int) = (r0 : Int) := by rw [or16i, hr0]; rfl
      have vvr0 : IntKind.i64.wrap ((x0.toNat : Int) * 256) = (x0.toNat : Int) * 256 := i64_in _ ⟨by omega, by omega⟩
      obtain ⟨r1, hr1⟩ : ∃ q, q = x2.toNat * 256 + x3.toNat := ⟨_, rfl⟩
      have kr1 : bits .or .i64 ((x2.toNat : Int) * 256) (x3.toNat : Int) = (r1 : Int) := by rw [or16i, hr1]; rfl
      have vvr1 : IntKind.i64.wrap ((x2.toNat : Int) * 256) = (x2.toNat : Int) * 256 := i64_in _ ⟨by omega, by omega⟩
      obtain ⟨r2, hr2⟩ : ∃ q, q = x4.toNat * 256 + x5.toNat := ⟨_, rfl⟩
      have kr2 : bits .or .i64 ((x4.toNat : Int) * 256) (x5.toNat : Int) = (r2 : Int) := by rw [or16i, hr2]; rfl
      have vvr2 : IntKind.i64.wrap ((x4.toNat : Int) * 256) = (x4.toNat : Int) * 256 := i64_in _ ⟨by omega, by omega⟩
      obtain ⟨r3, hr3⟩ : ∃ q, q = x6.toNat * 256 + x7.toNat := ⟨_, rfl⟩
      have kr3 : bits .or .i64 ((x6.toNat : Int) * 256) (x7.toNat : Int) = (r3 : Int) := by rw [or16i, hr3]; rfl
      have vvr3 : IntKind.i64.wrap ((x6.toNat : Int) * 256) = (x6.toNat : Int) * 256 := i64_in _ ⟨by omega, by omega⟩
      have HV : Hid (f (y * W + x) = ⟨r0, r1, r2, r3⟩) := Lib.hid (by rw [HF.out, dotAt_at 4 P 8 W S l hlx, HA.out]; simp only [dotP, getD_of hx0, getD_of hx1, getD_of hx2, getD_of hx3, getD_of hx4, getD_of hx5, getD_of hx6, getD_of hx7, hr0, hr1, hr2, hr3]; rfl)
      have NX : Hid ((List.range (y * W + (x + 1))).map f = (List.range (y * W + x)).map f ++ [⟨r0, r1, r2, r3⟩]) := Lib.hid (by rw [← Nat.add_assoc, range_next, HV.out])
      obtain ⟨DD, hDD⟩ : ∃ q, q = (List.range (y * W + x)).map f := ⟨_, rfl⟩
      rw [← hDD] at hown NX
      have hdl : DD.length ≤ 1000000 := by rw [hDD, List.length_map, List.length_range]; have : y * W ≤ 40 * 40 := Nat.mul_le_mul (by omega) hW; omega
      have HO := Lib.hid hown
      have HB := Lib.hid hbel
      clear hDD hown hbel HV hyS hxn ha0 ha1 hr0 hr1 hr2 hr3 hx0 hx1 hx2 hx3 hx4 hx5 hx6 hx7
      go_upto_region 30 with fail
      try rw [a10]
      have hSd := bdrew HB.out
      refine wp_region_held_drew (S := fun w' => Below w.heap.size w w') (by kernel_rfl) hSd (fun hHeld => ?_)
      refine take_at 0 (some 164) (v := ?_) rfl rfl (by kernel_rfl) (by kernel_rfl) (by kernel_rfl) (fun _ _ _ h => h) (Or.inl ⟨by rfl, ?_⟩) (by assumption) ?_
      rotate_left
      · intro w hSw
        have q0 := hc0 _ hSw; have q1 := hc1 _ hSw; have q2 := hc2 _ hSw; have q3 := hc3 _ hSw; have q4 := hc4 _ hSw; have q5 := hc5 _ hSw; have q6 := hc6 _ hSw; have q7 := hc7 _ hSw
        go_simp
        first | done | with_reducible rfl
      simp only [Act.put, List.setIfInBounds_toArray, List.set_cons_succ, List.set_cons_zero]
      refine take_at 1 (some 165) (v := ?_) rfl rfl (by kernel_rfl) (by kernel_rfl) (by kernel_rfl) (fun _ _ _ h => h) (Or.inl ⟨by rfl, ?_⟩) (by assumption) ?_
      rotate_left
      · intro w hSw
        have q0 := hc0 _ hSw; have q1 := hc1 _ hSw; have q2 := hc2 _ hSw; have q3 := hc3 _ hSw; have q4 := hc4 _ hSw; have q5 := hc5 _ hSw; have q6 := hc6 _ hSw; have q7 := hc7 _ hSw
        go_simp
        first | done | with_reducible rfl
      simp only [Act.put, List.setIfInBounds_toArray, List.set_cons_succ, List.set_cons_zero]
      refine take_at 2 (some 166) (v := ?_) rfl rfl (by kernel_rfl) (by kernel_rfl) (by kernel_rfl) (fun _ _ _ h => h) (Or.inl ⟨by rfl, ?_⟩) (by assumption) ?_
      rotate_left
      · intro w hSw
        have q0 := hc0 _ hSw; have q1 := hc1 _ hSw; have q2 := hc2 _ hSw; have q3 := hc3 _ hSw; have q4 := hc4 _ hSw; have q5 := hc5 _ hSw; have q6 := hc6 _ hSw; have q7 := hc7 _ hSw
        go_simp
        first | done | with_reducible rfl
      simp only [Act.put, List.setIfInBounds_toArray, List.set_cons_succ, List.set_cons_zero]
      refine take_at 3 (some 167) (v := ?_) rfl rfl (by kernel_rfl) (by kernel_rfl) (by kernel_rfl) (fun _ _ _ h => h) (Or.inl ⟨by rfl, ?_⟩) (by assumption) ?_
      rotate_left
      · intro w hSw
        have q0 := hc0 _ hSw; have q1 := hc1 _ hSw; have q2 := hc2 _ hSw; have q3 := hc3 _ hSw; have q4 := hc4 _ hSw; have q5 := hc5 _ hSw; have q6 := hc6 _ hSw; have q7 := hc7 _ hSw
        go_simp
        first | done | with_reducible rfl
      simp only [Act.put, List.setIfInBounds_toArray, List.set_cons_succ, List.set_cons_zero]
      refine take_at 4 (some 168) (v := ?_) rfl rfl (by kernel_rfl) (by kernel_rfl) (by kernel_rfl) (fun _ _ _ h => h) (Or.inl ⟨by rfl, ?_⟩) (by assumption) ?_
      rotate_left
      · intro w hSw
        have q0 := hc0 _ hSw; have q1 := hc1 _ hSw; have q2 := hc2 _ hSw; have q3 := hc3 _ hSw; have q4 := hc4 _ hSw; have q5 := hc5 _ hSw; have q6 := hc6 _ hSw; have q7 := hc7 _ hSw
        go_simp
        first | done | with_reducible rfl
      simp only [Act.put, List.setIfInBounds_toArray, List.set_cons_succ, List.set_cons_zero]
      refine take_at 5 (some 169) (v := ?_) rfl rfl (by kernel_rfl) (by kernel_rfl) (by kernel_rfl) (fun _ _ _ h => h) (Or.inl ⟨by rfl, ?_⟩) (by assumption) ?_
      rotate_left
      · intro w hSw
        have q0 := hc0 _ hSw; have q1 := hc1 _ hSw; have q2 := hc2 _ hSw; have q3 := hc3 _ hSw; have q4 := hc4 _ hSw; have q5 := hc5 _ hSw; have q6 := hc6 _ hSw; have q7 := hc7 _ hSw
        go_simp
        first | done | with_reducible rfl
      simp only [Act.put, List.setIfInBounds_toArray, List.set_cons_succ, List.set_cons_zero]
      refine take_at 6 (some 170) (v := ?_) rfl rfl (by kernel_rfl) (by kernel_rfl) (by kernel_rfl) (fun _ _ _ h => h) (Or.inl ⟨by rfl, ?_⟩) (by assumption) ?_
      rotate_left
      · intro w hSw
        have q0 := hc0 _ hSw; have q1 := hc1 _ hSw; have q2 := hc2 _ hSw; have q3 := hc3 _ hSw; have q4 := hc4 _ hSw; have q5 := hc5 _ hSw; have q6 := hc6 _ hSw; have q7 := hc7 _ hSw
        go_simp
        first | done | with_reducible rfl
      simp only [Act.put, List.setIfInBounds_toArray, List.set_cons_succ, List.set_cons_zero]
      refine take_at 7 (some 171) (v := ?_) rfl rfl (by kernel_rfl) (by kernel_rfl) (by kernel_rfl) (fun _ _ _ h => h) (Or.inl ⟨by rfl, ?_⟩) (by assumption) ?_
      rotate_left
      · intro w hSw
        have q0 := hc0 _ hSw; have q1 := hc1 _ hSw; have q2 := hc2 _ hSw; have q3 := hc3 _ hSw; have q4 := hc4 _ hSw; have q5 := hc5 _ hSw; have q6 := hc6 _ hSw; have q7 := hc7 _ hSw
        go_simp
        first | done | with_reducible rfl
      simp only [Act.put, List.setIfInBounds_toArray, List.set_cons_succ, List.set_cons_zero]
      refine take_at 8 (some 172) (v := ?_) rfl rfl (by kernel_rfl) (by kernel_rfl) (by kernel_rfl) (fun _ _ _ h => h) (Or.inl ⟨by rfl, ?_⟩) (by assumption) ?_
      rotate_left
      · intro w hSw
        have q0 := hc0 _ hSw; have q1 := hc1 _ hSw; have q2 := hc2 _ hSw; have q3 := hc3 _ hSw; have q4 := hc4 _ hSw; have q5 := hc5 _ hSw; have q6 := hc6 _ hSw; have q7 := hc7 _ hSw
        go_simp
        first | done | with_reducible rfl
      simp only [Act.put, List.setIfInBounds_toArray, List.set_cons_succ, List.set_cons_zero]
      refine take_at 9 (some 173) (v := ?_) rfl rfl (by kernel_rfl) (by kernel_rfl) (by kernel_rfl) (fun _ _ _ h => h) (Or.inl ⟨by rfl, ?_⟩) (by assumption) ?_
      rotate_left
      · intro w hSw
        have q0 := hc0 _ hSw; have q1 := hc1 _ hSw; have q2 := hc2 _ hSw; have q3 := hc3 _ hSw; have q4 := hc4 _ hSw; have q5 := hc5 _ hSw; have q6 := hc6 _ hSw; have q7 := hc7 _ hSw
        go_simp
        first | done | with_reducible rfl
      simp only [Act.put, List.setIfInBounds_toArray, List.set_cons_succ, List.set_cons_zero]
      refine take_at 10 (some 174) (v := ?_) rfl rfl (by kernel_rfl) (by kernel_rfl) (by kernel_rfl) (fun _ _ _ h => h) (Or.inl ⟨by rfl, ?_⟩) (by assumption) ?_
      rotate_left
      · intro w hSw
        have q0 := hc0 _ hSw; have q1 := hc1 _ hSw; have q2 := hc2 _ hSw; have q3 := hc3 _ hSw; have q4 := hc4 _ hSw; have q5 := hc5 _ hSw; have q6 := hc6 _ hSw; have q7 := hc7 _ hSw
        go_simp
        first | done | with_reducible rfl
      simp only [Act.put, List.setIfInBounds_toArray, List.set_cons_succ, List.set_cons_zero]
      refine take_at 11 (some 175) (v := ?_) rfl rfl (by kernel_rfl) (by kernel_rfl) (by kernel_rfl) (fun _ _ _ h => h) (Or.inl ⟨by rfl, ?_⟩) (by assumption) ?_
      rotate_left
      · intro w hSw
        have q0 := hc0 _ hSw; have q1 := hc1 _ hSw; have q2 := hc2 _ hSw; have q3 := hc3 _ hSw; have q4 := hc4 _ hSw; have q5 := hc5 _ hSw; have q6 := hc6 _ hSw; have q7 := hc7 _ hSw
        go_simp
        first | done | with_reducible rfl
      simp only [Act.put, List.setIfInBounds_toArray, List.set_cons_succ, List.set_cons_zero]
      refine take_at 12 (some 176) (v := ?_) rfl rfl (by kernel_rfl) (by kernel_rfl) (by kernel_rfl) (fun _ _ _ h => h) (Or.inl ⟨by rfl, ?_⟩) (by assumption) ?_
      rotate_left
      · intro w hSw
        have q0 := hc0 _ hSw; have q1 := hc1 _ hSw; have q2 := hc2 _ hSw; have q3 := hc3 _ hSw; have q4 := hc4 _ hSw; have q5 := hc5 _ hSw; have q6 := hc6 _ hSw; have q7 := hc7 _ hSw
        go_simp
        first | done | with_reducible rfl
      simp only [Act.put, List.setIfInBounds_toArray, List.set_cons_succ, List.set_cons_zero]
      refine take_at 13 (some 177) (v := ?_) rfl rfl (by kernel_rfl) (by kernel_rfl) (by kernel_rfl) (fun _ _ _ h => h) (Or.inl ⟨by rfl, ?_⟩) (by assumption) ?_
      rotate_left
      · intro w hSw
        have q0 := hc0 _ hSw; have q1 := hc1 _ hSw; have q2 := hc2 _ hSw; have q3 := hc3 _ hSw; have q4 := hc4 _ hSw; have q5 := hc5 _ hSw; have q6 := hc6 _ hSw; have q7 := hc7 _ hSw
        go_simp
        first | done | with_reducible rfl
      simp only [Act.put, List.setIfInBounds_toArray, List.set_cons_succ, List.set_cons_zero]
      refine take_at 14 (some 178) (v := ?_) rfl rfl (by kernel_rfl) (by kernel_rfl) (by kernel_rfl) (fun _ _ _ h => h) (Or.inl ⟨by rfl, ?_⟩) (by assumption) ?_
      rotate_left
      · intro w hSw
        have q0 := hc0 _ hSw; have q1 := hc1 _ hSw; have q2 := hc2 _ hSw; have q3 := hc3 _ hSw; have q4 := hc4 _ hSw; have q5 := hc5 _ hSw; have q6 := hc6 _ hSw; have q7 := hc7 _ hSw
        go_simp
        first | done | with_reducible rfl
      simp only [Act.put, List.setIfInBounds_toArray, List.set_cons_succ, List.set_cons_zero]
      refine take_at 15 (some 179) (v := ?_) rfl rfl (by kernel_rfl) (by kernel_rfl) (by kernel_rfl) (fun _ _ _ h => h) (Or.inl ⟨by rfl, ?_⟩) (by assumption) ?_
      rotate_left
      · intro w hSw
        have q0 := hc0 _ hSw; have q1 := hc1 _ hSw; have q2 := hc2 _ hSw; have q3 := hc3 _ hSw; have q4 := hc4 _ hSw; have q5 := hc5 _ hSw; have q6 := hc6 _ hSw; have q7 := hc7 _ hSw
        go_simp
        first | done | with_reducible rfl
      simp only [Act.put, List.setIfInBounds_toArray, List.set_cons_succ, List.set_cons_zero]
      refine take_at 16 (some 180) (v := ?_) rfl rfl (by kernel_rfl) (by kernel_rfl) (by kernel_rfl) (fun _ _ _ h => h) (Or.inl ⟨by rfl, ?_⟩) (by assumption) ?_
      rotate_left
      · intro w hSw
        have q0 := hc0 _ hSw; have q1 := hc1 _ hSw; have q2 := hc2 _ hSw; have q3 := hc3 _ hSw; have q4 := hc4 _ hSw; have q5 := hc5 _ hSw; have q6 := hc6 _ hSw; have q7 := hc7 _ hSw
        go_simp
        first | done | with_reducible rfl
      simp only [Act.put, List.setIfInBounds_toArray, List.set_cons_succ, List.set_cons_zero]
      refine take_at 17 (some 181) (v := ?_) rfl rfl (by kernel_rfl) (by kernel_rfl) (by kernel_rfl) (fun _ _ _ h => h) (Or.inl ⟨by rfl, ?_⟩) (by assumption) ?_
      rotate_left
      · intro w hSw
        have q0 := hc0 _ hSw; have q1 := hc1 _ hSw; have q2 := hc2 _ hSw; have q3 := hc3 _ hSw; have q4 := hc4 _ hSw; have q5 := hc5 _ hSw; have q6 := hc6 _ hSw; have q7 := hc7 _ hSw
        go_simp
        first | done | with_reducible rfl
      simp only [Act.put, List.setIfInBounds_toArray, List.set_cons_succ, List.set_cons_zero]
      refine take_at 18 (some 182) (v := ?_) rfl rfl (by kernel_rfl) (by kernel_rfl) (by kernel_rfl) (fun _ _ _ h => h) (Or.inl ⟨by rfl, ?_⟩) (by assumption) ?_
      rotate_left
      · intro w hSw
        have q0 := hc0 _ hSw; have q1 := hc1 _ hSw; have q2 := hc2 _ hSw; have q3 := hc3 _ hSw; have q4 := hc4 _ hSw; have q5 := hc5 _ hSw; have q6 := hc6 _ hSw; have q7 := hc7 _ hSw
        go_simp
        first | done | with_reducible rfl
      simp only [Act.put, List.setIfInBounds_toArray, List.set_cons_succ, List.set_cons_zero]
      refine take_at 19 (some 183) (v := ?_) rfl rfl (by kernel_rfl) (by kernel_rfl) (by kernel_rfl) (fun _ _ _ h => h) (Or.inl ⟨by rfl, ?_⟩) (by assumption) ?_
      rotate_left
      · intro w hSw
        have q0 := hc0 _ hSw; have q1 := hc1 _ hSw; have q2 := hc2 _ hSw; have q3 := hc3 _ hSw; have q4 := hc4 _ hSw; have q5 := hc5 _ hSw; have q6 := hc6 _ hSw; have q7 := hc7 _ hSw
        go_simp
        first | done | with_reducible rfl
      simp only [Act.put, List.setIfInBounds_toArray, List.set_cons_succ, List.set_cons_zero]
      refine take_at 20 (some 184) (v := ?_) rfl rfl (by kernel_rfl) (by kernel_rfl) (by kernel_rfl) (fun _ _ _ h => h) (Or.inl ⟨by rfl, ?_⟩) (by assumption) ?_
      rotate_left
      · intro w hSw
        have q0 := hc0 _ hSw; have q1 := hc1 _ hSw; have q2 := hc2 _ hSw; have q3 := hc3 _ hSw; have q4 := hc4 _ hSw; have q5 := hc5 _ hSw; have q6 := hc6 _ hSw; have q7 := hc7 _ hSw
        go_simp
        first | done | with_reducible rfl
      simp only [Act.put, List.setIfInBounds_toArray, List.set_cons_succ, List.set_cons_zero]
      refine take_at 21 (some 185) (v := ?_) rfl rfl (by kernel_rfl) (by kernel_rfl) (by kernel_rfl) (fun _ _ _ h => h) (Or.inl ⟨by rfl, ?_⟩) (by assumption) ?_
      rotate_left
      · intro w hSw
        have q0 := hc0 _ hSw; have q1 := hc1 _ hSw; have q2 := hc2 _ hSw; have q3 := hc3 _ hSw; have q4 := hc4 _ hSw; have q5 := hc5 _ hSw; have q6 := hc6 _ hSw; have q7 := hc7 _ hSw
        go_simp
        first | done | with_reducible rfl
      simp only [Act.put, List.setIfInBounds_toArray, List.set_cons_succ, List.set_cons_zero]
      refine take_at 22 (some 186) (v := ?_) rfl rfl (by kernel_rfl) (by kernel_rfl) (by kernel_rfl) (fun _ _ _ h => h) (Or.inl ⟨by rfl, ?_⟩) (by assumption) ?_
      rotate_left
      · intro w hSw
        have q0 := hc0 _ hSw; have q1 := hc1 _ hSw; have q2 := hc2 _ hSw; have q3 := hc3 _ hSw; have q4 := hc4 _ hSw; have q5 := hc5 _ hSw; have q6 := hc6 _ hSw; have q7 := hc7 _ hSw
        go_simp
        first | done | with_reducible rfl
      simp only [Act.put, List.setIfInBounds_toArray, List.set_cons_succ, List.set_cons_zero]
      refine take_at 23 (some 187) (v := ?_) rfl rfl (by kernel_rfl) (by kernel_rfl) (by kernel_rfl) (fun _ _ _ h => h) (Or.inl ⟨by rfl, ?_⟩) (by assumption) ?_
      rotate_left
      · intro w hSw
        have q0 := hc0 _ hSw; have q1 := hc1 _ hSw; have q2 := hc2 _ hSw; have q3 := hc3 _ hSw; have q4 := hc4 _ hSw; have q5 := hc5 _ hSw; have q6 := hc6 _ hSw; have q7 := hc7 _ hSw
        go_simp
        first | done | with_reducible rfl
      simp only [Act.put, List.setIfInBounds_toArray, List.set_cons_succ, List.set_cons_zero]
      refine take_at 24 (some 188) (v := ?_) rfl rfl (by kernel_rfl) (by kernel_rfl) (by kernel_rfl) (fun _ _ _ h => h) (Or.inl ⟨by rfl, ?_⟩) (by assumption) ?_
      rotate_left
      · intro w hSw
        have q0 := hc0 _ hSw; have q1 := hc1 _ hSw; have q2 := hc2 _ hSw; have q3 := hc3 _ hSw; have q4 := hc4 _ hSw; have q5 := hc5 _ hSw; have q6 := hc6 _ hSw; have q7 := hc7 _ hSw
        go_simp
        first | done | with_reducible rfl
      simp only [Act.put, List.setIfInBounds_toArray, List.set_cons_succ, List.set_cons_zero]
      refine take_at 25 (some 189) (v := ?_) rfl rfl (by kernel_rfl) (by kernel_rfl) (by kernel_rfl) (fun _ _ _ h => h) (Or.inl ⟨by rfl, ?_⟩) (by assumption) ?_
      rotate_left
      · intro w hSw
        have q0 := hc0 _ hSw; have q1 := hc1 _ hSw; have q2 := hc2 _ hSw; have q3 := hc3 _ hSw; have q4 := hc4 _ hSw; have q5 := hc5 _ hSw; have q6 := hc6 _ hSw; have q7 := hc7 _ hSw
        go_simp
        first | done | with_reducible rfl
      simp only [Act.put, List.setIfInBounds_toArray, List.set_cons_succ, List.set_cons_zero]
      refine take_at 26 (some 190) (v := ?_) rfl rfl (by kernel_rfl) (by kernel_rfl) (by kernel_rfl) (fun _ _ _ h => h) (Or.inl ⟨by rfl, ?_⟩) (by assumption) ?_
      rotate_left
      · intro w hSw
        have q0 := hc0 _ hSw; have q1 := hc1 _ hSw; have q2 := hc2 _ hSw; have q3 := hc3 _ hSw; have q4 := hc4 _ hSw; have q5 := hc5 _ hSw; have q6 := hc6 _ hSw; have q7 := hc7 _ hSw
        go_simp
        first | done | with_reducible rfl
      simp only [Act.put, List.setIfInBounds_toArray, List.set_cons_succ, List.set_cons_zero]
      refine take_at 27 (some 191) (v := ?_) rfl rfl (by kernel_rfl) (by kernel_rfl) (by kernel_rfl) (fun _ _ _ h => h) (Or.inl ⟨by rfl, ?_⟩) (by assumption) ?_
      rotate_left
      · intro w hSw
        have q0 := hc0 _ hSw; have q1 := hc1 _ hSw; have q2 := hc2 _ hSw; have q3 := hc3 _ hSw; have q4 := hc4 _ hSw; have q5 := hc5 _ hSw; have q6 := hc6 _ hSw; have q7 := hc7 _ hSw
        go_simp
        first | done | with_reducible rfl
      simp only [Act.put, List.setIfInBounds_toArray, List.set_cons_succ, List.set_cons_zero]
      refine take_at 28 (some 192) (v := ?_) rfl rfl (by kernel_rfl) (by kernel_rfl) (by kernel_rfl) (fun _ _ _ h => h) (Or.inl ⟨by rfl, ?_⟩) (by assumption) ?_
      rotate_left
      · intro w hSw
        have q0 := hc0 _ hSw; have q1 := hc1 _ hSw; have q2 := hc2 _ hSw; have q3 := hc3 _ hSw; have q4 := hc4 _ hSw; have q5 := hc5 _ hSw; have q6 := hc6 _ hSw; have q7 := hc7 _ hSw
        go_simp
        first | done | with_reducible rfl
      simp only [Act.put, List.setIfInBounds_toArray, List.set_cons_succ, List.set_cons_zero]
      refine take_at 29 (some 193) (v := ?_) rfl rfl (by kernel_rfl) (by kernel_rfl) (by kernel_rfl) (fun _ _ _ h => h) (Or.inl ⟨by rfl, ?_⟩) (by assumption) ?_
      rotate_left
      · intro w hSw
        have q0 := hc0 _ hSw; have q1 := hc1 _ hSw; have q2 := hc2 _ hSw; have q3 := hc3 _ hSw; have q4 := hc4 _ hSw; have q5 := hc5 _ hSw; have q6 := hc6 _ hSw; have q7 := hc7 _ hSw
        go_simp
        first | done | with_reducible rfl
      simp only [Act.put, List.setIfInBounds_toArray, List.set_cons_succ, List.set_cons_zero]
      refine take_at 30 (some 194) (v := ?_) rfl rfl (by kernel_rfl) (by kernel_rfl) (by kernel_rfl) (fun _ _ _ h => h) (Or.inl ⟨by rfl, ?_⟩) (by assumption) ?_
      rotate_left
      · intro w hSw
        have q0 := hc0 _ hSw; have q1 := hc1 _ hSw; have q2 := hc2 _ hSw; have q3 := hc3 _ hSw; have q4 := hc4 _ hSw; have q5 := hc5 _ hSw; have q6 := hc6 _ hSw; have q7 := hc7 _ hSw
        go_simp
        first | done | with_reducible rfl
      simp only [Act.put, List.setIfInBounds_toArray, List.set_cons_succ, List.set_cons_zero]
      refine take_at 31 (some 195) (v := ?_) rfl rfl (by kernel_rfl) (by kernel_rfl) (by kernel_rfl) (fun _ _ _ h => h) (Or.inl ⟨by rfl, ?_⟩) (by assumption) ?_
      rotate_left
      · intro w hSw
        have q0 := hc0 _ hSw; have q1 := hc1 _ hSw; have q2 := hc2 _ hSw; have q3 := hc3 _ hSw; have q4 := hc4 _ hSw; have q5 := hc5 _ hSw; have q6 := hc6 _ hSw; have q7 := hc7 _ hSw
        go_simp
        first | done | with_reducible rfl
      simp only [Act.put, List.setIfInBounds_toArray, List.set_cons_succ, List.set_cons_zero]
      refine take_at 32 (some 196) (v := ?_) rfl rfl (by kernel_rfl) (by kernel_rfl) (by kernel_rfl) (fun _ _ _ h => h) (Or.inl ⟨by rfl, ?_⟩) (by assumption) ?_
      rotate_left
      · intro w hSw
        have q0 := hc0 _ hSw; have q1 := hc1 _ hSw; have q2 := hc2 _ hSw; have q3 := hc3 _ hSw; have q4 := hc4 _ hSw; have q5 := hc5 _ hSw; have q6 := hc6 _ hSw; have q7 := hc7 _ hSw
        go_simp
        first | done | with_reducible rfl
      simp only [Act.put, List.setIfInBounds_toArray, List.set_cons_succ, List.set_cons_zero]
      refine take_at 33 (some 197) (v := ?_) rfl rfl (by kernel_rfl) (by kernel_rfl) (by kernel_rfl) (fun _ _ _ h => h) (Or.inl ⟨by rfl, ?_⟩) (by assumption) ?_
      rotate_left
      · intro w hSw
        have q0 := hc0 _ hSw; have q1 := hc1 _ hSw; have q2 := hc2 _ hSw; have q3 := hc3 _ hSw; have q4 := hc4 _ hSw; have q5 := hc5 _ hSw; have q6 := hc6 _ hSw; have q7 := hc7 _ hSw
        go_simp
        first | done | with_reducible rfl
      simp only [Act.put, List.setIfInBounds_toArray, List.set_cons_succ, List.set_cons_zero]
      refine take_at 34 (some 198) (v := ?_) rfl rfl (by kernel_rfl) (by kernel_rfl) (by kernel_rfl) (fun _ _ _ h => h) (Or.inl ⟨by rfl, ?_⟩) (by assumption) ?_
      rotate_left
      · intro w hSw
        have q0 := hc0 _ hSw; have q1 := hc1 _ hSw; have q2 := hc2 _ hSw; have q3 := hc3 _ hSw; have q4 := hc4 _ hSw; have q5 := hc5 _ hSw; have q6 := hc6 _ hSw; have q7 := hc7 _ hSw
        go_simp
        first | done | with_reducible rfl
      simp only [Act.put, List.setIfInBounds_toArray, List.set_cons_succ, List.set_cons_zero]
      refine take_at 35 (some 199) (v := ?_) rfl rfl (by kernel_rfl) (by kernel_rfl) (by kernel_rfl) (fun _ _ _ h => h) (Or.inl ⟨by rfl, ?_⟩) (by assumption) ?_
      rotate_left
      · intro w hSw
        have q0 := hc0 _ hSw; have q1 := hc1 _ hSw; have q2 := hc2 _ hSw; have q3 := hc3 _ hSw; have q4 := hc4 _ hSw; have q5 := hc5 _ hSw; have q6 := hc6 _ hSw; have q7 := hc7 _ hSw
        go_simp
        first | done | with_reducible rfl
      simp only [Act.put, List.setIfInBounds_toArray, List.set_cons_succ, List.set_cons_zero]
      refine take_at 36 (some 200) (v := ?_) rfl rfl (by kernel_rfl) (by kernel_rfl) (by kernel_rfl) (fun _ _ _ h => h) (Or.inl ⟨by rfl, ?_⟩) (by assumption) ?_
      rotate_left
      · intro w hSw
        have q0 := hc0 _ hSw; have q1 := hc1 _ hSw; have q2 := hc2 _ hSw; have q3 := hc3 _ hSw; have q4 := hc4 _ hSw; have q5 := hc5 _ hSw; have q6 := hc6 _ hSw; have q7 := hc7 _ hSw
        go_simp
        first | done | with_reducible rfl
      simp only [Act.put, List.setIfInBounds_toArray, List.set_cons_succ, List.set_cons_zero]
      refine take_at 37 (some 201) (v := ?_) rfl rfl (by kernel_rfl) (by kernel_rfl) (by kernel_rfl) (fun _ _ _ h => h) (Or.inl ⟨by rfl, ?_⟩) (by assumption) ?_
      rotate_left
      · intro w hSw
        have q0 := hc0 _ hSw; have q1 := hc1 _ hSw; have q2 := hc2 _ hSw; have q3 := hc3 _ hSw; have q4 := hc4 _ hSw; have q5 := hc5 _ hSw; have q6 := hc6 _ hSw; have q7 := hc7 _ hSw
        go_simp
        first | done | with_reducible rfl
      simp only [Act.put, List.setIfInBounds_toArray, List.set_cons_succ, List.set_cons_zero]
      refine take_at 38 (some 202) (v := ?_) rfl rfl (by kernel_rfl) (by kernel_rfl) (by kernel_rfl) (fun _ _ _ h => h) (Or.inl ⟨by rfl, ?_⟩) (by assumption) ?_
      rotate_left
      · intro w hSw
        have q0 := hc0 _ hSw; have q1 := hc1 _ hSw; have q2 := hc2 _ hSw; have q3 := hc3 _ hSw; have q4 := hc4 _ hSw; have q5 := hc5 _ hSw; have q6 := hc6 _ hSw; have q7 := hc7 _ hSw
        go_simp
        first | done | with_reducible rfl
      simp only [Act.put, List.setIfInBounds_toArray, List.set_cons_succ, List.set_cons_zero]
      refine take_at 39 (some 203) (v := ?_) rfl rfl (by kernel_rfl) (by kernel_rfl) (by kernel_rfl) (fun _ _ _ h => h) (Or.inl ⟨by rfl, ?_⟩) (by assumption) ?_
      rotate_left
      · intro w hSw
        have q0 := hc0 _ hSw; have q1 := hc1 _ hSw; have q2 := hc2 _ hSw; have q3 := hc3 _ hSw; have q4 := hc4 _ hSw; have q5 := hc5 _ hSw; have q6 := hc6 _ hSw; have q7 := hc7 _ hSw
        go_simp
        first | done | with_reducible rfl
      simp only [Act.put, List.setIfInBounds_toArray, List.set_cons_succ, List.set_cons_zero]
      refine take_at 40 (some 204) (v := ?_) rfl rfl (by kernel_rfl) (by kernel_rfl) (by kernel_rfl) (fun _ _ _ h => h) (Or.inl ⟨by rfl, ?_⟩) (by assumption) ?_
      rotate_left
      · intro w hSw
        have q0 := hc0 _ hSw; have q1 := hc1 _ hSw; have q2 := hc2 _ hSw; have q3 := hc3 _ hSw; have q4 := hc4 _ hSw; have q5 := hc5 _ hSw; have q6 := hc6 _ hSw; have q7 := hc7 _ hSw
        go_simp
        first | done | with_reducible rfl
      simp only [Act.put, List.setIfInBounds_toArray, List.set_cons_succ, List.set_cons_zero]
      refine take_at 41 (some 205) (v := ?_) rfl rfl (by kernel_rfl) (by kernel_rfl) (by kernel_rfl) (fun _ _ _ h => h) (Or.inl ⟨by rfl, ?_⟩) (by assumption) ?_
      rotate_left
      · intro w hSw
        have q0 := hc0 _ hSw; have q1 := hc1 _ hSw; have q2 := hc2 _ hSw; have q3 := hc3 _ hSw; have q4 := hc4 _ hSw; have q5 := hc5 _ hSw; have q6 := hc6 _ hSw; have q7 := hc7 _ hSw
        go_simp
        first | done | with_reducible rfl
      simp only [Act.put, List.setIfInBounds_toArray, List.set_cons_succ, List.set_cons_zero]
      have HBW : Hid (Below w.heap.size w (wr.drew.alloc (.cells #[.int .i64 (r0 : Int), .int .i64 (r1 : Int), .int .i64 (r2 : Int), .int .i64 (r3 : Int)] 61))) := Lib.hid (hSd.alloc hSd.size _)
      refine wpAnyH_ready (rs := [42]) (by kernel_rfl) (by simp) ?_
      refine AllReadyH.cons rfl (fun K hK => ?_) AllReadyH.nil
      go_simp
      refine hK.out _ _ HBW.out (fun hHeld => ?_)
      clear hK K
      refine wpAnyH_ready (rs := [43]) (by kernel_rfl) (by simp) ?_
      refine AllReadyH.cons rfl (fun K hK => ?_) AllReadyH.nil
      refine step_append_dot rfl (.tmp 164) (.tmp 206) rfl w.heap.size u15 DD ⟨r0, r1, r2, r3⟩ (by simp [Act.eval]) (OwnD.alloc (show OwnD wr.drew w.heap.size u15 DD from HO.out) _) ⟨wr.heap.size, 0, none⟩ 1 (by simp [Act.eval]) (dot_at wr.drew ⟨r0, r1, r2, r3⟩ _ _ rfl) hdl HBW.out.size ?_
      intro v2 w2 ho2 hb2 hg2
      clear hg2
      have hS2 := HBW.out.trans hb2
      refine hK.out _ _ hS2 (fun hHeld => ?_)
      clear hK K
      refine take_at 44 (some 15) (v := ?_) rfl rfl (by kernel_rfl) (by kernel_rfl) (by kernel_rfl) (fun _ _ _ h => h) (Or.inl ⟨by rfl, ?_⟩) (by assumption) ?_
      rotate_left
      · intro w hSw
        go_simp
        first | done | with_reducible rfl
      refine wpAnyH_done (by kernel_rfl) ?_ _
      rw [← NX.out] at ho2
      have HO2 := Lib.hid ho2
      have HB2 := Lib.hid hS2
      clear ho2 hb2 hS2 hSd hHeld
      go_wp2_with fail
      go_roundw
      case rel => exact ⟨x + 1, by omega, by go_num, HO2.out, HB2.out⟩
      case measure => simp [intOf]; omega
    · obtain rfl : W = x := by omega
      have HO := Lib.hid hown
      have HB := Lib.hid hbel
      clear hown hbel
      go_wp2_with fail
      go_roundw
      case rel => exact ⟨y + 1, by omega, by go_num, by rw [Nat.add_mul, Nat.one_mul]; exact HO.out, HB.out⟩
      case measure => simp [intOf]; omega
  · obtain rfl : H = y := by omega
    have HO := Lib.hid hown
    have HB := Lib.hid hbel
    clear hown hbel
    go_wp2_with fail
    go_ret2
    exact ⟨_, rfl, by rw [HFIN.out]; exact HO.out, HB.out⟩
end Go.Proofs.YtkiibhpmembcgaaGreatDoor
