/- A pixel is set in a picture: six kinds. Printed by gen/setpix.py. -/
import Derived.Test.YtkiibhpmembcgaaDoorGRead
import Derived.StillTailTactics
import Derived.Deep.QuietTactic
import Derived.BigQuiet
import Derived.Deep.DeepCutAuto
import Derived.Deep.CutBlock
import Derived.LoopTactic
import Derived.Outline
namespace Go.Proofs.YtkiibhpmembcgaaDoor
open Go.ChangeShapes Go.WideShapes Go.ChangeAt Go.RowKit Go.IntWalk

set_option maxRecDepth 100000 in
theorem ptIn_any (x y W H : Nat) (w : World) (hx : x < W) (hy : y < H) :
    Calls Tryd.prog 52 #[.agg #[.int .i64 (x : Int), .int .i64 (y : Int)], .agg #[.int .i64 0, .int .i64 0, .int .i64 (W : Int), .int .i64 (H : Int)]] w
      (fun e w' => e = .returned (.bool true) ∧ Chg (fun _ => False) w w') := by
  go_enter Tryd.func52, Tryd.ntmps52
  have a1 : (0 : Int) ≤ (x : Int) := by omega
  have a2 : (x : Int) < (W : Int) := by omega
  have a3 : (0 : Int) ≤ (y : Int) := by omega
  have a4 : (y : Int) < (H : Int) := by omega
  go_wp2_with fail
  exact bodyPost_ret (v := .bool true) (by simp [results, Tryd.results52, go_sem]) rfl ⟨rfl, ((Chg.refl _ _).alloc _).alloc _⟩
/-- The bytes B stand in l from o on. -/
def putAt (l : List UInt8) (o : Nat) : List UInt8 → List UInt8
  | [] => l
  | b :: B => putAt (l.set o b) (o + 1) B
theorem putAt_len : ∀ (B l : List UInt8) (o : Nat), (putAt l o B).length = l.length
  | [], _, _ => rfl
  | b :: B, l, o => by rw [putAt, putAt_len B]; simp
theorem Seg.put1 {w : World} {b o : Nat} {l : List UInt8} (h : Seg w b [] [] l) (ho : o < l.length) (x : UInt8) : Seg (w.setCell ⟨b, o, none⟩ (.int .u8 (x.toNat : Int))) b [] [] (l.set o x) := by
  have := h.store (o := 0) rfl ho x
  rwa [Nat.zero_add] at this
theorem u16_hi (h l : UInt8) : IntKind.u8.wrap (((h.toNat : Int) * 256 + (l.toNat : Int)) / 256) = (h.toNat : Int) := by
  have h1 := h.toNat_lt
  have h2 := l.toNat_lt
  rw [IntKind.wrap_u8']
  omega
theorem u16_lo (h l : UInt8) : IntKind.u8.wrap ((h.toNat : Int) * 256 + (l.toNat : Int)) = (l.toNat : Int) := by
  have h1 := h.toNat_lt
  have h2 := l.toNat_lt
  rw [IntKind.wrap_u8']
  omega
set_option maxRecDepth 100000 in
theorem pixOffset_NRGBA (g bx L cap S W H x y : Nat) (w : World) (hi : ImAt g bx L cap S W H w) (hx : x < W) (hy : y < H) (hw : W ≤ 1000) (hh : H ≤ 1000) (hS : S ≤ 10000) :
    Calls Tryd.prog 53 #[.pointer (some ⟨g, 0, none⟩), .int .i64 (x : Int), .int .i64 (y : Int)] w
      (fun e w' => e = .returned (.int .i64 ((y * S + 4 * x : Nat) : Int)) ∧ ∃ n, w' = w.drewN n) := by
  obtain ⟨hlt, c0, c1, c2, c3, c4, c5⟩ := hi
  go_enter Tryd.func53, Tryd.ntmps53
  have hm : y * S ≤ 1000 * 10000 := Nat.mul_le_mul (by omega) hS
  have hm : (y * S : Nat) = (y : Int) * (S : Int) := Int.natCast_mul y S
  have e3 : IntKind.i64.wrap ((y : Int) * (S : Int)) = (y : Int) * (S : Int) := i64_in _ ⟨by omega, by omega⟩
  have e4 : IntKind.i64.wrap ((y : Int) * (S : Int) + 4 * (x : Int)) = (y : Int) * (S : Int) + 4 * (x : Int) := i64_in _ ⟨by omega, by omega⟩
  go_upto_region 1 with fail
  go_quiet (fail)
  go_wp2_with fail
  have e : ((y * S + 4 * x : Nat) : Int) = (y : Int) * (S : Int) + 4 * (x : Int) := by omega
  go_ret
  exact ⟨ret_int (by rw [e]; try omega), _, rfl⟩
set_option maxRecDepth 100000 in
theorem set_NRGBA (g bx L cap S W H x y o : Nat) (rv gv bv av : UInt8) (l : List UInt8) (w : World) (hi : ImAt g bx L cap S W H w) (hseg : Seg w bx [] [] l) (hl : Hid (l.length = L)) (ho : Hid (o = y * S + 4 * x))
    (hx : x < W) (hy : y < H) (hw : W ≤ 1000) (hh : H ≤ 1000) (hS : S ≤ 10000) (hfit : o + 4 ≤ L) (hcap : L ≤ cap) (hc2 : cap ≤ 100000000) :
    Calls Tryd.prog 41 #[.pointer (some ⟨g, 0, none⟩), .int .i64 (x : Int), .int .i64 (y : Int), .agg #[(.int .u8 (rv.toNat : Int)), (.int .u8 (gv.toNat : Int)), (.int .u8 (bv.toNat : Int)), (.int .u8 (av.toNat : Int))]] w
      (fun e w' => e = .returned (.tuple #[]) ∧ Chg (· = bx) w w' ∧ Seg w' bx [] [] (putAt l o [rv, gv, bv, av])) := by
  obtain ⟨w1, hw1⟩ : ∃ w1, w1 = w.alloc (.cells #[(.int .u8 (rv.toNat : Int)), (.int .u8 (gv.toNat : Int)), (.int .u8 (bv.toNat : Int)), (.int .u8 (av.toNat : Int))] 79) := ⟨_, rfl⟩
  have hb1 : Chg (fun _ => False) w w1 := hw1 ▸ (Chg.refl _ _).alloc _
  have hseg1 := hseg.chg hb1 (fun h => h)
  have hi1 := hi.chg hb1 (fun h => h)
  go_enter Tryd.func41, Tryd.ntmps41
  go_upto_region 1 with fail
  rw [← hw1]
  have hrow : w1.heap[w.heap.size]? = some (.cells #[(.int .u8 (rv.toNat : Int)), (.int .u8 (gv.toNat : Int)), (.int .u8 (bv.toNat : Int)), (.int .u8 (av.toNat : Int))] 79 (0, 0)) := hw1 ▸ alloc_at w _
  have hNb : w.heap.size ≠ bx := Nat.ne_of_gt hseg.lt
  have hNl : w.heap.size < w1.heap.size := by rw [hw1, size_alloc]; omega
  obtain ⟨N, hN⟩ : ∃ N, N = w.heap.size := ⟨_, rfl⟩
  rw [← hN] at hrow hNb hNl ⊢
  have HB1 := Lib.hid hb1
  clear hw1 hb1 hN hi hseg
  have HI1 := Lib.hid hi1
  have HS1 := Lib.hid hseg1
  obtain ⟨hlt, c0, c1, c2, c3, c4, c5⟩ := hi1
  clear hseg1
  have HROW := Lib.hid hrow
  clear hrow
  go_upto_region 2 with (go_at_call 52; refine (ptIn_any x y W H _ hx hy).mono ?_; rintro e w2 ⟨rfl, hc⟩)
  clear c0 c1 c2 c3 c4 c5
  have hi2 := HI1.out.chg hc (fun h => h)
  have hs2 := HS1.out.chg hc (fun h => h)
  have hb2 := HB1.out.trans hc
  have HI2 := Lib.hid hi2
  obtain ⟨hlt2, c0, c1, c2, c3, c4, c5⟩ := hi2
  have hr2 := (hc.block N (by assumption) (fun h => h)).trans HROW.out
  have n0 : w2.cell? ⟨N, 0, none⟩ = some (.int .u8 (rv.toNat : Int)) := (cell_of_row w2 N 0 _ _ _ hr2).trans rfl
  have n1 : w2.cell? ⟨N, 1, none⟩ = some (.int .u8 (gv.toNat : Int)) := (cell_of_row w2 N 1 _ _ _ hr2).trans rfl
  have n2 : w2.cell? ⟨N, 2, none⟩ = some (.int .u8 (bv.toNat : Int)) := (cell_of_row w2 N 2 _ _ _ hr2).trans rfl
  have n3 : w2.cell? ⟨N, 3, none⟩ = some (.int .u8 (av.toNat : Int)) := (cell_of_row w2 N 3 _ _ _ hr2).trans rfl
  clear hr2
  have hL := hl.out
  have a2 : (0 : Int) ≤ (o : Int) := by omega
  have a5 : (o : Int) < (L : Int) := by omega
  have a6 : IntKind.i64.wrap (o : Int) = (o : Int) := i64_in _ ⟨by omega, by omega⟩
  have a1 : IntKind.i64.wrap ((o : Int) + 4) = ((o + 4 : Nat) : Int) := by rw [i64_in _ ⟨by omega, by omega⟩]; omega
  have a3 : (o : Int) ≤ ((o + 4 : Nat) : Int) := by omega
  have a4 : ((o + 4 : Nat) : Int) ≤ (cap : Int) := by omega
  have f0 := hs2.frozen (o)
  have k0 := hs2.cellAt (o := 0) rfl (j := o) (by omega)
  have f1 := hs2.frozen (o + 1)
  have k1 := hs2.cellAt (o := 0) rfl (j := o + 1) (by omega)
  have f2 := hs2.frozen (o + 2)
  have k2 := hs2.cellAt (o := 0) rfl (j := o + 2) (by omega)
  have f3 := hs2.frozen (o + 3)
  have k3 := hs2.cellAt (o := 0) rfl (j := o + 3) (by omega)
  simp only [Nat.zero_add] at k0 k1 k2 k3
  have lbc := hs2.lt
  have HS2 := Lib.hid hs2
  clear hs2
  go_upto_region 4 with (go_at_call 53; refine (pixOffset_NRGBA g bx L cap S W H x y _ HI2.out hx hy hw hh hS).mono ?_; rintro e w3 ⟨rfl, m, rfl⟩; rw [← ho.out])
  rw [show o + 4 - o = 4 by omega]
  go_wp2_with fail
  refine ⟨rfl, .tuple #[], by simp [results, Tryd.results41, go_sem], rfl, ?_, ?_⟩
  · exact (((((hb2.mono (q := (· = bx)) (fun _ h => h.elim)).drewN m).setCell bx (fun _ => rfl) _ _).setCell bx (fun _ => rfl) _ _).setCell bx (fun _ => rfl) _ _).setCell bx (fun _ => rfl) _ _
  · have q0 := (HS2.out.drewN m).put1 (o := o) (by omega) rv
    have q1 := q0.put1 (o := o + 1) (by simp; omega) gv
    have q2 := q1.put1 (o := o + 2) (by simp; omega) bv
    have q3 := q2.put1 (o := o + 3) (by simp; omega) av
    exact q3
set_option maxRecDepth 100000 in
theorem pixOffset_NRGBA64 (g bx L cap S W H x y : Nat) (w : World) (hi : ImAt g bx L cap S W H w) (hx : x < W) (hy : y < H) (hw : W ≤ 1000) (hh : H ≤ 1000) (hS : S ≤ 10000) :
    Calls Tryd.prog 56 #[.pointer (some ⟨g, 0, none⟩), .int .i64 (x : Int), .int .i64 (y : Int)] w
      (fun e w' => e = .returned (.int .i64 ((y * S + 8 * x : Nat) : Int)) ∧ ∃ n, w' = w.drewN n) := by
  obtain ⟨hlt, c0, c1, c2, c3, c4, c5⟩ := hi
  go_enter Tryd.func56, Tryd.ntmps56
  have hm : y * S ≤ 1000 * 10000 := Nat.mul_le_mul (by omega) hS
  have hm : (y * S : Nat) = (y : Int) * (S : Int) := Int.natCast_mul y S
  have e3 : IntKind.i64.wrap ((y : Int) * (S : Int)) = (y : Int) * (S : Int) := i64_in _ ⟨by omega, by omega⟩
  have e4 : IntKind.i64.wrap ((y : Int) * (S : Int) + 8 * (x : Int)) = (y : Int) * (S : Int) + 8 * (x : Int) := i64_in _ ⟨by omega, by omega⟩
  go_upto_region 1 with fail
  go_quiet (fail)
  go_wp2_with fail
  have e : ((y * S + 8 * x : Nat) : Int) = (y : Int) * (S : Int) + 8 * (x : Int) := by omega
  go_ret
  exact ⟨ret_int (by rw [e]; try omega), _, rfl⟩
set_option maxRecDepth 100000 in
theorem set_NRGBA64 (g bx L cap S W H x y o : Nat) (rv0 rv1 gv0 gv1 bv0 bv1 av0 av1 : UInt8) (l : List UInt8) (w : World) (hi : ImAt g bx L cap S W H w) (hseg : Seg w bx [] [] l) (hl : Hid (l.length = L)) (ho : Hid (o = y * S + 8 * x))
    (hx : x < W) (hy : y < H) (hw : W ≤ 1000) (hh : H ≤ 1000) (hS : S ≤ 10000) (hfit : o + 8 ≤ L) (hcap : L ≤ cap) (hc2 : cap ≤ 100000000) :
    Calls Tryd.prog 44 #[.pointer (some ⟨g, 0, none⟩), .int .i64 (x : Int), .int .i64 (y : Int), .agg #[(.int .u16 ((rv0.toNat : Int) * 256 + (rv1.toNat : Int))), (.int .u16 ((gv0.toNat : Int) * 256 + (gv1.toNat : Int))), (.int .u16 ((bv0.toNat : Int) * 256 + (bv1.toNat : Int))), (.int .u16 ((av0.toNat : Int) * 256 + (av1.toNat : Int)))]] w
      (fun e w' => e = .returned (.tuple #[]) ∧ Chg (· = bx) w w' ∧ Seg w' bx [] [] (putAt l o [rv0, rv1, gv0, gv1, bv0, bv1, av0, av1])) := by
  obtain ⟨w1, hw1⟩ : ∃ w1, w1 = w.alloc (.cells #[(.int .u16 ((rv0.toNat : Int) * 256 + (rv1.toNat : Int))), (.int .u16 ((gv0.toNat : Int) * 256 + (gv1.toNat : Int))), (.int .u16 ((bv0.toNat : Int) * 256 + (bv1.toNat : Int))), (.int .u16 ((av0.toNat : Int) * 256 + (av1.toNat : Int)))] 128) := ⟨_, rfl⟩
  have hb1 : Chg (fun _ => False) w w1 := hw1 ▸ (Chg.refl _ _).alloc _
  have hseg1 := hseg.chg hb1 (fun h => h)
  have hi1 := hi.chg hb1 (fun h => h)
  go_enter Tryd.func44, Tryd.ntmps44
  go_upto_region 1 with fail
  rw [← hw1]
  have hrow : w1.heap[w.heap.size]? = some (.cells #[(.int .u16 ((rv0.toNat : Int) * 256 + (rv1.toNat : Int))), (.int .u16 ((gv0.toNat : Int) * 256 + (gv1.toNat : Int))), (.int .u16 ((bv0.toNat : Int) * 256 + (bv1.toNat : Int))), (.int .u16 ((av0.toNat : Int) * 256 + (av1.toNat : Int)))] 128 (0, 0)) := hw1 ▸ alloc_at w _
  have hNb : w.heap.size ≠ bx := Nat.ne_of_gt hseg.lt
  have hNl : w.heap.size < w1.heap.size := by rw [hw1, size_alloc]; omega
  obtain ⟨N, hN⟩ : ∃ N, N = w.heap.size := ⟨_, rfl⟩
  rw [← hN] at hrow hNb hNl ⊢
  have HB1 := Lib.hid hb1
  clear hw1 hb1 hN hi hseg
  have HI1 := Lib.hid hi1
  have HS1 := Lib.hid hseg1
  obtain ⟨hlt, c0, c1, c2, c3, c4, c5⟩ := hi1
  clear hseg1
  have HROW := Lib.hid hrow
  clear hrow
  go_upto_region 2 with (go_at_call 52; refine (ptIn_any x y W H _ hx hy).mono ?_; rintro e w2 ⟨rfl, hc⟩)
  clear c0 c1 c2 c3 c4 c5
  have hi2 := HI1.out.chg hc (fun h => h)
  have hs2 := HS1.out.chg hc (fun h => h)
  have hb2 := HB1.out.trans hc
  have HI2 := Lib.hid hi2
  obtain ⟨hlt2, c0, c1, c2, c3, c4, c5⟩ := hi2
  have hr2 := (hc.block N (by assumption) (fun h => h)).trans HROW.out
  have n0 : w2.cell? ⟨N, 0, none⟩ = some (.int .u16 ((rv0.toNat : Int) * 256 + (rv1.toNat : Int))) := (cell_of_row w2 N 0 _ _ _ hr2).trans rfl
  have n1 : w2.cell? ⟨N, 1, none⟩ = some (.int .u16 ((gv0.toNat : Int) * 256 + (gv1.toNat : Int))) := (cell_of_row w2 N 1 _ _ _ hr2).trans rfl
  have n2 : w2.cell? ⟨N, 2, none⟩ = some (.int .u16 ((bv0.toNat : Int) * 256 + (bv1.toNat : Int))) := (cell_of_row w2 N 2 _ _ _ hr2).trans rfl
  have n3 : w2.cell? ⟨N, 3, none⟩ = some (.int .u16 ((av0.toNat : Int) * 256 + (av1.toNat : Int))) := (cell_of_row w2 N 3 _ _ _ hr2).trans rfl
  clear hr2
  have hL := hl.out
  have rhi := u16_hi rv0 rv1
  have rlo := u16_lo rv0 rv1
  have ghi := u16_hi gv0 gv1
  have glo := u16_lo gv0 gv1
  have bhi := u16_hi bv0 bv1
  have blo := u16_lo bv0 bv1
  have ahi := u16_hi av0 av1
  have alo := u16_lo av0 av1
  have a2 : (0 : Int) ≤ (o : Int) := by omega
  have a5 : (o : Int) < (L : Int) := by omega
  have a6 : IntKind.i64.wrap (o : Int) = (o : Int) := i64_in _ ⟨by omega, by omega⟩
  have a1 : IntKind.i64.wrap ((o : Int) + 8) = ((o + 8 : Nat) : Int) := by rw [i64_in _ ⟨by omega, by omega⟩]; omega
  have a3 : (o : Int) ≤ ((o + 8 : Nat) : Int) := by omega
  have a4 : ((o + 8 : Nat) : Int) ≤ (cap : Int) := by omega
  have f0 := hs2.frozen (o)
  have k0 := hs2.cellAt (o := 0) rfl (j := o) (by omega)
  have f1 := hs2.frozen (o + 1)
  have k1 := hs2.cellAt (o := 0) rfl (j := o + 1) (by omega)
  have f2 := hs2.frozen (o + 2)
  have k2 := hs2.cellAt (o := 0) rfl (j := o + 2) (by omega)
  have f3 := hs2.frozen (o + 3)
  have k3 := hs2.cellAt (o := 0) rfl (j := o + 3) (by omega)
  have f4 := hs2.frozen (o + 4)
  have k4 := hs2.cellAt (o := 0) rfl (j := o + 4) (by omega)
  have f5 := hs2.frozen (o + 5)
  have k5 := hs2.cellAt (o := 0) rfl (j := o + 5) (by omega)
  have f6 := hs2.frozen (o + 6)
  have k6 := hs2.cellAt (o := 0) rfl (j := o + 6) (by omega)
  have f7 := hs2.frozen (o + 7)
  have k7 := hs2.cellAt (o := 0) rfl (j := o + 7) (by omega)
  simp only [Nat.zero_add] at k0 k1 k2 k3 k4 k5 k6 k7
  have lbc := hs2.lt
  have HS2 := Lib.hid hs2
  clear hs2
  go_upto_region 4 with (go_at_call 56; refine (pixOffset_NRGBA64 g bx L cap S W H x y _ HI2.out hx hy hw hh hS).mono ?_; rintro e w3 ⟨rfl, m, rfl⟩; rw [← ho.out])
  rw [show o + 8 - o = 8 by omega]
  go_wp2_with fail
  refine ⟨rfl, .tuple #[], by simp [results, Tryd.results44, go_sem], rfl, ?_, ?_⟩
  · exact (((((((((hb2.mono (q := (· = bx)) (fun _ h => h.elim)).drewN m).setCell bx (fun _ => rfl) _ _).setCell bx (fun _ => rfl) _ _).setCell bx (fun _ => rfl) _ _).setCell bx (fun _ => rfl) _ _).setCell bx (fun _ => rfl) _ _).setCell bx (fun _ => rfl) _ _).setCell bx (fun _ => rfl) _ _).setCell bx (fun _ => rfl) _ _
  · have q0 := (HS2.out.drewN m).put1 (o := o) (by omega) rv0
    have q1 := q0.put1 (o := o + 1) (by simp; omega) rv1
    have q2 := q1.put1 (o := o + 2) (by simp; omega) gv0
    have q3 := q2.put1 (o := o + 3) (by simp; omega) gv1
    have q4 := q3.put1 (o := o + 4) (by simp; omega) bv0
    have q5 := q4.put1 (o := o + 5) (by simp; omega) bv1
    have q6 := q5.put1 (o := o + 6) (by simp; omega) av0
    have q7 := q6.put1 (o := o + 7) (by simp; omega) av1
    exact q7
set_option maxRecDepth 100000 in
theorem pixOffset_RGBA64 (g bx L cap S W H x y : Nat) (w : World) (hi : ImAt g bx L cap S W H w) (hx : x < W) (hy : y < H) (hw : W ≤ 1000) (hh : H ≤ 1000) (hS : S ≤ 10000) :
    Calls Tryd.prog 58 #[.pointer (some ⟨g, 0, none⟩), .int .i64 (x : Int), .int .i64 (y : Int)] w
      (fun e w' => e = .returned (.int .i64 ((y * S + 8 * x : Nat) : Int)) ∧ ∃ n, w' = w.drewN n) := by
  obtain ⟨hlt, c0, c1, c2, c3, c4, c5⟩ := hi
  go_enter Tryd.func58, Tryd.ntmps58
  have hm : y * S ≤ 1000 * 10000 := Nat.mul_le_mul (by omega) hS
  have hm : (y * S : Nat) = (y : Int) * (S : Int) := Int.natCast_mul y S
  have e3 : IntKind.i64.wrap ((y : Int) * (S : Int)) = (y : Int) * (S : Int) := i64_in _ ⟨by omega, by omega⟩
  have e4 : IntKind.i64.wrap ((y : Int) * (S : Int) + 8 * (x : Int)) = (y : Int) * (S : Int) + 8 * (x : Int) := i64_in _ ⟨by omega, by omega⟩
  go_upto_region 1 with fail
  go_quiet (fail)
  go_wp2_with fail
  have e : ((y * S + 8 * x : Nat) : Int) = (y : Int) * (S : Int) + 8 * (x : Int) := by omega
  go_ret
  exact ⟨ret_int (by rw [e]; try omega), _, rfl⟩
set_option maxRecDepth 100000 in
theorem set_RGBA64 (g bx L cap S W H x y o : Nat) (rv0 rv1 gv0 gv1 bv0 bv1 av0 av1 : UInt8) (l : List UInt8) (w : World) (hi : ImAt g bx L cap S W H w) (hseg : Seg w bx [] [] l) (hl : Hid (l.length = L)) (ho : Hid (o = y * S + 8 * x))
    (hx : x < W) (hy : y < H) (hw : W ≤ 1000) (hh : H ≤ 1000) (hS : S ≤ 10000) (hfit : o + 8 ≤ L) (hcap : L ≤ cap) (hc2 : cap ≤ 100000000) :
    Calls Tryd.prog 46 #[.pointer (some ⟨g, 0, none⟩), .int .i64 (x : Int), .int .i64 (y : Int), .agg #[(.int .u16 ((rv0.toNat : Int) * 256 + (rv1.toNat : Int))), (.int .u16 ((gv0.toNat : Int) * 256 + (gv1.toNat : Int))), (.int .u16 ((bv0.toNat : Int) * 256 + (bv1.toNat : Int))), (.int .u16 ((av0.toNat : Int) * 256 + (av1.toNat : Int)))]] w
      (fun e w' => e = .returned (.tuple #[]) ∧ Chg (· = bx) w w' ∧ Seg w' bx [] [] (putAt l o [rv0, rv1, gv0, gv1, bv0, bv1, av0, av1])) := by
  obtain ⟨w1, hw1⟩ : ∃ w1, w1 = w.alloc (.cells #[(.int .u16 ((rv0.toNat : Int) * 256 + (rv1.toNat : Int))), (.int .u16 ((gv0.toNat : Int) * 256 + (gv1.toNat : Int))), (.int .u16 ((bv0.toNat : Int) * 256 + (bv1.toNat : Int))), (.int .u16 ((av0.toNat : Int) * 256 + (av1.toNat : Int)))] 133) := ⟨_, rfl⟩
  have hb1 : Chg (fun _ => False) w w1 := hw1 ▸ (Chg.refl _ _).alloc _
  have hseg1 := hseg.chg hb1 (fun h => h)
  have hi1 := hi.chg hb1 (fun h => h)
  go_enter Tryd.func46, Tryd.ntmps46
  go_upto_region 1 with fail
  rw [← hw1]
  have hrow : w1.heap[w.heap.size]? = some (.cells #[(.int .u16 ((rv0.toNat : Int) * 256 + (rv1.toNat : Int))), (.int .u16 ((gv0.toNat : Int) * 256 + (gv1.toNat : Int))), (.int .u16 ((bv0.toNat : Int) * 256 + (bv1.toNat : Int))), (.int .u16 ((av0.toNat : Int) * 256 + (av1.toNat : Int)))] 133 (0, 0)) := hw1 ▸ alloc_at w _
  have hNb : w.heap.size ≠ bx := Nat.ne_of_gt hseg.lt
  have hNl : w.heap.size < w1.heap.size := by rw [hw1, size_alloc]; omega
  obtain ⟨N, hN⟩ : ∃ N, N = w.heap.size := ⟨_, rfl⟩
  rw [← hN] at hrow hNb hNl ⊢
  have HB1 := Lib.hid hb1
  clear hw1 hb1 hN hi hseg
  have HI1 := Lib.hid hi1
  have HS1 := Lib.hid hseg1
  obtain ⟨hlt, c0, c1, c2, c3, c4, c5⟩ := hi1
  clear hseg1
  have HROW := Lib.hid hrow
  clear hrow
  go_upto_region 2 with (go_at_call 52; refine (ptIn_any x y W H _ hx hy).mono ?_; rintro e w2 ⟨rfl, hc⟩)
  clear c0 c1 c2 c3 c4 c5
  have hi2 := HI1.out.chg hc (fun h => h)
  have hs2 := HS1.out.chg hc (fun h => h)
  have hb2 := HB1.out.trans hc
  have HI2 := Lib.hid hi2
  obtain ⟨hlt2, c0, c1, c2, c3, c4, c5⟩ := hi2
  have hr2 := (hc.block N (by assumption) (fun h => h)).trans HROW.out
  have n0 : w2.cell? ⟨N, 0, none⟩ = some (.int .u16 ((rv0.toNat : Int) * 256 + (rv1.toNat : Int))) := (cell_of_row w2 N 0 _ _ _ hr2).trans rfl
  have n1 : w2.cell? ⟨N, 1, none⟩ = some (.int .u16 ((gv0.toNat : Int) * 256 + (gv1.toNat : Int))) := (cell_of_row w2 N 1 _ _ _ hr2).trans rfl
  have n2 : w2.cell? ⟨N, 2, none⟩ = some (.int .u16 ((bv0.toNat : Int) * 256 + (bv1.toNat : Int))) := (cell_of_row w2 N 2 _ _ _ hr2).trans rfl
  have n3 : w2.cell? ⟨N, 3, none⟩ = some (.int .u16 ((av0.toNat : Int) * 256 + (av1.toNat : Int))) := (cell_of_row w2 N 3 _ _ _ hr2).trans rfl
  clear hr2
  have hL := hl.out
  have rhi := u16_hi rv0 rv1
  have rlo := u16_lo rv0 rv1
  have ghi := u16_hi gv0 gv1
  have glo := u16_lo gv0 gv1
  have bhi := u16_hi bv0 bv1
  have blo := u16_lo bv0 bv1
  have ahi := u16_hi av0 av1
  have alo := u16_lo av0 av1
  have a2 : (0 : Int) ≤ (o : Int) := by omega
  have a5 : (o : Int) < (L : Int) := by omega
  have a6 : IntKind.i64.wrap (o : Int) = (o : Int) := i64_in _ ⟨by omega, by omega⟩
  have a1 : IntKind.i64.wrap ((o : Int) + 8) = ((o + 8 : Nat) : Int) := by rw [i64_in _ ⟨by omega, by omega⟩]; omega
  have a3 : (o : Int) ≤ ((o + 8 : Nat) : Int) := by omega
  have a4 : ((o + 8 : Nat) : Int) ≤ (cap : Int) := by omega
  have f0 := hs2.frozen (o)
  have k0 := hs2.cellAt (o := 0) rfl (j := o) (by omega)
  have f1 := hs2.frozen (o + 1)
  have k1 := hs2.cellAt (o := 0) rfl (j := o + 1) (by omega)
  have f2 := hs2.frozen (o + 2)
  have k2 := hs2.cellAt (o := 0) rfl (j := o + 2) (by omega)
  have f3 := hs2.frozen (o + 3)
  have k3 := hs2.cellAt (o := 0) rfl (j := o + 3) (by omega)
  have f4 := hs2.frozen (o + 4)
  have k4 := hs2.cellAt (o := 0) rfl (j := o + 4) (by omega)
  have f5 := hs2.frozen (o + 5)
  have k5 := hs2.cellAt (o := 0) rfl (j := o + 5) (by omega)
  have f6 := hs2.frozen (o + 6)
  have k6 := hs2.cellAt (o := 0) rfl (j := o + 6) (by omega)
  have f7 := hs2.frozen (o + 7)
  have k7 := hs2.cellAt (o := 0) rfl (j := o + 7) (by omega)
  simp only [Nat.zero_add] at k0 k1 k2 k3 k4 k5 k6 k7
  have lbc := hs2.lt
  have HS2 := Lib.hid hs2
  clear hs2
  go_upto_region 4 with (go_at_call 58; refine (pixOffset_RGBA64 g bx L cap S W H x y _ HI2.out hx hy hw hh hS).mono ?_; rintro e w3 ⟨rfl, m, rfl⟩; rw [← ho.out])
  rw [show o + 8 - o = 8 by omega]
  go_wp2_with fail
  refine ⟨rfl, .tuple #[], by simp [results, Tryd.results46, go_sem], rfl, ?_, ?_⟩
  · exact (((((((((hb2.mono (q := (· = bx)) (fun _ h => h.elim)).drewN m).setCell bx (fun _ => rfl) _ _).setCell bx (fun _ => rfl) _ _).setCell bx (fun _ => rfl) _ _).setCell bx (fun _ => rfl) _ _).setCell bx (fun _ => rfl) _ _).setCell bx (fun _ => rfl) _ _).setCell bx (fun _ => rfl) _ _).setCell bx (fun _ => rfl) _ _
  · have q0 := (HS2.out.drewN m).put1 (o := o) (by omega) rv0
    have q1 := q0.put1 (o := o + 1) (by simp; omega) rv1
    have q2 := q1.put1 (o := o + 2) (by simp; omega) gv0
    have q3 := q2.put1 (o := o + 3) (by simp; omega) gv1
    have q4 := q3.put1 (o := o + 4) (by simp; omega) bv0
    have q5 := q4.put1 (o := o + 5) (by simp; omega) bv1
    have q6 := q5.put1 (o := o + 6) (by simp; omega) av0
    have q7 := q6.put1 (o := o + 7) (by simp; omega) av1
    exact q7
set_option maxRecDepth 100000 in
theorem pixOffset_Gray (g bx L cap S W H x y : Nat) (w : World) (hi : ImAt g bx L cap S W H w) (hx : x < W) (hy : y < H) (hw : W ≤ 1000) (hh : H ≤ 1000) (hS : S ≤ 10000) :
    Calls Tryd.prog 54 #[.pointer (some ⟨g, 0, none⟩), .int .i64 (x : Int), .int .i64 (y : Int)] w
      (fun e w' => e = .returned (.int .i64 ((y * S + 1 * x : Nat) : Int)) ∧ ∃ n, w' = w.drewN n) := by
  obtain ⟨hlt, c0, c1, c2, c3, c4, c5⟩ := hi
  go_enter Tryd.func54, Tryd.ntmps54
  have hm : y * S ≤ 1000 * 10000 := Nat.mul_le_mul (by omega) hS
  have hm : (y * S : Nat) = (y : Int) * (S : Int) := Int.natCast_mul y S
  have e3 : IntKind.i64.wrap ((y : Int) * (S : Int)) = (y : Int) * (S : Int) := i64_in _ ⟨by omega, by omega⟩
  have e4 : IntKind.i64.wrap ((y : Int) * (S : Int) + (x : Int)) = (y : Int) * (S : Int) + (x : Int) := i64_in _ ⟨by omega, by omega⟩
  go_upto_region 1 with fail
  go_quiet (fail)
  go_wp2_with fail
  have e : ((y * S + 1 * x : Nat) : Int) = (y : Int) * (S : Int) + (x : Int) := by omega
  go_ret
  exact ⟨ret_int (by rw [e]; try omega), _, rfl⟩
set_option maxRecDepth 100000 in
theorem set_Gray (g bx L cap S W H x y o : Nat) (rv : UInt8) (l : List UInt8) (w : World) (hi : ImAt g bx L cap S W H w) (hseg : Seg w bx [] [] l) (hl : Hid (l.length = L)) (ho : Hid (o = y * S + 1 * x))
    (hx : x < W) (hy : y < H) (hw : W ≤ 1000) (hh : H ≤ 1000) (hS : S ≤ 10000) (hfit : o + 1 ≤ L) (hcap : L ≤ cap) (hc2 : cap ≤ 100000000) :
    Calls Tryd.prog 42 #[.pointer (some ⟨g, 0, none⟩), .int .i64 (x : Int), .int .i64 (y : Int), .agg #[(.int .u8 (rv.toNat : Int))]] w
      (fun e w' => e = .returned (.tuple #[]) ∧ Chg (· = bx) w w' ∧ Seg w' bx [] [] (putAt l o [rv])) := by
  obtain ⟨w1, hw1⟩ : ∃ w1, w1 = w.alloc (.cells #[(.int .u8 (rv.toNat : Int))] 123) := ⟨_, rfl⟩
  have hb1 : Chg (fun _ => False) w w1 := hw1 ▸ (Chg.refl _ _).alloc _
  have hseg1 := hseg.chg hb1 (fun h => h)
  have hi1 := hi.chg hb1 (fun h => h)
  go_enter Tryd.func42, Tryd.ntmps42
  go_upto_region 1 with fail
  rw [← hw1]
  have hrow : w1.heap[w.heap.size]? = some (.cells #[(.int .u8 (rv.toNat : Int))] 123 (0, 0)) := hw1 ▸ alloc_at w _
  have hNb : w.heap.size ≠ bx := Nat.ne_of_gt hseg.lt
  have hNl : w.heap.size < w1.heap.size := by rw [hw1, size_alloc]; omega
  obtain ⟨N, hN⟩ : ∃ N, N = w.heap.size := ⟨_, rfl⟩
  rw [← hN] at hrow hNb hNl ⊢
  have HB1 := Lib.hid hb1
  clear hw1 hb1 hN hi hseg
  have HI1 := Lib.hid hi1
  have HS1 := Lib.hid hseg1
  obtain ⟨hlt, c0, c1, c2, c3, c4, c5⟩ := hi1
  clear hseg1
  have HROW := Lib.hid hrow
  clear hrow
  go_upto_region 2 with (go_at_call 52; refine (ptIn_any x y W H _ hx hy).mono ?_; rintro e w2 ⟨rfl, hc⟩)
  clear c0 c1 c2 c3 c4 c5
  have hi2 := HI1.out.chg hc (fun h => h)
  have hs2 := HS1.out.chg hc (fun h => h)
  have hb2 := HB1.out.trans hc
  have HI2 := Lib.hid hi2
  obtain ⟨hlt2, c0, c1, c2, c3, c4, c5⟩ := hi2
  have hr2 := (hc.block N (by assumption) (fun h => h)).trans HROW.out
  have n0 : w2.cell? ⟨N, 0, none⟩ = some (.int .u8 (rv.toNat : Int)) := (cell_of_row w2 N 0 _ _ _ hr2).trans rfl
  clear hr2
  have hL := hl.out
  have a2 : (0 : Int) ≤ (o : Int) := by omega
  have a5 : (o : Int) < (L : Int) := by omega
  have a6 : IntKind.i64.wrap (o : Int) = (o : Int) := i64_in _ ⟨by omega, by omega⟩
  have f0 := hs2.frozen (o)
  have k0 := hs2.cellAt (o := 0) rfl (j := o) (by omega)
  simp only [Nat.zero_add] at k0
  have lbc := hs2.lt
  have HS2 := Lib.hid hs2
  clear hs2
  go_upto_region 3 with (go_at_call 54; refine (pixOffset_Gray g bx L cap S W H x y _ HI2.out hx hy hw hh hS).mono ?_; rintro e w3 ⟨rfl, m, rfl⟩; rw [← ho.out])
  refine region_still_tail 8 (by kernel_rfl) (by kernel_rfl) (fun wd hwd => ?_)
  simp only [List.take_succ_cons, List.take_zero, List.drop_succ_cons, List.drop_zero]
  have c0' := cell_drew (w := w2.drewN m) hwd c0
  have n0' := cell_drew (w := w2.drewN m) hwd n0
  have f0' := froz_drew (w := w2.drewN m) hwd f0
  have k0' := cell_drew (w := w2.drewN m) hwd k0
  have lbc' := lt_drew (w := w2.drewN m) hwd lbc
  have HWD := Lib.hid hwd
  clear hwd c0 n0 f0 k0 lbc
  refine still_at (some 22) (v := ?_) rfl rfl ?_ ?_
  rotate_left
  · refine ⟨?_⟩
    go_simp
    first | done | with_reducible rfl
  refine still_at (some 23) (v := ?_) rfl rfl ?_ ?_
  rotate_left
  · refine ⟨?_⟩
    go_simp
    first | done | with_reducible rfl
  refine still_at (some 24) (v := ?_) rfl rfl ?_ ?_
  rotate_left
  · refine ⟨?_⟩
    go_simp
    first | done | with_reducible rfl
  refine still_at (some 25) (v := ?_) rfl rfl ?_ ?_
  rotate_left
  · refine ⟨?_⟩
    go_simp
    first | done | with_reducible rfl
  refine still_at (some 26) (v := ?_) rfl rfl ?_ ?_
  rotate_left
  · refine ⟨?_⟩
    go_simp
    first | done | with_reducible rfl
  refine still_at (some 27) (v := ?_) rfl rfl ?_ ?_
  rotate_left
  · refine ⟨?_⟩
    go_simp
    first | done | with_reducible rfl
  refine still_at (some 28) (v := ?_) rfl rfl ?_ ?_
  rotate_left
  · refine ⟨?_⟩
    go_simp
    first | done | with_reducible rfl
  refine still_at (some 29) (v := ?_) rfl rfl ?_ ?_
  rotate_left
  · refine ⟨?_⟩
    go_simp
    first | done | with_reducible rfl
  refine still_nil ?_
  refine list_skip (w' := ?_) rfl rfl ?_ ?_
  rotate_left
  · refine ⟨?_⟩
    go_simp
    first | done | with_reducible rfl
  refine list_nil ?_
  simp only [Act.put, List.setIfInBounds_toArray, List.set_cons_succ, List.set_cons_zero]
  go_wp2_with fail
  rw [HWD.out]
  refine ⟨rfl, .tuple #[], by simp [results, Tryd.results42, go_sem], rfl, ?_, ?_⟩
  · exact ((hb2.mono (q := (· = bx)) (fun _ h => h.elim)).drewN m).drew.setCell bx (fun _ => rfl) _ _
  · have q0 := Seg.put1 (w := (w2.drewN m).drew) HS2.out (o := o) (by omega) rv
    exact q0
set_option maxRecDepth 100000 in
theorem pixOffset_Gray16 (g bx L cap S W H x y : Nat) (w : World) (hi : ImAt g bx L cap S W H w) (hx : x < W) (hy : y < H) (hw : W ≤ 1000) (hh : H ≤ 1000) (hS : S ≤ 10000) :
    Calls Tryd.prog 57 #[.pointer (some ⟨g, 0, none⟩), .int .i64 (x : Int), .int .i64 (y : Int)] w
      (fun e w' => e = .returned (.int .i64 ((y * S + 2 * x : Nat) : Int)) ∧ ∃ n, w' = w.drewN n) := by
  obtain ⟨hlt, c0, c1, c2, c3, c4, c5⟩ := hi
  go_enter Tryd.func57, Tryd.ntmps57
  have hm : y * S ≤ 1000 * 10000 := Nat.mul_le_mul (by omega) hS
  have hm : (y * S : Nat) = (y : Int) * (S : Int) := Int.natCast_mul y S
  have e3 : IntKind.i64.wrap ((y : Int) * (S : Int)) = (y : Int) * (S : Int) := i64_in _ ⟨by omega, by omega⟩
  have e4 : IntKind.i64.wrap ((y : Int) * (S : Int) + 2 * (x : Int)) = (y : Int) * (S : Int) + 2 * (x : Int) := i64_in _ ⟨by omega, by omega⟩
  go_upto_region 1 with fail
  go_quiet (fail)
  go_wp2_with fail
  have e : ((y * S + 2 * x : Nat) : Int) = (y : Int) * (S : Int) + 2 * (x : Int) := by omega
  go_ret
  exact ⟨ret_int (by rw [e]; try omega), _, rfl⟩
set_option maxRecDepth 100000 in
theorem set_Gray16 (g bx L cap S W H x y o : Nat) (rv0 rv1 : UInt8) (l : List UInt8) (w : World) (hi : ImAt g bx L cap S W H w) (hseg : Seg w bx [] [] l) (hl : Hid (l.length = L)) (ho : Hid (o = y * S + 2 * x))
    (hx : x < W) (hy : y < H) (hw : W ≤ 1000) (hh : H ≤ 1000) (hS : S ≤ 10000) (hfit : o + 2 ≤ L) (hcap : L ≤ cap) (hc2 : cap ≤ 100000000) (hgb : g ≠ bx) :
    Calls Tryd.prog 45 #[.pointer (some ⟨g, 0, none⟩), .int .i64 (x : Int), .int .i64 (y : Int), .agg #[(.int .u16 ((rv0.toNat : Int) * 256 + (rv1.toNat : Int)))]] w
      (fun e w' => e = .returned (.tuple #[]) ∧ Chg (· = bx) w w' ∧ Seg w' bx [] [] (putAt l o [rv0, rv1])) := by
  obtain ⟨w1, hw1⟩ : ∃ w1, w1 = w.alloc (.cells #[(.int .u16 ((rv0.toNat : Int) * 256 + (rv1.toNat : Int)))] 131) := ⟨_, rfl⟩
  have hb1 : Chg (fun _ => False) w w1 := hw1 ▸ (Chg.refl _ _).alloc _
  have hseg1 := hseg.chg hb1 (fun h => h)
  have hi1 := hi.chg hb1 (fun h => h)
  go_enter Tryd.func45, Tryd.ntmps45
  go_upto_region 1 with fail
  rw [← hw1]
  have hrow : w1.heap[w.heap.size]? = some (.cells #[(.int .u16 ((rv0.toNat : Int) * 256 + (rv1.toNat : Int)))] 131 (0, 0)) := hw1 ▸ alloc_at w _
  have hNb : w.heap.size ≠ bx := Nat.ne_of_gt hseg.lt
  have hNl : w.heap.size < w1.heap.size := by rw [hw1, size_alloc]; omega
  obtain ⟨N, hN⟩ : ∃ N, N = w.heap.size := ⟨_, rfl⟩
  rw [← hN] at hrow hNb hNl ⊢
  have HB1 := Lib.hid hb1
  clear hw1 hb1 hN hi hseg
  have HI1 := Lib.hid hi1
  have HS1 := Lib.hid hseg1
  obtain ⟨hlt, c0, c1, c2, c3, c4, c5⟩ := hi1
  clear hseg1
  have HROW := Lib.hid hrow
  clear hrow
  go_upto_region 2 with (go_at_call 52; refine (ptIn_any x y W H _ hx hy).mono ?_; rintro e w2 ⟨rfl, hc⟩)
  clear c0 c1 c2 c3 c4 c5
  have hi2 := HI1.out.chg hc (fun h => h)
  have hs2 := HS1.out.chg hc (fun h => h)
  have hb2 := HB1.out.trans hc
  have HI2 := Lib.hid hi2
  obtain ⟨hlt2, c0, c1, c2, c3, c4, c5⟩ := hi2
  have hr2 := (hc.block N (by assumption) (fun h => h)).trans HROW.out
  have n0 : w2.cell? ⟨N, 0, none⟩ = some (.int .u16 ((rv0.toNat : Int) * 256 + (rv1.toNat : Int))) := (cell_of_row w2 N 0 _ _ _ hr2).trans rfl
  clear hr2
  have hL := hl.out
  have hgx := hgb
  have rhi := u16_hi rv0 rv1
  have rlo := u16_lo rv0 rv1
  have a2 : (0 : Int) ≤ (o : Int) := by omega
  have a5 : (o : Int) < (L : Int) := by omega
  have a6 : IntKind.i64.wrap (o : Int) = (o : Int) := i64_in _ ⟨by omega, by omega⟩
  have a1 : IntKind.i64.wrap ((o : Int) + 1) = (o : Int) + 1 := i64_in _ ⟨by omega, by omega⟩
  have a7 : (o : Int) + 1 < (L : Int) := by omega
  have a8 : (0 : Int) ≤ (o : Int) + 1 := by omega
  have f0 := hs2.frozen (o)
  have k0 := hs2.cellAt (o := 0) rfl (j := o) (by omega)
  have f1 := hs2.frozen (o + 1)
  have k1 := hs2.cellAt (o := 0) rfl (j := o + 1) (by omega)
  simp only [Nat.zero_add] at k0 k1
  have lbc := hs2.lt
  have HS2 := Lib.hid hs2
  clear hs2
  go_upto_region 3 with (go_at_call 57; refine (pixOffset_Gray16 g bx L cap S W H x y _ HI2.out hx hy hw hh hS).mono ?_; rintro e w3 ⟨rfl, m, rfl⟩; rw [← ho.out])
  refine region_still_tail 11 (by kernel_rfl) (by kernel_rfl) (fun wd hwd => ?_)
  simp only [List.take_succ_cons, List.take_zero, List.drop_succ_cons, List.drop_zero]
  have c0' := cell_drew (w := w2.drewN m) hwd c0
  have n0' := cell_drew (w := w2.drewN m) hwd n0
  have f0' := froz_drew (w := w2.drewN m) hwd f0
  have k0' := cell_drew (w := w2.drewN m) hwd k0
  have f1' := froz_drew (w := w2.drewN m) hwd f1
  have k1' := cell_drew (w := w2.drewN m) hwd k1
  have lbc' := lt_drew (w := w2.drewN m) hwd lbc
  have HWD := Lib.hid hwd
  clear hwd c0 n0 f0 k0 f1 k1 lbc
  refine still_at (some 22) (v := ?_) rfl rfl ?_ ?_
  rotate_left
  · refine ⟨?_⟩
    go_simp
    first | done | with_reducible rfl
  refine still_at (some 23) (v := ?_) rfl rfl ?_ ?_
  rotate_left
  · refine ⟨?_⟩
    go_simp
    first | done | with_reducible rfl
  refine still_at (some 24) (v := ?_) rfl rfl ?_ ?_
  rotate_left
  · refine ⟨?_⟩
    go_simp
    first | done | with_reducible rfl
  refine still_at (some 25) (v := ?_) rfl rfl ?_ ?_
  rotate_left
  · refine ⟨?_⟩
    go_simp
    first | done | with_reducible rfl
  refine still_at (some 26) (v := ?_) rfl rfl ?_ ?_
  rotate_left
  · refine ⟨?_⟩
    go_simp
    first | done | with_reducible rfl
  refine still_at (some 27) (v := ?_) rfl rfl ?_ ?_
  rotate_left
  · refine ⟨?_⟩
    go_simp
    first | done | with_reducible rfl
  refine still_at (some 28) (v := ?_) rfl rfl ?_ ?_
  rotate_left
  · refine ⟨?_⟩
    go_simp
    first | done | with_reducible rfl
  refine still_at (some 29) (v := ?_) rfl rfl ?_ ?_
  rotate_left
  · refine ⟨?_⟩
    go_simp
    first | done | with_reducible rfl
  refine still_at (some 30) (v := ?_) rfl rfl ?_ ?_
  rotate_left
  · refine ⟨?_⟩
    go_simp
    first | done | with_reducible rfl
  refine still_at (some 31) (v := ?_) rfl rfl ?_ ?_
  rotate_left
  · refine ⟨?_⟩
    go_simp
    first | done | with_reducible rfl
  refine still_at (some 32) (v := ?_) rfl rfl ?_ ?_
  rotate_left
  · refine ⟨?_⟩
    go_simp
    first | done | with_reducible rfl
  refine still_nil ?_
  refine list_skip (w' := ?_) rfl rfl ?_ ?_
  rotate_left
  · refine ⟨?_⟩
    go_simp
    first | done | with_reducible rfl
  refine list_nil ?_
  simp only [Act.put, List.setIfInBounds_toArray, List.set_cons_succ, List.set_cons_zero]
  have hs3 : Seg (wd.setCell ⟨bx, o, none⟩ (.int .u8 (rv0.toNat : Int))) bx [] [] (l.set o rv0) := by rw [HWD.out]; exact Seg.put1 (w := (w2.drewN m).drew) HS2.out (by omega) _
  have hb3 : Chg (· = bx) w (wd.setCell ⟨bx, o, none⟩ (.int .u8 (rv0.toNat : Int))) := by rw [HWD.out]; exact ((hb2.mono (q := (· = bx)) (fun _ h => h.elim)).drewN m).drew.setCell bx (fun _ => rfl) _ _
  have hc0 : (wd.setCell ⟨bx, o, none⟩ (.int .u8 (rv0.toNat : Int))).cell? ⟨g, 0, none⟩ = some (.slice (some ⟨bx, 0, none⟩) L cap) := by rw [Only.cell ((Only.refl bx wd).setCell _ _) hgx]; exact c0'
  have hn0 : (wd.setCell ⟨bx, o, none⟩ (.int .u8 (rv0.toNat : Int))).cell? ⟨N, 0, none⟩ = some (.int .u16 ((rv0.toNat : Int) * 256 + (rv1.toNat : Int))) := by rw [Only.cell ((Only.refl bx wd).setCell _ _) hNb]; exact n0'
  obtain ⟨w4, hw4⟩ : ∃ w4, w4 = wd.setCell ⟨bx, o, none⟩ (.int .u8 (rv0.toNat : Int)) := ⟨_, rfl⟩
  rw [← hw4] at hs3 hb3 hc0 hn0 ⊢
  clear hw4 c0' n0' f0' k0' f1' k1' lbc'
  go_upto_region 4 with fail
  have c0 := hc0
  have n0 := hn0
  have lbc := hs3.lt
  have f1 := hs3.frozen (o + 1)
  have k1 := hs3.cellAt (o := 0) rfl (j := o + 1) (by simp; omega)
  simp only [Nat.zero_add] at k1
  have HS3 := Lib.hid hs3
  clear hs3 hc0 hn0 HWD wd
  refine region_still_tail 10 (by kernel_rfl) (by kernel_rfl) (fun wd hwd => ?_)
  simp only [List.take_succ_cons, List.take_zero, List.drop_succ_cons, List.drop_zero]
  have c0' := cell_drew (w := w4) hwd c0
  have n0' := cell_drew (w := w4) hwd n0
  have f1' := froz_drew (w := w4) hwd f1
  have k1' := cell_drew (w := w4) hwd k1
  have lbc' := lt_drew (w := w4) hwd lbc
  have HWD := Lib.hid hwd
  clear hwd c0 n0 f1 k1 lbc
  refine still_at (some 33) (v := ?_) rfl rfl ?_ ?_
  rotate_left
  · refine ⟨?_⟩
    go_simp
    first | done | with_reducible rfl
  refine still_at (some 34) (v := ?_) rfl rfl ?_ ?_
  rotate_left
  · refine ⟨?_⟩
    go_simp
    first | done | with_reducible rfl
  refine still_at (some 35) (v := ?_) rfl rfl ?_ ?_
  rotate_left
  · refine ⟨?_⟩
    go_simp
    first | done | with_reducible rfl
  refine still_at (some 36) (v := ?_) rfl rfl ?_ ?_
  rotate_left
  · refine ⟨?_⟩
    go_simp
    first | done | with_reducible rfl
  refine still_at (some 37) (v := ?_) rfl rfl ?_ ?_
  rotate_left
  · refine ⟨?_⟩
    go_simp
    first | done | with_reducible rfl
  refine still_at (some 38) (v := ?_) rfl rfl ?_ ?_
  rotate_left
  · refine ⟨?_⟩
    go_simp
    first | done | with_reducible rfl
  refine still_at (some 39) (v := ?_) rfl rfl ?_ ?_
  rotate_left
  · refine ⟨?_⟩
    go_simp
    first | done | with_reducible rfl
  refine still_at (some 40) (v := ?_) rfl rfl ?_ ?_
  rotate_left
  · refine ⟨?_⟩
    go_simp
    first | done | with_reducible rfl
  refine still_at (some 41) (v := ?_) rfl rfl ?_ ?_
  rotate_left
  · refine ⟨?_⟩
    go_simp
    first | done | with_reducible rfl
  refine still_at (some 42) (v := ?_) rfl rfl ?_ ?_
  rotate_left
  · refine ⟨?_⟩
    go_simp
    first | done | with_reducible rfl
  refine still_nil ?_
  refine list_skip (w' := ?_) rfl rfl ?_ ?_
  rotate_left
  · refine ⟨?_⟩
    go_simp
    first | done | with_reducible rfl
  refine list_nil ?_
  simp only [Act.put, List.setIfInBounds_toArray, List.set_cons_succ, List.set_cons_zero]
  go_wp2_with fail
  rw [HWD.out]
  refine ⟨rfl, .tuple #[], by simp [results, Tryd.results45, go_sem], rfl, ?_, ?_⟩
  · exact hb3.drew.setCell bx (fun _ => rfl) _ _
  · exact Seg.put1 (w := w4.drew) HS3.out (by simp; omega) _
set_option maxRecDepth 100000 in
theorem pixOffset_Paletted (g bx L cap S W H x y : Nat) (w : World) (hi : ImAt g bx L cap S W H w) (hx : x < W) (hy : y < H) (hw : W ≤ 1000) (hh : H ≤ 1000) (hS : S ≤ 10000) :
    Calls Tryd.prog 55 #[.pointer (some ⟨g, 0, none⟩), .int .i64 (x : Int), .int .i64 (y : Int)] w
      (fun e w' => e = .returned (.int .i64 ((y * S + 1 * x : Nat) : Int)) ∧ ∃ n, w' = w.drewN n) := by
  obtain ⟨hlt, c0, c1, c2, c3, c4, c5⟩ := hi
  go_enter Tryd.func55, Tryd.ntmps55
  have hm : y * S ≤ 1000 * 10000 := Nat.mul_le_mul (by omega) hS
  have hm : (y * S : Nat) = (y : Int) * (S : Int) := Int.natCast_mul y S
  have e3 : IntKind.i64.wrap ((y : Int) * (S : Int)) = (y : Int) * (S : Int) := i64_in _ ⟨by omega, by omega⟩
  have e4 : IntKind.i64.wrap ((y : Int) * (S : Int) + (x : Int)) = (y : Int) * (S : Int) + (x : Int) := i64_in _ ⟨by omega, by omega⟩
  go_upto_region 1 with fail
  go_quiet (fail)
  go_wp2_with fail
  have e : ((y * S + 1 * x : Nat) : Int) = (y : Int) * (S : Int) + (x : Int) := by omega
  go_ret
  exact ⟨ret_int (by rw [e]; try omega), _, rfl⟩
set_option maxRecDepth 100000 in
theorem set_Paletted (g bx L cap S W H x y o : Nat) (rv : UInt8) (l : List UInt8) (w : World) (hi : ImAt g bx L cap S W H w) (hseg : Seg w bx [] [] l) (hl : Hid (l.length = L)) (ho : Hid (o = y * S + 1 * x))
    (hx : x < W) (hy : y < H) (hw : W ≤ 1000) (hh : H ≤ 1000) (hS : S ≤ 10000) (hfit : o + 1 ≤ L) (hcap : L ≤ cap) (hc2 : cap ≤ 100000000) :
    Calls Tryd.prog 43 #[.pointer (some ⟨g, 0, none⟩), .int .i64 (x : Int), .int .i64 (y : Int), (.int .u8 (rv.toNat : Int))] w
      (fun e w' => e = .returned (.tuple #[]) ∧ Chg (· = bx) w w' ∧ Seg w' bx [] [] (putAt l o [rv])) := by
  have HB1 : Hid (Chg (fun _ => False) w w) := Lib.hid (Chg.refl _ _)
  have HI1 := Lib.hid hi
  have HS1 := Lib.hid hseg
  clear hseg
  obtain ⟨hlt, c0, c1, c2, c3, c4, c5⟩ := hi
  go_enter Tryd.func43, Tryd.ntmps43
  go_upto_region 1 with (go_at_call 52; refine (ptIn_any x y W H _ hx hy).mono ?_; rintro e w2 ⟨rfl, hc⟩)
  clear c0 c1 c2 c3 c4 c5
  have hi2 := HI1.out.chg hc (fun h => h)
  have hs2 := HS1.out.chg hc (fun h => h)
  have hb2 := HB1.out.trans hc
  have HI2 := Lib.hid hi2
  obtain ⟨hlt2, c0, c1, c2, c3, c4, c5⟩ := hi2
  have hL := hl.out
  have a2 : (0 : Int) ≤ (o : Int) := by omega
  have a5 : (o : Int) < (L : Int) := by omega
  have a6 : IntKind.i64.wrap (o : Int) = (o : Int) := i64_in _ ⟨by omega, by omega⟩
  have f0 := hs2.frozen (o)
  have k0 := hs2.cellAt (o := 0) rfl (j := o) (by omega)
  simp only [Nat.zero_add] at k0
  have lbc := hs2.lt
  have HS2 := Lib.hid hs2
  clear hs2
  go_wp2_with (go_at_call 55; refine (pixOffset_Paletted g bx L cap S W H x y _ HI2.out hx hy hw hh hS).mono ?_; rintro e w3 ⟨rfl, m, rfl⟩; rw [← ho.out])
  refine ⟨rfl, .tuple #[], by simp [results, Tryd.results43, go_sem], rfl, ?_, ?_⟩
  · exact ((hb2.mono (q := (· = bx)) (fun _ h => h.elim)).drewN m).setCell bx (fun _ => rfl) _ _
  · have q0 := Seg.put1 (w := w2.drewN m) HS2.out (o := o) (by omega) rv
    exact q0
end Go.Proofs.YtkiibhpmembcgaaDoor
