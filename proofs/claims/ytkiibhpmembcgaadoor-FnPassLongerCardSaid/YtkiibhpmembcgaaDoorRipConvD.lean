/- From bytes to colors: one row of readImagePass. Printed by gen/ripconv.py. -/
import Derived.Test.YtkiibhpmembcgaaDoorRipCode
import Derived.Test.YtkiibhpmembcgaaDoorGMath
import Derived.Test.YtkiibhpmembcgaaDoorSetPix
import Derived.Test.YtkiibhpmembcgaaDoorGFew
import Derived.StillTailTactics
import Derived.Deep.QuietTactic
import Derived.BigQuiet
import Derived.Deep.DeepCutAuto
import Derived.Deep.CutBlock
import Derived.LoopTactic
import Derived.Outline
namespace Go.Proofs.YtkiibhpmembcgaaDoor
open Go.ChangeShapes Go.WideShapes Go.ChangeAt Go.RowKit Go.IntWalk

set_option maxRecDepth 1000000 in
set_option maxHeartbeats 6400000 in
theorem conv_TCA8 (V : LV) (bc bp y po g bx L S : Nat) (row p : List UInt8) (pre : Value) (a : Act) (w0 : World) (Q : Exit → Act → World → Prop) (hk : a.tmps.getD 452 undef = .int .i64 11) (hi : V.i15 = .pointer (some ⟨g, 0, none⟩))
    (h : CIn V bc bp y po 6 8 [] row g bx L S p pre a w0)
    (hpo : po = y * S) (hQ : ∀ a' w', COut V bc bp y (po + S) 6 8 [] row bx S p w0 a' w' → Q .normal a' w') : convB.wp Tryd.prog Q a w0 := by
  obtain ⟨hlive, hseg, hlen, him, hpix, hplen, hnb, hng, hnd, hdlt, hy, hW, hW1, hH, hS, hL, hn⟩ := h
  obtain ⟨b, r, i12, i13, i14, i15, i16, i17, i18, img, W, H, st, n⟩ := V
  simp only at hlen hy hW hW1 hH hS hL hn hi him hnd hdlt
  subst hi
  obtain ⟨gg, rfl⟩ := hlive.lit452 hk
  clear hlive hk
  have hok : OkCD 6 8 := by unfold OkCD; omega
  have hn2 : n = 4 * W := by rw [hn]; simp [rbN, chN]; omega
  have hS2 : S = 4 * W := by rw [hS]; simp [kindN, nK]; omega
  have hyS : y * S + S ≤ L := by rw [hL, ← Nat.succ_mul]; exact Nat.mul_le_mul_right _ hy
  have hyS2 : y * S ≤ 40 * 320 := Nat.mul_le_mul (by omega) (by omega)
  have hL2 : L ≤ 40 * 320 := by rw [hL]; exact Nat.mul_le_mul hH (by omega)
  have HSEG := Lib.hid hseg
  have HIM := Lib.hid him
  have HL := Lib.hid hlen
  have HPL := Lib.hid hplen
  have HOK := Lib.hid hok
  have HS2 := Lib.hid hS2
  have HN2 := Lib.hid hn2
  have HYS := Lib.hid hyS
  have HYS2 := Lib.hid hyS2
  have HL2 := Lib.hid hL2
  clear hseg him hlen hplen hok hS2 hn2 hyS hyS2 hL2 hS hL hn
  have hn2 := HN2.out
  have hS2 := HS2.out
  have hyS := HYS.out
  have hyS2 := HYS2.out
  have hL2 := HL2.out
  obtain ⟨hlt0, c0, c1, c2, c3, c4, c5⟩ := HIM.out
  have hfit : po + row.length ≤ p.length := by rw [HPL.out, HL.out]; omega
  have hfit2 : po + (cellsB row).length ≤ (cellsB p ++ []).toArray.size := by simp only [List.size_toArray, List.append_nil, cellsB_length]; exact hfit
  have hcp := run_copy_row (P := Tryd.prog) w0 23 23 3 5 bx po (L - po) (L - po) ⟨bc, 1, none⟩ n n (cellsB p ++ []).toArray 5 (cellsB row) (by kernel_rfl) (by kernel_rfl) hpix.whole (by rw [cellsB_length, HL.out]; simp only [Nat.min_def]; split <;> omega) (src_of (HSEG.out.rb (o := 1) rfl)) hfit2 (cellsB_one row)
  rw [cellsB_length, HL.out] at hcp
  obtain ⟨w1, hw1⟩ : ∃ w1, w1 = w0.setRow bx ((cellsB p ++ []).toArray.toList.take po ++ cellsB row ++ (cellsB p ++ []).toArray.toList.drop (po + n)).toArray := ⟨_, rfl⟩
  rw [← hw1] at hcp
  have hon : Only bx w0 w1 := hw1 ▸ only_setRow w0 bx _
  have hsg1 : Seg w1 bx [] [] (putAt p po row) := by
    have h1 := setRow_heap w0 bx _ ((cellsB p ++ []).toArray.toList.take po ++ cellsB row ++ (cellsB p ++ []).toArray.toList.drop (po + n)).toArray 5 _ hpix.whole
    rw [← hw1] at h1
    unfold Seg
    rw [h1, putAt_splice row p po hfit, HL.out]
    congr 2
    apply Array.toList_inj.1
    simp [cellsB, List.map_append, List.map_take, List.map_drop]
  have him1 := HIM.out.chg hon.chg (fun e => hng e.symm)
  have HON := Lib.hid hon
  have HSG1 := Lib.hid hsg1
  have HPO := Lib.hid hpo
  have c1w := him1.c1
  clear hw1 hpix hon hsg1 hfit hfit2 hpo hS2 hn2
  have p0 : (0 : Int) ≤ (po : Int) := by omega
  have p1 : (po : Int) ≤ (L : Int) := by have := HPO.out; omega
  have p2 : IntKind.i64.wrap ((po : Int) + (S : Int)) = (po : Int) + (S : Int) := i64_in _ ⟨by omega, by have := HPO.out; omega⟩
  have p4 : po < L := by have h1 := HPO.out; have h2 := HS2.out; omega
  have p3 : ¬ L - po = 0 := by omega
  clear him1
  conv => arg 2; whnf
  go_wp2_with fail
  refine ⟨⟨rfl, rfl, rfl, rfl, rfl, rfl, rfl, rfl, rfl, rfl, rfl, rfl, rfl, rfl, rfl, rfl, rfl, rfl, rfl, rfl, rfl⟩, HON.out.chg, ?_⟩
  simp only
  rw [← HPO.out, rowTo_quads row W (by rw [HL.out, HN2.out]; exact Nat.le_refl _), List.take_of_length_le (by rw [HL.out, HN2.out]; exact Nat.le_refl _)]
  exact HSG1.out
end Go.Proofs.YtkiibhpmembcgaaDoor
