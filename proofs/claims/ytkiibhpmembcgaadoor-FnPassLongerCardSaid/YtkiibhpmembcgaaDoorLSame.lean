/- The contract of the laws' same: two pictures of one content. -/
import Derived.Test.YtkiibhpmembcgaaDoorConvL
import Derived.Test.YtkiibhpmembcgaaDoorPicOf
import Derived.Test.YtkiibhpmembcgaaDoorGRead
import Derived.Deep.QuietTactic
import Derived.BigQuiet
import Derived.Deep.DeepCutAuto
import Derived.Deep.CutBlock
import Derived.LoopTactic
import Derived.Outline
namespace Go.Proofs.YtkiibhpmembcgaaDoor
open Go.ChangeShapes Go.WideShapes Go.ChangeAt Go.RowKit Go.IntWalk

theorem eqFields_same (a b c d : Int) (w : World) : ∀ fs : List Field, (fs.all fun f => f.type == 5 && decide (f.offset < 4)) = true →
    (Op.eqFields 9999 #[.int .u8 a, .int .u8 b, .int .u8 c, .int .u8 d] #[.int .u8 a, .int .u8 b, .int .u8 c, .int .u8 d] fs).run Tryd.prog w = .ok true w
  | [], _ => by simp [Op.eqFields]
  | f :: fs, h => by
    simp only [List.all_cons, Bool.and_eq_true, beq_iff_eq, decide_eq_true_eq] at h
    have ih := eqFields_same a b c d w fs h.2
    have e : ∀ (x : Int) (w : World), (Op.equalIn 9999 5 (.int .u8 x) (.int .u8 x)).run Tryd.prog w = .ok true w := fun x w => by
      have := run_equalIn_int (P := Tryd.prog) w 9998 5 .u8 .u8 x x Tryd.underlying5
      rw [this]; simp
    have ho : f.offset = 0 ∨ f.offset = 1 ∨ f.offset = 2 ∨ f.offset = 3 := by omega
    rcases ho with ho | ho | ho | ho <;> simp [Op.eqFields, go_sem, e, h.1.1, ho, ih]
set_option maxRecDepth 20000 in
/-- Two colors that are the same are not other ones. -/
theorem neq_shade (a b c d : Int) (w : World) : (binOp .neq 64 (.agg #[.int .u8 a, .int .u8 b, .int .u8 c, .int .u8 d]) (.agg #[.int .u8 a, .int .u8 b, .int .u8 c, .int .u8 d])).run Tryd.prog w = .ok (.bool false) w := by
  rw [run_neq_struct, run_equalIn_agg (P := Tryd.prog) w 9999 64 _ _ (by kernel_rfl) (by kernel_rfl), eqFields_same a b c d w _ (by kernel_rfl)]
  rfl

structure PcAt (w : World) (b k W H S : Nat) (pv av : Value) : Prop where
  c0 : w.cell? ⟨b, 0, none⟩ = some (.int .i64 (k : Int))
  c1 : w.cell? ⟨b, 1, none⟩ = some (.int .i64 0)
  c2 : w.cell? ⟨b, 2, none⟩ = some (.int .i64 0)
  c3 : w.cell? ⟨b, 3, none⟩ = some (.int .i64 (W : Int))
  c4 : w.cell? ⟨b, 4, none⟩ = some (.int .i64 (H : Int))
  c5 : w.cell? ⟨b, 5, none⟩ = some (.int .i64 (S : Int))
  c6 : w.cell? ⟨b, 6, none⟩ = some pv
  c7 : w.cell? ⟨b, 7, none⟩ = some av
theorem PcAt.of_row {w : World} {b k W H S : Nat} {pv av : Value} {T : TypeId} (h : w.heap[b]? = some (.cells (pcCells k W H S pv av) T (0, 0))) : PcAt w b k W H S pv av :=
  ⟨(cell_of_row w b 0 _ _ _ h).trans rfl, (cell_of_row w b 1 _ _ _ h).trans rfl, (cell_of_row w b 2 _ _ _ h).trans rfl, (cell_of_row w b 3 _ _ _ h).trans rfl, (cell_of_row w b 4 _ _ _ h).trans rfl, (cell_of_row w b 5 _ _ _ h).trans rfl, (cell_of_row w b 6 _ _ _ h).trans rfl, (cell_of_row w b 7 _ _ _ h).trans rfl⟩
theorem PcAt.kept {w w' : World} {b k W H S : Nat} {pv av : Value} (h : PcAt w b k W H S pv av) (hk : w'.heap[b]? = w.heap[b]?) : PcAt w' b k W H S pv av :=
  ⟨(World.cell?_of_block (w := w) hk).trans h.c0, (World.cell?_of_block (w := w) hk).trans h.c1, (World.cell?_of_block (w := w) hk).trans h.c2, (World.cell?_of_block (w := w) hk).trans h.c3, (World.cell?_of_block (w := w) hk).trans h.c4, (World.cell?_of_block (w := w) hk).trans h.c5, (World.cell?_of_block (w := w) hk).trans h.c6, (World.cell?_of_block (w := w) hk).trans h.c7⟩
set_option maxHeartbeats 6400000 in
set_option maxRecDepth 100000 in
theorem lsame_any (kd W H Sx n k1 k2 pn q1 q2 : Nat) (a1 a2 b1 b2 : Option Addr) (l : List UInt8) (S : List Sh) (w : World) (hl : Hid (l.length = n)) (hr1 : RB w a1 l) (hr2 : RB w a2 l) (hS1 : Hid (InS w b1 pn q1 S)) (hS2 : Hid (InS w b2 pn q2 S)) (hpn : pn ≤ 1000) :
    Calls Tryd.prog 12 #[pcV kd W H Sx (.slice a1 n k1) (.slice b1 pn q1), pcV kd W H Sx (.slice a2 n k2) (.slice b2 pn q2)] w fun e w' => e = .returned (.bool true) ∧ Below w.heap.size w w' := by
  obtain ⟨wa, hwa⟩ : ∃ wa, wa = w.alloc (.cells (pcCells kd W H Sx (.slice a1 n k1) (.slice b1 pn q1)) 35) := ⟨_, rfl⟩
  obtain ⟨wb, hwb⟩ : ∃ wb, wb = wa.alloc (.cells (pcCells kd W H Sx (.slice a2 n k2) (.slice b2 pn q2)) 35) := ⟨_, rfl⟩
  obtain ⟨A, hA⟩ : ∃ A, A = w.heap.size := ⟨_, rfl⟩
  obtain ⟨B, hB⟩ : ∃ B, B = A + 1 := ⟨_, rfl⟩
  have hba : Below w.heap.size w wa := hwa ▸ (Below.refl _ _).alloc (Nat.le_refl _) _
  have hbb : Below wa.heap.size wa wb := hwb ▸ (Below.refl _ _).alloc (Nat.le_refl _) _
  have hbel : Below w.heap.size w wb := hba.trans (hbb.mono hba.size)
  have hAB : A < wa.heap.size := by rw [hwa, size_alloc, hA]; omega
  have hBs : wa.heap.size = B := by rw [hwa, size_alloc, hB, hA]
  have hpA : PcAt wb A kd W H Sx (.slice a1 n k1) (.slice b1 pn q1) := (PcAt.of_row (T := 35) (show wa.heap[A]? = _ by rw [hwa, hA]; exact alloc_at _ _)).kept (hbb.block A hAB)
  have hpB : PcAt wb B kd W H Sx (.slice a2 n k2) (.slice b2 pn q2) := PcAt.of_row (T := 35) (show wb.heap[B]? = _ by rw [hwb, ← hBs]; exact alloc_at _ _)
  have lB : B < wb.heap.size := by rw [hwb, size_alloc, hBs]; omega
  have lA : A < wb.heap.size := Nat.lt_of_lt_of_le hAB hbb.size
  obtain ⟨s, hs⟩ : ∃ s, s = strOf l := ⟨_, rfl⟩
  have cv1 := conv_bytes (cap := k1) (hr1.below hbel) hl
  have cv2 := conv_bytes (cap := k2) (hr2.below hbel) hl
  rw [← hs] at cv1 cv2
  have e1 : (s.toList == s.toList) = true := beq_self_eq_true _
  have HWA := Lib.hid hwa
  have HWB := Lib.hid hwb
  have HA := Lib.hid hA
  have HB := Lib.hid hB
  have HBEL := Lib.hid hbel
  have HSA := Lib.hid (hS1.out.below hbel)
  have HSB := Lib.hid (hS2.out.below hbel)
  obtain ⟨c0, c1, c2, c3, c4, c5, c6, c7⟩ := hpA
  obtain ⟨d0, d1, d2, d3, d4, d5, d6, d7⟩ := hpB
  have C7 := Lib.hid c7
  have D7 := Lib.hid d7
  clear hwa hwb hA hB hBs hba hbb hbel hAB hs hr1 hr2 hS1 hS2
  unfold pcV
  go_enter Tryd.func12, Tryd.ntmps12
  go_upto_region 1 with fail
  rw [← HA.out, ← HB.out]
  change Code.wp _ _ _ _ ((w.alloc (.cells (pcCells kd W H Sx (.slice a1 n k1) (.slice b1 pn q1)) 35)).alloc (.cells (pcCells kd W H Sx (.slice a2 n k2) (.slice b2 pn q2)) 35))
  rw [← HWA.out, ← HWB.out]
  go_upto_region 4 with fail
  clear c0 c1 c2 c3 c4 c5 c6 d0 d1 d2 d3 d4 d5 d6 cv1 cv2 e1 c7 d7
  go_loopw [67] (fun iv wr => ∃ t q : Nat, t ≤ pn ∧ iv = .int .i64 (t : Int) ∧ wr = wb.drewN q) (fun iv _ => pn - (intOf iv).toNat)
  case atStart => exact ⟨0, 0, Nat.zero_le _, rfl, rfl⟩
  case round =>
  obtain ⟨t, q, ht, rfl, rfl⟩ := hrel
  by_cases hlt : t < pn
  · obtain ⟨sh, hsh⟩ : ∃ x, S[t]? = some x := ⟨_, List.getElem?_eq_getElem (by rw [HSA.out.hlen.out]; exact hlt)⟩
    have hne : S ≠ [] := by intro e; rw [e] at hsh; simp at hsh
    obtain ⟨g1, o1, rfl, hc1⟩ := HSA.out.rd hne
    obtain ⟨g2, o2, rfl, hc2⟩ := HSB.out.rd hne
    have h1 : ∀ j u, j < 4 → (shC sh)[j]? = some u → wb.cell? ⟨g1, o1 + t * 4 + j, none⟩ = some u := fun j u hj hu => by
      rw [Nat.mul_comm, Nat.add_assoc]
      exact hc1 _ _ ((shAll_at _ t _ hsh j hj).trans hu)
    have h2 : ∀ j u, j < 4 → (shC sh)[j]? = some u → wb.cell? ⟨g2, o2 + t * 4 + j, none⟩ = some u := fun j u hj hu => by
      rw [Nat.mul_comm, Nat.add_assoc]
      exact hc2 _ _ ((shAll_at _ t _ hsh j hj).trans hu)
    have x0 := h1 0 _ (by omega) rfl
    have x1 := h1 1 _ (by omega) rfl
    have x2 := h1 2 _ (by omega) rfl
    have x3 := h1 3 _ (by omega) rfl
    have y0 := h2 0 _ (by omega) rfl
    have y1 := h2 1 _ (by omega) rfl
    have y2 := h2 2 _ (by omega) rfl
    have y3 := h2 3 _ (by omega) rfl
    rw [Nat.add_zero] at x0 y0
    have c7 := C7.out
    have d7 := D7.out
    have nq1 := fun w => neq_shade (sh.r.toNat : Int) (sh.g.toNat : Int) (sh.b.toNat : Int) (sh.a.toNat : Int) w
    have i0 : (0 : Int) ≤ (t : Int) := by omega
    have i1 : (t : Int) < (pn : Int) := by omega
    have HSA2 := HSA
    clear h1 h2 hc1 hc2 hsh hne
    go_upto_region 6 with fail
    go_quiet (fail)
    go_wp2_with fail
    go_roundw
    case rel => exact ⟨t + 1, q + nq, by omega, by go_num, by rfl⟩
    case measure => simp [intOf]; omega
  · obtain rfl : t = pn := by omega
    go_wp2_with fail
    go_ret
    exact ⟨rfl, bdrewN HBEL.out q⟩
end Go.Proofs.YtkiibhpmembcgaaDoor
