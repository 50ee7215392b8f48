/- What the walk through filter of the package tells of the five buffers, and which filter is chosen. -/
import Derived.Test.YtmidfhcfnemkoaaPaeth
import Derived.Test.YtmidfhcfnemkoaaFilterMath
import Derived.Test.YtmidfhcfnemkoaaSeg
import Derived.StillTailTactics
import Derived.Deep.DeepCutAuto
import Derived.Deep.CutBlock
namespace Go.Proofs.Ytmidfhcfnemkoaa
open Go.ChangeShapes Go.WideShapes Go.ChangeAt Go.RowKit Go.IntWalk

set_option maxRecDepth 100000 in
theorem abs8_any (v : UInt8) (w : World) : Calls Try.prog 23 #[.int .u8 (v.toNat : Int)] w fun e w' => e = .returned (.int .i64 (absB v : Int)) ∧ w = w' := by
  have hv := u8lt v
  go_enter Try.func23, Try.ntmps23
  go_wp2
  all_goals (go_ret; exact ⟨ret_eq (by unfold absB; omega), rfl⟩)

/-- The five buffers and the row above: where they lie. -/
structure Lie (g0 g1 g2 g3 g4 gp base : Nat) : Prop where
  b0 : base ≤ g0
  b1 : base ≤ g1
  b2 : base ≤ g2
  b3 : base ≤ g3
  b4 : base ≤ g4
  n01 : g0 ≠ g1
  n02 : g0 ≠ g2
  n03 : g0 ≠ g3
  n04 : g0 ≠ g4
  n12 : g1 ≠ g2
  n13 : g1 ≠ g3
  n14 : g1 ≠ g4
  n23 : g2 ≠ g3
  n24 : g2 ≠ g4
  n34 : g3 ≠ g4
  p1 : gp ≠ g1
  p2 : gp ≠ g2
  p3 : gp ≠ g3
  p4 : gp ≠ g4
/-- The cell ahead of each buffer: the place of the filter's kind. -/
def Pre : List Value := [.int .u8 0]
/-- What the five buffers hold. -/
structure Held5 (w : World) (g0 g1 g2 g3 g4 gp n : Nat) (row above c1 c2 c3 c4 : List UInt8) : Prop where
  h0 : Seg w g0 Pre [] row
  h1 : Seg w g1 Pre [] c1
  h2 : Seg w g2 Pre [] c2
  h3 : Seg w g3 Pre [] c3
  h4 : Seg w g4 Pre [] c4
  hp : RB w (some ⟨gp, 1, none⟩) above
  l0 : row.length = n
  la : above.length = n
  l1 : c1.length = n
  l2 : c2.length = n
  l3 : c3.length = n
  l4 : c4.length = n

/-- One store into a buffer. -/
theorem Held5.store1 {w : World} {g0 g1 g2 g3 g4 gp n base i : Nat} {row above c1 c2 c3 c4 : List UInt8} (L : Lie g0 g1 g2 g3 g4 gp base) (H : Held5 w g0 g1 g2 g3 g4 gp n row above c1 c2 c3 c4) (hi : i < n) (d : UInt8) :
    Held5 (w.setCell ⟨g1, 1 + i, none⟩ (.int .u8 (d.toNat : Int))) g0 g1 g2 g3 g4 gp n row above (c1.set i d) c2 c3 c4 := by
  have O : Only g1 w (w.setCell ⟨g1, 1 + i, none⟩ (.int .u8 (d.toNat : Int))) := (Only.refl _ _).setCell _ _
  exact ⟨H.h0.only O L.n01, H.h1.store rfl (by rw [H.l1]; exact hi) d, H.h2.only O (Ne.symm L.n12), H.h3.only O (Ne.symm L.n13), H.h4.only O (Ne.symm L.n14), RB.only H.hp O L.p1, H.l0, H.la, by rw [List.length_set]; exact H.l1, H.l2, H.l3, H.l4⟩
theorem Held5.store2 {w : World} {g0 g1 g2 g3 g4 gp n base i : Nat} {row above c1 c2 c3 c4 : List UInt8} (L : Lie g0 g1 g2 g3 g4 gp base) (H : Held5 w g0 g1 g2 g3 g4 gp n row above c1 c2 c3 c4) (hi : i < n) (d : UInt8) :
    Held5 (w.setCell ⟨g2, 1 + i, none⟩ (.int .u8 (d.toNat : Int))) g0 g1 g2 g3 g4 gp n row above c1 (c2.set i d) c3 c4 := by
  have O : Only g2 w (w.setCell ⟨g2, 1 + i, none⟩ (.int .u8 (d.toNat : Int))) := (Only.refl _ _).setCell _ _
  exact ⟨H.h0.only O L.n02, H.h1.only O L.n12, H.h2.store rfl (by rw [H.l2]; exact hi) d, H.h3.only O (Ne.symm L.n23), H.h4.only O (Ne.symm L.n24), RB.only H.hp O L.p2, H.l0, H.la, H.l1, by rw [List.length_set]; exact H.l2, H.l3, H.l4⟩
theorem Held5.store3 {w : World} {g0 g1 g2 g3 g4 gp n base i : Nat} {row above c1 c2 c3 c4 : List UInt8} (L : Lie g0 g1 g2 g3 g4 gp base) (H : Held5 w g0 g1 g2 g3 g4 gp n row above c1 c2 c3 c4) (hi : i < n) (d : UInt8) :
    Held5 (w.setCell ⟨g3, 1 + i, none⟩ (.int .u8 (d.toNat : Int))) g0 g1 g2 g3 g4 gp n row above c1 c2 (c3.set i d) c4 := by
  have O : Only g3 w (w.setCell ⟨g3, 1 + i, none⟩ (.int .u8 (d.toNat : Int))) := (Only.refl _ _).setCell _ _
  exact ⟨H.h0.only O L.n03, H.h1.only O L.n13, H.h2.only O L.n23, H.h3.store rfl (by rw [H.l3]; exact hi) d, H.h4.only O (Ne.symm L.n34), RB.only H.hp O L.p3, H.l0, H.la, H.l1, H.l2, by rw [List.length_set]; exact H.l3, H.l4⟩
theorem Held5.store4 {w : World} {g0 g1 g2 g3 g4 gp n base i : Nat} {row above c1 c2 c3 c4 : List UInt8} (L : Lie g0 g1 g2 g3 g4 gp base) (H : Held5 w g0 g1 g2 g3 g4 gp n row above c1 c2 c3 c4) (hi : i < n) (d : UInt8) :
    Held5 (w.setCell ⟨g4, 1 + i, none⟩ (.int .u8 (d.toNat : Int))) g0 g1 g2 g3 g4 gp n row above c1 c2 c3 (c4.set i d) := by
  have O : Only g4 w (w.setCell ⟨g4, 1 + i, none⟩ (.int .u8 (d.toNat : Int))) := (Only.refl _ _).setCell _ _
  exact ⟨H.h0.only O L.n04, H.h1.only O L.n14, H.h2.only O L.n24, H.h3.only O L.n34, H.h4.store rfl (by rw [H.l4]; exact hi) d, RB.only H.hp O L.p4, H.l0, H.la, H.l1, H.l2, H.l3, by rw [List.length_set]; exact H.l4⟩
theorem Held5.drew {w : World} {g0 g1 g2 g3 g4 gp n : Nat} {row above c1 c2 c3 c4 : List UInt8} (H : Held5 w g0 g1 g2 g3 g4 gp n row above c1 c2 c3 c4) : Held5 w.drew g0 g1 g2 g3 g4 gp n row above c1 c2 c3 c4 :=
  ⟨H.h0, H.h1, H.h2, H.h3, H.h4, H.hp, H.l0, H.la, H.l1, H.l2, H.l3, H.l4⟩
theorem sub_byte (x y : UInt8) : IntKind.u8.wrap ((x.toNat : Int) - (y.toNat : Int)) = ((x - y).toNat : Int) := by
  rw [IntKind.wrap_u8', UInt8.toNat_sub]; have := u8lt x; have := u8lt y; omega
theorem predZ_first {k : Nat} {row above : List UInt8} {step i : Nat} {y : UInt8} (hi : i < step) (hy : above[i]? = some y) : predZ k row above step i = predI k 0 (y.toNat : Int) 0 := by
  have h : ¬ step ≤ i := by omega
  simp [predZ, aval, h, List.getD, hy]
theorem predZ_next {k : Nat} {row above : List UInt8} {step i : Nat} {l y c : UInt8} (hi : step ≤ i) (hl : row[i - step]? = some l) (hy : above[i]? = some y) (hc : above[i - step]? = some c) : predZ k row above step i = predI k (l.toNat : Int) (y.toNat : Int) (c.toNat : Int) := by
  simp [predZ, aval, hi, List.getD, hy, hl, hc]
theorem predZ_up {row above : List UInt8} {step i : Nat} {y : UInt8} (hy : above[i]? = some y) : predZ 2 row above step i = (y.toNat : Int) := by
  simp [predZ, predI, List.getD, hy]
theorem paethI_up (y : UInt8) : predI 4 0 (y.toNat : Int) 0 = (y.toNat : Int) := by
  have := u8lt y
  simp only [predI, paethI, absI]
  simp
  (repeat' split) <;> omega
theorem byte_of {k : Nat} {row above : List UInt8} {step i : Nat} {x : UInt8} (hx : row[i]? = some x) {z : Int} (hz : predZ k row above step i = z) :
    ∃ d : UInt8, Hid ((filtered k row above step)[i]? = some d) ∧ IntKind.u8.wrap ((x.toNat : Int) - z) = (d.toNat : Int) ∧ d.toNat < 256 := by
  obtain ⟨hi, -⟩ := List.getElem?_eq_some_iff.1 hx
  refine ⟨_, Lib.hid (filtered_at k row above step i hi), ?_, u8lt _⟩
  rw [← hz, ← predB_val, ← sub_byte]
  simp [List.getD, hx]
theorem filtered_none (row above : List UInt8) (step : Nat) : filtered 0 row above step = row := by
  refine ext_getD (filtered_length ..) fun i hi => ?_
  rw [filtered_length] at hi
  have e : predB 0 row above step i = 0 := by simp [predB, predZ, predI]
  simp [List.getD, filtered_at 0 row above step i hi, e]
/-- The contents C with those of buffer k turned. -/
def upd (C : Nat → List UInt8) (k : Nat) (c : List UInt8) (j : Nat) : List UInt8 := if j = k then c else C j
/-- Of the filters that have been tried f is the one under which the row weighs least, and its buffer holds the row under it. -/
structure Best (F C : Nat → List UInt8) (tried : List Nat) (best f : Nat) : Prop where
  mem : f ∈ tried
  val : best = weight (F f)
  least : ∀ j ∈ tried, best ≤ weight (F j)
  cont : C f = F f
theorem Best.take {F C : Nat → List UInt8} {tried : List Nat} {best f k sm : Nat} {c : List UInt8} (h : Best F C tried best f) (h1 : sm < best → c = F k ∧ sm = weight (F k)) (hlt : sm < best) : Best F (upd C k c) (k :: tried) sm k := by
  obtain ⟨e1, e2⟩ := h1 hlt
  refine ⟨by simp, e2, fun j hj => ?_, by simp [upd, e1]⟩
  rcases List.mem_cons.1 hj with rfl | hj
  · exact Nat.le_of_eq e2
  · have := h.least j hj; omega
theorem Best.keep {F C : Nat → List UInt8} {tried : List Nat} {best f k sm : Nat} {c : List UInt8} (h : Best F C tried best f) (hk : k ∉ tried) (h2 : best ≤ sm → best ≤ weight (F k)) (hge : best ≤ sm) : Best F (upd C k c) (k :: tried) best f := by
  have hne : f ≠ k := fun e => hk (e ▸ h.mem)
  refine ⟨List.mem_cons_of_mem _ h.mem, h.val, fun j hj => ?_, by rw [upd, if_neg hne]; exact h.cont⟩
  rcases List.mem_cons.1 hj with rfl | hj
  · exact h2 hge
  · exact h.least j hj
theorem weight_next {F : List UInt8} {i : Nat} {d : UInt8} (h : F[i]? = some d) : weight (F.take (i + 1)) = weight (F.take i) + absB d := by
  rw [List.take_add_one, h, ← weight_snoc]; rfl
theorem mix_next {F old : List UInt8} {n i : Nat} {d : UInt8} (h : F[i]? = some d) : (mixL (fun p => decide (p < i)) F old n).set i d = mixL (fun p => decide (p < i + 1)) F old n := by
  have e : d = F.getD i 0 := by simp [List.getD, h]
  rw [e]
  exact mixL_set fun p _ => by rw [Bool.eq_iff_iff]; simp; omega
theorem mix_new {F old : List UInt8} {n i : Nat} {d : UInt8} (h : F[i]? = some d) (hi : i < n) : (mixL (fun p => decide (p < i + 1)) F old n).getD i 0 = d := by
  simp [List.getD, mixL_at hi, h]
end Go.Proofs.Ytmidfhcfnemkoaa
