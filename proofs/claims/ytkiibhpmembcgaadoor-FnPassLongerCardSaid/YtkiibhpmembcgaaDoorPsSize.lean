/- The contracts of the reference's PartOf and Size, exact, and of the laws' shapeOf, passOf. -/
import Derived.Test.YtkiibhpmembcgaaDoorGMath
import Derived.Test.YtkiibhpmembcgaaDoorGBase
import Derived.LoopTactic
import Derived.Deep.DeepCutAuto
import Derived.Deep.CutBlock
import Derived.Outline
namespace Go.Proofs.YtkiibhpmembcgaaDoor
open Go.ChangeShapes Go.WideShapes Go.ChangeAt Go.RowKit Go.IntWalk

theorem sevenp {p : Nat} (h7 : p < 7) : p = 0 ∨ p = 1 ∨ p = 2 ∨ p = 3 ∨ p = 4 ∨ p = 5 ∨ p = 6 := by omega
def ptV (q : Pt) : Value := .agg #[.int .i64 (q.X : Int), .int .i64 (q.Y : Int), .int .i64 (q.DX : Int), .int .i64 (q.DY : Int)]
set_option maxHeartbeats 3200000 in
set_option maxRecDepth 100000 in
theorem partOf_any (p : Nat) (h7 : p < 7) (w : World) :
    Calls Tryd.prog 10 #[.bool true, .int .i64 (p : Int)] w fun e w' => e = .returned (ptV (ptOf p)) ∧ Below w.heap.size w w' := by
  rcases sevenp h7 with rfl | rfl | rfl | rfl | rfl | rfl | rfl
  all_goals
    go_enter Tryd.func10, Tryd.ntmps10
    go_wp2_with fail
    refine bodyPost_ret (v := ptV (ptOf _)) (by simp [results, Tryd.results10, go_sem]; rfl) rfl ⟨rfl, ?_⟩
    repeat (first | exact Below.refl _ _ | refine Below.alloc ?_ (by first | exact Nat.le_refl _ | ((repeat (first | rw [size_alloc] | rw [size_set])) <;> omega)) _ | refine Below.setCell ?_ (by first | exact Nat.le_refl _ | ((repeat (first | rw [size_alloc] | rw [size_set])) <;> omega)) _)

theorem step_lt {a d t wd z : Nat} (hz : z = a + t * d) (hl : z < wd) (h : ∀ x, x < t → a + x * d < wd) : ∀ x, x < t + 1 → a + x * d < wd := fun x hx => by
  rcases Nat.lt_or_ge x t with h' | h'
  · exact h x h'
  · obtain rfl : x = t := by omega
    omega
theorem steps_le {a d t wd : Nat} (hd : 1 ≤ d) (hw : wd ≤ 40) (h : ∀ x, x < t → a + x * d < wd) : t ≤ 40 := by
  rcases Nat.lt_or_ge 40 t with h' | h'
  · have h1 := h 40 h'
    have h2 : 40 * 1 ≤ 40 * d := Nat.mul_le_mul_left 40 hd
    omega
  · exact h'
/-- How wide and high a part is; noughts where it has no pixel. -/
def szP (q : Pt) (wd h : Nat) : Nat × Nat := if cntP q.X q.DX wd = 0 ∨ cntP q.Y q.DY h = 0 then (0, 0) else (cntP q.X q.DX wd, cntP q.Y q.DY h)
def SizeXEnd (q : Pt) (wd h : Nat) (w : World) (e : Ending) (w' : World) : Prop :=
  e = .returned (.tuple #[.int .i64 ((szP q wd h).1 : Int), .int .i64 ((szP q wd h).2 : Int)]) ∧ Below w.heap.size w w'
/-- The part of an image that is read. -/
def ptL (laced : Bool) (p : Nat) : Pt := if laced then ptOf p else ⟨0, 0, 1, 1⟩
theorem ptL_ok (laced : Bool) (p : Nat) : PtOk (ptL laced p) ∧ (ptL laced p).X < (ptL laced p).DX ∧ (ptL laced p).Y < (ptL laced p).DY := by
  cases laced
  · show PtOk ⟨0, 0, 1, 1⟩ ∧ 0 < 1 ∧ 0 < 1
    exact ⟨by constructor <;> decide, by decide, by decide⟩
  · refine ⟨ptOf_ok p, ?_⟩
    show (ptOf p).X < (ptOf p).DX ∧ (ptOf p).Y < (ptOf p).DY
    unfold ptOf
    split <;> decide
theorem szP_le (laced : Bool) (p wd h : Nat) (hw : wd ≤ 40) (hh : h ≤ 40) : (szP (ptL laced p) wd h).1 ≤ 40 ∧ (szP (ptL laced p) wd h).2 ≤ 40 := by
  obtain ⟨ok, h1, h2⟩ := ptL_ok laced p
  unfold szP
  split
  · simp
  · exact ⟨cntP_le ok.dx0 hw h1, cntP_le ok.dy0 hh h2⟩
theorem szP_pos {q : Pt} {wd h : Nat} (hp : (szP q wd h).1 ≠ 0) : szP q wd h = (cntP q.X q.DX wd, cntP q.Y q.DY h) ∧ 1 ≤ cntP q.X q.DX wd ∧ 1 ≤ cntP q.Y q.DY h := by
  unfold szP at hp ⊢
  split at hp
  · simp at hp
  · rename_i hc
    rw [if_neg hc]
    exact ⟨rfl, by omega, by omega⟩
theorem szP_zero {q : Pt} {wd h : Nat} (hp : (szP q wd h).1 = 0) : szP q wd h = (0, 0) ∧ (cntP q.X q.DX wd = 0 ∨ cntP q.Y q.DY h = 0) := by
  unfold szP at hp ⊢
  split
  · rename_i hc
    exact ⟨rfl, hc⟩
  · rename_i hc
    rw [if_neg hc] at hp
    simp only at hp
    omega
set_option maxHeartbeats 3200000 in
set_option maxRecDepth 100000 in
theorem partL_any (laced : Bool) (p : Nat) (h7 : p < 7) (w : World) :
    Calls Tryd.prog 10 #[.bool laced, .int .i64 (p : Int)] w fun e w' => e = .returned (ptV (ptL laced p)) ∧ Below w.heap.size w w' := by
  cases laced
  · go_enter Tryd.func10, Tryd.ntmps10
    go_wp2_with fail
    refine bodyPost_ret (v := ptV (ptL false p)) (by simp [results, Tryd.results10, go_sem]; rfl) rfl ⟨rfl, ?_⟩
    repeat (first | exact Below.refl _ _ | refine Below.alloc ?_ (by first | exact Nat.le_refl _ | ((repeat (first | rw [size_alloc] | rw [size_set])) <;> omega)) _ | refine Below.setCell ?_ (by first | exact Nat.le_refl _ | ((repeat (first | rw [size_alloc] | rw [size_set])) <;> omega)) _)
  · exact partOf_any p h7 w
set_option maxHeartbeats 1600000 in
theorem sizeX_any (q : Pt) (ok : PtOk q) (hX : q.X < q.DX) (hY : q.Y < q.DY) (wd h : Nat) (hw : wd ≤ 40) (hh : h ≤ 40) (hw1 : 1 ≤ wd) (hh1 : 1 ≤ h) (w : World) :
    Calls Tryd.prog 11 #[ptV q, .int .i64 (wd : Int), .int .i64 (h : Int)] w (SizeXEnd q wd h w) := by
  obtain ⟨X, Y, DX, DY⟩ := q
  obtain ⟨o1, o2, o3, o4, o5, o6⟩ := ok
  simp only at o1 o2 o3 o4 o5 o6 hX hY
  have HXY : Hid (X < DX ∧ Y < DY ∧ 1 ≤ wd ∧ 1 ≤ h) := Lib.hid ⟨hX, hY, hw1, hh1⟩
  clear hX hY hw1 hh1
  have E : ptV ⟨X, Y, DX, DY⟩ = .agg #[.int .i64 (X : Int), .int .i64 (Y : Int), .int .i64 (DX : Int), .int .i64 (DY : Int)] := rfl
  rw [E]
  clear E
  obtain ⟨w1, hw1⟩ : ∃ w1, w1 = w.alloc (.cells #[.int .i64 (X : Int), .int .i64 (Y : Int), .int .i64 (DX : Int), .int .i64 (DY : Int)] 39) := ⟨_, rfl⟩
  have c0 : w1.cell? ⟨w.heap.size, 0, none⟩ = some (.int .i64 (X : Int)) := by rw [hw1]; simp
  have c1 : w1.cell? ⟨w.heap.size, 1, none⟩ = some (.int .i64 (Y : Int)) := by rw [hw1]; simp
  have c2 : w1.cell? ⟨w.heap.size, 2, none⟩ = some (.int .i64 (DX : Int)) := by rw [hw1]; simp
  have c3 : w1.cell? ⟨w.heap.size, 3, none⟩ = some (.int .i64 (DY : Int)) := by rw [hw1]; simp
  have HB1 : Hid (Below w.heap.size w w1) := Lib.hid (hw1 ▸ (Below.refl _ _).alloc (Nat.le_refl _) _)
  have HW1 := Lib.hid hw1
  clear hw1
  go_enter Tryd.func11, Tryd.ntmps11
  go_upto_region 1 with fail
  rw [← HW1.out]
  go_upto_region 3 with fail
  go_loopw [8, 10] (fun c x wr => ∃ t z : Nat, c = .int .i64 (t : Int) ∧ x = .int .i64 (z : Int) ∧ Hid (z = X + t * DX) ∧ z ≤ 60 ∧ t ≤ 40 ∧ (∀ s, s < t → X + s * DX < wd) ∧ w1 = wr) (fun _ x _ => wd - (intOf x).toNat)
  case atStart => exact ⟨0, X, rfl, rfl, Lib.hid (by omega), by omega, by omega, fun s hs => absurd hs (by omega), rfl⟩
  case round =>
    obtain ⟨t, z, rfl, rfl, HZ, hz, ht, hlt, rfl⟩ := hrel
    by_cases hlz : z < wd
    · have hlt2 := step_lt HZ.out hlz hlt
      have ht2 := steps_le o3 hw hlt2
      have HZ2 : Hid (z + DX = X + (t + 1) * DX) := Lib.hid (by rw [Nat.add_mul, Nat.one_mul]; have := HZ.out; omega)
      have HL := Lib.hid hlt2
      clear hlt hlt2
      go_wp2_with fail
      go_roundw
      case rel => exact ⟨t + 1, z + DX, by go_num, by go_num, HZ2, by omega, ht2, HL.out, by first | rfl | trivial⟩
      case measure => simp [intOf]; omega
    · have HCX : Hid (t = cntP X DX wd) := Lib.hid (cntP_of HXY.out.1 hlt (by have := HZ.out; omega) HXY.out.2.2.1)
      clear hlt HZ hz
      go_upto_region 7 with fail
      go_loopw [9, 11] (fun c x wr => ∃ t z : Nat, c = .int .i64 (t : Int) ∧ x = .int .i64 (z : Int) ∧ Hid (z = Y + t * DY) ∧ z ≤ 60 ∧ t ≤ 40 ∧ (∀ s, s < t → Y + s * DY < h) ∧ w1 = wr) (fun _ x _ => h - (intOf x).toNat)
      case atStart => exact ⟨0, Y, rfl, rfl, Lib.hid (by omega), by omega, by omega, fun s hs => absurd hs (by omega), rfl⟩
      case round =>
        obtain ⟨s, y, rfl, rfl, HY, hy, hs, hls, rfl⟩ := hrel
        by_cases hly : y < h
        · have hls2 := step_lt HY.out hly hls
          have hs2 := steps_le o5 hh hls2
          have HY2 : Hid (y + DY = Y + (s + 1) * DY) := Lib.hid (by rw [Nat.add_mul, Nat.one_mul]; have := HY.out; omega)
          have HM := Lib.hid hls2
          clear hls hls2
          go_wp2_with fail
          go_roundw
          case rel => exact ⟨s + 1, y + DY, by go_num, by go_num, HY2, by omega, hs2, HM.out, by first | rfl | trivial⟩
          case measure => simp [intOf]; omega
        · have HCY : Hid (s = cntP Y DY h) := Lib.hid (cntP_of HXY.out.2.1 hls (by have := HY.out; omega) HXY.out.2.2.2)
          clear hls HY hy
          by_cases ht0 : t = 0
          · obtain rfl := ht0
            go_wp2_with fail
            go_ret2
            exact ⟨by rw [szP, if_pos (by simp only; rw [← HCX.out]; exact .inl rfl)]; rfl, HB1.out⟩
          · by_cases hs0 : s = 0
            · obtain rfl := hs0
              have e1 : ((t : Int) == 0) = false := by simp; omega
              go_wp2_with fail
              go_ret2
              exact ⟨by rw [szP, if_pos (by simp only; rw [← HCY.out]; exact .inr rfl)]; rfl, HB1.out⟩
            · have e1 : ((t : Int) == 0) = false := by simp; omega
              have e2 : ((s : Int) == 0) = false := by simp; omega
              go_wp2_with fail
              go_ret2
              exact ⟨by rw [szP, if_neg (by simp only; rw [← HCX.out, ← HCY.out]; omega)]; simp only [← HCX.out, ← HCY.out]; rfl, HB1.out⟩

end Go.Proofs.YtkiibhpmembcgaaDoor
