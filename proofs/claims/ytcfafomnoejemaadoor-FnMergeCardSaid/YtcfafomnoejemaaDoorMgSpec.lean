/- The contracts of the reference's PixelBytes, PartOf and Size, and of the laws' filled. -/
import Derived.Test.YtcfafomnoejemaaDoorMgMath
import Derived.Test.YtcfafomnoejemaaDoorB0
import Derived.LoopTactic
import Derived.Deep.DeepCutAuto
import Derived.Deep.CutBlock
import Derived.Outline
namespace Go.Proofs.YtcfafomnoejemaaDoor
open Go.ChangeShapes Go.WideShapes Go.ChangeAt Go.RowKit Go.IntWalk

theorem seven {k : Nat} (h1 : 1 ≤ k) (h7 : k ≤ 7) : k = 1 ∨ k = 2 ∨ k = 3 ∨ k = 4 ∨ k = 5 ∨ k = 6 ∨ k = 7 := by omega
set_option maxHeartbeats 1600000 in
theorem pixelBytes_any (k : Nat) (h1 : 1 ≤ k) (h7 : k ≤ 7) (w : World) :
    Calls Tryd.prog 4 #[.int .i64 (k : Int)] w fun e w' => e = .returned (.int .i64 (nB k : Int)) ∧ w = w' := by
  rcases seven h1 h7 with rfl | rfl | rfl | rfl | rfl | rfl | rfl
  all_goals
    go_enter Tryd.func4, Tryd.ntmps4
    go_wp2_with fail
    go_ret
    exact ⟨rfl, rfl⟩

theorem sevenp {p : Nat} (h7 : p < 7) : p = 0 ∨ p = 1 ∨ p = 2 ∨ p = 3 ∨ p = 4 ∨ p = 5 ∨ p = 6 := by omega
def ptV (q : Pt) : Value := .agg #[.int .i64 (q.X : Int), .int .i64 (q.Y : Int), .int .i64 (q.DX : Int), .int .i64 (q.DY : Int)]
set_option maxHeartbeats 3200000 in
set_option maxRecDepth 100000 in
theorem partOf_any (p : Nat) (h7 : p < 7) (w : World) :
    Calls Tryd.prog 5 #[.bool true, .int .i64 (p : Int)] w fun e w' => e = .returned (ptV (ptOf p)) ∧ Below w.heap.size w w' := by
  rcases sevenp h7 with rfl | rfl | rfl | rfl | rfl | rfl | rfl
  all_goals
    go_enter Tryd.func5, Tryd.ntmps5
    go_wp2_with fail
    refine bodyPost_ret (v := ptV (ptOf _)) (by simp [results, Tryd.results5, go_sem]; rfl) rfl ⟨rfl, ?_⟩
    repeat (first | exact Below.refl _ _ | refine Below.alloc ?_ (by first | exact Nat.le_refl _ | ((repeat (first | rw [size_alloc] | rw [size_set])) <;> omega)) _ | refine Below.setCell ?_ (by first | exact Nat.le_refl _ | ((repeat (first | rw [size_alloc] | rw [size_set])) <;> omega)) _)

def SizeEnd (q : Pt) (wd h : Nat) (w : World) (e : Ending) (w' : World) : Prop :=
  ∃ pw ph : Nat, e = .returned (.tuple #[.int .i64 (pw : Int), .int .i64 (ph : Int)]) ∧ (∀ x, x < pw → q.X + x * q.DX < wd) ∧ (∀ y, y < ph → q.Y + y * q.DY < h) ∧ pw ≤ 40 ∧ ph ≤ 40 ∧ Below w.heap.size w w'
theorem step_lt {a d t wd z : Nat} (hz : z = a + t * d) (hl : z < wd) (h : ∀ x, x < t → a + x * d < wd) : ∀ x, x < t + 1 → a + x * d < wd := fun x hx => by
  rcases Nat.lt_or_ge x t with h' | h'
  · exact h x h'
  · obtain rfl : x = t := by omega
    omega
theorem steps_le {a d t wd : Nat} (hd : 1 ≤ d) (hw : wd ≤ 40) (h : ∀ x, x < t → a + x * d < wd) : t ≤ 40 := by
  rcases Nat.lt_or_ge 40 t with h' | h'
  · have h1 := h 40 h'
    have h2 : 40 * 1 ≤ 40 * d := Nat.mul_le_mul_left 40 hd
    omega
  · exact h'
set_option maxHeartbeats 1600000 in
theorem size_any (q : Pt) (ok : PtOk q) (wd h : Nat) (hw : wd ≤ 40) (hh : h ≤ 40) (w : World) :
    Calls Tryd.prog 6 #[ptV q, .int .i64 (wd : Int), .int .i64 (h : Int)] w (SizeEnd q wd h w) := by
  obtain ⟨X, Y, DX, DY⟩ := q
  obtain ⟨o1, o2, o3, o4, o5, o6⟩ := ok
  simp only at o1 o2 o3 o4 o5 o6
  have E : ptV ⟨X, Y, DX, DY⟩ = .agg #[.int .i64 (X : Int), .int .i64 (Y : Int), .int .i64 (DX : Int), .int .i64 (DY : Int)] := rfl
  rw [E]
  clear E
  obtain ⟨w1, hw1⟩ : ∃ w1, w1 = w.alloc (.cells #[.int .i64 (X : Int), .int .i64 (Y : Int), .int .i64 (DX : Int), .int .i64 (DY : Int)] 25) := ⟨_, rfl⟩
  have c0 : w1.cell? ⟨w.heap.size, 0, none⟩ = some (.int .i64 (X : Int)) := by rw [hw1]; simp
  have c1 : w1.cell? ⟨w.heap.size, 1, none⟩ = some (.int .i64 (Y : Int)) := by rw [hw1]; simp
  have c2 : w1.cell? ⟨w.heap.size, 2, none⟩ = some (.int .i64 (DX : Int)) := by rw [hw1]; simp
  have c3 : w1.cell? ⟨w.heap.size, 3, none⟩ = some (.int .i64 (DY : Int)) := by rw [hw1]; simp
  have HB1 : Hid (Below w.heap.size w w1) := Lib.hid (hw1 ▸ (Below.refl _ _).alloc (Nat.le_refl _) _)
  have HW1 := Lib.hid hw1
  clear hw1
  go_enter Tryd.func6, Tryd.ntmps6
  go_upto_region 1 with fail
  rw [← HW1.out]
  go_upto_region 3 with fail
  go_loopw [8, 10] (fun c x wr => ∃ t z : Nat, c = .int .i64 (t : Int) ∧ x = .int .i64 (z : Int) ∧ Hid (z = X + t * DX) ∧ z ≤ 60 ∧ t ≤ 40 ∧ (∀ s, s < t → X + s * DX < wd) ∧ w1 = wr) (fun _ x _ => wd - (intOf x).toNat)
  case atStart => exact ⟨0, X, rfl, rfl, Lib.hid (by omega), by omega, by omega, fun s hs => absurd hs (by omega), rfl⟩
  case round =>
    obtain ⟨t, z, rfl, rfl, HZ, hz, ht, hlt, rfl⟩ := hrel
    by_cases hlz : z < wd
    · have hlt2 := step_lt HZ.out hlz hlt
      have ht2 := steps_le o3 hw hlt2
      have HZ2 : Hid (z + DX = X + (t + 1) * DX) := Lib.hid (by rw [Nat.add_mul, Nat.one_mul]; have := HZ.out; omega)
      have HL := Lib.hid hlt2
      clear hlt hlt2
      go_wp2_with fail
      go_roundw
      case rel => exact ⟨t + 1, z + DX, by go_num, by go_num, HZ2, by omega, ht2, HL.out, by first | rfl | trivial⟩
      case measure => simp [intOf]; omega
    · have HL := Lib.hid hlt
      clear hlt HZ hz
      go_upto_region 7 with fail
      go_loopw [9, 11] (fun c x wr => ∃ t z : Nat, c = .int .i64 (t : Int) ∧ x = .int .i64 (z : Int) ∧ Hid (z = Y + t * DY) ∧ z ≤ 60 ∧ t ≤ 40 ∧ (∀ s, s < t → Y + s * DY < h) ∧ w1 = wr) (fun _ x _ => h - (intOf x).toNat)
      case atStart => exact ⟨0, Y, rfl, rfl, Lib.hid (by omega), by omega, by omega, fun s hs => absurd hs (by omega), rfl⟩
      case round =>
        obtain ⟨s, y, rfl, rfl, HY, hy, hs, hls, rfl⟩ := hrel
        by_cases hly : y < h
        · have hls2 := step_lt HY.out hly hls
          have hs2 := steps_le o5 hh hls2
          have HY2 : Hid (y + DY = Y + (s + 1) * DY) := Lib.hid (by rw [Nat.add_mul, Nat.one_mul]; have := HY.out; omega)
          have HM := Lib.hid hls2
          clear hls hls2
          go_wp2_with fail
          go_roundw
          case rel => exact ⟨s + 1, y + DY, by go_num, by go_num, HY2, by omega, hs2, HM.out, by first | rfl | trivial⟩
          case measure => simp [intOf]; omega
        · have HM := Lib.hid hls
          clear hls HY hy
          by_cases ht0 : t = 0
          · obtain rfl := ht0
            go_wp2_with fail
            go_ret2
            exact ⟨0, 0, rfl, fun x hx => absurd hx (by omega), fun x hx => absurd hx (by omega), by omega, by omega, HB1.out⟩
          · by_cases hs0 : s = 0
            · obtain rfl := hs0
              have e1 : ((t : Int) == 0) = false := by simp; omega
              go_wp2_with fail
              go_ret2
              exact ⟨0, 0, rfl, fun x hx => absurd hx (by omega), fun x hx => absurd hx (by omega), by omega, by omega, HB1.out⟩
            · have e1 : ((t : Int) == 0) = false := by simp; omega
              have e2 : ((s : Int) == 0) = false := by simp; omega
              go_wp2_with fail
              go_ret2
              exact ⟨t, s, rfl, HL.out, HM.out, ht, hs, HB1.out⟩

def FillEnd (l : List UInt8) (n : Nat) (w : World) (e : Ending) (w' : World) : Prop :=
  ∃ v, e = .returned v ∧ v ≠ .slice none 0 0 ∧ OwnB w' w.heap.size v (fillL l n) ∧ Below w.heap.size w w'
set_option maxHeartbeats 1600000 in
theorem filled_any (m cap n : Nat) (ad : Option Addr) (l : List UInt8) (w : World) (hl : Hid (l.length = m)) (hr : RB w ad l) (hn : n ≤ 100000) (hm : m ≤ 2147483647) :
    Calls Tryd.prog 7 #[.slice ad m cap, .int .i64 (n : Int)] w (FillEnd l n w) := by
  go_enter Tryd.func7, Tryd.ntmps7
  go_upto_region 3 with fail
  go_loopw [5, 9] (fun v i wr => ∃ t : Nat, t ≤ n ∧ i = .int .i64 (t : Int) ∧ v ≠ .slice none 0 0 ∧ OwnB wr w.heap.size v (fillL l t) ∧ Below w.heap.size w wr) (fun _ i _ => n - (intOf i).toNat)
  case atStart => exact ⟨0, Nat.zero_le _, rfl, (by intro h; cases h), OwnB.empty w w.heap.size (Nat.le_refl _), (Below.refl _ _).alloc (Nat.le_refl _) _⟩
  case round =>
    obtain ⟨t, ht, rfl, hnv, hown, hbel⟩ := hrel
    by_cases hlt : t < n
    · obtain ⟨d, hd⟩ : ∃ d : UInt8, d = fillAt l t := ⟨_, rfl⟩
      have NX : Hid (fillL l (t + 1) = fillL l t ++ [d]) := Lib.hid (by rw [fillL_next, hd])
      have hfl : (fillL l t).length = t := fillL_len l t
      obtain ⟨f, hf⟩ : ∃ f, f = fillL l t := ⟨_, rfl⟩
      rw [← hf] at hown NX hfl
      have HFL := Lib.hid hfl
      have hfl2 : f.length ≤ t := Nat.le_of_eq hfl
      have HNV := Lib.hid hnv
      clear hf hfl hnv
      have hbs := hbel.size
      by_cases h0 : m = 0
      · subst h0
        have e1 : IntKind.u8.wrap (t : Int) = (d.toNat : Int) := by
          rw [hd, fillAt, if_pos hl.out, IntKind.wrap_u8]
          simp
        clear hd
        go_wp2_with (at_builtin; refine wpList_append_bytes rfl (.tmp 15) (.tmp 18) rfl w.heap.size _ f [d] rfl (hown.alloc _) (some ⟨wr.heap.size, 0, none⟩) 1 1 rfl rfl (RB.one wr d 5) (by intro h; cases h) (by omega) (by simp; omega) ?_; intro v' w1 ho1 hg1 hb1 hnl1; clear hg1)
        have hb2 : Below w.heap.size w w1 := (hbel.alloc (by exact hbs) _).trans hb1
        rw [← NX.out] at ho1
        have hnv2 : v' ≠ .slice none 0 0 := fun e => HNV.out ((hnl1.1 e).1)
        go_roundw
        case rel => exact ⟨t + 1, by omega, by go_num, hnv2, ho1, hb2⟩
        case measure => simp [intOf]; omega
      · obtain ⟨b, o, rfl, -⟩ := hr (by have := hl.out; intro e; rw [e] at this; simp at this; omega)
        obtain ⟨r, hre⟩ : ∃ r, r = t % m := ⟨_, rfl⟩
        have hrm : r < m := hre ▸ Nat.mod_lt _ (by omega)
        obtain ⟨x, HX, hx⟩ := (hr.below hbel).at r (by have := hl.out; omega)
        have ed : d = x := by
          rw [hd, fillAt, if_neg (by rw [hl.out]; exact h0), hl.out, ← hre]
          simp only [List.getD, HX.out, Option.getD_some]
        subst ed
        have e1 : ((m : Int) == 0) = false := by simp; omega
        have e2 : (t : Int).tmod (m : Int) = (r : Int) := by rw [hre]; rfl
        have e3 : (t : Int) % (m : Int) = (r : Int) := by rw [hre]; rfl
        have e4 : IntKind.i64.wrap (r : Int) = (r : Int) := i64_in _ ⟨by omega, by omega⟩
        clear hd hre
        go_wp2_with (at_builtin; refine wpList_append_bytes rfl (.tmp 20) (.tmp 28) rfl w.heap.size _ f [d] rfl (hown.alloc _) (some ⟨wr.heap.size, 0, none⟩) 1 1 rfl rfl (RB.one wr d 5) (by intro h; cases h) (by omega) (by simp; omega) ?_; intro v' w1 ho1 hg1 hb1 hnl1; clear hg1)
        have hb2 : Below w.heap.size w w1 := (hbel.alloc (by exact hbs) _).trans hb1
        rw [← NX.out] at ho1
        have hnv2 : v' ≠ .slice none 0 0 := fun e => HNV.out ((hnl1.1 e).1)
        go_roundw
        case rel => exact ⟨t + 1, by omega, by go_num, hnv2, ho1, hb2⟩
        case measure => simp [intOf]; omega
    · obtain rfl : n = t := by omega
      go_wp2_with fail
      go_ret
      exact ⟨_, rfl, hnv, hown, hbel⟩
end Go.Proofs.YtcfafomnoejemaaDoor
