/- The contracts of the reference's small functions on shapes: Channels, rowBytes, step, KindOf, PixelBytes; and of the laws' shapeOf and passOf. -/
import Derived.Test.YtkiibhpmembcgaaDoorPsSize
import Derived.Test.YtkiibhpmembcgaaDoorInts
import Derived.StillTailTactics
import Derived.Deep.QuietTactic
import Derived.BigQuiet
namespace Go.Proofs.YtkiibhpmembcgaaDoor
open Go.ChangeShapes Go.WideShapes Go.ChangeAt Go.RowKit Go.IntWalk

/-- A shape as a value. -/
def shV (W H d c : Nat) (laced : Bool) : Value := .agg #[.int .i64 (W : Int), .int .i64 (H : Int), .int .i64 (d : Int), .int .i64 (c : Int), .bool laced]
def shK (W H d c : Nat) (laced : Bool) : Array Value := #[.int .i64 (W : Int), .int .i64 (H : Int), .int .i64 (d : Int), .int .i64 (c : Int), .bool laced]
structure ShAt (w : World) (b W H d c : Nat) (laced : Bool) : Prop where
  c0 : w.cell? ⟨b, 0, none⟩ = some (.int .i64 (W : Int))
  c1 : w.cell? ⟨b, 1, none⟩ = some (.int .i64 (H : Int))
  c2 : w.cell? ⟨b, 2, none⟩ = some (.int .i64 (d : Int))
  c3 : w.cell? ⟨b, 3, none⟩ = some (.int .i64 (c : Int))
  c4 : w.cell? ⟨b, 4, none⟩ = some (.bool laced)
theorem ShAt.of_row {w : World} {b W H d c : Nat} {laced : Bool} {T : TypeId} (h : w.heap[b]? = some (.cells (shK W H d c laced) T (0, 0))) : ShAt w b W H d c laced :=
  ⟨(cell_of_row w b 0 _ _ _ h).trans rfl, (cell_of_row w b 1 _ _ _ h).trans rfl, (cell_of_row w b 2 _ _ _ h).trans rfl, (cell_of_row w b 3 _ _ _ h).trans rfl, (cell_of_row w b 4 _ _ _ h).trans rfl⟩
theorem ShAt.kept {w w' : World} {b W H d c : Nat} {laced : Bool} (h : ShAt w b W H d c laced) (hk : w'.heap[b]? = w.heap[b]?) : ShAt w' b W H d c laced :=
  ⟨(World.cell?_of_block (w := w) hk).trans h.c0, (World.cell?_of_block (w := w) hk).trans h.c1, (World.cell?_of_block (w := w) hk).trans h.c2, (World.cell?_of_block (w := w) hk).trans h.c3, (World.cell?_of_block (w := w) hk).trans h.c4⟩
/-- A shape is put into a block. -/
theorem boxed (w : World) (W H d c : Nat) (laced : Bool) : ∃ w1, w1 = w.alloc (.cells (shK W H d c laced) 27) ∧ Below w.heap.size w w1 ∧ w.heap.size < w1.heap.size ∧ w1.heap[w.heap.size]? = some (.cells (shK W H d c laced) 27 (0, 0)) ∧ ShAt w1 w.heap.size W H d c laced :=
  ⟨_, rfl, (Below.refl _ _).alloc (Nat.le_refl _) _, by rw [size_alloc]; omega, alloc_at w _, ShAt.of_row (alloc_at w _)⟩
theorem OkCD.c {c d : Nat} (h : OkCD c d) : c = 0 ∨ c = 2 ∨ c = 3 ∨ c = 4 ∨ c = 6 := by unfold OkCD at h; omega
theorem channels_any (c : Nat) (hc : c = 0 ∨ c = 2 ∨ c = 3 ∨ c = 4 ∨ c = 6) (w : World) :
    Calls Tryd.prog 18 #[.int .i64 (c : Int)] w fun e w' => e = .returned (.int .i64 (chN c : Int)) ∧ w' = w := by
  rcases hc with rfl | rfl | rfl | rfl | rfl
  all_goals
    go_enter Tryd.func18, Tryd.ntmps18
    go_wp2_with fail
    go_ret
    exact ⟨rfl, rfl⟩
set_option maxHeartbeats 800000 in
theorem rowBytes_any (W H d c wd : Nat) (laced : Bool) (ok : OkCD c d) (hw : wd ≤ 40) (w : World) :
    Calls Tryd.prog 14 #[shV W H d c laced, .int .i64 (wd : Int)] w fun e w' => e = .returned (.int .i64 (rbN c d wd : Int)) ∧ Below w.heap.size w w' := by
  obtain ⟨w1, hw1, hb1, hlt, hrow, hsh⟩ := boxed w W H d c laced
  obtain ⟨c0, c1, c2, c3, c4⟩ := hsh
  obtain ⟨N, hN⟩ : ∃ N, N = w.heap.size := ⟨_, rfl⟩
  have hch := ok.ch
  have hd := ok.d
  obtain ⟨k, hk⟩ : ∃ k, k = chN c := ⟨_, rfl⟩
  obtain ⟨p, hp⟩ : ∃ p, p = wd * k := ⟨_, rfl⟩
  obtain ⟨q, hq⟩ : ∃ q, q = p * d := ⟨_, rfl⟩
  obtain ⟨r, hr⟩ : ∃ r, r = q + 7 := ⟨_, rfl⟩
  obtain ⟨n, hn⟩ : ∃ n, n = r / 8 := ⟨_, rfl⟩
  have hpb : p ≤ 40 * 4 := by rw [hp]; exact Nat.mul_le_mul hw (by omega)
  have hqb : q ≤ 40 * 4 * 16 := by rw [hq]; exact Nat.mul_le_mul hpb (by omega)
  have HR : Hid (rbN c d wd = n) := Lib.hid (by rw [hn, hr, hq, hp, hk]; rfl)
  have m1 : (wd : Int) * (k : Int) = (p : Int) := by rw [hp]; rfl
  have m2 : (p : Int) * (d : Int) = (q : Int) := by rw [hq]; rfl
  have m3 : (q : Int) + 7 = (r : Int) := by rw [hr]; rfl
  have m4 : (r : Int).tdiv 8 = (n : Int) := by rw [hn]; rfl
  have m5 : (r : Int) / 8 = (n : Int) := by rw [hn]; rfl
  have v1 : IntKind.i64.wrap (p : Int) = (p : Int) := i64_in _ ⟨by omega, by omega⟩
  have v2 : IntKind.i64.wrap (q : Int) = (q : Int) := i64_in _ ⟨by omega, by omega⟩
  have v3 : IntKind.i64.wrap (r : Int) = (r : Int) := i64_in _ ⟨by omega, by omega⟩
  have v4 : IntKind.i64.wrap (n : Int) = (n : Int) := i64_in _ ⟨by omega, by omega⟩
  have HK := Lib.hid hk
  have HB1 := Lib.hid hb1
  have HW1 := Lib.hid hw1
  have HN := Lib.hid hN
  rw [← hN] at c2 c3 hlt
  clear hk hp hq hr hn hb1 hw1 hrow c0 c1 c4 hN
  unfold shV
  go_enter Tryd.func14, Tryd.ntmps14
  go_upto_region 1 with fail
  rw [← HN.out]
  change Code.wp _ _ _ _ (w.alloc (.cells (shK W H d c laced) 27))
  rw [← HW1.out]
  have HC : ∀ w, Calls Tryd.prog 18 #[.int .i64 (c : Int)] w fun e w' => e = .returned (.int .i64 (k : Int)) ∧ w' = w := by rw [HK.out]; exact channels_any c ok.c
  go_quiet ((go_at_call 18; exact Calls.quiet_of_same (HC _)))
  go_wp2_with fail
  go_ret
  exact ⟨by rw [HR.out]; rfl, bdrewN HB1.out _⟩
set_option maxHeartbeats 800000 in
theorem step_any (W H d c : Nat) (laced : Bool) (ok : OkCD c d) (w : World) :
    Calls Tryd.prog 16 #[shV W H d c laced] w fun e w' => e = .returned (.int .i64 (stN c d : Int)) ∧ Below w.heap.size w w' := by
  obtain ⟨w1, hw1, hb1, hlt, hrow, hsh⟩ := boxed w W H d c laced
  obtain ⟨N, hN⟩ : ∃ N, N = w.heap.size := ⟨_, rfl⟩
  have hch := ok.ch
  have hd := ok.d
  obtain ⟨k, hk⟩ : ∃ k, k = chN c := ⟨_, rfl⟩
  obtain ⟨q, hq⟩ : ∃ q, q = k * d := ⟨_, rfl⟩
  obtain ⟨n, hn⟩ : ∃ n, n = q / 8 := ⟨_, rfl⟩
  have hqb : q ≤ 4 * 16 := by rw [hq]; exact Nat.mul_le_mul (by omega) (by omega)
  have HR : Hid (stN c d = max 1 n) := Lib.hid (by rw [hn, hq, hk]; rfl)
  have m2 : (k : Int) * (d : Int) = (q : Int) := by rw [hq]; rfl
  have m4 : (q : Int).tdiv 8 = (n : Int) := by rw [hn]; rfl
  have m5 : (q : Int) / 8 = (n : Int) := by rw [hn]; rfl
  have v2 : IntKind.i64.wrap (q : Int) = (q : Int) := i64_in _ ⟨by omega, by omega⟩
  have v4 : IntKind.i64.wrap (n : Int) = (n : Int) := i64_in _ ⟨by omega, by omega⟩
  have HK := Lib.hid hk
  have HB1 := Lib.hid hb1
  have HW1 := Lib.hid hw1
  have HN := Lib.hid hN
  obtain ⟨c0, c1, c2, c3, c4⟩ := hsh
  rw [← hN] at c2 c3 hlt
  clear hk hq hn hb1 hw1 hrow c0 c1 c4 hN
  unfold shV
  go_enter Tryd.func16, Tryd.ntmps16
  go_upto_region 1 with fail
  rw [← HN.out]
  change Code.wp _ _ _ _ (w.alloc (.cells (shK W H d c laced) 27))
  rw [← HW1.out]
  go_region_with (go_at_call 18; refine (channels_any c ok.c _).mono ?_; rintro e w2 ⟨rfl, rfl⟩; rw [← HK.out])
  all_goals go_wp2_with fail
  all_goals go_ret
  all_goals refine ⟨ret_int ?_, ?_⟩
  all_goals first | exact bdrew HB1.out | exact HB1.out | skip
  all_goals
    rw [HR.out]
    simp only [Nat.max_def]
    repeat' split
    all_goals omega
theorem kindOf_any (c d : Nat) (ok : OkCD c d) (cl : Bool) (w : World) :
    Calls Tryd.prog 13 #[.int .i64 (c : Int), .int .i64 (d : Int), .bool cl] w fun e w' => e = .returned (.int .i64 (kindN c d cl : Int)) ∧ w' = w := by
  rcases ok with ⟨rfl, rfl | rfl | rfl | rfl | rfl⟩ | ⟨rfl, rfl | rfl | rfl | rfl⟩ | ⟨rfl | rfl | rfl, rfl | rfl⟩
  all_goals
    cases cl
    all_goals
      go_enter Tryd.func13, Tryd.ntmps13
      go_wp2_with fail
      go_ret
      exact ⟨rfl, rfl⟩
theorem passOf_any (laced : Bool) (z : Nat) (hz : z < 256) (w : World) :
    Calls Tryd.prog 6 #[.bool laced, .int .u8 (z : Int)] w fun e w' => e = .returned (.int .i64 ((if laced then z % 7 else 0 : Nat) : Int)) ∧ w' = w := by
  obtain ⟨p, hp⟩ : ∃ p, p = z % 7 := ⟨_, rfl⟩
  have m1 : (z : Int).tmod 7 = (p : Int) := by rw [hp]; rfl
  have m2 : (z : Int) % 7 = (p : Int) := by rw [hp]; rfl
  have v1 : IntKind.i64.wrap (z : Int) = (z : Int) := i64_in _ ⟨by omega, by omega⟩
  have v2 : IntKind.i64.wrap (p : Int) = (p : Int) := i64_in _ ⟨by omega, by omega⟩
  rw [← hp]
  clear hp
  cases laced
  all_goals
    go_enter Tryd.func6, Tryd.ntmps6
    go_wp2_with fail
    go_ret
    exact ⟨rfl, rfl⟩
/-- How many columns, rows: up to 40. -/
def upTo (z : Nat) : Nat := 1 + z % 40
theorem upTo_le (z : Nat) : 1 ≤ upTo z ∧ upTo z ≤ 40 := by unfold upTo; omega
set_option maxRecDepth 100000 in
theorem shapeOf_any (c d x y : Nat) (laced : Bool) (hx : x < 256) (hy : y < 256) (w : World) :
    Calls Tryd.prog 5 #[.int .i64 (c : Int), .int .i64 (d : Int), .int .u8 (x : Int), .int .u8 (y : Int), .bool laced] w fun e w' => e = .returned (shV (upTo x) (upTo y) d c laced) ∧ Below w.heap.size w w' := by
  obtain ⟨x0, hx0⟩ : ∃ x0, x0 = x % 40 := ⟨_, rfl⟩
  obtain ⟨y0, hy0⟩ : ∃ y0, y0 = y % 40 := ⟨_, rfl⟩
  obtain ⟨W, hW⟩ : ∃ W, W = upTo x := ⟨_, rfl⟩
  obtain ⟨H, hH⟩ : ∃ H, H = upTo y := ⟨_, rfl⟩
  have t1 : (x : Int).tmod 40 = (x0 : Int) := by rw [hx0]; rfl
  have t1' : (x : Int) % 40 = (x0 : Int) := by rw [hx0]; rfl
  have t2 : (y : Int).tmod 40 = (y0 : Int) := by rw [hy0]; rfl
  have t2' : (y : Int) % 40 = (y0 : Int) := by rw [hy0]; rfl
  have s1 : (1 : Int) + (x0 : Int) = (W : Int) := by rw [hW, upTo]; omega
  have s2 : (1 : Int) + (y0 : Int) = (H : Int) := by rw [hH, upTo]; omega
  have v1 : IntKind.i64.wrap (x : Int) = (x : Int) := i64_in _ ⟨by omega, by omega⟩
  have v2 : IntKind.i64.wrap (y : Int) = (y : Int) := i64_in _ ⟨by omega, by omega⟩
  have v3 : IntKind.i64.wrap (x0 : Int) = (x0 : Int) := i64_in _ ⟨by omega, by omega⟩
  have v4 : IntKind.i64.wrap (y0 : Int) = (y0 : Int) := i64_in _ ⟨by omega, by omega⟩
  have v5 : IntKind.i64.wrap (W : Int) = (W : Int) := i64_in _ ⟨by have := upTo_le x; omega, by have := upTo_le x; omega⟩
  have v6 : IntKind.i64.wrap (H : Int) = (H : Int) := i64_in _ ⟨by have := upTo_le y; omega, by have := upTo_le y; omega⟩
  rw [← hW, ← hH]
  clear hx0 hy0 hW hH
  go_enter Tryd.func5, Tryd.ntmps5
  go_wp2_with fail
  refine bodyPost_ret (v := shV W H d c laced) (by simp [results, Tryd.results5, go_sem]; rfl) rfl ⟨rfl, ?_⟩
  repeat (first | exact Below.refl _ _ | refine Below.alloc ?_ (by first | exact Nat.le_refl _ | ((repeat (first | rw [size_alloc] | rw [size_set])) <;> omega)) _ | refine Below.setCell ?_ (by first | exact Nat.le_refl _ | ((repeat (first | rw [size_alloc] | rw [size_set])) <;> omega)) _)
end Go.Proofs.YtkiibhpmembcgaaDoor
