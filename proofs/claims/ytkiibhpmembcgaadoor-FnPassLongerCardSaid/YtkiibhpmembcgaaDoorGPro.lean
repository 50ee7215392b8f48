/- readImagePass ahead of the loop over the rows: the walks. Printed by gen/pro.py. The picture's making in readImagePass, kind by kind. Printed by gen/pro13.py. The picture's making in readImagePass, kind by kind. Printed by gen/pro13.py. -/
import Derived.Test.YtkiibhpmembcgaaDoorProA
namespace Go.Proofs.YtkiibhpmembcgaaDoor
open Go.ChangeShapes Go.WideShapes Go.ChangeAt Go.RowKit Go.IntWalk

set_option maxRecDepth 1000000 in
set_option maxHeartbeats 6400000 in
theorem p11_any (b W H : Nat) (r : Value) (ps : Int) (a : Act) (w : World) (Q : Exit → Act → World → Prop) (h : Pre0 b r ps a) (c3 : w.cell? ⟨b, 3, none⟩ = some (.int .i64 (W : Int))) (c4 : w.cell? ⟨b, 4, none⟩ = some (.int .i64 (H : Int)))
    (hQ : ∀ a', Pre1 b r ps W H a' → Q .normal a' w.drew) : (pc 11).wp Tryd.prog Q a w := by
  obtain ⟨g, rfl⟩ := h.lit
  have HQ := Lib.hid hQ
  clear h hQ
  conv => arg 2; whnf
  refine abs_frame _ (fun A hA => ?_)
  have hsz : A.tmps.size = 1540 := by rw [hA]; kernel_rfl
  have h0 : A.tmps.getD 0 undef = (.pointer (some ⟨b, 0, none⟩)) := by rw [hA]; rfl
  have HA := Lib.hid hA
  clear hA
  have gne := @gd_ne
  have geq := @gd_eq
  refine region_still_all (by kernel_rfl) (by kernel_rfl) (fun wd hwd => ?_)
  have c3' := cell_drew (w := w) hwd c3
  have c4' := cell_drew (w := w) hwd c4
  have HWD := Lib.hid hwd
  clear hwd
  refine still_at (some 124) (v := ?_) rfl rfl ?_ ?_
  rotate_left
  · refine ⟨?_⟩
    go_simp
    first | done | with_reducible rfl
  refine still_at (some 125) (v := ?_) rfl rfl ?_ ?_
  rotate_left
  · refine ⟨?_⟩
    go_simp
    first | done | with_reducible rfl
  refine still_at (some 126) (v := ?_) rfl rfl ?_ ?_
  rotate_left
  · refine ⟨?_⟩
    go_simp
    first | done | with_reducible rfl
  refine still_at (some 127) (v := ?_) rfl rfl ?_ ?_
  rotate_left
  · refine ⟨?_⟩
    go_simp
    first | done | with_reducible rfl
  refine still_at (some 128) (v := ?_) rfl rfl ?_ ?_
  rotate_left
  · refine ⟨?_⟩
    go_simp
    first | done | with_reducible rfl
  refine still_at (some 129) (v := ?_) rfl rfl ?_ ?_
  rotate_left
  · refine ⟨?_⟩
    go_simp
    first | done | with_reducible rfl
  refine still_at (some 130) (v := ?_) rfl rfl ?_ ?_
  rotate_left
  · refine ⟨?_⟩
    go_simp
    first | done | with_reducible rfl
  refine still_at (some 131) (v := ?_) rfl rfl ?_ ?_
  rotate_left
  · refine ⟨?_⟩
    go_simp
    first | done | with_reducible rfl
  refine still_at (some 20) (v := ?_) rfl rfl ?_ ?_
  rotate_left
  · refine ⟨?_⟩
    go_simp
    first | done | with_reducible rfl
  refine still_at (some 21) (v := ?_) rfl rfl ?_ ?_
  rotate_left
  · refine ⟨?_⟩
    go_simp
    first | done | with_reducible rfl
  refine still_nil ?_
  clear c3' c4' gne geq hsz h0
  rw [HA.out, HWD.out]
  clear HA HWD A wd
  simp only [Act.put, List.setIfInBounds_toArray, List.set_cons_succ, List.set_cons_zero]
  exact HQ.out _ ⟨rfl, rfl, rfl, rfl, rfl, rfl, rfl, rfl, rfl, rfl, rfl, rfl, rfl, rfl, rfl, rfl⟩
/-- The frame of a return with neither a picture nor an error; with a picture. -/
structure NilOut (a : Act) : Prop where
  dfr : a.defers = []
  s8 : a.tmps.getD 8 undef = .nilIface
  s9 : a.tmps.getD 9 undef = .nilIface
structure GoodOut (img : Value) (a : Act) : Prop where
  dfr : a.defers = []
  s8 : a.tmps.getD 8 undef = img
  s9 : a.tmps.getD 9 undef = .nilIface
set_option maxRecDepth 1000000 in
set_option maxHeartbeats 6400000 in
theorem p12_plain (b W H : Nat) (r : Value) (ps : Int) (a : Act) (w : World) (Q : Exit → Act → World → Prop) (h : Pre1 b r ps W H a) (c : w.cell? ⟨b, 778, none⟩ = some (.int .i64 0))
    (hQ : ∀ a', Pre1 b r ps W H a' → Q .normal a' w) : (pc 12).wp Tryd.prog Q a w := by
  obtain ⟨g, rfl⟩ := h.lit
  clear h
  conv => arg 2; whnf
  go_wp2_with fail
  exact ⟨rfl, rfl, rfl, rfl, rfl, rfl, rfl, rfl, rfl, rfl, rfl, rfl, rfl, rfl, rfl, rfl⟩
theorem cntP_int {X D W : Nat} (hX : X < D) : ∃ i1 i2 : Int, (W : Int) - (X : Int) = i1 ∧ i1 + (D : Int) = i2 ∧ i2 - 1 = ((W + D - 1 - X : Nat) : Int) := by
  refine ⟨_, _, rfl, rfl, ?_⟩
  omega
set_option maxRecDepth 1000000 in
set_option maxHeartbeats 6400000 in
theorem p12_laced (b W H p : Nat) (r : Value) (a : Act) (w : World) (Q : Exit → Act → World → Prop) (h : Pre1 b r (p : Int) W H a) (c : w.cell? ⟨b, 778, none⟩ = some (.int .i64 1)) (hI : Inter w) (hp : p < 7) (hw : W ≤ 40) (hh : H ≤ 40)
    (hN : (cntP (ptOf p).X (ptOf p).DX W = 0 ∨ cntP (ptOf p).Y (ptOf p).DY H = 0) → ∀ a' w', NilOut a' → Chg (fun _ => False) w w' → Q .ret a' w')
    (hQ : ¬ (cntP (ptOf p).X (ptOf p).DX W = 0 ∨ cntP (ptOf p).Y (ptOf p).DY H = 0) → ∀ a' w', Pre1 b r (p : Int) (cntP (ptOf p).X (ptOf p).DX W) (cntP (ptOf p).Y (ptOf p).DY H) a' → Chg (fun _ => False) w w' → Q .normal a' w') : (pc 12).wp Tryd.prog Q a w := by
  obtain ⟨G, o, g0, gp⟩ := hI
  obtain ⟨x0, x1, x2, x3⟩ := gp p hp
  clear gp
  have ok := ptOf_ok p
  have hXY : (ptOf p).X < (ptOf p).DX ∧ (ptOf p).Y < (ptOf p).DY := by
    unfold ptOf
    split <;> decide
  obtain ⟨⟨X, Y, DX, DY⟩, hq⟩ : ∃ q, q = ptOf p := ⟨_, rfl⟩
  rw [← hq] at x0 x1 x2 x3 ok hXY hN hQ
  obtain ⟨o1, o2, o3, o4, o5, o6⟩ := ok
  obtain ⟨hX, hY⟩ := hXY
  simp only at x0 x1 x2 x3 o1 o2 o3 o4 o5 o6 hX hY hN hQ
  have hG : G < w.heap.size := World.block_lt_of_cell? w _ x0
  obtain ⟨z, hz⟩ : ∃ z, z = W + DX - 1 - X := ⟨_, rfl⟩
  obtain ⟨zy, hzy⟩ : ∃ zy, zy = H + DY - 1 - Y := ⟨_, rfl⟩
  obtain ⟨cw, hcw⟩ : ∃ cw, cw = z / DX := ⟨_, rfl⟩
  obtain ⟨ch, hch⟩ : ∃ ch, ch = zy / DY := ⟨_, rfl⟩
  have ecw : cntP X DX W = cw := by rw [hcw, hz]; rfl
  have ech : cntP Y DY H = ch := by rw [hch, hzy]; rfl
  rw [ecw, ech] at hN hQ
  obtain ⟨i1, i2, e1, e2, e3⟩ := cntP_int (W := W) hX
  obtain ⟨j1, j2, f1, f2, f3⟩ := cntP_int (W := H) hY
  rw [← hz] at e3
  rw [← hzy] at f3
  have t1 : (z : Int).tdiv (DX : Int) = (cw : Int) := by rw [hcw]; rfl
  have t2 : (z : Int) / (DX : Int) = (cw : Int) := by rw [hcw]; rfl
  have t3 : (zy : Int).tdiv (DY : Int) = (ch : Int) := by rw [hch]; rfl
  have t4 : (zy : Int) / (DY : Int) = (ch : Int) := by rw [hch]; rfl
  have hcwb : cw ≤ z := by rw [hcw]; exact Nat.div_le_self _ _
  have hchb : ch ≤ zy := by rw [hch]; exact Nat.div_le_self _ _
  have v1 : IntKind.i64.wrap i1 = i1 := i64_in _ ⟨by omega, by omega⟩
  have v2 : IntKind.i64.wrap i2 = i2 := i64_in _ ⟨by omega, by omega⟩
  have v3 : IntKind.i64.wrap (z : Int) = (z : Int) := i64_in _ ⟨by omega, by omega⟩
  have v4 : IntKind.i64.wrap (cw : Int) = (cw : Int) := i64_in _ ⟨by omega, by omega⟩
  have v5 : IntKind.i64.wrap j1 = j1 := i64_in _ ⟨by omega, by omega⟩
  have v6 : IntKind.i64.wrap j2 = j2 := i64_in _ ⟨by omega, by omega⟩
  have v7 : IntKind.i64.wrap (zy : Int) = (zy : Int) := i64_in _ ⟨by omega, by omega⟩
  have v8 : IntKind.i64.wrap (ch : Int) = (ch : Int) := i64_in _ ⟨by omega, by omega⟩
  have d1 : ((DX : Int) == 0) = false := by simp; omega
  have d2 : ((DY : Int) == 0) = false := by simp; omega
  have d3 : ¬ DX = 0 := by omega
  have d4 : ¬ DY = 0 := by omega
  have p0 : (0 : Int) ≤ (p : Int) := by omega
  have p7 : (p : Int) < 7 := by omega
  obtain ⟨g, rfl⟩ := h.lit
  obtain ⟨w1, hw1⟩ : ∃ w1, w1 = w.alloc (.cells #[.int .i64 (DX : Int), .int .i64 (DY : Int), .int .i64 (X : Int), .int .i64 (Y : Int)] 107) := ⟨_, rfl⟩
  have hb1 : Chg (fun _ => False) w w1 := hw1 ▸ (Chg.refl _ _).alloc _
  have HB1 := Lib.hid hb1
  have HNN := Lib.hid hN
  have HQQ := Lib.hid hQ
  clear h hz hzy hcw hch hq ecw ech hb1 hN hQ hw1 w1 HB1
  conv => arg 2; whnf
  by_cases hc0 : cw = 0
  · subst hc0
    go_wp2_with fail
    refine HNN.out (by simp) _ _ ?_ ?_
    · exact ⟨rfl, rfl, rfl⟩
    · exact (Chg.refl _ _).alloc _
  · have q1 : ((cw : Int) == 0) = false := by simp; omega
    by_cases hc1 : ch = 0
    · subst hc1
      go_wp2_with fail
      refine HNN.out (by simp) _ _ ?_ ?_
      · exact ⟨rfl, rfl, rfl⟩
      · exact (Chg.refl _ _).alloc _
    · have q2 : ((ch : Int) == 0) = false := by simp; omega
      go_wp2_with fail
      refine HQQ.out (by omega) _ _ ?_ ?_
      · exact ⟨rfl, rfl, rfl, rfl, rfl, rfl, rfl, rfl, rfl, rfl, rfl, rfl, rfl, rfl, rfl, rfl⟩
      · exact (Chg.refl _ _).alloc _
set_option maxRecDepth 1000000 in
set_option maxHeartbeats 6400000 in
theorem p14_any (V : LV) (bpp : Nat) (a : Act) (w : World) (Q : Exit → Act → World → Prop) (h : Pre2 V bpp a) (hQ : ∀ a', Pre2 V bpp a' → Q .normal a' w) : (pc 14).wp Tryd.prog Q a w := by
  obtain ⟨b, r, i12, i13, i14, i15, i16, i17, i18, img, W, H, st, n⟩ := V
  obtain ⟨g, rfl⟩ := h.lit
  clear h
  conv => arg 2; whnf
  go_wp2_with fail
  exact ⟨rfl, rfl, rfl, rfl, rfl, rfl, rfl, rfl, rfl, rfl, rfl, rfl, rfl, rfl, rfl, rfl, rfl⟩
set_option maxRecDepth 1000000 in
set_option maxHeartbeats 6400000 in
theorem p15_any (V : LV) (bpp : Nat) (a : Act) (w : World) (Q : Exit → Act → World → Prop) (h : Pre2 V bpp a) (hb : bpp ≤ 64) (hst : V.st = (bpp + 7) / 8) (hQ : ∀ a', Pre2b V bpp a' → Q .normal a' w) : (pc 15).wp Tryd.prog Q a w := by
  obtain ⟨b, r, i12, i13, i14, i15, i16, i17, i18, img, W, H, st, n⟩ := V
  simp only at hst
  have HST := Lib.hid hst
  have e1 : IntKind.i64.wrap ((bpp : Int) + 7) = (bpp : Int) + 7 := i64_in _ ⟨by omega, by omega⟩
  have e2 : ((bpp : Int) + 7).tdiv 8 = (st : Int) := by rw [Int.tdiv_eq_ediv_of_nonneg (by omega)]; omega
  have e3 : ((bpp : Int) + 7) / 8 = (st : Int) := by omega
  have e4 : IntKind.i64.wrap (st : Int) = (st : Int) := i64_in _ ⟨by omega, by omega⟩
  obtain ⟨g, rfl⟩ := h.lit
  clear h hst
  conv => arg 2; whnf
  go_wp2_with fail
  exact ⟨rfl, rfl, rfl, rfl, rfl, rfl, rfl, rfl, rfl, rfl, rfl, rfl, rfl, rfl, rfl, rfl, rfl, rfl⟩
set_option maxRecDepth 1000000 in
set_option maxHeartbeats 6400000 in
theorem p16_any (V : LV) (bpp N1 : Nat) (a : Act) (w : World) (Q : Exit → Act → World → Prop) (h : Pre2b V bpp a) (hb : bpp ≤ 64) (hW : V.W ≤ 40) (hn : V.n = (bpp * V.W + 7) / 8) (hN : N1 = V.n + 1) (hQ : ∀ a', Pre3 V N1 a' → Q .normal a' w) : (pc 16).wp Tryd.prog Q a w := by
  obtain ⟨b, r, i12, i13, i14, i15, i16, i17, i18, img, W, H, st, n⟩ := V
  simp only at hn hN hW
  obtain ⟨q, hq⟩ : ∃ q, q = bpp * W := ⟨_, rfl⟩
  obtain ⟨q7, hq7⟩ : ∃ q7, q7 = q + 7 := ⟨_, rfl⟩
  have hqb : q ≤ 64 * 40 := by rw [hq]; exact Nat.mul_le_mul hb hW
  have m1 : (bpp : Int) * (W : Int) = (q : Int) := by rw [hq]; rfl
  have m2 : (q : Int) + 7 = (q7 : Int) := by omega
  have m3 : (q7 : Int).tdiv 8 = (n : Int) := by rw [hn, ← hq, ← hq7]; rfl
  have m4 : (q7 : Int) / 8 = (n : Int) := by rw [hn, ← hq, ← hq7]; rfl
  have m5 : (1 : Int) + (n : Int) = (N1 : Int) := by omega
  have hnb : n ≤ 400 := by rw [hn, ← hq]; omega
  have v1 : IntKind.i64.wrap (q : Int) = (q : Int) := i64_in _ ⟨by omega, by omega⟩
  have v2 : IntKind.i64.wrap (q7 : Int) = (q7 : Int) := i64_in _ ⟨by omega, by omega⟩
  have v3 : IntKind.i64.wrap (n : Int) = (n : Int) := i64_in _ ⟨by omega, by omega⟩
  have v4 : IntKind.i64.wrap (N1 : Int) = (N1 : Int) := i64_in _ ⟨by omega, by omega⟩
  obtain ⟨g, rfl⟩ := h.lit
  clear h hn hN hq hq7
  conv => arg 2; whnf
  go_wp2_with fail
  exact ⟨rfl, rfl, rfl, rfl, rfl, rfl, rfl, rfl, rfl, rfl, rfl, rfl, rfl, rfl, rfl, rfl, rfl⟩
set_option maxRecDepth 1000000 in
set_option maxHeartbeats 6400000 in
theorem p17_any (V : LV) (N1 : Nat) (a : Act) (w : World) (Q : Exit → Act → World → Prop) (h : Pre3 V N1 a) (hQ : ∀ a', Pre3 V N1 a' → Q .normal a' w) : (pc 17).wp Tryd.prog Q a w := by
  obtain ⟨b, r, i12, i13, i14, i15, i16, i17, i18, img, W, H, st, n⟩ := V
  obtain ⟨g, rfl⟩ := h.lit
  clear h
  conv => arg 2; whnf
  go_wp2_with fail
  exact ⟨rfl, rfl, rfl, rfl, rfl, rfl, rfl, rfl, rfl, rfl, rfl, rfl, rfl, rfl, rfl, rfl, rfl⟩
set_option maxRecDepth 1000000 in
set_option maxHeartbeats 6400000 in
theorem p18_any (V : LV) (N1 : Nat) (a : Act) (w : World) (Q : Exit → Act → World → Prop) (h : Pre3 V N1 a) (hN : N1 ≤ 1000) (hQ : ∀ a', Pre4 V N1 w.heap.size a' → Q .normal a' (w.alloc (.cells (zb N1) 5))) : (pc 18).wp Tryd.prog Q a w := by
  obtain ⟨b, r, i12, i13, i14, i15, i16, i17, i18, img, W, H, st, n⟩ := V
  have hmk := make_zb N1 (by omega)
  obtain ⟨g, rfl⟩ := h.lit
  clear h hN
  conv => arg 2; whnf
  go_wp2_with fail
  exact ⟨rfl, rfl, rfl, rfl, rfl, rfl, rfl, rfl, rfl, rfl, rfl, rfl, rfl, rfl, rfl, rfl, rfl, rfl⟩
set_option maxRecDepth 1000000 in
set_option maxHeartbeats 6400000 in
theorem p19_any (V : LV) (N1 bc : Nat) (a : Act) (w : World) (Q : Exit → Act → World → Prop) (h : Pre4 V N1 bc a) (hN : N1 ≤ 1000) (hQ : ∀ a', Pre5 V N1 bc w.heap.size a' → Q .normal a' (w.alloc (.cells (zb N1) 5))) : (pc 19).wp Tryd.prog Q a w := by
  obtain ⟨b, r, i12, i13, i14, i15, i16, i17, i18, img, W, H, st, n⟩ := V
  have hmk := make_zb N1 (by omega)
  obtain ⟨g, rfl⟩ := h.lit
  clear h hN
  conv => arg 2; whnf
  go_wp2_with fail
  exact ⟨rfl, rfl, rfl, rfl, rfl, rfl, rfl, rfl, rfl, rfl, rfl, rfl, rfl, rfl, rfl, rfl, rfl, rfl⟩
set_option maxRecDepth 1000000 in
set_option maxHeartbeats 6400000 in
theorem set_y (V : LV) (N1 bc bp : Nat) (a : Act) (w : World) (Q : Exit → Act → World → Prop) (h : Pre5 V N1 bc bp a) (hN : N1 = V.n + 1) (hQ : ∀ a' c30 c31, Live V bc bp 0 0 c30 c31 a' → Q .normal a' w) : setC.wp Tryd.prog Q a w := by
  obtain ⟨b, r, i12, i13, i14, i15, i16, i17, i18, img, W, H, st, n⟩ := V
  simp only at hN
  subst hN
  obtain ⟨g, rfl⟩ := h.lit
  clear h
  conv => arg 2; whnf
  go_wp2_with fail
  exact hQ _ (g 30) (g 31) ⟨rfl, rfl, rfl, rfl, rfl, rfl, rfl, rfl, rfl, rfl, rfl, rfl, rfl, rfl, rfl, rfl, rfl, rfl, rfl, rfl, rfl⟩
set_option maxRecDepth 1000000 in
set_option maxHeartbeats 6400000 in
theorem p21_any (V : LV) (bc bp y po : Nat) (c30 c31 : Value) (a : Act) (w : World) (Q : Exit → Act → World → Prop) (h : Live V bc bp y po c30 c31 a) (hQ : ∀ a', GoodOut V.img a' → Q .normal a' w) : (pc 21).wp Tryd.prog Q a w := by
  obtain ⟨b, r, i12, i13, i14, i15, i16, i17, i18, img, W, H, st, n⟩ := V
  obtain ⟨g, rfl⟩ := h.lit
  clear h
  conv => arg 2; whnf
  go_wp2_with fail
  exact ⟨rfl, rfl, rfl⟩
end Go.Proofs.YtkiibhpmembcgaaDoor
namespace Go.Proofs.YtkiibhpmembcgaaDoor
open Go.ChangeShapes Go.WideShapes Go.ChangeAt Go.RowKit Go.IntWalk

/-- A picture has been made: its head g, its bytes bx, all nought. -/
structure Made (T : TypeId) (m W H L : Nat) (w : World) (g bx : Nat) (w' : World) : Prop where
  hg : w.heap.size ≤ g
  hbx : w.heap.size ≤ bx
  ne : g ≠ bx
  row : w'.heap[g]? = some (.cells #[.slice (some ⟨bx, 0, none⟩) L L, .int .i64 ((m * W : Nat) : Int), .int .i64 0, .int .i64 0, .int .i64 (W : Int), .int .i64 (H : Int)] T (0, 0))
  seg : Seg w' bx [] [] (List.replicate L 0)
  chg : Chg (fun _ => False) w w'
set_option maxRecDepth 1000000 in
set_option maxHeartbeats 6400000 in
theorem p13_GA8 (b W H L st n : Nat) (r : Value) (ps : Int) (a : Act) (w : World) (Q : Exit → Act → World → Prop) (h : Pre1 b r ps W H a) (c7 : w.cell? ⟨b, 7, none⟩ = some (.int .i64 5)) (hw : W ≤ 1000) (hh : H ≤ 1000) (hL : Hid (L = 4 * W * H))
    (hQ : ∀ a' w' g bx, Made 98 4 W H L w g bx w' → Pre2 ⟨b, r, .pointer none, .pointer none, .pointer none, .pointer (some ⟨g, 0, none⟩), .pointer none, .pointer none, .pointer none, .iface 97 (.pointer (some ⟨g, 0, none⟩)), W, H, st, n⟩ 16 a' → Q .normal a' w') : (pc 13).wp Tryd.prog Q a w := by
  obtain ⟨gg, rfl⟩ := h.lit
  have HQ := Lib.hid hQ
  clear h hQ
  conv => arg 2; whnf
  go_wp2_with (first | (go_at_call 32; refine (rect_any W H _).mono ?_; rintro e w2 ⟨rfl, hc2⟩) | (go_at_call 31; refine (new_NRGBA W H L _ hw hh hL).mono ?_; rintro e w3 ⟨g, bx, rfl, hg, hbx, hne, hrow, hseg, hc3⟩))
  have hs := hc2.size
  exact HQ.out _ _ g bx ⟨by omega, by omega, hne, hrow, hseg, hc2.trans hc3⟩ ⟨rfl, rfl, rfl, rfl, rfl, rfl, rfl, rfl, rfl, rfl, rfl, rfl, rfl, rfl, rfl, rfl, rfl⟩
set_option maxRecDepth 1000000 in
set_option maxHeartbeats 6400000 in
theorem p13_TCA8 (b W H L st n : Nat) (r : Value) (ps : Int) (a : Act) (w : World) (Q : Exit → Act → World → Prop) (h : Pre1 b r ps W H a) (c7 : w.cell? ⟨b, 7, none⟩ = some (.int .i64 11)) (hw : W ≤ 1000) (hh : H ≤ 1000) (hL : Hid (L = 4 * W * H))
    (hQ : ∀ a' w' g bx, Made 98 4 W H L w g bx w' → Pre2 ⟨b, r, .pointer none, .pointer none, .pointer none, .pointer (some ⟨g, 0, none⟩), .pointer none, .pointer none, .pointer none, .iface 97 (.pointer (some ⟨g, 0, none⟩)), W, H, st, n⟩ 32 a' → Q .normal a' w') : (pc 13).wp Tryd.prog Q a w := by
  obtain ⟨gg, rfl⟩ := h.lit
  have HQ := Lib.hid hQ
  clear h hQ
  conv => arg 2; whnf
  go_wp2_with (first | (go_at_call 32; refine (rect_any W H _).mono ?_; rintro e w2 ⟨rfl, hc2⟩) | (go_at_call 31; refine (new_NRGBA W H L _ hw hh hL).mono ?_; rintro e w3 ⟨g, bx, rfl, hg, hbx, hne, hrow, hseg, hc3⟩))
  have hs := hc2.size
  exact HQ.out _ _ g bx ⟨by omega, by omega, hne, hrow, hseg, hc2.trans hc3⟩ ⟨rfl, rfl, rfl, rfl, rfl, rfl, rfl, rfl, rfl, rfl, rfl, rfl, rfl, rfl, rfl, rfl, rfl⟩
set_option maxRecDepth 1000000 in
set_option maxHeartbeats 6400000 in
theorem p13_GA16 (b W H L st n : Nat) (r : Value) (ps : Int) (a : Act) (w : World) (Q : Exit → Act → World → Prop) (h : Pre1 b r ps W H a) (c7 : w.cell? ⟨b, 7, none⟩ = some (.int .i64 13)) (hw : W ≤ 1000) (hh : H ≤ 1000) (hL : Hid (L = 8 * W * H))
    (hQ : ∀ a' w' g bx, Made 100 8 W H L w g bx w' → Pre2 ⟨b, r, .pointer none, .pointer none, .pointer none, .pointer none, .pointer none, .pointer none, .pointer (some ⟨g, 0, none⟩), .iface 99 (.pointer (some ⟨g, 0, none⟩)), W, H, st, n⟩ 32 a' → Q .normal a' w') : (pc 13).wp Tryd.prog Q a w := by
  obtain ⟨gg, rfl⟩ := h.lit
  have HQ := Lib.hid hQ
  clear h hQ
  conv => arg 2; whnf
  go_wp2_with (first | (go_at_call 32; refine (rect_any W H _).mono ?_; rintro e w2 ⟨rfl, hc2⟩) | (go_at_call 36; refine (new_NRGBA64 W H L _ hw hh hL).mono ?_; rintro e w3 ⟨g, bx, rfl, hg, hbx, hne, hrow, hseg, hc3⟩))
  have hs := hc2.size
  exact HQ.out _ _ g bx ⟨by omega, by omega, hne, hrow, hseg, hc2.trans hc3⟩ ⟨rfl, rfl, rfl, rfl, rfl, rfl, rfl, rfl, rfl, rfl, rfl, rfl, rfl, rfl, rfl, rfl, rfl⟩
set_option maxRecDepth 1000000 in
set_option maxHeartbeats 6400000 in
theorem p13_TCA16 (b W H L st n : Nat) (r : Value) (ps : Int) (a : Act) (w : World) (Q : Exit → Act → World → Prop) (h : Pre1 b r ps W H a) (c7 : w.cell? ⟨b, 7, none⟩ = some (.int .i64 15)) (hw : W ≤ 1000) (hh : H ≤ 1000) (hL : Hid (L = 8 * W * H))
    (hQ : ∀ a' w' g bx, Made 100 8 W H L w g bx w' → Pre2 ⟨b, r, .pointer none, .pointer none, .pointer none, .pointer none, .pointer none, .pointer none, .pointer (some ⟨g, 0, none⟩), .iface 99 (.pointer (some ⟨g, 0, none⟩)), W, H, st, n⟩ 64 a' → Q .normal a' w') : (pc 13).wp Tryd.prog Q a w := by
  obtain ⟨gg, rfl⟩ := h.lit
  have HQ := Lib.hid hQ
  clear h hQ
  conv => arg 2; whnf
  go_wp2_with (first | (go_at_call 32; refine (rect_any W H _).mono ?_; rintro e w2 ⟨rfl, hc2⟩) | (go_at_call 36; refine (new_NRGBA64 W H L _ hw hh hL).mono ?_; rintro e w3 ⟨g, bx, rfl, hg, hbx, hne, hrow, hseg, hc3⟩))
  have hs := hc2.size
  exact HQ.out _ _ g bx ⟨by omega, by omega, hne, hrow, hseg, hc2.trans hc3⟩ ⟨rfl, rfl, rfl, rfl, rfl, rfl, rfl, rfl, rfl, rfl, rfl, rfl, rfl, rfl, rfl, rfl, rfl⟩
end Go.Proofs.YtkiibhpmembcgaaDoor
namespace Go.Proofs.YtkiibhpmembcgaaDoor
open Go.ChangeShapes Go.WideShapes Go.ChangeAt Go.RowKit Go.IntWalk

set_option maxRecDepth 1000000 in
set_option maxHeartbeats 6400000 in
theorem p13_G1 (b W H L st n : Nat) (r : Value) (ps : Int) (a : Act) (w : World) (Q : Exit → Act → World → Prop) (h : Pre1 b r ps W H a) (c7 : w.cell? ⟨b, 7, none⟩ = some (.int .i64 1)) (cu : w.cell? ⟨b, 779, none⟩ = some (.bool false)) (c5 : w.cell? ⟨b, 5, none⟩ = some (.int .i64 1)) (hw : W ≤ 1000) (hh : H ≤ 1000) (hL : Hid (L = 1 * W * H))
    (hQ : ∀ a' w' g bx, Made 90 1 W H L w g bx w' → Pre2 ⟨b, r, .pointer (some ⟨g, 0, none⟩), .pointer none, .pointer none, .pointer none, .pointer none, .pointer none, .pointer none, .iface 83 (.pointer (some ⟨g, 0, none⟩)), W, H, st, n⟩ 1 a' → Q .normal a' w') : (pc 13).wp Tryd.prog Q a w := by
  obtain ⟨gg, rfl⟩ := h.lit
  have HQ := Lib.hid hQ
  clear h hQ
  conv => arg 2; whnf
  go_wp2_with (first | (go_at_call 32; refine (rect_any W H _).mono ?_; rintro e w2 ⟨rfl, hc2⟩) | (go_at_call 33; refine (new_Gray W H L _ hw hh hL).mono ?_; rintro e w3 ⟨g, bx, rfl, hg, hbx, hne, hrow, hseg, hc3⟩))
  have hs := hc2.size
  exact HQ.out _ _ g bx ⟨by omega, by omega, hne, hrow, hseg, hc2.trans hc3⟩ ⟨rfl, rfl, rfl, rfl, rfl, rfl, rfl, rfl, rfl, rfl, rfl, rfl, rfl, rfl, rfl, rfl, rfl⟩
set_option maxRecDepth 1000000 in
set_option maxHeartbeats 6400000 in
theorem p13_G2 (b W H L st n : Nat) (r : Value) (ps : Int) (a : Act) (w : World) (Q : Exit → Act → World → Prop) (h : Pre1 b r ps W H a) (c7 : w.cell? ⟨b, 7, none⟩ = some (.int .i64 2)) (cu : w.cell? ⟨b, 779, none⟩ = some (.bool false)) (c5 : w.cell? ⟨b, 5, none⟩ = some (.int .i64 2)) (hw : W ≤ 1000) (hh : H ≤ 1000) (hL : Hid (L = 1 * W * H))
    (hQ : ∀ a' w' g bx, Made 90 1 W H L w g bx w' → Pre2 ⟨b, r, .pointer (some ⟨g, 0, none⟩), .pointer none, .pointer none, .pointer none, .pointer none, .pointer none, .pointer none, .iface 83 (.pointer (some ⟨g, 0, none⟩)), W, H, st, n⟩ 2 a' → Q .normal a' w') : (pc 13).wp Tryd.prog Q a w := by
  obtain ⟨gg, rfl⟩ := h.lit
  have HQ := Lib.hid hQ
  clear h hQ
  conv => arg 2; whnf
  go_wp2_with (first | (go_at_call 32; refine (rect_any W H _).mono ?_; rintro e w2 ⟨rfl, hc2⟩) | (go_at_call 33; refine (new_Gray W H L _ hw hh hL).mono ?_; rintro e w3 ⟨g, bx, rfl, hg, hbx, hne, hrow, hseg, hc3⟩))
  have hs := hc2.size
  exact HQ.out _ _ g bx ⟨by omega, by omega, hne, hrow, hseg, hc2.trans hc3⟩ ⟨rfl, rfl, rfl, rfl, rfl, rfl, rfl, rfl, rfl, rfl, rfl, rfl, rfl, rfl, rfl, rfl, rfl⟩
set_option maxRecDepth 1000000 in
set_option maxHeartbeats 6400000 in
theorem p13_G4 (b W H L st n : Nat) (r : Value) (ps : Int) (a : Act) (w : World) (Q : Exit → Act → World → Prop) (h : Pre1 b r ps W H a) (c7 : w.cell? ⟨b, 7, none⟩ = some (.int .i64 3)) (cu : w.cell? ⟨b, 779, none⟩ = some (.bool false)) (c5 : w.cell? ⟨b, 5, none⟩ = some (.int .i64 4)) (hw : W ≤ 1000) (hh : H ≤ 1000) (hL : Hid (L = 1 * W * H))
    (hQ : ∀ a' w' g bx, Made 90 1 W H L w g bx w' → Pre2 ⟨b, r, .pointer (some ⟨g, 0, none⟩), .pointer none, .pointer none, .pointer none, .pointer none, .pointer none, .pointer none, .iface 83 (.pointer (some ⟨g, 0, none⟩)), W, H, st, n⟩ 4 a' → Q .normal a' w') : (pc 13).wp Tryd.prog Q a w := by
  obtain ⟨gg, rfl⟩ := h.lit
  have HQ := Lib.hid hQ
  clear h hQ
  conv => arg 2; whnf
  go_wp2_with (first | (go_at_call 32; refine (rect_any W H _).mono ?_; rintro e w2 ⟨rfl, hc2⟩) | (go_at_call 33; refine (new_Gray W H L _ hw hh hL).mono ?_; rintro e w3 ⟨g, bx, rfl, hg, hbx, hne, hrow, hseg, hc3⟩))
  have hs := hc2.size
  exact HQ.out _ _ g bx ⟨by omega, by omega, hne, hrow, hseg, hc2.trans hc3⟩ ⟨rfl, rfl, rfl, rfl, rfl, rfl, rfl, rfl, rfl, rfl, rfl, rfl, rfl, rfl, rfl, rfl, rfl⟩
set_option maxRecDepth 1000000 in
set_option maxHeartbeats 6400000 in
theorem p13_G8 (b W H L st n : Nat) (r : Value) (ps : Int) (a : Act) (w : World) (Q : Exit → Act → World → Prop) (h : Pre1 b r ps W H a) (c7 : w.cell? ⟨b, 7, none⟩ = some (.int .i64 4)) (cu : w.cell? ⟨b, 779, none⟩ = some (.bool false)) (c5 : w.cell? ⟨b, 5, none⟩ = some (.int .i64 8)) (hw : W ≤ 1000) (hh : H ≤ 1000) (hL : Hid (L = 1 * W * H))
    (hQ : ∀ a' w' g bx, Made 90 1 W H L w g bx w' → Pre2 ⟨b, r, .pointer (some ⟨g, 0, none⟩), .pointer none, .pointer none, .pointer none, .pointer none, .pointer none, .pointer none, .iface 83 (.pointer (some ⟨g, 0, none⟩)), W, H, st, n⟩ 8 a' → Q .normal a' w') : (pc 13).wp Tryd.prog Q a w := by
  obtain ⟨gg, rfl⟩ := h.lit
  have HQ := Lib.hid hQ
  clear h hQ
  conv => arg 2; whnf
  go_wp2_with (first | (go_at_call 32; refine (rect_any W H _).mono ?_; rintro e w2 ⟨rfl, hc2⟩) | (go_at_call 33; refine (new_Gray W H L _ hw hh hL).mono ?_; rintro e w3 ⟨g, bx, rfl, hg, hbx, hne, hrow, hseg, hc3⟩))
  have hs := hc2.size
  exact HQ.out _ _ g bx ⟨by omega, by omega, hne, hrow, hseg, hc2.trans hc3⟩ ⟨rfl, rfl, rfl, rfl, rfl, rfl, rfl, rfl, rfl, rfl, rfl, rfl, rfl, rfl, rfl, rfl, rfl⟩
set_option maxRecDepth 1000000 in
set_option maxHeartbeats 6400000 in
theorem p13_G8t (b W H L st n : Nat) (r : Value) (ps : Int) (a : Act) (w : World) (Q : Exit → Act → World → Prop) (h : Pre1 b r ps W H a) (c7 : w.cell? ⟨b, 7, none⟩ = some (.int .i64 4)) (cu : w.cell? ⟨b, 779, none⟩ = some (.bool true)) (c5 : w.cell? ⟨b, 5, none⟩ = some (.int .i64 8)) (hw : W ≤ 1000) (hh : H ≤ 1000) (hL : Hid (L = 4 * W * H))
    (hQ : ∀ a' w' g bx, Made 98 4 W H L w g bx w' → Pre2 ⟨b, r, .pointer none, .pointer none, .pointer none, .pointer (some ⟨g, 0, none⟩), .pointer none, .pointer none, .pointer none, .iface 97 (.pointer (some ⟨g, 0, none⟩)), W, H, st, n⟩ 8 a' → Q .normal a' w') : (pc 13).wp Tryd.prog Q a w := by
  obtain ⟨gg, rfl⟩ := h.lit
  have HQ := Lib.hid hQ
  clear h hQ
  conv => arg 2; whnf
  go_wp2_with (first | (go_at_call 32; refine (rect_any W H _).mono ?_; rintro e w2 ⟨rfl, hc2⟩) | (go_at_call 31; refine (new_NRGBA W H L _ hw hh hL).mono ?_; rintro e w3 ⟨g, bx, rfl, hg, hbx, hne, hrow, hseg, hc3⟩))
  have hs := hc2.size
  exact HQ.out _ _ g bx ⟨by omega, by omega, hne, hrow, hseg, hc2.trans hc3⟩ ⟨rfl, rfl, rfl, rfl, rfl, rfl, rfl, rfl, rfl, rfl, rfl, rfl, rfl, rfl, rfl, rfl, rfl⟩
set_option maxRecDepth 1000000 in
set_option maxHeartbeats 6400000 in
theorem p13_TC8 (b W H L st n : Nat) (r : Value) (ps : Int) (a : Act) (w : World) (Q : Exit → Act → World → Prop) (h : Pre1 b r ps W H a) (c7 : w.cell? ⟨b, 7, none⟩ = some (.int .i64 6)) (cu : w.cell? ⟨b, 779, none⟩ = some (.bool false)) (hw : W ≤ 1000) (hh : H ≤ 1000) (hL : Hid (L = 4 * W * H))
    (hQ : ∀ a' w' g bx, Made 94 4 W H L w g bx w' → Pre2 ⟨b, r, .pointer none, .pointer (some ⟨g, 0, none⟩), .pointer none, .pointer none, .pointer none, .pointer none, .pointer none, .iface 93 (.pointer (some ⟨g, 0, none⟩)), W, H, st, n⟩ 24 a' → Q .normal a' w') : (pc 13).wp Tryd.prog Q a w := by
  obtain ⟨gg, rfl⟩ := h.lit
  have HQ := Lib.hid hQ
  clear h hQ
  conv => arg 2; whnf
  go_wp2_with (first | (go_at_call 32; refine (rect_any W H _).mono ?_; rintro e w2 ⟨rfl, hc2⟩) | (go_at_call 34; refine (new_RGBA W H L _ hw hh hL).mono ?_; rintro e w3 ⟨g, bx, rfl, hg, hbx, hne, hrow, hseg, hc3⟩))
  have hs := hc2.size
  exact HQ.out _ _ g bx ⟨by omega, by omega, hne, hrow, hseg, hc2.trans hc3⟩ ⟨rfl, rfl, rfl, rfl, rfl, rfl, rfl, rfl, rfl, rfl, rfl, rfl, rfl, rfl, rfl, rfl, rfl⟩
set_option maxRecDepth 1000000 in
set_option maxHeartbeats 6400000 in
theorem p13_TC8t (b W H L st n : Nat) (r : Value) (ps : Int) (a : Act) (w : World) (Q : Exit → Act → World → Prop) (h : Pre1 b r ps W H a) (c7 : w.cell? ⟨b, 7, none⟩ = some (.int .i64 6)) (cu : w.cell? ⟨b, 779, none⟩ = some (.bool true)) (hw : W ≤ 1000) (hh : H ≤ 1000) (hL : Hid (L = 4 * W * H))
    (hQ : ∀ a' w' g bx, Made 98 4 W H L w g bx w' → Pre2 ⟨b, r, .pointer none, .pointer none, .pointer none, .pointer (some ⟨g, 0, none⟩), .pointer none, .pointer none, .pointer none, .iface 97 (.pointer (some ⟨g, 0, none⟩)), W, H, st, n⟩ 24 a' → Q .normal a' w') : (pc 13).wp Tryd.prog Q a w := by
  obtain ⟨gg, rfl⟩ := h.lit
  have HQ := Lib.hid hQ
  clear h hQ
  conv => arg 2; whnf
  go_wp2_with (first | (go_at_call 32; refine (rect_any W H _).mono ?_; rintro e w2 ⟨rfl, hc2⟩) | (go_at_call 31; refine (new_NRGBA W H L _ hw hh hL).mono ?_; rintro e w3 ⟨g, bx, rfl, hg, hbx, hne, hrow, hseg, hc3⟩))
  have hs := hc2.size
  exact HQ.out _ _ g bx ⟨by omega, by omega, hne, hrow, hseg, hc2.trans hc3⟩ ⟨rfl, rfl, rfl, rfl, rfl, rfl, rfl, rfl, rfl, rfl, rfl, rfl, rfl, rfl, rfl, rfl, rfl⟩
set_option maxRecDepth 1000000 in
set_option maxHeartbeats 6400000 in
theorem p13_G16 (b W H L st n : Nat) (r : Value) (ps : Int) (a : Act) (w : World) (Q : Exit → Act → World → Prop) (h : Pre1 b r ps W H a) (c7 : w.cell? ⟨b, 7, none⟩ = some (.int .i64 12)) (cu : w.cell? ⟨b, 779, none⟩ = some (.bool false)) (hw : W ≤ 1000) (hh : H ≤ 1000) (hL : Hid (L = 2 * W * H))
    (hQ : ∀ a' w' g bx, Made 92 2 W H L w g bx w' → Pre2 ⟨b, r, .pointer none, .pointer none, .pointer none, .pointer none, .pointer (some ⟨g, 0, none⟩), .pointer none, .pointer none, .iface 91 (.pointer (some ⟨g, 0, none⟩)), W, H, st, n⟩ 16 a' → Q .normal a' w') : (pc 13).wp Tryd.prog Q a w := by
  obtain ⟨gg, rfl⟩ := h.lit
  have HQ := Lib.hid hQ
  clear h hQ
  conv => arg 2; whnf
  go_wp2_with (first | (go_at_call 32; refine (rect_any W H _).mono ?_; rintro e w2 ⟨rfl, hc2⟩) | (go_at_call 37; refine (new_Gray16 W H L _ hw hh hL).mono ?_; rintro e w3 ⟨g, bx, rfl, hg, hbx, hne, hrow, hseg, hc3⟩))
  have hs := hc2.size
  exact HQ.out _ _ g bx ⟨by omega, by omega, hne, hrow, hseg, hc2.trans hc3⟩ ⟨rfl, rfl, rfl, rfl, rfl, rfl, rfl, rfl, rfl, rfl, rfl, rfl, rfl, rfl, rfl, rfl, rfl⟩
set_option maxRecDepth 1000000 in
set_option maxHeartbeats 6400000 in
theorem p13_G16t (b W H L st n : Nat) (r : Value) (ps : Int) (a : Act) (w : World) (Q : Exit → Act → World → Prop) (h : Pre1 b r ps W H a) (c7 : w.cell? ⟨b, 7, none⟩ = some (.int .i64 12)) (cu : w.cell? ⟨b, 779, none⟩ = some (.bool true)) (hw : W ≤ 1000) (hh : H ≤ 1000) (hL : Hid (L = 8 * W * H))
    (hQ : ∀ a' w' g bx, Made 100 8 W H L w g bx w' → Pre2 ⟨b, r, .pointer none, .pointer none, .pointer none, .pointer none, .pointer none, .pointer none, .pointer (some ⟨g, 0, none⟩), .iface 99 (.pointer (some ⟨g, 0, none⟩)), W, H, st, n⟩ 16 a' → Q .normal a' w') : (pc 13).wp Tryd.prog Q a w := by
  obtain ⟨gg, rfl⟩ := h.lit
  have HQ := Lib.hid hQ
  clear h hQ
  conv => arg 2; whnf
  go_wp2_with (first | (go_at_call 32; refine (rect_any W H _).mono ?_; rintro e w2 ⟨rfl, hc2⟩) | (go_at_call 36; refine (new_NRGBA64 W H L _ hw hh hL).mono ?_; rintro e w3 ⟨g, bx, rfl, hg, hbx, hne, hrow, hseg, hc3⟩))
  have hs := hc2.size
  exact HQ.out _ _ g bx ⟨by omega, by omega, hne, hrow, hseg, hc2.trans hc3⟩ ⟨rfl, rfl, rfl, rfl, rfl, rfl, rfl, rfl, rfl, rfl, rfl, rfl, rfl, rfl, rfl, rfl, rfl⟩
set_option maxRecDepth 1000000 in
set_option maxHeartbeats 6400000 in
theorem p13_TC16 (b W H L st n : Nat) (r : Value) (ps : Int) (a : Act) (w : World) (Q : Exit → Act → World → Prop) (h : Pre1 b r ps W H a) (c7 : w.cell? ⟨b, 7, none⟩ = some (.int .i64 14)) (cu : w.cell? ⟨b, 779, none⟩ = some (.bool false)) (hw : W ≤ 1000) (hh : H ≤ 1000) (hL : Hid (L = 8 * W * H))
    (hQ : ∀ a' w' g bx, Made 96 8 W H L w g bx w' → Pre2 ⟨b, r, .pointer none, .pointer none, .pointer none, .pointer none, .pointer none, .pointer (some ⟨g, 0, none⟩), .pointer none, .iface 95 (.pointer (some ⟨g, 0, none⟩)), W, H, st, n⟩ 48 a' → Q .normal a' w') : (pc 13).wp Tryd.prog Q a w := by
  obtain ⟨gg, rfl⟩ := h.lit
  have HQ := Lib.hid hQ
  clear h hQ
  conv => arg 2; whnf
  go_wp2_with (first | (go_at_call 32; refine (rect_any W H _).mono ?_; rintro e w2 ⟨rfl, hc2⟩) | (go_at_call 38; refine (new_RGBA64 W H L _ hw hh hL).mono ?_; rintro e w3 ⟨g, bx, rfl, hg, hbx, hne, hrow, hseg, hc3⟩))
  have hs := hc2.size
  exact HQ.out _ _ g bx ⟨by omega, by omega, hne, hrow, hseg, hc2.trans hc3⟩ ⟨rfl, rfl, rfl, rfl, rfl, rfl, rfl, rfl, rfl, rfl, rfl, rfl, rfl, rfl, rfl, rfl, rfl⟩
set_option maxRecDepth 1000000 in
set_option maxHeartbeats 6400000 in
theorem p13_TC16t (b W H L st n : Nat) (r : Value) (ps : Int) (a : Act) (w : World) (Q : Exit → Act → World → Prop) (h : Pre1 b r ps W H a) (c7 : w.cell? ⟨b, 7, none⟩ = some (.int .i64 14)) (cu : w.cell? ⟨b, 779, none⟩ = some (.bool true)) (hw : W ≤ 1000) (hh : H ≤ 1000) (hL : Hid (L = 8 * W * H))
    (hQ : ∀ a' w' g bx, Made 100 8 W H L w g bx w' → Pre2 ⟨b, r, .pointer none, .pointer none, .pointer none, .pointer none, .pointer none, .pointer none, .pointer (some ⟨g, 0, none⟩), .iface 99 (.pointer (some ⟨g, 0, none⟩)), W, H, st, n⟩ 48 a' → Q .normal a' w') : (pc 13).wp Tryd.prog Q a w := by
  obtain ⟨gg, rfl⟩ := h.lit
  have HQ := Lib.hid hQ
  clear h hQ
  conv => arg 2; whnf
  go_wp2_with (first | (go_at_call 32; refine (rect_any W H _).mono ?_; rintro e w2 ⟨rfl, hc2⟩) | (go_at_call 36; refine (new_NRGBA64 W H L _ hw hh hL).mono ?_; rintro e w3 ⟨g, bx, rfl, hg, hbx, hne, hrow, hseg, hc3⟩))
  have hs := hc2.size
  exact HQ.out _ _ g bx ⟨by omega, by omega, hne, hrow, hseg, hc2.trans hc3⟩ ⟨rfl, rfl, rfl, rfl, rfl, rfl, rfl, rfl, rfl, rfl, rfl, rfl, rfl, rfl, rfl, rfl, rfl⟩
end Go.Proofs.YtkiibhpmembcgaaDoor
