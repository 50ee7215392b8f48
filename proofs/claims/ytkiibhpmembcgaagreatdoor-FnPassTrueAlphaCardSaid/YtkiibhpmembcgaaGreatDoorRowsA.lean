/- The loop over the rows of readImagePass: its code in pieces, and what each piece does. Printed by gen/rows.py. -/
import Derived.Test.YtkiibhpmembcgaaGreatDoorRipFilt
import Derived.Test.YtkiibhpmembcgaaGreatDoorGRead
import Derived.Test.YtkiibhpmembcgaaGreatDoorRipConvA
namespace Go.Proofs.YtkiibhpmembcgaaGreatDoor
open Go.ChangeShapes Go.WideShapes Go.ChangeAt Go.RowKit Go.IntWalk

/-- The first, the second half of a sequence; what a block or a loop holds. -/
def Code.one : Code → Code
  | .seq a _ => a
  | c => c
def Code.two : Code → Code
  | .seq _ b => b
  | c => c
def Code.within : Code → Code
  | .block _ c => c
  | .loop c => c
  | c => c
noncomputable def rowC : Code := Code.within (Code.within rowsB)
noncomputable def headC : Code := Code.one rowC
noncomputable def rndC : Code := Code.within (Code.one (Code.two rowC))
noncomputable def nextC : Code := Code.two (Code.two rowC)
noncomputable def readC : Code := Code.one rndC
noncomputable def errC : Code := Code.one (Code.two rndC)
noncomputable def cutC : Code := Code.one (Code.two (Code.two rndC))
noncomputable def cut2C : Code := Code.one (Code.two (Code.two (Code.two rndC)))
noncomputable def fltC : Code := Code.one (Code.one (Code.two (Code.two (Code.two (Code.two rndC)))))
noncomputable def kindC : Code := Code.one (Code.one (Code.two (Code.two (Code.two (Code.two (Code.two rndC))))))
noncomputable def swapC : Code := Code.two (Code.two (Code.two (Code.two (Code.two (Code.two rndC)))))
theorem rows_is : rowsB = .block 1 (.loop (.seq headC (.seq (.block 2 (.seq readC (.seq errC (.seq cutC (.seq cut2C (.seq (.seq fltC filtB) (.seq (.seq kindC convB) swapC))))))) nextC))) := by kernel_rfl

set_option maxRecDepth 1000000 in
set_option maxHeartbeats 6400000 in
theorem head_go (V : LV) (bc bp y po : Nat) (c30 c31 : Value) (a : Act) (w0 : World) (Q : Exit → Act → World → Prop) (h : Live V bc bp y po c30 c31 a) (hy : y < V.H) (hH : V.H ≤ 1000)
    (hQ : ∀ a', Live V bc bp y po c30 c31 a' → Q .normal a' w0) : headC.wp Tryz.prog Q a w0 := by
  obtain ⟨b, r, i12, i13, i14, i15, i16, i17, i18, img, W, H, st, n⟩ := V
  simp only at hy hH
  obtain ⟨g, rfl⟩ := h.lit
  clear h hH
  conv => arg 2; whnf
  go_wp2_with fail
  exact ⟨rfl, rfl, rfl, rfl, rfl, rfl, rfl, rfl, rfl, rfl, rfl, rfl, rfl, rfl, rfl, rfl, rfl, rfl, rfl, rfl, rfl⟩
set_option maxRecDepth 1000000 in
set_option maxHeartbeats 6400000 in
theorem head_end (V : LV) (bc bp y po : Nat) (c30 c31 : Value) (a : Act) (w0 : World) (Q : Exit → Act → World → Prop) (h : Live V bc bp y po c30 c31 a) (hy : y = V.H)
    (hQ : ∀ a', Live V bc bp y po c30 c31 a' → Q (.exit 1) a' w0) : headC.wp Tryz.prog Q a w0 := by
  obtain ⟨b, r, i12, i13, i14, i15, i16, i17, i18, img, W, H, st, n⟩ := V
  simp only at hy
  subst hy
  obtain ⟨g, rfl⟩ := h.lit
  clear h
  conv => arg 2; whnf
  go_wp2_with fail
  exact ⟨rfl, rfl, rfl, rfl, rfl, rfl, rfl, rfl, rfl, rfl, rfl, rfl, rfl, rfl, rfl, rfl, rfl, rfl, rfl, rfl, rfl⟩
set_option maxRecDepth 1000000 in
set_option maxHeartbeats 6400000 in
theorem next_any (V : LV) (bc bp y po : Nat) (c30 c31 : Value) (a : Act) (w0 : World) (Q : Exit → Act → World → Prop) (h : Live V bc bp y po c30 c31 a) (hy : y < 1000)
    (hQ : ∀ a', Live V bc bp (y + 1) po c30 c31 a' → Q .normal a' w0) : nextC.wp Tryz.prog Q a w0 := by
  obtain ⟨b, r, i12, i13, i14, i15, i16, i17, i18, img, W, H, st, n⟩ := V
  have d1 : IntKind.i64.wrap ((y : Int) + 1) = ((y + 1 : Nat) : Int) := by rw [i64_in _ ⟨by omega, by omega⟩]; omega
  obtain ⟨g, rfl⟩ := h.lit
  clear h hy
  conv => arg 2; whnf
  go_wp2_with fail
  exact ⟨rfl, rfl, rfl, rfl, rfl, rfl, rfl, rfl, rfl, rfl, rfl, rfl, rfl, rfl, rfl, rfl, rfl, rfl, rfl, rfl, rfl⟩
set_option maxRecDepth 1000000 in
set_option maxHeartbeats 6400000 in
theorem swap_any (V : LV) (bc bp y po : Nat) (c30 c31 : Value) (a : Act) (w0 : World) (Q : Exit → Act → World → Prop) (h : Live V bc bp y po c30 c31 a)
    (hQ : ∀ a', Live V bp bc y po c30 c31 a' → Q .normal a' w0) : swapC.wp Tryz.prog Q a w0 := by
  obtain ⟨b, r, i12, i13, i14, i15, i16, i17, i18, img, W, H, st, n⟩ := V
  obtain ⟨g, rfl⟩ := h.lit
  clear h
  conv => arg 2; whnf
  go_wp2_with fail
  exact ⟨rfl, rfl, rfl, rfl, rfl, rfl, rfl, rfl, rfl, rfl, rfl, rfl, rfl, rfl, rfl, rfl, rfl, rfl, rfl, rfl, rfl⟩
set_option maxRecDepth 1000000 in
set_option maxHeartbeats 6400000 in
theorem cut_any (V : LV) (bc bp y po : Nat) (c30 c31 : Value) (a : Act) (w0 : World) (Q : Exit → Act → World → Prop) (h : Live V bc bp y po c30 c31 a) (hn : V.n ≤ 1000) (hn1 : 1 ≤ V.n)
    (hQ : ∀ a', Live V bc bp y po (.slice (some ⟨bc, 1, none⟩) V.n V.n) c31 a' → Q .normal a' w0) : cutC.wp Tryz.prog Q a w0 := by
  obtain ⟨b, r, i12, i13, i14, i15, i16, i17, i18, img, W, H, st, n⟩ := V
  simp only at hn hn1
  have h0 : ¬ n = 0 := by omega
  obtain ⟨g, rfl⟩ := h.lit
  clear h
  conv => arg 2; whnf
  go_wp2_with fail
  exact ⟨rfl, rfl, rfl, rfl, rfl, rfl, rfl, rfl, rfl, rfl, rfl, rfl, rfl, rfl, rfl, rfl, rfl, rfl, rfl, rfl, rfl⟩
set_option maxRecDepth 1000000 in
set_option maxHeartbeats 6400000 in
theorem cut2_any (V : LV) (bc bp y po : Nat) (c30 c31 : Value) (a : Act) (w0 : World) (Q : Exit → Act → World → Prop) (h : Live V bc bp y po c30 c31 a) (hn : V.n ≤ 1000) (hn1 : 1 ≤ V.n)
    (hQ : ∀ a', Live V bc bp y po c30 (.slice (some ⟨bp, 1, none⟩) V.n V.n) a' → Q .normal a' w0) : cut2C.wp Tryz.prog Q a w0 := by
  obtain ⟨b, r, i12, i13, i14, i15, i16, i17, i18, img, W, H, st, n⟩ := V
  simp only at hn hn1
  have h0 : ¬ n = 0 := by omega
  obtain ⟨g, rfl⟩ := h.lit
  clear h
  conv => arg 2; whnf
  go_wp2_with fail
  exact ⟨rfl, rfl, rfl, rfl, rfl, rfl, rfl, rfl, rfl, rfl, rfl, rfl, rfl, rfl, rfl, rfl, rfl, rfl, rfl, rfl, rfl⟩
set_option maxRecDepth 1000000 in
set_option maxHeartbeats 6400000 in
theorem flt_any (V : LV) (bc bp y po : Nat) (c30 c31 : Value) (f : UInt8) (a : Act) (w0 : World) (Q : Exit → Act → World → Prop) (h : Live V bc bp y po c30 c31 a) (hc : w0.cell? ⟨bc, 0, none⟩ = some (.int .u8 (f.toNat : Int)))
    (hQ : ∀ a', Live V bc bp y po c30 c31 a' → a'.tmps.getD 355 undef = .int .u8 (f.toNat : Int) → Q .normal a' w0) : fltC.wp Tryz.prog Q a w0 := by
  obtain ⟨b, r, i12, i13, i14, i15, i16, i17, i18, img, W, H, st, n⟩ := V
  have i0 : (0 : Int) < (n : Int) + 1 := by omega
  obtain ⟨g, rfl⟩ := h.lit
  clear h
  conv => arg 2; whnf
  go_wp2_with fail
  refine hQ _ ⟨rfl, rfl, rfl, rfl, rfl, rfl, rfl, rfl, rfl, rfl, rfl, rfl, rfl, rfl, rfl, rfl, rfl, rfl, rfl, rfl, rfl⟩ rfl
set_option maxRecDepth 1000000 in
set_option maxHeartbeats 6400000 in
theorem kind_any (V : LV) (bc bp y po : Nat) (c30 c31 : Value) (k : Nat) (a : Act) (w0 : World) (Q : Exit → Act → World → Prop) (h : Live V bc bp y po c30 c31 a) (hc : w0.cell? ⟨V.b, 7, none⟩ = some (.int .i64 (k : Int)))
    (hQ : ∀ a', Live V bc bp y po c30 c31 a' → a'.tmps.getD 452 undef = .int .i64 (k : Int) → Q .normal a' w0) : kindC.wp Tryz.prog Q a w0 := by
  obtain ⟨b, r, i12, i13, i14, i15, i16, i17, i18, img, W, H, st, n⟩ := V
  simp only at hc
  obtain ⟨g, rfl⟩ := h.lit
  clear h
  conv => arg 2; whnf
  go_wp2_with fail
  refine hQ _ ⟨rfl, rfl, rfl, rfl, rfl, rfl, rfl, rfl, rfl, rfl, rfl, rfl, rfl, rfl, rfl, rfl, rfl, rfl, rfl, rfl, rfl⟩ rfl
set_option maxRecDepth 1000000 in
set_option maxHeartbeats 6400000 in
theorem read_ok (V : LV) (bc bp y po : Nat) (c30 c31 : Value) (R sb so m mc i : Nat) (l : List UInt8) (cur : List Value) (a : Act) (w0 : World) (Q : Exit → Act → World → Prop) (h : Live V bc bp y po c30 c31 a) (hr : V.r = .iface 90 (.pointer (some ⟨R, 0, none⟩))) (hR : Rd w0 R sb so m mc i)
    (hl : Hid (l.length = m)) (hrb : RB w0 (some ⟨sb, so, none⟩) l) (hmc : m ≤ mc) (hg : w0.heap[bc]? = some (.cells cur.toArray 5 (0, 0))) (hgR : bc ≠ R) (hsR : sb ≠ R) (hin : i + (V.n + 1) ≤ m) (hfit : cur.length = V.n + 1) (hm : m ≤ 2000000)
    (hQ : ∀ a' w', Live V bc bp y po c30 c31 a' → a'.tmps.getD 29 undef = .nilIface → ReadPost bc 0 R sb so m mc i (V.n + 1) l cur 5 w0 w' → Q .normal a' w') : readC.wp Tryz.prog Q a w0 := by
  obtain ⟨b, r, i12, i13, i14, i15, i16, i17, i18, img, W, H, st, n⟩ := V
  simp only at hr hin hfit
  subst hr
  have HC := readFull_any bc 0 (n + 1) (n + 1) R sb so m mc i l cur 5 w0 hR hl hrb hmc hg hgR hsR (by omega) hin (by omega) (Nat.le_refl _) hm
  have HCC := Lib.hid HC
  obtain ⟨g, rfl⟩ := h.lit
  clear h HC hg hrb hR hl
  conv => arg 2; whnf
  go_wp2_with (go_at_call 47; refine HCC.out.mono ?_; rintro e w' ⟨rfl, hp⟩)
  refine hQ _ _ ⟨rfl, rfl, rfl, rfl, rfl, rfl, rfl, rfl, rfl, rfl, rfl, rfl, rfl, rfl, rfl, rfl, rfl, rfl, rfl, rfl, rfl⟩ rfl hp
set_option maxRecDepth 1000000 in
set_option maxHeartbeats 6400000 in
theorem read_short (V : LV) (bc bp y po : Nat) (c30 c31 : Value) (R sb so m mc i : Nat) (l : List UInt8) (cur : List Value) (a : Act) (w0 : World) (Q : Exit → Act → World → Prop) (h : Live V bc bp y po c30 c31 a) (hr : V.r = .iface 90 (.pointer (some ⟨R, 0, none⟩))) (hR : Rd w0 R sb so m mc i)
    (hl : Hid (l.length = m)) (hrb : RB w0 (some ⟨sb, so, none⟩) l) (hmc : m ≤ mc) (hg : w0.heap[bc]? = some (.cells cur.toArray 5 (0, 0))) (hgR : bc ≠ R) (hsR : sb ≠ R) (hin : m < i + (V.n + 1)) (him : i ≤ m) (hfit : cur.length = V.n + 1) (hm : m ≤ 2000000) (hn : V.n ≤ 1000) (B : Nat) (he : Eofs B w0) (hge : B ≤ bc ∧ B ≤ R)
    (hQ : ∀ a' w' v, Live V bc bp y po c30 c31 a' → a'.tmps.getD 29 undef = v → (w0.cell? ⟨1, 0, none⟩ = some v ∨ w0.cell? ⟨2, 0, none⟩ = some v) → Chg (fun k => k = bc ∨ k = R) w0 w' → Q .normal a' w') : readC.wp Tryz.prog Q a w0 := by
  obtain ⟨b, r, i12, i13, i14, i15, i16, i17, i18, img, W, H, st, n⟩ := V
  simp only at hr hin hfit hn
  subst hr
  have HC := readFull_short B bc 0 (n + 1) (n + 1) R sb so m mc i l cur 5 w0 hR hl hrb hmc hg hgR hsR (by omega) him hin (by omega) (Nat.le_refl _) hm (by omega) he hge
  have HCC := Lib.hid HC
  obtain ⟨g, rfl⟩ := h.lit
  clear h HC hg hrb hR hl he
  conv => arg 2; whnf
  go_wp2_with (go_at_call 47; refine HCC.out.mono ?_; rintro e w' ⟨⟨nn, v, rfl, hv⟩, hp⟩)
  refine hQ _ _ v ⟨rfl, rfl, rfl, rfl, rfl, rfl, rfl, rfl, rfl, rfl, rfl, rfl, rfl, rfl, rfl, rfl, rfl, rfl, rfl, rfl, rfl⟩ rfl hv hp
set_option maxRecDepth 1000000 in
set_option maxHeartbeats 6400000 in
theorem err_ok (V : LV) (bc bp y po : Nat) (c30 c31 : Value) (a : Act) (w0 : World) (Q : Exit → Act → World → Prop) (h : Live V bc bp y po c30 c31 a) (h29 : a.tmps.getD 29 undef = .nilIface)
    (hQ : ∀ a', Live V bc bp y po c30 c31 a' → Q .normal a' w0) : errC.wp Tryz.prog Q a w0 := by
  obtain ⟨b, r, i12, i13, i14, i15, i16, i17, i18, img, W, H, st, n⟩ := V
  obtain ⟨g, rfl⟩ := h.lit29 h29
  clear h h29
  conv => arg 2; whnf
  go_wp2_with fail
  exact ⟨rfl, rfl, rfl, rfl, rfl, rfl, rfl, rfl, rfl, rfl, rfl, rfl, rfl, rfl, rfl, rfl, rfl, rfl, rfl, rfl, rfl⟩
set_option maxRecDepth 1000000 in
set_option maxHeartbeats 6400000 in
theorem err_bad (V : LV) (bc bp y po : Nat) (c30 c31 v : Value) (a : Act) (w0 : World) (Q : Exit → Act → World → Prop) (h : Live V bc bp y po c30 c31 a) (h29 : a.tmps.getD 29 undef = v) (B : Nat) (he : Eofs B w0) (hv : w0.cell? ⟨1, 0, none⟩ = some v ∨ w0.cell? ⟨2, 0, none⟩ = some v)
    (hQ : ∀ a', BadOut a' → Q .ret a' w0) : errC.wp Tryz.prog Q a w0 := by
  obtain ⟨b, r, i12, i13, i14, i15, i16, i17, i18, img, W, H, st, n⟩ := V
  obtain ⟨⟨p1, ca1, ta1, g1, r1, -, -⟩, p2, ca2, ta2, g2, r2, -, -⟩ := he
  rcases hv with hv | hv
  · obtain rfl : Value.iface 159 (.pointer (some p1)) = v := Option.some.inj (g1.symm.trans hv)
    obtain ⟨g, rfl⟩ := h.lit29 h29
    have qe := eql_err_same p1
    clear h h29 hv r1 r2
    conv => arg 2; whnf
    go_wp2_with fail
    exact ⟨rfl, rfl, _, rfl⟩
  obtain rfl : Value.iface 159 (.pointer (some p2)) = v := Option.some.inj (g2.symm.trans hv)
  obtain ⟨g, rfl⟩ := h.lit29 h29
  have qe := eql_err p2 p1 r2 r1
  have qs := eql_err_same p2
  clear h h29 hv r1 r2
  conv => arg 2; whnf
  by_cases hp : p2 = p1
  · subst hp
    clear qe
    go_wp2_with fail
    exact ⟨rfl, rfl, _, rfl⟩
  · rw [decide_eq_false hp] at qe
    go_wp2_with fail
    exact ⟨rfl, rfl, _, rfl⟩
end Go.Proofs.YtkiibhpmembcgaaGreatDoor
