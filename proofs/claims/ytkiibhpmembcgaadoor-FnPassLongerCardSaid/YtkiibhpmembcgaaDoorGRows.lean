/- The loop over the rows of readImagePass: its code in pieces, and what each piece does. Printed by gen/rows.py. The loop over the rows of readImagePass: all rows come into the picture, or an error comes back. -/
import Derived.Test.YtkiibhpmembcgaaDoorRipFilt
import Derived.Test.YtkiibhpmembcgaaDoorGRead
import Derived.Test.YtkiibhpmembcgaaDoorGFew
import Derived.Test.YtkiibhpmembcgaaDoorGMath
namespace Go.Proofs.YtkiibhpmembcgaaDoor
open Go.ChangeShapes Go.WideShapes Go.ChangeAt Go.RowKit Go.IntWalk

/-- The first, the second half of a sequence; what a block or a loop holds. -/
def Code.one : Code → Code
  | .seq a _ => a
  | c => c
def Code.two : Code → Code
  | .seq _ b => b
  | c => c
def Code.within : Code → Code
  | .block _ c => c
  | .loop c => c
  | c => c
noncomputable def rowC : Code := Code.within (Code.within rowsB)
noncomputable def headC : Code := Code.one rowC
noncomputable def rndC : Code := Code.within (Code.one (Code.two rowC))
noncomputable def nextC : Code := Code.two (Code.two rowC)
noncomputable def readC : Code := Code.one rndC
noncomputable def errC : Code := Code.one (Code.two rndC)
noncomputable def cutC : Code := Code.one (Code.two (Code.two rndC))
noncomputable def cut2C : Code := Code.one (Code.two (Code.two (Code.two rndC)))
noncomputable def fltC : Code := Code.one (Code.one (Code.two (Code.two (Code.two (Code.two rndC)))))
noncomputable def kindC : Code := Code.one (Code.one (Code.two (Code.two (Code.two (Code.two (Code.two rndC))))))
noncomputable def swapC : Code := Code.two (Code.two (Code.two (Code.two (Code.two (Code.two rndC)))))
theorem rows_is : rowsB = .block 1 (.loop (.seq headC (.seq (.block 2 (.seq readC (.seq errC (.seq cutC (.seq cut2C (.seq (.seq fltC filtB) (.seq (.seq kindC convB) swapC))))))) nextC))) := by kernel_rfl

set_option maxRecDepth 1000000 in
set_option maxHeartbeats 6400000 in
theorem head_go (V : LV) (bc bp y po : Nat) (c30 c31 : Value) (a : Act) (w0 : World) (Q : Exit → Act → World → Prop) (h : Live V bc bp y po c30 c31 a) (hy : y < V.H) (hH : V.H ≤ 1000)
    (hQ : ∀ a', Live V bc bp y po c30 c31 a' → Q .normal a' w0) : headC.wp Tryd.prog Q a w0 := by
  obtain ⟨b, r, i12, i13, i14, i15, i16, i17, i18, img, W, H, st, n⟩ := V
  simp only at hy hH
  obtain ⟨g, rfl⟩ := h.lit
  clear h hH
  conv => arg 2; whnf
  go_wp2_with fail
  exact ⟨rfl, rfl, rfl, rfl, rfl, rfl, rfl, rfl, rfl, rfl, rfl, rfl, rfl, rfl, rfl, rfl, rfl, rfl, rfl, rfl, rfl⟩
set_option maxRecDepth 1000000 in
set_option maxHeartbeats 6400000 in
theorem head_end (V : LV) (bc bp y po : Nat) (c30 c31 : Value) (a : Act) (w0 : World) (Q : Exit → Act → World → Prop) (h : Live V bc bp y po c30 c31 a) (hy : y = V.H)
    (hQ : ∀ a', Live V bc bp y po c30 c31 a' → Q (.exit 1) a' w0) : headC.wp Tryd.prog Q a w0 := by
  obtain ⟨b, r, i12, i13, i14, i15, i16, i17, i18, img, W, H, st, n⟩ := V
  simp only at hy
  subst hy
  obtain ⟨g, rfl⟩ := h.lit
  clear h
  conv => arg 2; whnf
  go_wp2_with fail
  exact ⟨rfl, rfl, rfl, rfl, rfl, rfl, rfl, rfl, rfl, rfl, rfl, rfl, rfl, rfl, rfl, rfl, rfl, rfl, rfl, rfl, rfl⟩
set_option maxRecDepth 1000000 in
set_option maxHeartbeats 6400000 in
theorem next_any (V : LV) (bc bp y po : Nat) (c30 c31 : Value) (a : Act) (w0 : World) (Q : Exit → Act → World → Prop) (h : Live V bc bp y po c30 c31 a) (hy : y < 1000)
    (hQ : ∀ a', Live V bc bp (y + 1) po c30 c31 a' → Q .normal a' w0) : nextC.wp Tryd.prog Q a w0 := by
  obtain ⟨b, r, i12, i13, i14, i15, i16, i17, i18, img, W, H, st, n⟩ := V
  have d1 : IntKind.i64.wrap ((y : Int) + 1) = ((y + 1 : Nat) : Int) := by rw [i64_in _ ⟨by omega, by omega⟩]; omega
  obtain ⟨g, rfl⟩ := h.lit
  clear h hy
  conv => arg 2; whnf
  go_wp2_with fail
  exact ⟨rfl, rfl, rfl, rfl, rfl, rfl, rfl, rfl, rfl, rfl, rfl, rfl, rfl, rfl, rfl, rfl, rfl, rfl, rfl, rfl, rfl⟩
set_option maxRecDepth 1000000 in
set_option maxHeartbeats 6400000 in
theorem swap_any (V : LV) (bc bp y po : Nat) (c30 c31 : Value) (a : Act) (w0 : World) (Q : Exit → Act → World → Prop) (h : Live V bc bp y po c30 c31 a)
    (hQ : ∀ a', Live V bp bc y po c30 c31 a' → Q .normal a' w0) : swapC.wp Tryd.prog Q a w0 := by
  obtain ⟨b, r, i12, i13, i14, i15, i16, i17, i18, img, W, H, st, n⟩ := V
  obtain ⟨g, rfl⟩ := h.lit
  clear h
  conv => arg 2; whnf
  go_wp2_with fail
  exact ⟨rfl, rfl, rfl, rfl, rfl, rfl, rfl, rfl, rfl, rfl, rfl, rfl, rfl, rfl, rfl, rfl, rfl, rfl, rfl, rfl, rfl⟩
set_option maxRecDepth 1000000 in
set_option maxHeartbeats 6400000 in
theorem cut_any (V : LV) (bc bp y po : Nat) (c30 c31 : Value) (a : Act) (w0 : World) (Q : Exit → Act → World → Prop) (h : Live V bc bp y po c30 c31 a) (hn : V.n ≤ 1000) (hn1 : 1 ≤ V.n)
    (hQ : ∀ a', Live V bc bp y po (.slice (some ⟨bc, 1, none⟩) V.n V.n) c31 a' → Q .normal a' w0) : cutC.wp Tryd.prog Q a w0 := by
  obtain ⟨b, r, i12, i13, i14, i15, i16, i17, i18, img, W, H, st, n⟩ := V
  simp only at hn hn1
  have h0 : ¬ n = 0 := by omega
  obtain ⟨g, rfl⟩ := h.lit
  clear h
  conv => arg 2; whnf
  go_wp2_with fail
  exact ⟨rfl, rfl, rfl, rfl, rfl, rfl, rfl, rfl, rfl, rfl, rfl, rfl, rfl, rfl, rfl, rfl, rfl, rfl, rfl, rfl, rfl⟩
set_option maxRecDepth 1000000 in
set_option maxHeartbeats 6400000 in
theorem cut2_any (V : LV) (bc bp y po : Nat) (c30 c31 : Value) (a : Act) (w0 : World) (Q : Exit → Act → World → Prop) (h : Live V bc bp y po c30 c31 a) (hn : V.n ≤ 1000) (hn1 : 1 ≤ V.n)
    (hQ : ∀ a', Live V bc bp y po c30 (.slice (some ⟨bp, 1, none⟩) V.n V.n) a' → Q .normal a' w0) : cut2C.wp Tryd.prog Q a w0 := by
  obtain ⟨b, r, i12, i13, i14, i15, i16, i17, i18, img, W, H, st, n⟩ := V
  simp only at hn hn1
  have h0 : ¬ n = 0 := by omega
  obtain ⟨g, rfl⟩ := h.lit
  clear h
  conv => arg 2; whnf
  go_wp2_with fail
  exact ⟨rfl, rfl, rfl, rfl, rfl, rfl, rfl, rfl, rfl, rfl, rfl, rfl, rfl, rfl, rfl, rfl, rfl, rfl, rfl, rfl, rfl⟩
set_option maxRecDepth 1000000 in
set_option maxHeartbeats 6400000 in
theorem flt_any (V : LV) (bc bp y po : Nat) (c30 c31 : Value) (f : UInt8) (a : Act) (w0 : World) (Q : Exit → Act → World → Prop) (h : Live V bc bp y po c30 c31 a) (hc : w0.cell? ⟨bc, 0, none⟩ = some (.int .u8 (f.toNat : Int)))
    (hQ : ∀ a', Live V bc bp y po c30 c31 a' → a'.tmps.getD 355 undef = .int .u8 (f.toNat : Int) → Q .normal a' w0) : fltC.wp Tryd.prog Q a w0 := by
  obtain ⟨b, r, i12, i13, i14, i15, i16, i17, i18, img, W, H, st, n⟩ := V
  have i0 : (0 : Int) < (n : Int) + 1 := by omega
  obtain ⟨g, rfl⟩ := h.lit
  clear h
  conv => arg 2; whnf
  go_wp2_with fail
  refine hQ _ ⟨rfl, rfl, rfl, rfl, rfl, rfl, rfl, rfl, rfl, rfl, rfl, rfl, rfl, rfl, rfl, rfl, rfl, rfl, rfl, rfl, rfl⟩ rfl
set_option maxRecDepth 1000000 in
set_option maxHeartbeats 6400000 in
theorem kind_any (V : LV) (bc bp y po : Nat) (c30 c31 : Value) (k : Nat) (a : Act) (w0 : World) (Q : Exit → Act → World → Prop) (h : Live V bc bp y po c30 c31 a) (hc : w0.cell? ⟨V.b, 7, none⟩ = some (.int .i64 (k : Int)))
    (hQ : ∀ a', Live V bc bp y po c30 c31 a' → a'.tmps.getD 452 undef = .int .i64 (k : Int) → Q .normal a' w0) : kindC.wp Tryd.prog Q a w0 := by
  obtain ⟨b, r, i12, i13, i14, i15, i16, i17, i18, img, W, H, st, n⟩ := V
  simp only at hc
  obtain ⟨g, rfl⟩ := h.lit
  clear h
  conv => arg 2; whnf
  go_wp2_with fail
  refine hQ _ ⟨rfl, rfl, rfl, rfl, rfl, rfl, rfl, rfl, rfl, rfl, rfl, rfl, rfl, rfl, rfl, rfl, rfl, rfl, rfl, rfl, rfl⟩ rfl
set_option maxRecDepth 1000000 in
set_option maxHeartbeats 6400000 in
theorem read_ok (V : LV) (bc bp y po : Nat) (c30 c31 : Value) (R sb so m mc i : Nat) (l : List UInt8) (cur : List Value) (a : Act) (w0 : World) (Q : Exit → Act → World → Prop) (h : Live V bc bp y po c30 c31 a) (hr : V.r = .iface 77 (.pointer (some ⟨R, 0, none⟩))) (hR : Rd w0 R sb so m mc i)
    (hl : Hid (l.length = m)) (hrb : RB w0 (some ⟨sb, so, none⟩) l) (hmc : m ≤ mc) (hg : w0.heap[bc]? = some (.cells cur.toArray 5 (0, 0))) (hgR : bc ≠ R) (hsR : sb ≠ R) (hin : i + (V.n + 1) ≤ m) (hfit : cur.length = V.n + 1) (hm : m ≤ 2000000)
    (hQ : ∀ a' w', Live V bc bp y po c30 c31 a' → a'.tmps.getD 29 undef = .nilIface → ReadPost bc 0 R sb so m mc i (V.n + 1) l cur 5 w0 w' → Q .normal a' w') : readC.wp Tryd.prog Q a w0 := by
  obtain ⟨b, r, i12, i13, i14, i15, i16, i17, i18, img, W, H, st, n⟩ := V
  simp only at hr hin hfit
  subst hr
  have HC := readFull_any bc 0 (n + 1) (n + 1) R sb so m mc i l cur 5 w0 hR hl hrb hmc hg hgR hsR (by omega) hin (by omega) (Nat.le_refl _) hm
  have HCC := Lib.hid HC
  obtain ⟨g, rfl⟩ := h.lit
  clear h HC hg hrb hR hl
  conv => arg 2; whnf
  go_wp2_with (go_at_call 39; refine HCC.out.mono ?_; rintro e w' ⟨rfl, hp⟩)
  refine hQ _ _ ⟨rfl, rfl, rfl, rfl, rfl, rfl, rfl, rfl, rfl, rfl, rfl, rfl, rfl, rfl, rfl, rfl, rfl, rfl, rfl, rfl, rfl⟩ rfl hp
set_option maxRecDepth 1000000 in
set_option maxHeartbeats 6400000 in
theorem read_short (V : LV) (bc bp y po : Nat) (c30 c31 : Value) (R sb so m mc i : Nat) (l : List UInt8) (cur : List Value) (a : Act) (w0 : World) (Q : Exit → Act → World → Prop) (h : Live V bc bp y po c30 c31 a) (hr : V.r = .iface 77 (.pointer (some ⟨R, 0, none⟩))) (hR : Rd w0 R sb so m mc i)
    (hl : Hid (l.length = m)) (hrb : RB w0 (some ⟨sb, so, none⟩) l) (hmc : m ≤ mc) (hg : w0.heap[bc]? = some (.cells cur.toArray 5 (0, 0))) (hgR : bc ≠ R) (hsR : sb ≠ R) (hin : m < i + (V.n + 1)) (him : i ≤ m) (hfit : cur.length = V.n + 1) (hm : m ≤ 2000000) (hn : V.n ≤ 1000) (B : Nat) (he : Eofs B w0) (hge : B ≤ bc ∧ B ≤ R)
    (hQ : ∀ a' w' v, Live V bc bp y po c30 c31 a' → a'.tmps.getD 29 undef = v → (w0.cell? ⟨1, 0, none⟩ = some v ∨ w0.cell? ⟨2, 0, none⟩ = some v) → Chg (fun k => k = bc ∨ k = R) w0 w' → Q .normal a' w') : readC.wp Tryd.prog Q a w0 := by
  obtain ⟨b, r, i12, i13, i14, i15, i16, i17, i18, img, W, H, st, n⟩ := V
  simp only at hr hin hfit hn
  subst hr
  have HC := readFull_short B bc 0 (n + 1) (n + 1) R sb so m mc i l cur 5 w0 hR hl hrb hmc hg hgR hsR (by omega) him hin (by omega) (Nat.le_refl _) hm (by omega) he hge
  have HCC := Lib.hid HC
  obtain ⟨g, rfl⟩ := h.lit
  clear h HC hg hrb hR hl he
  conv => arg 2; whnf
  go_wp2_with (go_at_call 39; refine HCC.out.mono ?_; rintro e w' ⟨⟨nn, v, rfl, hv⟩, hp⟩)
  refine hQ _ _ v ⟨rfl, rfl, rfl, rfl, rfl, rfl, rfl, rfl, rfl, rfl, rfl, rfl, rfl, rfl, rfl, rfl, rfl, rfl, rfl, rfl, rfl⟩ rfl hv hp
set_option maxRecDepth 1000000 in
set_option maxHeartbeats 6400000 in
theorem err_ok (V : LV) (bc bp y po : Nat) (c30 c31 : Value) (a : Act) (w0 : World) (Q : Exit → Act → World → Prop) (h : Live V bc bp y po c30 c31 a) (h29 : a.tmps.getD 29 undef = .nilIface)
    (hQ : ∀ a', Live V bc bp y po c30 c31 a' → Q .normal a' w0) : errC.wp Tryd.prog Q a w0 := by
  obtain ⟨b, r, i12, i13, i14, i15, i16, i17, i18, img, W, H, st, n⟩ := V
  obtain ⟨g, rfl⟩ := h.lit29 h29
  clear h h29
  conv => arg 2; whnf
  go_wp2_with fail
  exact ⟨rfl, rfl, rfl, rfl, rfl, rfl, rfl, rfl, rfl, rfl, rfl, rfl, rfl, rfl, rfl, rfl, rfl, rfl, rfl, rfl, rfl⟩
set_option maxRecDepth 1000000 in
set_option maxHeartbeats 6400000 in
theorem err_bad (V : LV) (bc bp y po : Nat) (c30 c31 v : Value) (a : Act) (w0 : World) (Q : Exit → Act → World → Prop) (h : Live V bc bp y po c30 c31 a) (h29 : a.tmps.getD 29 undef = v) (B : Nat) (he : Eofs B w0) (hv : w0.cell? ⟨1, 0, none⟩ = some v ∨ w0.cell? ⟨2, 0, none⟩ = some v)
    (hQ : ∀ a', BadOut a' → Q .ret a' w0) : errC.wp Tryd.prog Q a w0 := by
  obtain ⟨b, r, i12, i13, i14, i15, i16, i17, i18, img, W, H, st, n⟩ := V
  obtain ⟨⟨p1, ca1, ta1, g1, r1, -, -⟩, p2, ca2, ta2, g2, r2, -, -⟩ := he
  rcases hv with hv | hv
  · obtain rfl : Value.iface 147 (.pointer (some p1)) = v := Option.some.inj (g1.symm.trans hv)
    obtain ⟨g, rfl⟩ := h.lit29 h29
    have qe := eql_err_same p1
    clear h h29 hv r1 r2
    conv => arg 2; whnf
    go_wp2_with fail
    exact ⟨rfl, rfl, _, rfl⟩
  obtain rfl : Value.iface 147 (.pointer (some p2)) = v := Option.some.inj (g2.symm.trans hv)
  obtain ⟨g, rfl⟩ := h.lit29 h29
  have qe := eql_err p2 p1 r2 r1
  have qs := eql_err_same p2
  clear h h29 hv r1 r2
  conv => arg 2; whnf
  by_cases hp : p2 = p1
  · subst hp
    clear qe
    go_wp2_with fail
    exact ⟨rfl, rfl, _, rfl⟩
  · rw [decide_eq_false hp] at qe
    go_wp2_with fail
    exact ⟨rfl, rfl, _, rfl⟩
end Go.Proofs.YtkiibhpmembcgaaDoor
namespace Go.Proofs.YtkiibhpmembcgaaDoor
open Go.ChangeShapes Go.WideShapes Go.ChangeAt Go.RowKit Go.IntWalk

theorem Only2.chg {a b : Nat} {w w' : World} (h : Only2 a b w w') : Chg (fun k => k = a ∨ k = b) w w' :=
  ⟨h.os, h.tape, h.output, by rw [h.size]; exact Nat.le_refl _, fun k _ hk => h.block k (fun e => hk (.inl e)) (fun e => hk (.inr e))⟩
theorem row_cons {l : List UInt8} {n y : Nat} (h : (y + 1) * (n + 1) ≤ l.length) : (l.drop (y * (n + 1))).take (n + 1) = fltB l n y :: rowB l n y := by
  have h2 : y * (n + 1) < l.length := by rw [Nat.add_mul, Nat.one_mul] at h; omega
  rw [List.drop_eq_getElem_cons h2, List.take_succ_cons]
  congr 1
  unfold fltB
  simp [List.getD, h2]
theorem splice_all {cur new : List Value} (h : new.length = cur.length) : splice cur 0 new = new := by
  simp [splice, h]
theorem lastR_next (R : List (List UInt8)) (r : List UInt8) (n : Nat) : lastR (R ++ [r]) n = r := by
  unfold lastR
  rw [List.getLastD_concat]
theorem picOf_next (c d : Nat) (clear : List Nat) (W : Nat) (R : List (List UInt8)) (r : List UInt8) : picOf c d clear W (R ++ [r]) = picOf c d clear W R ++ rowTo c d clear r W := by
  simp [picOf, rowTo]
/-- A row's pixels come behind those of the rows ahead of it. -/
theorem pic_put {c d : Nat} (hok : OkCD c d) (clear : List Nat) {W S L y H : Nat} {R : List (List UInt8)} (r : List UInt8) (hR : R.length = y) (hS : S = W * nK (kindN c d (!clear.isEmpty))) (hL : L = H * S) (hy : y < H) :
    putAt (picOf c d clear W R ++ List.replicate (L - y * S) 0) (y * S) (rowTo c d clear r W) = picOf c d clear W (R ++ [r]) ++ List.replicate (L - (y + 1) * S) 0 := by
  have h1 : (picOf c d clear W R).length = y * S := by rw [picOf_len hok, hR, hS]
  have h2 : (rowTo c d clear r W).length = S := by rw [rowTo_len hok, hS]
  have h3 : (y + 1) * S ≤ L := by rw [hL]; exact Nat.mul_le_mul_right _ hy
  have h4 : (y + 1) * S = y * S + S := by rw [Nat.add_mul, Nat.one_mul]
  rw [putAt_splice _ _ _ (by rw [List.length_append, h1, h2, List.length_replicate]; omega), picOf_next, List.take_append, List.drop_append, h1, h2, Nat.sub_self, List.take_zero, List.append_nil, List.drop_replicate]
  rw [List.take_of_length_le (by omega), List.drop_of_length_le (by omega), List.nil_append]
  congr 2
  omega
theorem st_le_rb {c d W : Nat} (h : OkCD c d) (hW : 1 ≤ W) : stN c d ≤ rbN c d W := by
  have h1 := h.ch
  have h2 := h.d
  have h3 : 1 * (chN c * d) ≤ W * (chN c * d) := Nat.mul_le_mul_right _ hW
  have h4 : W * chN c * d = W * (chN c * d) := Nat.mul_assoc _ _ _
  have h5 : 1 * 1 ≤ chN c * d := Nat.mul_le_mul h1.1 (by omega)
  unfold stN rbN
  omega

/-- A kind's walk from bytes to colors; inc: what is added to the place in the picture's bytes, row by row; k: the kind's number. -/
def ConvOk (V : LV) (c d : Nat) (clear : List Nat) (inc g bx L S k : Nat) (D G : Obj) : Prop :=
  ∀ (bc bp y : Nat) (row p : List UInt8) (pre : Value) (a : Act) (w0 : World) (Q : Exit → Act → World → Prop), a.tmps.getD 452 undef = .int .i64 (k : Int) → w0.heap[V.b]? = some D → w0.heap[g]? = some G →
    CIn V bc bp y (y * inc) c d clear row g bx L S p pre a w0 → (∀ a' w', COut V bc bp y (y * inc + inc) c d clear row bx S p w0 a' w' → Q .normal a' w') → convB.wp Tryd.prog Q a w0
/-- What the loop is told: the reader R of the bytes l; the picture g, its bytes in bx; the two blocks of rows; the decoder's object D, the picture's G. -/
structure RowsIn (V : LV) (c d : Nat) (clear : List Nat) (l : List UInt8) (R sb so m mc inc g bx L S c1 c2 k B : Nat) (D G : Obj) (w0 : World) : Prop where
  r : V.r = .iface 77 (.pointer (some ⟨R, 0, none⟩))
  ok : OkCD c d
  hl : l.length = m
  hm : m ≤ 2000000
  hmc : m ≤ mc
  src : RB w0 (some ⟨sb, so, none⟩) l
  srclt : sb < w0.heap.size
  dec : w0.heap[V.b]? = some D
  cb : ∀ w : World, w.heap[V.b]? = some D → w.cell? ⟨V.b, 7, none⟩ = some (.int .i64 (k : Int))
  obj : w0.heap[g]? = some G
  im : ImAt g bx L L S V.W V.H w0
  eofs : Eofs B w0
  nB : B ≤ R ∧ B ≤ c1 ∧ B ≤ c2 ∧ B ≤ bx
  n1 : c1 ≠ c2
  n2 : c1 ≠ R
  n3 : c2 ≠ R
  n4 : bx ≠ c1 ∧ bx ≠ c2 ∧ bx ≠ R ∧ bx ≠ g ∧ bx ≠ V.b
  n5 : V.b ≠ R ∧ V.b ≠ c1 ∧ V.b ≠ c2
  n6 : g ≠ R ∧ g ≠ c1 ∧ g ≠ c2
  n7 : sb ≠ R ∧ sb ≠ c1 ∧ sb ≠ c2 ∧ sb ≠ bx
  hst : V.st = stN c d
  hn : V.n = rbN c d V.W
  hW1 : 1 ≤ V.W
  hW : V.W ≤ 40
  hH : V.H ≤ 40
  hS : S = V.W * nK (kindN c d (!clear.isEmpty))
  hL : L = V.H * S
def Blk (R c1 c2 bx : Nat) (k : Nat) : Prop := k = R ∨ k = c1 ∨ k = c2 ∨ k = bx
/-- The loop's invariant. -/
structure RI (V : LV) (c d : Nat) (clear : List Nat) (l : List UInt8) (R sb so m mc inc bx L S bc bp c1 c2 : Nat) (c30 c31 : Value) (cur : List Value) (x : Value) (Rr : List (List UInt8)) (w0 : World) (y : Nat) (a : Act) (w : World) : Prop where
  two : (bc = c1 ∧ bp = c2) ∨ (bc = c2 ∧ bp = c1)
  live : Live V bc bp y (y * inc) c30 c31 a
  hy : y ≤ V.H
  up : upR l V.n V.st y = some Rr
  cu : w.heap[bc]? = some (.cells cur.toArray 5 (0, 0))
  cl : cur.length = V.n + 1
  pr : Seg w bp [x] [] (lastR Rr V.n)
  rd : Rd w R sb so m mc (y * (V.n + 1))
  chg : Chg (Blk R c1 c2 bx) w0 w
  pix : Seg w bx [] [] (picOf c d clear V.W Rr ++ List.replicate (L - y * S) 0)
theorem Rd.chg {p : Nat → Prop} {w w' : World} {R sb so m mc i : Nat} (h : Rd w R sb so m mc i) (k : Chg p w w') (hne : ¬ p R) : Rd w' R sb so m mc i := by
  obtain ⟨pr, ad, ha, h⟩ := h
  refine ⟨pr, ad, ha, (k.block R ?_ hne).trans h⟩
  rcases Nat.lt_or_ge R w.heap.size with h' | h'
  · exact h'
  · rw [Array.getElem?_eq_none h'] at h; simp at h
/-- The filters, all five, and a byte that is none. -/
theorem filt_any (V : LV) (bc bp y po : Nat) (f : UInt8) (row above : List UInt8) (a : Act) (w0 : World) (Q : Exit → Act → World → Prop) (h : FIn V bc bp y po f row above a w0)
    (hQ : f.toNat ≤ 4 → ∀ a' w', FOut V bc bp y po f row above w0 a' w' → Q .normal a' w') (hB : 4 < f.toNat → ∀ a', BadOut a' → Q .ret a' w0) : filtB.wp Tryd.prog Q a w0 := by
  by_cases h4 : f.toNat ≤ 4
  · rcases (by omega : f.toNat = 0 ∨ f.toNat = 1 ∨ f.toNat = 2 ∨ f.toNat = 3 ∨ f.toNat = 4) with e | e | e | e | e
    · exact filt_0 V bc bp y po f row above a w0 Q (by omega) h (hQ h4)
    · exact filt_1 V bc bp y po f row above a w0 Q (by omega) h (hQ h4)
    · exact filt_2 V bc bp y po f row above a w0 Q (by omega) h (hQ h4)
    · exact filt_3 V bc bp y po f row above a w0 Q (by omega) h (hQ h4)
    · exact filt_4 V bc bp y po f row above a w0 Q (by omega) h (hQ h4)
  · exact filt_bad V bc bp y po f row above a w0 Q (by omega) h (hB (by omega))

/-- One row. -/
theorem round_any {V : LV} {c d : Nat} {clear : List Nat} {l : List UInt8} {R sb so m mc inc g bx L S c1 c2 k B : Nat} {D G : Obj} {w0 : World} (hin : RowsIn V c d clear l R sb so m mc inc g bx L S c1 c2 k B D G w0)
    (hconv : ConvOk V c d clear inc g bx L S k D G) {bc bp : Nat} {c30 c31 : Value} {cur : List Value} {x : Value} {Rr : List (List UInt8)} {y : Nat} {a : Act} {w : World}
    (h : RI V c d clear l R sb so m mc inc bx L S bc bp c1 c2 c30 c31 cur x Rr w0 y a w) (hy : y < V.H) (Q : Exit → Act → World → Prop)
    (hN : ∀ a' w' c30 c31 cur x Rr, RI V c d clear l R sb so m mc inc bx L S bp bc c1 c2 c30 c31 cur x Rr w0 (y + 1) a' w' → Q .normal a' w')
    (hB : ∀ a' w', upR l V.n V.st V.H = none → BadOut a' → Chg (Blk R c1 c2 bx) w0 w' → Q .ret a' w') :
    (Code.seq (.block 2 (.seq readC (.seq errC (.seq cutC (.seq cut2C (.seq (.seq fltC filtB) (.seq (.seq kindC convB) swapC))))))) nextC).wp Tryd.prog Q a w := by
  have hbc : bc ≠ R ∧ bp ≠ R ∧ bc ≠ bp ∧ bx ≠ bc ∧ bx ≠ bp ∧ V.b ≠ bc ∧ V.b ≠ bp ∧ g ≠ bc ∧ sb ≠ bc ∧ B ≤ bc ∧ Blk R c1 c2 bx bc ∧ Blk R c1 c2 bx bp := by
    have h1 := hin.n1; have h2 := hin.n2; have h3 := hin.n3; have h4 := hin.n4; have h5 := hin.n5; have h6 := hin.n6; have h7 := hin.n7; have h8 := hin.nB
    rcases h.two with ⟨rfl, rfl⟩ | ⟨rfl, rfl⟩
    · exact ⟨h2, h3, h1, h4.1, h4.2.1, h5.2.1, h5.2.2, h6.2.1, h7.2.1, h8.2.1, .inr (.inl rfl), .inr (.inr (.inl rfl))⟩
    · exact ⟨h3, h2, h1.symm, h4.2.1, h4.1, h5.2.2, h5.2.1, h6.2.2, h7.2.2.1, h8.2.2.1, .inr (.inr (.inl rfl)), .inr (.inl rfl)⟩
  obtain ⟨b1, b2, b3, b4, b5, b6, b7, b8, b9, b10, b12, b13⟩ := hbc
  have hn320 : V.n ≤ 320 := by rw [hin.hn]; exact hin.ok.rb hin.hW
  have hn1 : 1 ≤ V.n := by rw [hin.hn]; exact hin.ok.rb_pos hin.hW1
  have hnR : ¬ Blk R c1 c2 bx V.b := by
    have h4 := hin.n4; have h5 := hin.n5
    rintro (e | e | e | e)
    · exact h5.1 e
    · exact h5.2.1 e
    · exact h5.2.2 e
    · exact h4.2.2.2.2 e.symm
  have hnG : ¬ Blk R c1 c2 bx g := by
    have h4 := hin.n4; have h6 := hin.n6
    rintro (e | e | e | e)
    · exact h6.1 e
    · exact h6.2.1 e
    · exact h6.2.2 e
    · exact h4.2.2.2.1 e.symm
  have hnS : ¬ Blk R c1 c2 bx sb := by
    have h7 := hin.n7
    rintro (e | e | e | e)
    · exact h7.1 e
    · exact h7.2.1 e
    · exact h7.2.2.1 e
    · exact h7.2.2.2 e
  have hnE : ∀ i, i < B → ¬ Blk R c1 c2 bx i := by
    have h8 := hin.nB
    rintro i hi (e | e | e | e) <;> omega
  have hdlt : V.b < w0.heap.size := by
    have h := hin.dec
    rcases Nat.lt_or_ge V.b w0.heap.size with h' | h'
    · exact h'
    · rw [Array.getElem?_eq_none h'] at h; simp at h
  have hglt : g < w0.heap.size := hin.im.lt
  have hrows := upR_rows h.up
  have heofs := hin.eofs.chg h.chg hnE
  have hsrc := hin.src.chg h.chg hin.srclt hnS
  refine wp_seq (wp_block (wp_seq ?_))
  by_cases hlen : (y + 1) * (V.n + 1) ≤ l.length
  · refine read_ok V bc bp y (y * inc) c30 c31 R sb so m mc (y * (V.n + 1)) l cur a w _ h.live hin.r h.rd (Lib.hid hin.hl) hsrc hin.hmc h.cu b1 hin.n7.1 (by rw [← hin.hl]; rw [Nat.add_mul, Nat.one_mul] at hlen; exact hlen) h.cl hin.hm ?_
    intro a1 w1 live1 s29 hp
    refine wp_seq (err_ok V bc bp y (y * inc) c30 c31 a1 w1 _ live1 s29 ?_)
    intro a2 live2
    refine wp_seq (cut_any V bc bp y (y * inc) c30 c31 a2 w1 _ live2 (by omega) hn1 ?_)
    intro a3 live3
    refine wp_seq (cut2_any V bc bp y (y * inc) _ c31 a3 w1 _ live3 (by omega) hn1 ?_)
    intro a4 live4
    have hrl : (rowB l V.n y).length = V.n := rowB_len hlen
    have hseg1 : Seg w1 bc [.int .u8 ((fltB l V.n y).toNat : Int)] [] (rowB l V.n y) := by
      have := hp.row
      rw [row_cons hlen, splice_all (by rw [cellsB_length, List.length_cons, hrl, h.cl])] at this
      unfold Seg
      rw [this]
      simp [cellsB]
    have hab1 : Seg w1 bp [x] [] (lastR Rr V.n) := (hp.only.block bp b3.symm b2).trans h.pr
    refine wp_seq (wp_seq (flt_any V bc bp y (y * inc) _ _ (fltB l V.n y) a4 w1 _ live4 (by rw [cell_of_row w1 bc 0 _ _ _ hseg1]; simp) ?_))
    intro a5 live5 s355
    have hfin : FIn V bc bp y (y * inc) (fltB l V.n y) (rowB l V.n y) (lastR Rr V.n) a5 w1 :=
      ⟨live5, s355, hseg1, hab1.rb rfl, hrl, hrows.last, b3.symm, by rw [hin.hst]; exact hin.ok.st.1, by rw [hin.hst]; exact hin.ok.st.2, by rw [hin.hst, hin.hn]; exact st_le_rb hin.ok hin.hW1, by omega⟩
    have chg1 : Chg (Blk R c1 c2 bx) w0 w1 := h.chg.trans (hp.only.chg.mono fun i hi => by
      rcases hi with rfl | rfl
      · exact b12
      · exact .inl rfl)
    refine filt_any V bc bp y (y * inc) _ _ _ a5 w1 _ hfin ?_ ?_
    · intro hf4 a6 w2 ⟨live6, on6, seg6⟩
      have chg2 : Chg (Blk R c1 c2 bx) w0 w2 := chg1.trans (on6.chg.mono fun i hi => by subst hi; exact b12)
      have hdec2 : w2.heap[V.b]? = some D := (chg2.block V.b hdlt hnR).trans hin.dec
      refine wp_seq (wp_seq (kind_any V bc bp y (y * inc) _ _ k a6 w2 _ live6 (hin.cb w2 hdec2) ?_))
      intro a7 live7 s452
      have hpix2 : Seg w2 bx [] [] (picOf c d clear V.W Rr ++ List.replicate (L - y * S) 0) := by
        have h1 : w1.heap[bx]? = w.heap[bx]? := hp.only.block bx b4 hin.n4.2.2.1
        exact ((on6.block bx b4).trans h1).trans h.pix
      have hplen : (picOf c d clear V.W Rr ++ List.replicate (L - y * S) 0).length = L := by
        have : y * S ≤ V.H * S := Nat.mul_le_mul_right _ (by omega)
        rw [List.length_append, picOf_len hin.ok, hrows.len, ← hin.hS, List.length_replicate, hin.hL]
        omega
      have hcin : CIn V bc bp y (y * inc) c d clear (unf (fltB l V.n y).toNat (rowB l V.n y) (lastR Rr V.n) V.st) g bx L S (picOf c d clear V.W Rr ++ List.replicate (L - y * S) 0) (.int .u8 ((fltB l V.n y).toNat : Int)) a7 w2 :=
        ⟨live7, seg6, by rw [unf_len, hrl], hin.im.chg chg2 hnG, hpix2, hplen, b4, hin.n4.2.2.2.1, hin.n4.2.2.2.2, Nat.lt_of_lt_of_le hdlt chg2.size, hy, hin.hW, hin.hW1, hin.hH, hin.hS, hin.hL, hin.hn⟩
      refine hconv bc bp y _ _ _ a7 w2 _ s452 hdec2 ((chg2.block g hglt hnG).trans hin.obj) hcin ?_
      intro a8 w3 ⟨live8, chg8, seg8⟩
      refine swap_any V bc bp y (y * inc + inc) _ _ a8 w3 _ live8 ?_
      intro a9 live9
      refine next_any V bp bc y (y * inc + inc) _ _ a9 w3 _ live9 (by have := hin.hH; omega) ?_
      intro a10 live10
      have hw3 : ∀ i, i ≠ bx → i < w2.heap.size → w3.heap[i]? = w2.heap[i]? := fun i hi hl => chg8.block i hl hi
      have hbp2 : w2.heap[bp]? = w1.heap[bp]? := on6.block bp b3.symm
      have hpr3 : w3.heap[bp]? = w1.heap[bp]? := (hw3 bp b5.symm (by
        have := hab1.lt; rw [on6.size]; exact this)).trans hbp2
      refine hN a10 w3 (.slice (some ⟨bc, 1, none⟩) V.n V.n) (.slice (some ⟨bp, 1, none⟩) V.n V.n) ([x] ++ (lastR Rr V.n).map (fun v => Value.int .u8 (v.toNat : Int)) ++ []) (.int .u8 ((fltB l V.n y).toNat : Int)) (Rr ++ [unf (fltB l V.n y).toNat (rowB l V.n y) (lastR Rr V.n) V.st]) ?_
      refine ⟨?_, ?_, hy, upR_next h.up hlen hf4, hpr3.trans hab1, ?_, ?_, ?_, ?_, ?_⟩
      · rcases h.two with ⟨e1, e2⟩ | ⟨e1, e2⟩
        · exact .inr ⟨e2, e1⟩
        · exact .inl ⟨e2, e1⟩
      · rw [show (y + 1) * inc = y * inc + inc by rw [Nat.add_mul, Nat.one_mul]]
        exact live10
      · simp [hrows.last]
      · rw [lastR_next]
        exact (hw3 bc b4.symm seg6.lt).trans seg6
      · have hrd := hp.rd
        rw [show y * (V.n + 1) + (V.n + 1) = (y + 1) * (V.n + 1) by rw [Nat.add_mul y 1, Nat.one_mul]] at hrd
        exact (hrd.chg on6.chg b1.symm).chg chg8 hin.n4.2.2.1.symm
      · exact chg2.trans (chg8.mono fun i hi => .inr (.inr (.inr hi)))
      · rw [← pic_put hin.ok clear _ hrows.len hin.hS hin.hL hy]
        exact seg8
    · intro hf4 a6 bad
      refine hB a6 w1 ?_ bad chg1
      exact upR_none_le (upR_stop h.up (by intro q; omega)) hy
  · refine read_short V bc bp y (y * inc) c30 c31 R sb so m mc (y * (V.n + 1)) l cur a w _ h.live hin.r h.rd (Lib.hid hin.hl) hsrc hin.hmc h.cu b1 hin.n7.1 (by rw [← hin.hl]; rw [Nat.add_mul, Nat.one_mul] at hlen; omega) ?_ h.cl hin.hm (by omega) B heofs ⟨b10, hin.nB.1⟩ ?_
    · rw [← hin.hl]
      exact upR_len h.up
    intro a1 w1 v live1 s29 hv hch
    have chg1 : Chg (Blk R c1 c2 bx) w0 w1 := h.chg.trans (hch.mono fun i hi => by
      rcases hi with rfl | rfl
      · exact b12
      · exact .inl rfl)
    have he1 := hin.eofs.chg chg1 hnE
    have hv1 : w1.cell? ⟨1, 0, none⟩ = some v ∨ w1.cell? ⟨2, 0, none⟩ = some v := by
      obtain ⟨p1, ca1, ta1, g1, -, -, l1⟩ := heofs.one
      obtain ⟨p2, ca2, ta2, g2, -, -, l2⟩ := heofs.two
      have hR := hin.nB.1
      rcases hv with hv | hv
      · exact .inl ((hch.cell (q := ⟨1, 0, none⟩) (World.block_lt_of_cell? w _ g1) (by rintro (e | e) <;> (simp only at e; omega))).trans hv)
      · exact .inr ((hch.cell (q := ⟨2, 0, none⟩) (World.block_lt_of_cell? w _ g2) (by rintro (e | e) <;> (simp only at e; omega))).trans hv)
    refine wp_seq (err_bad V bc bp y (y * inc) c30 c31 v a1 w1 _ live1 s29 B he1 hv1 ?_)
    intro a2 bad
    refine hB a2 w1 ?_ bad chg1
    exact upR_none_le (upR_stop h.up (by intro q; exact hlen q.1)) hy

/-- All rows. -/
theorem rows_any {V : LV} {c d : Nat} {clear : List Nat} {l : List UInt8} {R sb so m mc inc g bx L S c1 c2 k B : Nat} {D G : Obj} {w0 : World} (hin : RowsIn V c d clear l R sb so m mc inc g bx L S c1 c2 k B D G w0)
    (hconv : ConvOk V c d clear inc g bx L S k D G) {c30 c31 : Value} {cur : List Value} {x : Value} {a : Act}
    (h : RI V c d clear l R sb so m mc inc bx L S c1 c2 c1 c2 c30 c31 cur x [] w0 0 a w0) (Q : Exit → Act → World → Prop)
    (hN : ∀ a' w' bc bp c30 c31 Rr, upR l V.n V.st V.H = some Rr → Live V bc bp V.H (V.H * inc) c30 c31 a' → Chg (Blk R c1 c2 bx) w0 w' → Seg w' bx [] [] (picOf c d clear V.W Rr) → Q .normal a' w')
    (hB : ∀ a' w', upR l V.n V.st V.H = none → BadOut a' → Chg (Blk R c1 c2 bx) w0 w' → Q .ret a' w') : rowsB.wp Tryd.prog Q a w0 := by
  rw [rows_is]
  refine wp_block ?_
  refine wp_loop_ghost (fun n a w => ∃ y bc bp c30 c31 cur x Rr, n = V.H - y ∧ RI V c d clear l R sb so m mc inc bx L S bc bp c1 c2 c30 c31 cur x Rr w0 y a w) V.H ⟨0, c1, c2, c30, c31, cur, x, [], rfl, h⟩ ?_
  rintro n a1 w1 ⟨y, bc, bp, c30, c31, cur, x, Rr, rfl, hI⟩
  rcases Nat.lt_or_ge y V.H with hy | hy
  · refine wp_seq (head_go V bc bp y (y * inc) c30 c31 a1 w1 _ hI.live hy (by have := hin.hH; omega) ?_)
    intro a2 live2
    refine round_any hin hconv (a := a2) (w := w1) { hI with live := live2 } hy _ ?_ ?_
    · intro a' w' c30 c31 cur x Rr hI2
      exact ⟨V.H - (y + 1), by omega, y + 1, bp, bc, c30, c31, cur, x, Rr, rfl, hI2⟩
    · intro a' w' hnone bad chg
      exact hB a' w' hnone bad chg
  · obtain rfl : y = V.H := Nat.le_antisymm hI.hy hy
    refine wp_seq (head_end V bc bp V.H (V.H * inc) c30 c31 a1 w1 _ hI.live rfl ?_)
    intro a2 live2
    refine hN a2 w1 bc bp c30 c31 Rr hI.up live2 hI.chg ?_
    have := hI.pix
    rw [hin.hL, Nat.sub_self, List.replicate_zero, List.append_nil] at this
    exact this
end Go.Proofs.YtkiibhpmembcgaaDoor
