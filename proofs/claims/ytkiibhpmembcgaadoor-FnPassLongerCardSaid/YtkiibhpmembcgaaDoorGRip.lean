/- readImagePass behind the picture's making: the rows, and the return. The decoder's own block of memory: its fields; how ZZPass makes it. readImagePass, whole: for any kind of row whose picture's making and whose walk from bytes to colors are told. -/
import Derived.Test.YtkiibhpmembcgaaDoorGRows
import Derived.Test.YtkiibhpmembcgaaDoorGPro
import Derived.KernelRfl
import Derived.Test.YtkiibhpmembcgaaDoorPsSize
namespace Go.Proofs.YtkiibhpmembcgaaDoor
open Go.ChangeShapes Go.WideShapes Go.ChangeAt Go.RowKit Go.IntWalk

/-- What the walk behind the picture's making is told: as RowsIn, ahead of the two blocks of rows. -/
structure TailIn (V : LV) (c d : Nat) (clear : List Nat) (l : List UInt8) (R sb so m mc g bx L S k B bpp : Nat) (D G : Obj) (w : World) : Prop where
  r : V.r = .iface 77 (.pointer (some ⟨R, 0, none⟩))
  ok : OkCD c d
  hl : l.length = m
  hm : m ≤ 2000000
  hmc : m ≤ mc
  src : RB w (some ⟨sb, so, none⟩) l
  srclt : sb < w.heap.size
  rd : Rd w R sb so m mc 0
  dec : w.heap[V.b]? = some D
  cb : ∀ w : World, w.heap[V.b]? = some D → w.cell? ⟨V.b, 7, none⟩ = some (.int .i64 (k : Int))
  obj : w.heap[g]? = some G
  im : ImAt g bx L L S V.W V.H w
  seg : Seg w bx [] [] (List.replicate L 0)
  eofs : Eofs B w
  nB : B ≤ R ∧ B ≤ bx
  n4 : bx ≠ R ∧ bx ≠ g ∧ bx ≠ V.b
  n5 : V.b ≠ R
  n6 : g ≠ R
  n7 : sb ≠ R ∧ sb ≠ bx
  hst : V.st = stN c d
  hn : V.n = rbN c d V.W
  hb : bpp = chN c * d
  hW1 : 1 ≤ V.W
  hW : V.W ≤ 40
  hH : V.H ≤ 40
  hS : S = V.W * nK (kindN c d (!clear.isEmpty))
  hL : L = V.H * S
theorem Rd.lt {w : World} {R sb so m mc i : Nat} (h : Rd w R sb so m mc i) : R < w.heap.size := by
  obtain ⟨pr, ad, -, h⟩ := h
  exact lt_of_row h
theorem step_eq {c d : Nat} (ok : OkCD c d) : stN c d = (chN c * d + 7) / 8 := by
  rcases ok with ⟨rfl, rfl | rfl | rfl | rfl | rfl⟩ | ⟨rfl, rfl | rfl | rfl | rfl⟩ | ⟨rfl | rfl | rfl, rfl | rfl⟩ <;> rfl
theorem bpp_le {c d : Nat} (ok : OkCD c d) : chN c * d ≤ 64 := by
  have h1 := ok.ch
  have h2 := ok.d
  have : chN c * d ≤ 4 * 16 := Nat.mul_le_mul h1.2 (by omega)
  exact this
theorem row_eq (c d W : Nat) : rbN c d W = (chN c * d * W + 7) / 8 := by
  unfold rbN
  rw [Nat.mul_comm (chN c * d) W, Nat.mul_assoc]
def zbL (n : Nat) : List Value := ([] : List Value) ++ (List.replicate n (0 : UInt8)).map (fun (v : UInt8) => Value.int .u8 (v.toNat : Int)) ++ []
theorem zbL_len (n : Nat) : (zbL n).length = n := by simp [zbL]
theorem zb_cons (n : Nat) : zb (n + 1) = ([Value.int .u8 0] ++ (List.replicate n (0 : UInt8)).map (fun (v : UInt8) => Value.int .u8 (v.toNat : Int)) ++ []).toArray := by
  unfold zb
  rw [List.replicate_succ]
  rfl
noncomputable def tailC : Code := .seq (pc 14) (.seq (pc 15) (.seq (pc 16) (.seq (pc 17) (.seq (pc 18) (.seq (pc 19) (.seq (.seq setC rowsB) (.seq (pc 21) .ret)))))))
theorem tail_any {V : LV} {c d : Nat} {clear : List Nat} {l : List UInt8} {R sb so m mc inc g bx L S k B bpp : Nat} {D G : Obj} {w : World} (hin : TailIn V c d clear l R sb so m mc g bx L S k B bpp D G w)
    (hconv : ConvOk V c d clear inc g bx L S k D G) {a : Act} (h : Pre2 V bpp a) (Rend : Ending → World → Prop)
    (hgood : ∀ w' Rr, upR l V.n V.st V.H = some Rr → Chg (fun i => i = R ∨ i = bx) w w' → Seg w' bx [] [] (picOf c d clear V.W Rr) → Rend (.returned (.tuple #[V.img, .nilIface])) w')
    (hbad : ∀ w' s, upR l V.n V.st V.H = none → Chg (fun i => i = R ∨ i = bx) w w' → Rend (.returned (.tuple #[.nilIface, .iface 80 (.string s)])) w') :
    tailC.wp Tryd.prog (bodyPost Tryd.prog Tryd.f26 Rend) a w := by
  have hb64 : bpp ≤ 64 := by rw [hin.hb]; exact bpp_le hin.ok
  have hst : V.st = (bpp + 7) / 8 := by rw [hin.hst, hin.hb]; exact step_eq hin.ok
  have hn : V.n = (bpp * V.W + 7) / 8 := by rw [hin.hn, hin.hb]; exact row_eq c d V.W
  have hn320 : V.n ≤ 320 := by rw [hin.hn]; exact hin.ok.rb hin.hW
  unfold tailC
  refine wp_seq (p14_any V bpp a w _ h ?_)
  intro a1 h1
  refine wp_seq (p15_any V bpp a1 w _ h1 hb64 hst ?_)
  intro a2 h2
  refine wp_seq (p16_any V bpp (V.n + 1) a2 w _ h2 hb64 hin.hW hn rfl ?_)
  intro a3 h3
  refine wp_seq (p17_any V (V.n + 1) a3 w _ h3 ?_)
  intro a4 h4
  refine wp_seq (p18_any V (V.n + 1) a4 w _ h4 (by omega) ?_)
  intro a5 h5
  obtain ⟨w1, hw1⟩ : ∃ w1, w1 = w.alloc (.cells (zb (V.n + 1)) 5) := ⟨_, rfl⟩
  have hz1 : w1.heap.size = w.heap.size + 1 := by rw [hw1, size_alloc]
  have hr1 : w1.heap[w.heap.size]? = some (.cells (zb (V.n + 1)) 5 (0, 0)) := hw1 ▸ alloc_at w _
  have hc1 : Chg (fun _ => False) w w1 := hw1 ▸ (Chg.refl _ _).alloc _
  rw [← hw1]
  clear hw1
  refine wp_seq (p19_any V (V.n + 1) w.heap.size a5 w1 _ h5 (by omega) ?_)
  intro a6 h6
  obtain ⟨w2, hw2⟩ : ∃ w2, w2 = w1.alloc (.cells (zb (V.n + 1)) 5) := ⟨_, rfl⟩
  have hz2 : w2.heap.size = w.heap.size + 2 := by rw [hw2, size_alloc, hz1]
  have hr2 : w2.heap[w1.heap.size]? = some (.cells (zb (V.n + 1)) 5 (0, 0)) := hw2 ▸ alloc_at w1 _
  have hc12 : Chg (fun _ => False) w1 w2 := hw2 ▸ (Chg.refl _ _).alloc _
  rw [← hw2]
  clear hw2
  have hc2 := hc1.trans hc12
  have hr12 : w2.heap[w.heap.size]? = some (.cells (zb (V.n + 1)) 5 (0, 0)) := (hc12.block _ (by omega) (fun h => h)).trans hr1
  refine wp_seq (wp_seq (set_y V (V.n + 1) w.heap.size w1.heap.size a6 w2 _ h6 rfl ?_))
  intro a7 c30 c31 h7
  have lb := hin.seg.lt
  have lR := hin.rd.lt
  have lD := lt_of_row hin.dec
  have lg := hin.im.lt
  have ls := hin.srclt
  have hnB := hin.nB
  have hrows : RowsIn V c d clear l R sb so m mc inc g bx L S w.heap.size w1.heap.size k B D G w2 :=
    { r := hin.r, ok := hin.ok, hl := hin.hl, hm := hin.hm, hmc := hin.hmc, src := hin.src.chg hc2 hin.srclt (fun h => h), srclt := Nat.lt_of_lt_of_le hin.srclt hc2.size,
      dec := (hc2.block _ lD (fun h => h)).trans hin.dec, cb := hin.cb, obj := (hc2.block _ lg (fun h => h)).trans hin.obj, im := hin.im.chg hc2 (fun h => h), eofs := hin.eofs.chg hc2 (fun _ _ h => h),
      nB := ⟨hnB.1, by omega, by omega, hnB.2⟩, n1 := by omega, n2 := by omega, n3 := by omega, n4 := ⟨by omega, by omega, hin.n4.1, hin.n4.2.1, hin.n4.2.2⟩, n5 := ⟨hin.n5, by omega, by omega⟩, n6 := ⟨hin.n6, by omega, by omega⟩,
      n7 := ⟨hin.n7.1, by omega, by omega, hin.n7.2⟩, hst := hin.hst, hn := hin.hn, hW1 := hin.hW1, hW := hin.hW, hH := hin.hH, hS := hin.hS, hL := hin.hL }
  have hchg : ∀ w', Chg (Blk R w.heap.size w1.heap.size bx) w2 w' → Chg (fun i => i = R ∨ i = bx) w w' := fun w' hc =>
    (hc2.mono (fun _ h => h.elim)).then hc (fun i hi hq => by
      rcases hq with e | e | e | e
      · exact .inl e
      · omega
      · omega
      · exact .inr e)
  have hRI : RI V c d clear l R sb so m mc inc bx L S w.heap.size w1.heap.size w.heap.size w1.heap.size c30 c31 (zbL (V.n + 1)) (.int .u8 0) [] w2 0 a7 w2 :=
    { two := .inl ⟨rfl, rfl⟩, live := by rw [Nat.zero_mul]; exact h7, hy := Nat.zero_le _, up := rfl, cu := hr12, cl := zbL_len _,
      pr := by
        unfold Seg
        rw [hr2, zb_cons]
        rfl
      rd := by rw [Nat.zero_mul]; exact hin.rd.chg hc2 (fun h => h), chg := Chg.refl _ _,
      pix := by
        rw [Nat.zero_mul, Nat.sub_zero]
        exact hin.seg.chg hc2 (fun h => h) }
  refine rows_any hrows hconv hRI _ ?_ ?_
  · intro a8 w' bc bp c30 c31 Rr hup live chg seg
    refine wp_seq (p21_any V bc bp V.H (V.H * inc) c30 c31 a8 w' _ live ?_)
    rintro a9 ⟨d9, s8, s9⟩
    refine wp_ret ?_
    refine bodyPost_ret (results_tmp2 rfl _ _ _) d9 ?_
    rw [s8, s9]
    exact hgood w' Rr hup (hchg w' chg) seg
  · rintro a8 w' hnone ⟨d8, s8, s, s9⟩ chg
    refine bodyPost_ret (results_tmp2 rfl _ _ _) d8 ?_
    rw [s8, s9]
    exact hbad w' s hnone (hchg w' chg)
end Go.Proofs.YtkiibhpmembcgaaDoor
namespace Go.Proofs.YtkiibhpmembcgaaDoor
open Go.ChangeShapes Go.WideShapes Go.ChangeAt Go.RowKit Go.IntWalk

/-- The decoder's fields. -/
structure DecV where
  r : Value
  img : Value
  crc : Value
  wd : Value
  ht : Value
  dp : Value
  pal : Value
  cb : Value
  st : Value
  ln : Value
  tmp : List UInt8
  lace : Value
  ut : Value
  tr : List UInt8
def DecV.pre (d : DecV) : List Value := [d.r, d.img, d.crc, d.wd, d.ht, d.dp, d.pal, d.cb, d.st, d.ln]
def DecV.post (d : DecV) : List Value := d.lace :: d.ut :: cellsB d.tr
def DecV.cells (d : DecV) : List Value := d.pre ++ (cellsB d.tmp ++ d.post)
theorem DecV.pre_length (d : DecV) : d.pre.length = 10 := rfl
/-- In block b lies a decoder. -/
structure Dec (w : World) (b : Nat) (d : DecV) : Prop where
  row : w.heap[b]? = some (.cells d.cells.toArray 75 (0, 0))
  tl : d.tmp.length = 768
  trl : d.tr.length = 6
theorem Dec.pre_cell {w : World} {b : Nat} {d : DecV} (h : Dec w b d) (i : Nat) {v : Value} (hi : d.pre[i]? = some v) : w.cell? ⟨b, i, none⟩ = some v := by
  obtain ⟨hlt, -⟩ := List.getElem?_eq_some_iff.1 hi
  rw [cell_of_row w b i _ _ _ h.row]
  simp only [DecV.cells, List.getElem?_toArray]
  rw [List.getElem?_append_left hlt]
  exact hi
theorem Dec.frozen {w : World} {b : Nat} {d : DecV} (h : Dec w b d) (i : Nat) : w.frozen? ⟨b, i, none⟩ = false := frozen_of_row w b i _ _ h.row
theorem Dec.set {w : World} {b : Nat} {d : DecV} (h : Dec w b d) (i : Nat) (v : Value) (d' : DecV) (hi : i < 10) (h1 : d'.pre = d.pre.set i v) (h2 : d'.tmp = d.tmp) (h3 : d'.post = d.post) (h4 : d'.tr.length = 6) : Dec (w.setCell ⟨b, i, none⟩ v) b d' := by
  refine ⟨?_, by rw [h2]; exact h.tl, h4⟩
  rw [heap_setCell_same w b i _ _ v h.row]
  congr 2
  apply Array.toList_inj.1
  simp only [Array.toList_setIfInBounds, DecV.cells, h1, h2, h3]
  rw [List.set_append_left _ _ (by rw [d.pre_length]; exact hi)]
theorem Dec.same {w w' : World} {b : Nat} {d : DecV} (h : Dec w b d) (k : w'.heap[b]? = w.heap[b]?) : Dec w' b d := ⟨k.trans h.row, h.tl, h.trl⟩
theorem Dec.below {w w' : World} {b B : Nat} {d : DecV} (h : Dec w b d) (k : Below B w w') (hb : b < B) : Dec w' b d := h.same (k.block b hb)
theorem Dec.only {w w' : World} {b c : Nat} {d : DecV} (h : Dec w b d) (k : Only c w w') (hb : b ≠ c) : Dec w' b d := h.same (k.block b hb)
theorem Dec.tmpAt {w : World} {b : Nat} {d : DecV} (h : Dec w b d) : RB w (some ⟨b, 10, none⟩) d.tmp := by
  intro _
  refine ⟨b, 10, rfl, fun j hj => ?_⟩
  rw [cell_of_row w b _ _ _ _ h.row]
  simp only [DecV.cells, List.getElem?_toArray]
  rw [List.getElem?_append_right (by rw [d.pre_length]; omega), d.pre_length, Nat.add_sub_cancel_left, List.getElem?_append_left (by rw [cellsB_length]; exact hj)]
  simp [cellsB, List.getD, hj]
/-- A value as the model builds it, given. -/
theorem wpList_build_given {P : Program} {ops : Array Oper} {rest : List Oper} {o : Oper} {a : Act} {w : World} {Q : Exit → Act → World → Prop} (hgd : o.guard = none) (t : TypeId) (parts : Array (Nat × Operand)) (ho : o.op = .build t parts) (vals : Array (Nat × Value)) (v : Value)
    (hp : parts.map (fun (i, x) => (i, a.eval x)) = vals) (hrun : (Instr.build t vals).run P w = .ok v w) (h : wpList P ops Q rest (a.put o.dst v) w) : wpList P ops Q (o :: rest) a w :=
  wpList_plain hgd fun _ hK => by
    unfold Oper.wp execOp
    simp only [ho, hp, Sem.run_bind, hrun, Result.andThen_ok]
    exact hK _ _ h

def tmp0 : List UInt8 := List.replicate 768 0
/-- The decoder's block: lace and ut, and the sample that is clear, stand behind the buffer. -/
theorem Dec.lace {w : World} {b : Nat} {d : DecV} (h : Dec w b d) : w.cell? ⟨b, 778, none⟩ = some d.lace := by
  rw [cell_of_row w b _ _ _ _ h.row]
  simp only [DecV.cells, List.getElem?_toArray]
  rw [List.getElem?_append_right (by rw [d.pre_length]; omega), d.pre_length, List.getElem?_append_right (by rw [cellsB_length, h.tl]; omega), cellsB_length, h.tl]
  rfl
theorem Dec.ut {w : World} {b : Nat} {d : DecV} (h : Dec w b d) : w.cell? ⟨b, 779, none⟩ = some d.ut := by
  rw [cell_of_row w b _ _ _ _ h.row]
  simp only [DecV.cells, List.getElem?_toArray]
  rw [List.getElem?_append_right (by rw [d.pre_length]; omega), d.pre_length, List.getElem?_append_right (by rw [cellsB_length, h.tl]; omega), cellsB_length, h.tl]
  rfl
theorem Dec.trAt {w : World} {b : Nat} {d : DecV} (h : Dec w b d) : RB w (some ⟨b, 780, none⟩) d.tr := by
  intro _
  refine ⟨b, 780, rfl, fun j hj => ?_⟩
  rw [cell_of_row w b _ _ _ _ h.row]
  simp only [DecV.cells, List.getElem?_toArray]
  rw [List.getElem?_append_right (by rw [d.pre_length]; omega), d.pre_length, List.getElem?_append_right (by rw [cellsB_length, h.tl]; omega), cellsB_length, h.tl]
  rw [show 780 + j - 10 - 768 = j + 1 + 1 by omega]
  simp [DecV.post, cellsB, List.getD, hj]
end Go.Proofs.YtkiibhpmembcgaaDoor
namespace Go.Proofs.YtkiibhpmembcgaaDoor
open Go.ChangeShapes Go.WideShapes Go.ChangeAt Go.RowKit Go.IntWalk

/-- What the loop over the rows leaves as it is: the picture g stands in slot s. -/
def mkV (b : Nat) (r : Value) (Ti : TypeId) (s g W H st n : Nat) : LV :=
  { b := b, r := r, i12 := .pointer (if s = 12 then some ⟨g, 0, none⟩ else none), i13 := .pointer (if s = 13 then some ⟨g, 0, none⟩ else none), i14 := .pointer (if s = 14 then some ⟨g, 0, none⟩ else none), i15 := .pointer (if s = 15 then some ⟨g, 0, none⟩ else none),
    i16 := .pointer (if s = 16 then some ⟨g, 0, none⟩ else none), i17 := .pointer (if s = 17 then some ⟨g, 0, none⟩ else none), i18 := .pointer (if s = 18 then some ⟨g, 0, none⟩ else none), img := .iface Ti (.pointer (some ⟨g, 0, none⟩)), W := W, H := H, st := st, n := n }
/-- The picture's head. -/
def picG (T : TypeId) (bx L S W H : Nat) (more : List Value) : Obj := .cells (imgC (.slice (some ⟨bx, 0, none⟩) L L) W H S ++ more).toArray T (0, 0)
/-- The end of readImagePass: no picture where the part has no pixel; an error; a picture. -/
structure RipEnd (T Ti : TypeId) (W0 H0 c d : Nat) (clear : List Nat) (laced : Bool) (p : Nat) (l : List UInt8) (more : List Value) (R : Nat) (w : World) (e : Ending) (w' : World) : Prop where
  none_ : (szP (ptL laced p) W0 H0).1 = 0 → e = .returned (.tuple #[.nilIface, .nilIface])
  bad : (szP (ptL laced p) W0 H0).1 ≠ 0 → upR l (rbN c d (szP (ptL laced p) W0 H0).1) (stN c d) (szP (ptL laced p) W0 H0).2 = none → ∃ s, e = .returned (.tuple #[.nilIface, .iface 80 (.string s)])
  good : (szP (ptL laced p) W0 H0).1 ≠ 0 → ∀ Rr, upR l (rbN c d (szP (ptL laced p) W0 H0).1) (stN c d) (szP (ptL laced p) W0 H0).2 = some Rr → ∃ g bx L, e = .returned (.tuple #[.iface Ti (.pointer (some ⟨g, 0, none⟩)), .nilIface]) ∧
    w.heap.size ≤ g ∧ w.heap.size ≤ bx ∧ w'.heap[g]? = some (picG T bx L ((szP (ptL laced p) W0 H0).1 * nK (kindN c d (!clear.isEmpty))) (szP (ptL laced p) W0 H0).1 (szP (ptL laced p) W0 H0).2 more) ∧ (picOf c d clear (szP (ptL laced p) W0 H0).1 Rr).length = L ∧ Seg w' bx [] [] (picOf c d clear (szP (ptL laced p) W0 H0).1 Rr)
  chg : Chg (fun i => i = R) w w'
theorem szP_plain {p W0 H0 : Nat} (hW : 1 ≤ W0) (hH : 1 ≤ H0) : szP (ptL false p) W0 H0 = (W0, H0) := by
  show szP ⟨0, 0, 1, 1⟩ W0 H0 = (W0, H0)
  unfold szP
  simp only
  rw [cntP_one W0 hW, cntP_one H0 hH, if_neg (by omega)]
/-- The sizes of the part. -/
theorem p12_any (b W0 H0 p : Nat) (laced : Bool) (r : Value) (a : Act) (w : World) (Q : Exit → Act → World → Prop) (h : Pre1 b r (p : Int) W0 H0 a) (c : w.cell? ⟨b, 778, none⟩ = some (.int .i64 (if laced then 1 else 0))) (hI : Inter w) (hp : p < 7) (hw : W0 ≤ 40) (hh : H0 ≤ 40)
    (hw1 : 1 ≤ W0) (hh1 : 1 ≤ H0)
    (hN : (szP (ptL laced p) W0 H0).1 = 0 → ∀ a' w', NilOut a' → Chg (fun _ => False) w w' → Q .ret a' w')
    (hQ : (szP (ptL laced p) W0 H0).1 ≠ 0 → ∀ a' w', Pre1 b r (p : Int) (szP (ptL laced p) W0 H0).1 (szP (ptL laced p) W0 H0).2 a' → Chg (fun _ => False) w w' → Q .normal a' w') : (pc 12).wp Tryd.prog Q a w := by
  cases laced
  · rw [szP_plain hw1 hh1] at hQ
    exact p12_plain b W0 H0 r p a w Q h c (fun a' h' => hQ (by simp only; omega) a' w h' (Chg.refl _ _))
  · refine p12_laced b W0 H0 p r a w Q h c hI hp hw hh (fun hz a' w' ho hc => ?_) (fun hz a' w' ho hc => ?_)
    · refine hN ?_ a' w' ho hc
      show (szP (ptOf p) W0 H0).1 = 0
      rw [szP, if_pos hz]
    · have e : szP (ptL true p) W0 H0 = (cntP (ptOf p).X (ptOf p).DX W0, cntP (ptOf p).Y (ptOf p).DY H0) := by
        show szP (ptOf p) W0 H0 = _
        rw [szP, if_neg hz]
      rw [e] at hQ
      exact hQ (by simp only; omega) a' w' ho hc
/-- A kind's making of the picture. -/
def MakeOk (T Ti : TypeId) (b : Nat) (r : Value) (s mm bpp : Nat) (more : List Value) (D : Obj) : Prop :=
  ∀ (W H st n p L : Nat) (a : Act) (w : World) (Q : Exit → Act → World → Prop), w.heap[b]? = some D → Pre1 b r (p : Int) W H a → W ≤ 1000 → H ≤ 1000 → Hid (L = mm * W * H) →
    (∀ a' w' g bx, w.heap.size ≤ g → w.heap.size ≤ bx → g ≠ bx → w'.heap[g]? = some (picG T bx L (mm * W) W H more) → Seg w' bx [] [] (List.replicate L 0) → Chg (fun _ => False) w w' → Pre2 (mkV b r Ti s g W H st n) bpp a' → Q .normal a' w') → (pc 13).wp Tryd.prog Q a w
/-- What readImagePass is told. -/
structure RipIn (T : TypeId) (b W0 H0 c d : Nat) (laced : Bool) (p k : Nat) (l : List UInt8) (R sb so m mc B : Nat) (dv : DecV) (w : World) : Prop where
  ok : OkCD c d
  dec : Dec w b dv
  wd : dv.wd = .int .i64 (W0 : Int)
  ht : dv.ht = .int .i64 (H0 : Int)
  cb : dv.cb = .int .i64 (k : Int)
  lace : dv.lace = .int .i64 (if laced then 1 else 0)
  hW0 : W0 ≤ 40
  hH0 : H0 ≤ 40
  hW1 : 1 ≤ W0
  hH1 : 1 ≤ H0
  hp : p < 7
  inter : Inter w
  hl : l.length = m
  hm : m ≤ 2000000
  hmc : m ≤ mc
  src : RB w (some ⟨sb, so, none⟩) l
  srclt : sb < w.heap.size
  rd : Rd w R sb so m mc 0
  eofs : Eofs B w
  nB : B ≤ R
  nbR : b ≠ R
  nsR : sb ≠ R
theorem Inter.chg {w w' : World} {q : Nat → Prop} (h : Inter w) (k : Chg q w w') (hq : ∀ i, ¬ q i) : Inter w' := by
  obtain ⟨G, o, h0, h1⟩ := h
  have hc : ∀ (a : Addr) (v : Value), w.cell? a = some v → w'.cell? a = some v := fun a v hv => (k.cell (World.block_lt_of_cell? w _ hv) (hq _)).trans hv
  exact ⟨G, o, hc _ _ h0, fun p hp => ⟨hc _ _ (h1 p hp).1, hc _ _ (h1 p hp).2.1, hc _ _ (h1 p hp).2.2.1, hc _ _ (h1 p hp).2.2.2⟩⟩
theorem imAt_of {w : World} {T : TypeId} {g bx L S W H : Nat} {more : List Value} (h : w.heap[g]? = some (picG T bx L S W H more)) : ImAt g bx L L S W H w :=
  ⟨lt_of_row h, (cell_of_row w g 0 _ _ _ h).trans rfl, (cell_of_row w g 1 _ _ _ h).trans rfl, (cell_of_row w g 2 _ _ _ h).trans rfl, (cell_of_row w g 3 _ _ _ h).trans rfl, (cell_of_row w g 4 _ _ _ h).trans rfl, (cell_of_row w g 5 _ _ _ h).trans rfl⟩
theorem rip_gen (T Ti : TypeId) (b W0 H0 c d : Nat) (clear : List Nat) (laced : Bool) (p k s bpp : Nat) (inc : Nat → Nat) (l : List UInt8) (more : List Value) (R sb so m mc B : Nat) (dv : DecV) (w : World) (hin : RipIn T b W0 H0 c d laced p k l R sb so m mc B dv w)
    (hbpp : bpp = chN c * d)
    (hmake : MakeOk T Ti b (.iface 77 (.pointer (some ⟨R, 0, none⟩))) s (nK (kindN c d (!clear.isEmpty))) bpp more (.cells dv.cells.toArray 75 (0, 0)))
    (hconv : ∀ g bx W H L S, 1 ≤ W → W ≤ 40 → H ≤ 40 → S = W * nK (kindN c d (!clear.isEmpty)) → L = H * S → ConvOk (mkV b (.iface 77 (.pointer (some ⟨R, 0, none⟩))) Ti s g W H (stN c d) (rbN c d W)) c d clear (inc S) g bx L S k (.cells dv.cells.toArray 75 (0, 0)) (picG T bx L S W H more)) :
    Calls Tryd.prog 26 #[.pointer (some ⟨b, 0, none⟩), .iface 77 (.pointer (some ⟨R, 0, none⟩)), .int .i64 (p : Int), .bool false] w (RipEnd T Ti W0 H0 c d clear laced p l more R w) := by
  have hsz := szP_le laced p W0 H0 hin.hW0 hin.hH0
  refine calls_of_wp Tryd.func26 body_is ?_
  rw [show ({ tmps := #[Value.pointer (some ⟨b, 0, none⟩), .iface 77 (.pointer (some ⟨R, 0, none⟩)), .int .i64 (p : Int), .bool false] ++ Array.replicate (Tryd.f26.ntmps - #[Value.pointer (some ⟨b, 0, none⟩), .iface 77 (.pointer (some ⟨R, 0, none⟩)), .int .i64 (p : Int), .bool false].size) undef, defers := [] } : Act) = start0 b (.iface 77 (.pointer (some ⟨R, 0, none⟩))) (p : Int) by
    rw [Tryd.ntmps26]; rfl]
  refine wp_seq (p0_any _ _ _ ?_)
  refine wp_seq (p1_any _ _ _ ?_)
  refine wp_seq (p2_any _ _ _ ?_)
  refine wp_seq (p3_any _ _ _ ?_)
  refine wp_seq (p4_any _ _ _ ?_)
  refine wp_seq (p5_any _ _ _ ?_)
  refine wp_seq (p6_any _ _ _ ?_)
  refine wp_seq (p7_any _ _ _ ?_)
  refine wp_seq (p8_any _ _ _ ?_)
  refine wp_seq (p9_any _ _ _ ?_)
  refine wp_seq (p10_any _ _ _ ?_)
  refine wp_seq (p11_any b W0 H0 (.iface 77 (.pointer (some ⟨R, 0, none⟩))) p (start1 b _ p) w _ (start1_pre b _ p) (hin.dec.pre_cell 3 (by simp [DecV.pre, hin.wd])) (hin.dec.pre_cell 4 (by simp [DecV.pre, hin.ht])) ?_)
  intro a1 h1
  have hdr : Chg (fun _ => False) w w.drew := (Chg.refl _ _).drew
  refine wp_seq (p12_any b W0 H0 p laced _ a1 w.drew _ h1 ((hin.dec.lace).trans (by rw [hin.lace])) (hin.inter.chg hdr (fun _ h => h)) hin.hp hin.hW0 hin.hH0 hin.hW1 hin.hH1 ?_ ?_)
  · rintro hz a2 w2 ⟨d2, s8, s9⟩ hc
    refine bodyPost_ret (results_tmp2 rfl _ _ _) d2 ?_
    rw [s8, s9]
    exact ⟨fun _ => rfl, fun h => absurd hz h, fun h => absurd hz h, (hdr.trans hc).mono (fun _ h => h.elim)⟩
  · intro hz a2 w2 h2 hc2
    obtain ⟨W, hW⟩ : ∃ W, W = (szP (ptL laced p) W0 H0).1 := ⟨_, rfl⟩
    obtain ⟨H, hH⟩ : ∃ H, H = (szP (ptL laced p) W0 H0).2 := ⟨_, rfl⟩
    rw [← hW, ← hH] at h2 hsz
    rw [← hW] at hz
    have hc02 := hdr.trans hc2
    have hdec2 : w2.heap[b]? = some (.cells dv.cells.toArray 75 (0, 0)) := (hc02.block b (lt_of_row hin.dec.row) (fun h => h)).trans hin.dec.row
    obtain ⟨nk, hnk⟩ : ∃ nk, nk = nK (kindN c d (!clear.isEmpty)) := ⟨_, rfl⟩
    have hconv' := hconv
    rw [← hnk] at hmake hconv'
    obtain ⟨L, hL⟩ : ∃ L, L = nk * W * H := ⟨_, rfl⟩
    refine wp_seq (hmake W H (stN c d) (rbN c d W) p L a2 w2 _ hdec2 h2 (by omega) (by omega) (Lib.hid hL) ?_)
    intro a3 w3 g bx hg hbx hne hrow hseg hc3 h3
    have hc03 := hc02.trans hc3
    have hs02 := hc02.size
    have lb := lt_of_row hin.dec.row
    have lR := hin.rd.lt
    have ls := hin.srclt
    have hnB := hin.nB
    have eS : nk * W = W * nk := Nat.mul_comm _ _
    have eL : L = H * (W * nk) := by rw [hL, eS, Nat.mul_comm]
    rw [eS] at hrow
    have htail : TailIn (mkV b (.iface 77 (.pointer (some ⟨R, 0, none⟩))) Ti s g W H (stN c d) (rbN c d W)) c d clear l R sb so m mc g bx L (W * nk) k B bpp (.cells dv.cells.toArray 75 (0, 0)) (picG T bx L (W * nk) W H more) w3 :=
      { r := rfl, ok := hin.ok, hl := hin.hl, hm := hin.hm, hmc := hin.hmc, src := hin.src.chg hc03 hin.srclt (fun h => h), srclt := Nat.lt_of_lt_of_le hin.srclt hc03.size, rd := hin.rd.chg hc03 (fun h => h),
        dec := (hc03.block b lb (fun h => h)).trans hin.dec.row,
        cb := fun w' hw' => Dec.pre_cell (d := dv) ⟨hw', hin.dec.tl, hin.dec.trl⟩ 7 (by simp [DecV.pre, hin.cb]),
        obj := hrow, im := imAt_of hrow, seg := hseg, eofs := hin.eofs.chg hc03 (fun _ _ h => h), nB := ⟨hnB, by omega⟩, n4 := ⟨by omega, Ne.symm hne, by show bx ≠ b; omega⟩, n5 := hin.nbR, n6 := by omega, n7 := ⟨hin.nsR, by omega⟩,
        hst := rfl, hn := rfl, hb := hbpp, hW1 := by show 1 ≤ W; omega, hW := hsz.1, hH := hsz.2, hS := by rw [hnk]; rfl, hL := eL }
    refine tail_any htail (hconv' g bx W H L (W * nk) (by omega) hsz.1 hsz.2 rfl eL) h3 _ ?_ ?_
    · intro w' Rr hup chg seg
      have hfin : Chg (fun i => i = R) w w' := (hc03.mono (fun _ h => h.elim)).then chg (fun i hi hq => by
        rcases hq with e | e
        · exact e
        · omega)
      have hgl : g < w3.heap.size := lt_of_row hrow
      refine ⟨fun h => absurd h (by rw [← hW]; exact hz), fun _ h => ?_, fun _ Rr' h => ?_, hfin⟩
      · rw [← hW, ← hH] at h
        exact absurd (hup.symm.trans h) (by simp)
      · rw [← hW, ← hH] at h ⊢
        rw [← hnk]
        obtain rfl : Rr = Rr' := Option.some.inj (hup.symm.trans h)
        refine ⟨g, bx, L, rfl, by omega, by omega, (chg.block g hgl (by rintro (e | e) <;> omega)).trans hrow, ?_, seg⟩
        rw [picOf_len hin.ok, (upR_rows hup).len, ← hnk]
        exact eL.symm
    · intro w' sx hnone chg
      have hfin : Chg (fun i => i = R) w w' := (hc03.mono (fun _ h => h.elim)).then chg (fun i hi hq => by
        rcases hq with e | e
        · exact e
        · omega)
      refine ⟨fun h => absurd h (by rw [← hW]; exact hz), fun _ _ => ⟨sx, rfl⟩, fun _ Rr' h => ?_, hfin⟩
      rw [← hW, ← hH] at h
      exact absurd (hnone.symm.trans h) (by simp)
end Go.Proofs.YtkiibhpmembcgaaDoor
