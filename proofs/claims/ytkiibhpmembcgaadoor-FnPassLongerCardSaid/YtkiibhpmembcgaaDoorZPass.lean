/- ZZPass: the decoder's making, and readImagePass over a reader of the bytes. -/
import Derived.Test.YtkiibhpmembcgaaDoorGRip
namespace Go.Proofs.YtkiibhpmembcgaaDoor
open Go.ChangeShapes Go.WideShapes Go.ChangeAt Go.RowKit Go.IntWalk

/-- The decoder as the text lays it. -/
def dP (W0 H0 k dp : Nat) (pal : Value) : DecV :=
  { r := .nilIface, img := .nilIface, crc := .pointer none, wd := .int .i64 (W0 : Int), ht := .int .i64 (H0 : Int), dp := .int .i64 (dp : Int), pal := pal, cb := .int .i64 (k : Int), st := .int .i64 0, ln := .int .u32 0,
    tmp := tmp0, lace := .int .i64 0, ut := .bool false, tr := List.replicate 6 0 }
def dPc (W0 H0 k dp : Nat) (pal : Value) : Array Value := (dP W0 H0 k dp pal).cells.toArray
theorem build_pass (W0 H0 k dp : Nat) (ad : Option Addr) (n cap : Nat) (w : World) : (Instr.build 75 #[(3, .int .i64 (W0 : Int)), (4, .int .i64 (H0 : Int)), (7, .int .i64 (k : Int)), (5, .int .i64 (dp : Int)), (6, .slice ad n cap)]).run Tryd.prog w = .ok (.agg (dPc W0 H0 k dp (.slice ad n cap))) w := by kernel_rfl
theorem start_dP (W0 H0 k dp : Nat) (pal : Value) (b : Nat) (w : World) (h : w.heap[b]? = some (.cells (dPc W0 H0 k dp pal) 75 (0, 0))) : Dec w b (dP W0 H0 k dp pal) :=
  ⟨h, List.length_replicate, List.length_replicate⟩
/-- A field behind the buffer is set. -/
theorem Dec.setPost {w : World} {b : Nat} {d : DecV} (h : Dec w b d) (i j : Nat) (v : Value) (d' : DecV) (hj : i = 778 + j) (h1 : d'.pre = d.pre) (h2 : d'.tmp = d.tmp) (h3 : d'.post = d.post.set j v) (h4 : d'.tr.length = 6) : Dec (w.setCell ⟨b, i, none⟩ v) b d' := by
  refine ⟨?_, by rw [h2]; exact h.tl, h4⟩
  rw [heap_setCell_same w b i _ _ v h.row]
  congr 2
  apply Array.toList_inj.1
  simp only [Array.toList_setIfInBounds, DecV.cells, h1, h2, h3]
  rw [List.set_append_right _ _ (by rw [d.pre_length]; omega), d.pre_length, List.set_append_right _ _ (by rw [cellsB_length, h.tl]; omega), cellsB_length, h.tl, hj]
  rw [show 778 + j - 10 - 768 = j by omega]
theorem neq_nil (w : World) : (binOp .neq 23 (.slice none 0 0) (.slice none 0 0)).run Tryd.prog w = .ok (.bool false) w := by kernel_rfl
theorem neq_some (p : Addr) (n c : Nat) (w : World) : (binOp .neq 23 (.slice (some p) n c) (.slice none 0 0)).run Tryd.prog w = .ok (.bool true) w := by kernel_rfl
/-- The end of ZZPass. -/
structure PassEnd (T Ti : TypeId) (W0 H0 c d : Nat) (clear : List Nat) (laced : Bool) (p : Nat) (l : List UInt8) (more : List Value) (w : World) (e : Ending) (w' : World) : Prop where
  none_ : (szP (ptL laced p) W0 H0).1 = 0 → e = .returned (.tuple #[.nilIface, .nilIface])
  bad : (szP (ptL laced p) W0 H0).1 ≠ 0 → upR l (rbN c d (szP (ptL laced p) W0 H0).1) (stN c d) (szP (ptL laced p) W0 H0).2 = none → ∃ s, e = .returned (.tuple #[.nilIface, .iface 80 (.string s)])
  good : (szP (ptL laced p) W0 H0).1 ≠ 0 → ∀ Rr, upR l (rbN c d (szP (ptL laced p) W0 H0).1) (stN c d) (szP (ptL laced p) W0 H0).2 = some Rr → ∃ g bx L, e = .returned (.tuple #[.iface Ti (.pointer (some ⟨g, 0, none⟩)), .nilIface]) ∧
    w.heap.size ≤ g ∧ w.heap.size ≤ bx ∧ w'.heap[g]? = some (picG T bx L ((szP (ptL laced p) W0 H0).1 * nK (kindN c d (!clear.isEmpty))) (szP (ptL laced p) W0 H0).1 (szP (ptL laced p) W0 H0).2 more) ∧ (picOf c d clear (szP (ptL laced p) W0 H0).1 Rr).length = L ∧ Seg w' bx [] [] (picOf c d clear (szP (ptL laced p) W0 H0).1 Rr)
  bel : Below w.heap.size w w'
theorem Inter.below {w w' : World} (h : Inter w) (hb : Below w.heap.size w w') : Inter w' := by
  obtain ⟨G, o, h0, h1⟩ := h
  have hc : ∀ (a : Addr) (v : Value), w.cell? a = some v → w'.cell? a = some v := fun a v hv => (hb.cell (World.block_lt_of_cell? w _ hv)).trans hv
  exact ⟨G, o, hc _ _ h0, fun p hp => ⟨hc _ _ (h1 p hp).1, hc _ _ (h1 p hp).2.1, hc _ _ (h1 p hp).2.2.1, hc _ _ (h1 p hp).2.2.2⟩⟩
theorem Eofs.below {B : Nat} {w w' : World} (h : Eofs B w) (hb : Below w.heap.size w w') : Eofs B w' := by
  obtain ⟨⟨p1, ca, ta, h1, h2, h3, h4⟩, p2, cb, tb, g1, g2, g3, g4⟩ := h
  exact ⟨⟨p1, ca, ta, (hb.cell (World.block_lt_of_cell? w _ h1)).trans h1, (hb.block _ (lt_of_row h2)).trans h2, h3, h4⟩,
    p2, cb, tb, (hb.cell (World.block_lt_of_cell? w _ g1)).trans g1, (hb.block _ (lt_of_row g2)).trans g2, g3, g4⟩
/-- What ZZPass is told. -/
structure ZpIn (W0 H0 c d : Nat) (p : Nat) (l : List UInt8) (m mc B : Nat) (ad : Option Addr) (w : World) : Prop where
  ok : OkCD c d
  hW0 : W0 ≤ 40
  hH0 : H0 ≤ 40
  hW1 : 1 ≤ W0
  hH1 : 1 ≤ H0
  hp : p < 7
  inter : Inter w
  hl : l.length = m
  hm : m ≤ 2000000
  hmc : m ≤ mc
  src : RB w ad l
  eofs : Eofs B w
  nB : B ≤ w.heap.size
theorem Eofs.pos {B : Nat} {w : World} (h : Eofs B w) : 0 < w.heap.size := by
  obtain ⟨p1, ca, ta, h1, -⟩ := h.one
  have := World.block_lt_of_cell? w _ h1
  omega
/-- What readImagePass is known to do at one kind. -/
def RipOk (T Ti : TypeId) (W0 H0 c d : Nat) (clear : List Nat) (laced : Bool) (p k : Nat) (l : List UInt8) (m mc B : Nat) (more : List Value) (ok : DecV → World → Prop) : Prop :=
  ∀ (b R sb so : Nat) (dv : DecV) (w : World), RipIn T b W0 H0 c d laced p k l R sb so m mc B dv w → ok dv w →
    Calls Tryd.prog 26 #[.pointer (some ⟨b, 0, none⟩), .iface 77 (.pointer (some ⟨R, 0, none⟩)), .int .i64 (p : Int), .bool false] w (RipEnd T Ti W0 H0 c d clear laced p l more R w)
theorem RipEnd.pass {T Ti : TypeId} {W0 H0 c d : Nat} {clear : List Nat} {laced : Bool} {p : Nat} {l : List UInt8} {more : List Value} {R : Nat} {w w1 w' : World} {e : Ending} (h : RipEnd T Ti W0 H0 c d clear laced p l more R w1 e w') (hb : Below w.heap.size w w1) (hR : w.heap.size ≤ R) :
    PassEnd T Ti W0 H0 c d clear laced p l more w e w' := by
  refine ⟨h.none_, h.bad, fun h0 Rr hr => ?_, hb.trans (h.chg.below hb.size (fun k hk e => by omega))⟩
  obtain ⟨g, bx, L, h1, h2, h3, h4⟩ := h.good h0 Rr hr
  have := hb.size
  exact ⟨g, bx, L, h1, by omega, by omega, h4⟩

theorem PassEnd.shape {T Ti : TypeId} {W0 H0 c d : Nat} {clear : List Nat} {laced : Bool} {p : Nat} {l : List UInt8} {more : List Value} {w w' : World} {e : Ending} (h : PassEnd T Ti W0 H0 c d clear laced p l more w e w') : ∃ v1 v2, e = .returned (.tuple #[v1, v2]) := by
  by_cases h0 : (szP (ptL laced p) W0 H0).1 = 0
  · exact ⟨_, _, h.none_ h0⟩
  · cases hr : upR l (rbN c d (szP (ptL laced p) W0 H0).1) (stN c d) (szP (ptL laced p) W0 H0).2 with
    | none =>
      obtain ⟨s, hs⟩ := h.bad h0 hr
      exact ⟨_, _, hs⟩
    | some Rr =>
      obtain ⟨g, bx, L, hs, -⟩ := h.good h0 Rr hr
      exact ⟨_, _, hs⟩
set_option maxHeartbeats 3200000 in
set_option maxRecDepth 100000 in
theorem zzPass_plain (T Ti : TypeId) (W0 H0 c d : Nat) (laced : Bool) (p k dp : Nat) (l : List UInt8) (m mc B pn pc : Nat) (ad pa : Option Addr) (more : List Value) (w : World) (hin : ZpIn W0 H0 c d p l m mc B ad w) (hnil : ad = none → m = 0 ∧ mc = 0) (hspot : ∀ a, ad = some a → a.spot = none)
    (hlt : ∀ a, ad = some a → a.block < w.heap.size) (hrip : RipOk T Ti W0 H0 c d [] laced p k l m mc B more (fun dv w' => Below w.heap.size w w' ∧ dv.dp = .int .i64 (dp : Int) ∧ dv.ut = .bool false ∧ dv.pal = .slice pa pn pc)) :
    Calls Tryd.prog 21 #[.slice ad m mc, .int .i64 (W0 : Int), .int .i64 (H0 : Int), .int .i64 (k : Int), .int .i64 (dp : Int), .bool laced, .int .i64 (p : Int), .slice pa pn pc, .slice none 0 0] w (PassEnd T Ti W0 H0 c d [] laced p l more w) := by
  obtain ⟨b, hb⟩ : ∃ b, b = w.heap.size := ⟨_, rfl⟩
  obtain ⟨w1, hw1⟩ : ∃ w1, w1 = w.alloc (.cells (dPc W0 H0 k dp (.slice pa pn pc)) 75) := ⟨_, rfl⟩
  have hr1 : w1.heap[b]? = some (.cells (dPc W0 H0 k dp (.slice pa pn pc)) 75 (0, 0)) := by rw [hw1, hb]; exact alloc_at w _
  have hb1 : Below w.heap.size w w1 := hw1 ▸ (Below.refl _ _).alloc (Nat.le_refl _) _
  have hz1 : w1.heap.size = b + 1 := by rw [hw1, size_alloc, hb]
  have hd1 := start_dP _ _ _ _ _ b w1 hr1
  have hlt1 : b < w1.heap.size := by omega
  -- behind 'if interlaced'
  obtain ⟨w2, hw2⟩ : ∃ w2, w2 = if laced then w1.setCell ⟨b, 778, none⟩ (.int .i64 1) else w1 := ⟨_, rfl⟩
  have hon : Only b w1 w2 := by
    rw [hw2]
    split
    · exact (Only.refl _ _).setCell _ _
    · exact Only.refl _ _
  have hd2 : Dec w2 b { dP W0 H0 k dp (.slice pa pn pc) with lace := .int .i64 (if laced then 1 else 0) } := by
    rw [hw2]
    cases laced
    · exact hd1
    · exact hd1.setPost 778 0 (.int .i64 1) _ rfl rfl rfl rfl List.length_replicate
  have hb2 : Below w.heap.size w w2 := hb1.trans (hon.below (by omega))
  have hz2 : w2.heap.size = b + 1 := by rw [hon.size, hz1]
  obtain ⟨w3, hw3⟩ : ∃ w3, w3 = w2.alloc (.cells #[.slice ad m mc, .int .i64 0, .int .i64 (-1)] 135) := ⟨_, rfl⟩
  have hb3 : Below w.heap.size w w3 := hw3 ▸ hb2.alloc hb2.size _
  have hz3 : w3.heap.size = b + 2 := by rw [hw3, size_alloc, hz2]
  have hb23 : Below w2.heap.size w2 w3 := hw3 ▸ (Below.refl _ _).alloc (Nat.le_refl _) _
  have hr3 : w3.heap[w2.heap.size]? = some (.cells #[.slice ad m mc, .int .i64 0, .int .i64 (-1)] 135 (0, 0)) := hw3 ▸ alloc_at w2 _
  have hpos := hin.eofs.pos
  obtain ⟨sb, so, hsb, hsrc, hlts⟩ : ∃ sb so, (0 < m → ad = some ⟨sb, so, none⟩) ∧ RB w (some ⟨sb, so, none⟩) l ∧ sb < w.heap.size := by
    cases ad with
    | none =>
      have e : l = [] := List.eq_nil_of_length_eq_zero (by rw [hin.hl]; exact (hnil rfl).1)
      exact ⟨0, 0, fun h => by have := (hnil rfl).1; omega, by rw [e]; exact RB.nil _ _, hpos⟩
    | some a =>
      obtain ⟨ab, ao, asp⟩ := a
      obtain rfl : asp = none := hspot _ rfl
      exact ⟨ab, ao, fun _ => rfl, hin.src, hlt _ rfl⟩
  have hnb := hin.nB
  have hripin : RipIn T b W0 H0 c d laced p k l w2.heap.size sb so m mc B { dP W0 H0 k dp (.slice pa pn pc) with lace := .int .i64 (if laced then 1 else 0) } w3 :=
    { ok := hin.ok, dec := hd2.below hb23 (by omega), wd := rfl, ht := rfl, cb := rfl, lace := rfl, hW0 := hin.hW0, hH0 := hin.hH0, hW1 := hin.hW1, hH1 := hin.hH1, hp := hin.hp, inter := hin.inter.below hb3, hl := hin.hl, hm := hin.hm, hmc := hin.hmc,
      src := hsrc.below hb3, srclt := by omega, rd := ⟨-1, ad, hsb, hr3⟩, eofs := hin.eofs.below hb3, nB := by omega, nbR := by omega, nsR := by omega }
  have HC := hrip b w2.heap.size sb so _ w3 hripin ⟨hb3, rfl, rfl, rfl⟩
  have HCC := Lib.hid HC
  have HB3 := Lib.hid hb3
  have hz : w.heap.size ≤ w2.heap.size := by omega
  have HZ := Lib.hid hz
  have HW1 := Lib.hid hw1
  have HW3 := Lib.hid hw3
  have HW2 := Lib.hid hw2
  have HB := Lib.hid hb
  have hfr : w1.frozen? ⟨b, 778, none⟩ = false := hd1.frozen 778
  have hcl : w1.cell? ⟨b, 778, none⟩ = some (.int .i64 0) := hd1.lace
  have hn1 := neq_nil w2
  clear HC hin hrip hripin hd1 hd2 hb1 hb2 hb3 hr1 hr3 hz hz1 hz2 hz3 hon hb23 hw1 hw2 hw3 hb hsb hsrc
  go_enter Tryd.func21, Tryd.ntmps21
  go_upto_region 2 with (refine wpList_build_given rfl 75 #[(3, .tmp 21), (4, .tmp 22), (7, .tmp 23), (5, .tmp 24), (6, .tmp 25)] rfl #[(3, .int .i64 (W0 : Int)), (4, .int .i64 (H0 : Int)), (7, .int .i64 (k : Int)), (5, .int .i64 (dp : Int)), (6, .slice pa pn pc)] (.agg (dPc W0 H0 k dp (.slice pa pn pc))) ?_ (build_pass W0 H0 k dp pa pn pc _) ?_; (· simp [Act.eval]))
  rw [← HW1.out, ← HB.out]
  have e2 : (if laced then w1.setCell ⟨b, 778, none⟩ (.int .i64 1) else w1) = w2 := HW2.out.symm
  cases laced
  all_goals
    simp only [if_true, Bool.false_eq_true, if_false] at e2
    have E2 := Lib.hid e2
    clear e2
    go_upto_region 4 with fail
    rw [E2.out]
    clear hfr hcl
    go_wp2_with (first
      | (go_at_call 27; refine (newReader_any ad m mc _).mono ?_; rintro e w' ⟨rfl, rfl⟩; rw [← HW3.out])
      | (go_at_call 26; refine HCC.out.mono ?_; rintro e w4 hend; obtain ⟨v1, v2, rfl⟩ := (hend.pass HB3.out HZ.out).shape; have HE := Lib.hid (hend.pass HB3.out HZ.out); clear hend))
    go_ret2
    exact HE.out
end Go.Proofs.YtkiibhpmembcgaaDoor
