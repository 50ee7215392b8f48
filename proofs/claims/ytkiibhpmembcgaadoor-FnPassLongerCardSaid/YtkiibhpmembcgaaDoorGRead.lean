/- What a stretch of code leaves of memory: all blocks but some; new ones may come. No function of the program in sight. A bytes.Reader of the call's own, and what io.ReadFull does over it: as many bytes as there is room for come into a row of the call's own, where as many are left. io.ReadFull over a bytes.Reader that has too few bytes left: an error. io.ReadFull over a bytes.Reader that has some bytes left, but too few: an error. -/
import Derived.Test.YtkiibhpmembcgaaDoorGBase
import Derived.Test.YtkiibhpmembcgaaDoorStill
import Derived.Test.YtkiibhpmembcgaaDoorGMath
import Derived.Laws.CopyOwn
import Derived.StillTailTactics
import Derived.Deep.QuietTactic
import Derived.BigQuiet
import Derived.LoopN
import Derived.Deep.RegionWith
import Derived.LaidEql
namespace Go.Proofs.YtkiibhpmembcgaaDoor
open Go.ChangeShapes Go.WideShapes Go.ChangeAt Go.RowKit Go.IntWalk

/-- Nothing has turned but blocks of p, and blocks that have come. -/
structure Chg (p : Nat → Prop) (w w' : World) : Prop where
  os : w'.os = w.os
  tape : w'.tape = w.tape
  output : w'.output = w.output
  size : w.heap.size ≤ w'.heap.size
  block : ∀ k, k < w.heap.size → ¬ p k → w'.heap[k]? = w.heap[k]?
theorem Chg.refl (p : Nat → Prop) (w : World) : Chg p w w := ⟨rfl, rfl, rfl, Nat.le_refl _, fun _ _ _ => rfl⟩
theorem Chg.trans {p : Nat → Prop} {u v w : World} (h : Chg p u v) (k : Chg p v w) : Chg p u w :=
  ⟨k.os.trans h.os, k.tape.trans h.tape, k.output.trans h.output, Nat.le_trans h.size k.size, fun i hi hp => (k.block i (Nat.lt_of_lt_of_le hi h.size) hp).trans (h.block i hi hp)⟩
/-- What follows may also turn blocks that were not there at the start. -/
theorem Chg.then {p q : Nat → Prop} {u v w : World} (h : Chg p u v) (k : Chg q v w) (hq : ∀ i, i < u.heap.size → q i → p i) : Chg p u w :=
  ⟨k.os.trans h.os, k.tape.trans h.tape, k.output.trans h.output, Nat.le_trans h.size k.size, fun i hi hp => (k.block i (Nat.lt_of_lt_of_le hi h.size) (fun c => hp (hq i hi c))).trans (h.block i hi hp)⟩
theorem Chg.mono {p q : Nat → Prop} {w w' : World} (h : Chg p w w') (hq : ∀ i, p i → q i) : Chg q w w' :=
  ⟨h.os, h.tape, h.output, h.size, fun i hi hp => h.block i hi fun c => hp (hq i c)⟩
theorem Chg.drewN {p : Nat → Prop} {u w : World} (h : Chg p u w) (n : Nat) : Chg p u (w.drewN n) := ⟨h.os, h.tape, h.output, h.size, h.block⟩
theorem Chg.drew {p : Nat → Prop} {u w : World} (h : Chg p u w) : Chg p u w.drew := ⟨h.os, h.tape, h.output, h.size, h.block⟩
theorem Only.chg {b : Nat} {w w' : World} (h : Only b w w') : Chg (· = b) w w' := ⟨h.os, h.tape, h.output, by rw [h.size]; exact Nat.le_refl _, fun k _ hk => h.block k hk⟩
theorem Below.chg {B : Nat} {w w' : World} (h : Below B w w') : Chg (fun k => B ≤ k) w w' := ⟨h.os, h.tape, h.output, h.size, fun k _ hk => h.block k (by omega)⟩
theorem Chg.below {p : Nat → Prop} {B : Nat} {w w' : World} (h : Chg p w w') (hB : B ≤ w.heap.size) (hp : ∀ k, k < B → ¬ p k) : Below B w w' :=
  ⟨h.os, h.tape, h.output, h.size, fun k hk => h.block k (by omega) (hp k hk)⟩
theorem Chg.setCell {p : Nat → Prop} {u w : World} (h : Chg p u w) (b : Nat) (hb : b < u.heap.size → p b) (i : Nat) (v : Value) : Chg p u (w.setCell ⟨b, i, none⟩ v) :=
  h.then (q := (· = b)) ⟨rfl, rfl, rfl, by rw [size_set]; exact Nat.le_refl _, fun k _ hk => Below.heap_setCell _ _ _ _ hk⟩ (by intro i hi e; subst e; exact hb hi)
theorem Chg.alloc {p : Nat → Prop} {u w : World} (h : Chg p u w) (o : Obj) : Chg p u (w.alloc o) :=
  h.trans ⟨rfl, rfl, rfl, by rw [size_alloc]; omega, fun k hk _ => heap_alloc_old w o hk⟩
theorem Chg.cell {p : Nat → Prop} {w w' : World} (h : Chg p w w') {q : Addr} (hl : q.block < w.heap.size) (hp : ¬ p q.block) : w'.cell? q = w.cell? q := World.cell?_of_block (w := w) (h.block _ hl hp)
theorem Seg.chg {p : Nat → Prop} {w w' : World} {b : Nat} {pre post : List Value} {l : List UInt8} (h : Seg w b pre post l) (k : Chg p w w') (hne : ¬ p b) : Seg w' b pre post l := (k.block b h.lt hne).trans h
theorem RB.chg {p : Nat → Prop} {w w' : World} {c o : Nat} {l : List UInt8} (h : RB w (some ⟨c, o, none⟩) l) (k : Chg p w w') (hl : c < w.heap.size) (hne : ¬ p c) : RB w' (some ⟨c, o, none⟩) l := by
  intro hl2
  obtain ⟨b', o', e, hc⟩ := h hl2
  simp only [Option.some.injEq, Addr.mk.injEq, and_true] at e
  obtain ⟨rfl, rfl⟩ := e
  exact ⟨c, o, rfl, fun i hi => by rw [k.cell (q := ⟨c, o + i, none⟩) hl hne]; exact hc i hi⟩
/-- An image in memory: its bytes in block bx, L of them; how far its rows lie apart; its corners. -/
structure ImAt (g bx L cap S W H : Nat) (w : World) : Prop where
  lt : g < w.heap.size
  c0 : w.cell? ⟨g, 0, none⟩ = some (.slice (some ⟨bx, 0, none⟩) L cap)
  c1 : w.cell? ⟨g, 1, none⟩ = some (.int .i64 (S : Int))
  c2 : w.cell? ⟨g, 2, none⟩ = some (.int .i64 0)
  c3 : w.cell? ⟨g, 3, none⟩ = some (.int .i64 0)
  c4 : w.cell? ⟨g, 4, none⟩ = some (.int .i64 (W : Int))
  c5 : w.cell? ⟨g, 5, none⟩ = some (.int .i64 (H : Int))
theorem ImAt.chg {g bx L cap S W H : Nat} {w w' : World} {p : Nat → Prop} (h : ImAt g bx L cap S W H w) (k : Chg p w w') (hne : ¬ p g) : ImAt g bx L cap S W H w' :=
  ⟨Nat.lt_of_lt_of_le h.lt k.size, (k.cell (q := ⟨g, 0, none⟩) h.lt hne).trans h.c0, (k.cell (q := ⟨g, 1, none⟩) h.lt hne).trans h.c1, (k.cell (q := ⟨g, 2, none⟩) h.lt hne).trans h.c2,
    (k.cell (q := ⟨g, 3, none⟩) h.lt hne).trans h.c3, (k.cell (q := ⟨g, 4, none⟩) h.lt hne).trans h.c4, (k.cell (q := ⟨g, 5, none⟩) h.lt hne).trans h.c5⟩
end Go.Proofs.YtkiibhpmembcgaaDoor
namespace Go.Proofs.YtkiibhpmembcgaaDoor
open Go.ChangeShapes Go.WideShapes Go.ChangeAt Go.RowKit Go.IntWalk

/-- Nothing but two blocks has turned. -/
structure Only2 (a b : Nat) (w w' : World) : Prop where
  os : w'.os = w.os
  tape : w'.tape = w.tape
  output : w'.output = w.output
  size : w'.heap.size = w.heap.size
  block : ∀ k, k ≠ a → k ≠ b → w'.heap[k]? = w.heap[k]?
theorem Only2.refl (a b : Nat) (w : World) : Only2 a b w w := ⟨rfl, rfl, rfl, rfl, fun _ _ _ => rfl⟩
theorem Only2.trans {a b : Nat} {u v w : World} (h : Only2 a b u v) (k : Only2 a b v w) : Only2 a b u w :=
  ⟨k.os.trans h.os, k.tape.trans h.tape, k.output.trans h.output, k.size.trans h.size, fun i hi hj => (k.block i hi hj).trans (h.block i hi hj)⟩
theorem Only2.drewN {a b : Nat} {u w : World} (h : Only2 a b u w) (n : Nat) : Only2 a b u (w.drewN n) := ⟨h.os, h.tape, h.output, h.size, h.block⟩
theorem Only2.undrewN {a b n : Nat} {u w : World} (h : Only2 a b (u.drewN n) w) : Only2 a b u w := ⟨h.os, h.tape, h.output, h.size, h.block⟩
theorem Only2.drew {a b : Nat} {u w : World} (h : Only2 a b u w) : Only2 a b u w.drew := ⟨h.os, h.tape, h.output, h.size, h.block⟩
theorem Only2.undrew {a b : Nat} {u w : World} (h : Only2 a b u.drew w) : Only2 a b u w := ⟨h.os, h.tape, h.output, h.size, h.block⟩
theorem Only.two1 {a : Nat} (b : Nat) {u w : World} (h : Only a u w) : Only2 a b u w := ⟨h.os, h.tape, h.output, h.size, fun k hk _ => h.block k hk⟩
theorem Only.two2 {b : Nat} (a : Nat) {u w : World} (h : Only b u w) : Only2 a b u w := ⟨h.os, h.tape, h.output, h.size, fun k _ hk => h.block k hk⟩
theorem Only2.cell {a b : Nat} {w w' : World} (h : Only2 a b w w') {p : Addr} (hp : p.block ≠ a) (hq : p.block ≠ b) : w'.cell? p = w.cell? p := World.cell?_of_block (w := w) (h.block _ hp hq)
theorem Only2.below {a b B : Nat} {w w' : World} (h : Only2 a b w w') (ha : B ≤ a) (hb : B ≤ b) : Below B w w' :=
  ⟨h.os, h.tape, h.output, by rw [h.size]; exact Nat.le_refl _, fun k hk => h.block k (by omega) (by omega)⟩
theorem RB.only2 {w w' : World} {a b c o : Nat} {l : List UInt8} (h : RB w (some ⟨c, o, none⟩) l) (k : Only2 a b w w') (hne : c ≠ a) (hne2 : c ≠ b) : RB w' (some ⟨c, o, none⟩) l := by
  intro hl
  obtain ⟨b', o', e, hc⟩ := h hl
  simp only [Option.some.injEq, Addr.mk.injEq, and_true] at e
  obtain ⟨rfl, rfl⟩ := e
  exact ⟨c, o, rfl, fun i hi => by rw [k.cell (p := ⟨c, o + i, none⟩) hne hne2]; exact hc i hi⟩
/-- A reader of bytes: where they lie, how many, and how many have been read. -/
def Rd (w : World) (R sb so m mc i : Nat) : Prop := ∃ (pr : Int) (ad : Option Addr), (0 < m → ad = some ⟨sb, so, none⟩) ∧ w.heap[R]? = some (.cells #[.slice ad m mc, .int .i64 (i : Int), .int .i64 pr] 135 (0, 0))
theorem Rd.only {w w' : World} {R sb so m mc i c : Nat} (h : Rd w R sb so m mc i) (k : Only c w w') (hne : R ≠ c) : Rd w' R sb so m mc i := by
  obtain ⟨pr, ad, ha, h⟩ := h
  exact ⟨pr, ad, ha, (k.block R hne).trans h⟩
theorem Rd.below {w w' : World} {R sb so m mc i B : Nat} (h : Rd w R sb so m mc i) (k : Below B w w') (hlt : R < B) : Rd w' R sb so m mc i := by
  obtain ⟨pr, ad, ha, h⟩ := h
  exact ⟨pr, ad, ha, (k.block R hlt).trans h⟩

/-- What a reading leaves: so many bytes more in the row, so many less in the reader. -/
structure ReadPost (g off R sb so m mc i n : Nat) (l : List UInt8) (cur : List Value) (T : TypeId) (w w' : World) : Prop where
  only : Only2 g R w w'
  row : w'.heap[g]? = some (.cells (splice cur off (cellsB ((l.drop i).take n))).toArray T (0, 0))
  rd : Rd w' R sb so m mc (i + n)
theorem ReadPost.undrew {g off R sb so m mc i n : Nat} {l : List UInt8} {cur : List Value} {T : TypeId} {w w' : World} (h : ReadPost g off R sb so m mc i n l cur T w.drew w') : ReadPost g off R sb so m mc i n l cur T w w' := ⟨h.only.undrew, h.row, h.rd⟩
def ReadEnd (g off R sb so m mc i n : Nat) (l : List UInt8) (cur : List Value) (T : TypeId) (w : World) (e : Ending) (w' : World) : Prop :=
  e = .returned (.tuple #[.int .i64 (n : Int), .nilIface]) ∧ ReadPost g off R sb so m mc i n l cur T w w'

theorem newReader_any (ad : Option Addr) (n cap : Nat) (w : World) : Calls Tryd.prog 27 #[.slice ad n cap] w fun e w' =>
    e = .returned (.pointer (some ⟨w.heap.size, 0, none⟩)) ∧ w.alloc (.cells #[.slice ad n cap, .int .i64 0, .int .i64 (-1)] 135) = w' := by
  go_enter Tryd.func27, Tryd.ntmps27
  go_wp2
  go_ret
  exact ⟨rfl, rfl⟩

set_option maxHeartbeats 1600000 in
set_option maxRecDepth 100000 in
theorem rdRead_any (g off n cap R sb so m mc i : Nat) (l : List UInt8) (cur : List Value) (T : TypeId) (w : World) (hR : Rd w R sb so m mc i)
    (hl : Hid (l.length = m)) (hrb : RB w (some ⟨sb, so, none⟩) l) (hmc : m ≤ mc) (hg : w.heap[g]? = some (.cells cur.toArray T (0, 0)))
    (hgR : g ≠ R) (hsR : sb ≠ R) (hpos : 0 < n) (hin : i + n ≤ m) (hfit : off + n ≤ cur.length) (hm : m ≤ 2000000) :
    Calls Tryd.prog 81 #[.pointer (some ⟨R, 0, none⟩), .slice (some ⟨g, off, none⟩) n cap] w (ReadEnd g off R sb so m mc i n l cur T w) := by
  obtain ⟨pr, ad, hAD, hR⟩ := hR
  obtain rfl := hAD (by omega)
  clear hAD
  have c0 : w.cell? ⟨R, 0, none⟩ = some (.slice (some ⟨sb, so, none⟩) m mc) := by rw [cell_of_row w R 0 _ _ _ hR]; rfl
  have c1 : w.cell? ⟨R, 1, none⟩ = some (.int .i64 (i : Int)) := by rw [cell_of_row w R 1 _ _ _ hR]; rfl
  have c2 : w.cell? ⟨R, 2, none⟩ = some (.int .i64 pr) := by rw [cell_of_row w R 2 _ _ _ hR]; rfl
  have f1 : w.frozen? ⟨R, 1, none⟩ = false := frozen_of_row w R 1 _ _ hR
  have f2 : w.frozen? ⟨R, 2, none⟩ = false := frozen_of_row w R 2 _ _ hR
  have d1 : decide ((m : Int) ≤ (i : Int)) = false := decide_eq_false (by omega)
  go_enter Tryd.func81, Tryd.ntmps81
  go_wp2_with fail
  go_quiet (fail)
  go_wp2_with fail
  obtain ⟨w2, hw2⟩ : ∃ w2, w2 = (w.drewN nq).setCell ⟨R, 2, none⟩ (.int .i64 (-1)) := ⟨_, rfl⟩
  have on2 : Only R w w2 := by rw [hw2]; exact ((Only.refl R w).drewN nq).setCell _ _
  have hR2 : w2.heap[R]? = some (.cells #[.slice (some ⟨sb, so, none⟩) m mc, .int .i64 (i : Int), .int .i64 (-1)] 135 (0, 0)) := by
    rw [hw2]; exact heap_setCell_same (w.drewN nq) R 2 _ _ _ hR
  have hg2 : w2.drew.heap[g]? = some (.cells cur.toArray T (0, 0)) := (on2.block g hgR).trans hg
  have hs2 : RB w2.drew (some ⟨sb, so, none⟩) l := hrb.only on2.drew hsR
  rw [← hw2]
  clear hw2 c0 c1 c2 f1 f2 hg
  have c0 : w2.cell? ⟨R, 0, none⟩ = some (.slice (some ⟨sb, so, none⟩) m mc) := by rw [cell_of_row w2 R 0 _ _ _ hR2]; rfl
  have c1 : w2.cell? ⟨R, 1, none⟩ = some (.int .i64 (i : Int)) := by rw [cell_of_row w2 R 1 _ _ _ hR2]; rfl
  have i0 : (0 : Int) ≤ (i : Int) := by omega
  have i1 : (i : Int) < (mc : Int) := by omega
  have i2 : (i : Int) ≤ (m : Int) := by omega
  go_still_tail 10, (by kernel_rfl)
  change wpList _ _ _ _ _ w2.drew
  obtain ⟨w3, hw3⟩ : ∃ w3, w3 = w2.drew := ⟨_, rfl⟩
  rw [← hw3] at hg2 hs2 ⊢
  have hR3 : w3.heap[R]? = some (.cells #[.slice (some ⟨sb, so, none⟩) m mc, .int .i64 (i : Int), .int .i64 (-1)] 135 (0, 0)) := by rw [hw3]; exact hR2
  have on3 : Only R w w3 := by rw [hw3]; exact on2.drew
  clear hw3 c0 c1 hR2 on2
  obtain ⟨cs, hcs⟩ : ∃ cs, cs = cellsB ((l.drop i).take n) := ⟨_, rfl⟩
  have hcl : cs.length = n := by rw [hcs, cellsB_length]; have := hl.out; simp; omega
  have hsrc := src_of ((hs2.drop i).take n)
  rw [← hcs] at hsrc
  have h1 : ∀ v ∈ cs, v.oneCell' = true := by rw [hcs]; exact cellsB_one _
  have HC := Lib.hid hcs
  obtain ⟨w4, hw4⟩ : ∃ w4, w4 = w3.setRow g (cur.toArray.toList.take off ++ (cs ++ cur.toArray.toList.drop (off + cs.length))).toArray := ⟨_, rfl⟩
  have hg4 : w4.heap[g]? = some (.cells (splice cur off cs).toArray T (0, 0)) := by rw [hw4]; simpa [splice] using setRow_heap w3 g _ _ T _ hg2
  have on4 : Only g w3 w4 := by rw [hw4]; exact ⟨rfl, rfl, rfl, by simp, fun k hk => setRow_other w3 g k _ hk⟩
  have HW4 := Lib.hid hw4
  have hR4 := (on4.block R (Ne.symm hgR)).trans hR3
  have e1 : w4.cell? ⟨R, 1, none⟩ = some (.int .i64 (i : Int)) := by rw [cell_of_row w4 R 1 _ _ _ hR4]; rfl
  have f1 : w4.frozen? ⟨R, 1, none⟩ = false := frozen_of_row w4 R 1 _ _ hR4
  have HH := Lib.hid hsrc
  have H1 := Lib.hid h1
  have HCL := Lib.hid hcl
  clear hcs hsrc h1 hcl hw4
  refine wpList_copy_own rfl (.tmp 20) (.tmp 29) 23 23 rfl 5 (by kernel_rfl) (by kernel_rfl) g off n cap ⟨sb, so + i, none⟩ (m - i) (mc - i) ?_ ?_ cur.toArray T hg2 cs (by rw [HCL.out]; exact (Nat.min_eq_right (by omega)).symm) HH.out (by rw [HCL.out]; simpa using hfit) H1.out ?_
  · rfl
  · show Value.slice (if mc = i then some ⟨sb, so, none⟩ else some ⟨sb, so + i, none⟩) (m - i) (mc - i) = _
    rw [if_neg (show ¬ mc = i by omega)]
  rw [← HW4.out, HCL.out]
  go_wp2_with fail
  go_ret2
  have on5 : Only R w4 (w4.setCell ⟨R, 1, none⟩ (.int .i64 ((i : Int) + (n : Int)))) := (Only.refl _ _).setCell _ _
  refine ⟨rfl, ((on3.two2 g).trans (on4.two1 R)).trans (on5.two2 g), ?_, -1, _, fun _ => rfl, ?_⟩
  · rw [← HC.out]
    exact (on5.block g hgR).trans hg4
  · have := heap_setCell_same w4 R 1 _ _ (.int .i64 ((i : Int) + (n : Int))) hR4
    rw [this]
    simp

theorem nilAhead_read (a : Addr) (w : World) : (nilAhead 281 77 (.pointer (some a)) "Read").run Tryd.prog w = .ok (some false) w := by kernel_rfl
theorem method_read (a : Addr) (w : World) : (method 281 77 (.pointer (some a)) "Read").run Tryd.prog w = .ok (81, .pointer (some a)) w := by kernel_rfl

set_option maxHeartbeats 1600000 in
set_option maxRecDepth 100000 in
theorem readAtLeast_any (g off n cap R sb so m mc i : Nat) (l : List UInt8) (cur : List Value) (T : TypeId) (w : World) (hR : Rd w R sb so m mc i)
    (hl : Hid (l.length = m)) (hrb : RB w (some ⟨sb, so, none⟩) l) (hmc : m ≤ mc) (hg : w.heap[g]? = some (.cells cur.toArray T (0, 0)))
    (hgR : g ≠ R) (hsR : sb ≠ R) (hpos : 0 < n) (hin : i + n ≤ m) (hfit : off + n ≤ cur.length) (hnc : n ≤ cap) (hm : m ≤ 2000000) :
    Calls Tryd.prog 50 #[.iface 77 (.pointer (some ⟨R, 0, none⟩)), .slice (some ⟨g, off, none⟩) n cap, .int .i64 (n : Int)] w (ReadEnd g off R sb so m mc i n l cur T w) := by
  have hna := nilAhead_read
  have hme := method_read
  have d1 : decide ((0 : Int) < (n : Int)) = true := decide_eq_true (by omega)
  have d2 : decide ((n : Int) < (n : Int)) = false := decide_eq_false (by omega)
  go_enter Tryd.func50, Tryd.ntmps50
  go_wp2_with fail
  refine wp_loop_rounds 2 ?_
  rw [rounds_succ]
  go_wp2_with fail
  clear d1
  have hcap : ¬ cap = 0 := by omega
  have i0 : (0 : Int) ≤ (n : Int) := by omega
  go_region_with ((go_at_call 81; refine (rdRead_any g off n cap R sb so m mc i l cur T w.drew hR hl hrb hmc hg hgR hsR hpos hin hfit hm).mono ?_; rintro e w' ⟨rfl, hp⟩))
  clear hna hme
  go_wp2_with fail
  rw [rounds_succ]
  go_wp2_with fail
  go_ret2
  exact ⟨rfl, hp.undrew⟩

set_option maxHeartbeats 800000 in
theorem readFull_any (g off n cap R sb so m mc i : Nat) (l : List UInt8) (cur : List Value) (T : TypeId) (w : World) (hR : Rd w R sb so m mc i)
    (hl : Hid (l.length = m)) (hrb : RB w (some ⟨sb, so, none⟩) l) (hmc : m ≤ mc) (hg : w.heap[g]? = some (.cells cur.toArray T (0, 0)))
    (hgR : g ≠ R) (hsR : sb ≠ R) (hpos : 0 < n) (hin : i + n ≤ m) (hfit : off + n ≤ cur.length) (hnc : n ≤ cap) (hm : m ≤ 2000000) :
    Calls Tryd.prog 39 #[.iface 77 (.pointer (some ⟨R, 0, none⟩)), .slice (some ⟨g, off, none⟩) n cap] w (ReadEnd g off R sb so m mc i n l cur T w) := by
  go_enter Tryd.func39, Tryd.ntmps39
  go_wp2_with (go_at_call 50; refine (readAtLeast_any g off n cap R sb so m mc i l cur T w hR hl hrb hmc hg hgR hsR hpos hin hfit hnc hm).mono ?_; rintro e w' ⟨rfl, hp⟩)
  go_ret2
  exact ⟨rfl, hp⟩
end Go.Proofs.YtkiibhpmembcgaaDoor
namespace Go.Proofs.YtkiibhpmembcgaaDoor
open Go.ChangeShapes Go.WideShapes Go.ChangeAt Go.RowKit Go.IntWalk

/-- The two errors of package io: each points to a block below B. -/
structure Eofs (B : Nat) (w : World) : Prop where
  one : ∃ p ca ta, w.cell? ⟨1, 0, none⟩ = some (.iface 147 (.pointer (some p))) ∧ w.heap[p.block]? = some (.cells ca ta (0, 0)) ∧ p.block < B ∧ 1 < B
  two : ∃ p ca ta, w.cell? ⟨2, 0, none⟩ = some (.iface 147 (.pointer (some p))) ∧ w.heap[p.block]? = some (.cells ca ta (0, 0)) ∧ p.block < B ∧ 2 < B
theorem Eofs.drewN {B : Nat} {w : World} (h : Eofs B w) (n : Nat) : Eofs B (w.drewN n) := ⟨h.one, h.two⟩
theorem lt_of_row {w : World} {b : Nat} {o : Obj} (h : w.heap[b]? = some o) : b < w.heap.size := by
  rcases Nat.lt_or_ge b w.heap.size with h' | h'
  · exact h'
  · rw [Array.getElem?_eq_none h'] at h; simp at h
theorem Eofs.chg {B : Nat} {p : Nat → Prop} {w w' : World} (h : Eofs B w) (k : Chg p w w') (hp : ∀ i, i < B → ¬ p i) : Eofs B w' := by
  obtain ⟨⟨p1, ca, ta, h1, h2, h3, h4⟩, p2, cb, tb, g1, g2, g3, g4⟩ := h
  exact ⟨⟨p1, ca, ta, (k.cell (q := ⟨1, 0, none⟩) (World.block_lt_of_cell? w _ h1) (hp _ h4)).trans h1, (k.block _ (lt_of_row h2) (hp _ h3)).trans h2, h3, h4⟩,
    p2, cb, tb, (k.cell (q := ⟨2, 0, none⟩) (World.block_lt_of_cell? w _ g1) (hp _ g4)).trans g1, (k.block _ (lt_of_row g2) (hp _ g3)).trans g2, g3, g4⟩
theorem comp_err : (Tryd.prog.info? 147).map (·.comparable) = some true := by kernel_rfl
theorem size_err : (Tryd.prog.info? 173).map (·.size) = some 1 := by kernel_rfl
/-- Two errors are one by their addresses. -/
theorem eql_err {w : World} (x a : Addr) {cx ca : Array Value} {tx ta : TypeId} (hx : w.heap[x.block]? = some (.cells cx tx (0, 0))) (ha : w.heap[a.block]? = some (.cells ca ta (0, 0))) :
    (binOp .eql 54 (.iface 147 (.pointer (some x))) (.iface 147 (.pointer (some a)))).run Tryd.prog w = .ok (.bool (decide (x = a))) w := by
  obtain ⟨i, hi, hcmp⟩ := Option.map_eq_some_iff.1 comp_err
  obtain ⟨j, hj, hjs⟩ := Option.map_eq_some_iff.1 size_err
  by_cases h : x = a
  · subst h
    simpa using run_eql_iface_ptr_same (P := Tryd.prog) w x Tryd.underlying54 Tryd.underlying147 hi hcmp hj
  · simpa [h] using run_eql_iface_ptr_other (P := Tryd.prog) w Tryd.underlying54 Tryd.underlying147 hi hcmp hj (by rw [hjs]; decide) h hx ha
theorem eql_err_same (x : Addr) (w : World) :
    (binOp .eql 54 (.iface 147 (.pointer (some x))) (.iface 147 (.pointer (some x)))).run Tryd.prog w = .ok (.bool true) w := by
  obtain ⟨i, hi, hcmp⟩ := Option.map_eq_some_iff.1 comp_err
  obtain ⟨j, hj, hjs⟩ := Option.map_eq_some_iff.1 size_err
  exact run_eql_iface_ptr_same (P := Tryd.prog) w x Tryd.underlying54 Tryd.underlying147 hi hcmp hj
set_option maxHeartbeats 1600000 in
set_option maxRecDepth 100000 in
theorem rdEof_any (B : Nat) (sl : Value) (R sb so m mc : Nat) (w : World) (hR : Rd w R sb so m mc m) (he : Eofs B w) :
    Calls Tryd.prog 81 #[.pointer (some ⟨R, 0, none⟩), sl] w
      (fun e w' => (∃ v, e = .returned (.tuple #[.int .i64 0, v]) ∧ w.cell? ⟨1, 0, none⟩ = some v) ∧ Chg (fun _ => False) w w') := by
  obtain ⟨pr, ad, -, hR⟩ := hR
  obtain ⟨⟨p, ca, ta, h1, -, -, -⟩, -⟩ := he
  have c0 : w.cell? ⟨R, 0, none⟩ = some (.slice ad m mc) := by rw [cell_of_row w R 0 _ _ _ hR]; rfl
  have c1 : w.cell? ⟨R, 1, none⟩ = some (.int .i64 (m : Int)) := by rw [cell_of_row w R 1 _ _ _ hR]; rfl
  have d1 : decide ((m : Int) ≤ (m : Int)) = true := decide_eq_true (by omega)
  go_enter Tryd.func81, Tryd.ntmps81
  go_wp2_with fail
  go_quiet (fail)
  go_wp2_with fail
  go_quiet (fail)
  go_wp2_with fail
  refine ⟨rfl, .tuple #[.int .i64 0, .iface 147 (.pointer (some p))], by simp [results, Tryd.results81, go_sem], ⟨_, rfl, h1⟩, ?_⟩
  first | exact ((Chg.refl _ _).drewN _).drewN _ | exact (Chg.refl _ _).drewN _
set_option maxHeartbeats 1600000 in
set_option maxRecDepth 100000 in
theorem rdK_any (g off n k cap R sb so m mc i : Nat) (l : List UInt8) (cur : List Value) (T : TypeId) (w : World) (hR : Rd w R sb so m mc i)
    (hl : Hid (l.length = m)) (hrb : RB w (some ⟨sb, so, none⟩) l) (hmc : m ≤ mc) (hg : w.heap[g]? = some (.cells cur.toArray T (0, 0)))
    (hgR : g ≠ R) (hsR : sb ≠ R) (hpos : 0 < k) (hin : k = Nat.min (m - i) n) (hfit : off + k ≤ cur.length) (hm : m ≤ 2000000) :
    Calls Tryd.prog 81 #[.pointer (some ⟨R, 0, none⟩), .slice (some ⟨g, off, none⟩) n cap] w (ReadEnd g off R sb so m mc i k l cur T w) := by
  have hin2 : k ≤ m - i ∧ k ≤ n := by rw [hin]; exact ⟨Nat.min_le_left _ _, Nat.min_le_right _ _⟩
  have HIN := Lib.hid hin
  clear hin
  obtain ⟨hin, hkn⟩ := hin2
  obtain ⟨pr, ad, hAD, hR⟩ := hR
  obtain rfl := hAD (by omega)
  clear hAD
  have c0 : w.cell? ⟨R, 0, none⟩ = some (.slice (some ⟨sb, so, none⟩) m mc) := by rw [cell_of_row w R 0 _ _ _ hR]; rfl
  have c1 : w.cell? ⟨R, 1, none⟩ = some (.int .i64 (i : Int)) := by rw [cell_of_row w R 1 _ _ _ hR]; rfl
  have c2 : w.cell? ⟨R, 2, none⟩ = some (.int .i64 pr) := by rw [cell_of_row w R 2 _ _ _ hR]; rfl
  have f1 : w.frozen? ⟨R, 1, none⟩ = false := frozen_of_row w R 1 _ _ hR
  have f2 : w.frozen? ⟨R, 2, none⟩ = false := frozen_of_row w R 2 _ _ hR
  have d1 : decide ((m : Int) ≤ (i : Int)) = false := decide_eq_false (by omega)
  go_enter Tryd.func81, Tryd.ntmps81
  go_wp2_with fail
  go_quiet (fail)
  go_wp2_with fail
  obtain ⟨w2, hw2⟩ : ∃ w2, w2 = (w.drewN nq).setCell ⟨R, 2, none⟩ (.int .i64 (-1)) := ⟨_, rfl⟩
  have on2 : Only R w w2 := by rw [hw2]; exact ((Only.refl R w).drewN nq).setCell _ _
  have hR2 : w2.heap[R]? = some (.cells #[.slice (some ⟨sb, so, none⟩) m mc, .int .i64 (i : Int), .int .i64 (-1)] 135 (0, 0)) := by
    rw [hw2]; exact heap_setCell_same (w.drewN nq) R 2 _ _ _ hR
  have hg2 : w2.drew.heap[g]? = some (.cells cur.toArray T (0, 0)) := (on2.block g hgR).trans hg
  have hs2 : RB w2.drew (some ⟨sb, so, none⟩) l := hrb.only on2.drew hsR
  rw [← hw2]
  clear hw2 c0 c1 c2 f1 f2 hg
  have c0 : w2.cell? ⟨R, 0, none⟩ = some (.slice (some ⟨sb, so, none⟩) m mc) := by rw [cell_of_row w2 R 0 _ _ _ hR2]; rfl
  have c1 : w2.cell? ⟨R, 1, none⟩ = some (.int .i64 (i : Int)) := by rw [cell_of_row w2 R 1 _ _ _ hR2]; rfl
  have i0 : (0 : Int) ≤ (i : Int) := by omega
  have i1 : (i : Int) < (mc : Int) := by omega
  have i2 : (i : Int) ≤ (m : Int) := by omega
  go_still_tail 10, (by kernel_rfl)
  change wpList _ _ _ _ _ w2.drew
  obtain ⟨w3, hw3⟩ : ∃ w3, w3 = w2.drew := ⟨_, rfl⟩
  rw [← hw3] at hg2 hs2 ⊢
  have hR3 : w3.heap[R]? = some (.cells #[.slice (some ⟨sb, so, none⟩) m mc, .int .i64 (i : Int), .int .i64 (-1)] 135 (0, 0)) := by rw [hw3]; exact hR2
  have on3 : Only R w w3 := by rw [hw3]; exact on2.drew
  clear hw3 c0 c1 hR2 on2
  obtain ⟨cs, hcs⟩ : ∃ cs, cs = cellsB ((l.drop i).take k) := ⟨_, rfl⟩
  have hcl : cs.length = k := by rw [hcs, cellsB_length]; have := hl.out; simp; omega
  have hsrc := src_of ((hs2.drop i).take k)
  rw [← hcs] at hsrc
  have h1 : ∀ v ∈ cs, v.oneCell' = true := by rw [hcs]; exact cellsB_one _
  have HC := Lib.hid hcs
  obtain ⟨w4, hw4⟩ : ∃ w4, w4 = w3.setRow g (cur.toArray.toList.take off ++ (cs ++ cur.toArray.toList.drop (off + cs.length))).toArray := ⟨_, rfl⟩
  have hg4 : w4.heap[g]? = some (.cells (splice cur off cs).toArray T (0, 0)) := by rw [hw4]; simpa [splice] using setRow_heap w3 g _ _ T _ hg2
  have on4 : Only g w3 w4 := by rw [hw4]; exact ⟨rfl, rfl, rfl, by simp, fun k hk => setRow_other w3 g k _ hk⟩
  have HW4 := Lib.hid hw4
  have hR4 := (on4.block R (Ne.symm hgR)).trans hR3
  have e1 : w4.cell? ⟨R, 1, none⟩ = some (.int .i64 (i : Int)) := by rw [cell_of_row w4 R 1 _ _ _ hR4]; rfl
  have f1 : w4.frozen? ⟨R, 1, none⟩ = false := frozen_of_row w4 R 1 _ _ hR4
  have HH := Lib.hid hsrc
  have H1 := Lib.hid h1
  have HCL := Lib.hid hcl
  clear hcs hsrc h1 hcl hw4
  refine wpList_copy_own rfl (.tmp 20) (.tmp 29) 23 23 rfl 5 (by kernel_rfl) (by kernel_rfl) g off n cap ⟨sb, so + i, none⟩ (m - i) (mc - i) ?_ ?_ cur.toArray T hg2 cs (by rw [HCL.out]; exact HIN.out) HH.out (by rw [HCL.out]; simpa using hfit) H1.out ?_
  · rfl
  · show Value.slice (if mc = i then some ⟨sb, so, none⟩ else some ⟨sb, so + i, none⟩) (m - i) (mc - i) = _
    rw [if_neg (show ¬ mc = i by omega)]
  rw [← HW4.out, HCL.out]
  go_wp2_with fail
  go_ret2
  have on5 : Only R w4 (w4.setCell ⟨R, 1, none⟩ (.int .i64 ((i : Int) + (k : Int)))) := (Only.refl _ _).setCell _ _
  refine ⟨rfl, ((on3.two2 g).trans (on4.two1 R)).trans (on5.two2 g), ?_, -1, _, fun _ => rfl, ?_⟩
  · rw [← HC.out]
    exact (on5.block g hgR).trans hg4
  · have := heap_setCell_same w4 R 1 _ _ (.int .i64 ((i : Int) + (k : Int))) hR4
    rw [this]
    simp

/-- Too few bytes: an error comes back; the row's block and the reader's have turned. -/
def ShortEnd (g R : Nat) (w : World) (e : Ending) (w' : World) : Prop :=
  (∃ (n : Int) (v : Value), e = .returned (.tuple #[.int .i64 n, v]) ∧ (w.cell? ⟨1, 0, none⟩ = some v ∨ w.cell? ⟨2, 0, none⟩ = some v)) ∧ Chg (fun k => k = g ∨ k = R) w w'
set_option maxHeartbeats 1600000 in
set_option maxRecDepth 100000 in
theorem readAtLeast_eof (B g off n cap R sb so m mc : Nat) (w : World) (hR : Rd w R sb so m mc m) (he : Eofs B w) (hpos : 0 < n) (hnc : n ≤ cap) :
    Calls Tryd.prog 50 #[.iface 77 (.pointer (some ⟨R, 0, none⟩)), .slice (some ⟨g, off, none⟩) n cap, .int .i64 (n : Int)] w (ShortEnd g R w) := by
  have hna := nilAhead_read
  have hme := method_read
  obtain ⟨p1, ca, ta, g1, -, -, -⟩ := he.one
  have d1 : decide ((0 : Int) < (n : Int)) = true := decide_eq_true (by omega)
  have d2 : decide ((n : Int) < (n : Int)) = false := decide_eq_false (by omega)
  go_enter Tryd.func50, Tryd.ntmps50
  go_wp2_with fail
  refine wp_loop_rounds 2 ?_
  rw [rounds_succ]
  go_wp2_with fail
  have hcap : ¬ cap = 0 := by omega
  have i0 : (0 : Int) ≤ (n : Int) := by omega
  go_region_with ((go_at_call 81; refine (rdEof_any B _ R sb so m mc w.drew hR (he.drewN 1)).mono ?_; rintro e w' ⟨⟨v, rfl, hv⟩, hp⟩))
  clear hna hme
  obtain rfl : Value.iface 147 (.pointer (some p1)) = v := Option.some.inj (g1.symm.trans hv)
  go_wp2_with fail
  rw [rounds_succ]
  go_wp2_with fail
  refine ⟨rfl, .tuple #[.int .i64 0, .iface 147 (.pointer (some p1))], by simp [results, Tryd.results50, go_sem], ⟨0, _, rfl, .inl g1⟩, ?_⟩
  exact ((Chg.refl _ w).drew).trans (hp.mono (fun _ h => h.elim))
end Go.Proofs.YtkiibhpmembcgaaDoor
namespace Go.Proofs.YtkiibhpmembcgaaDoor
open Go.ChangeShapes Go.WideShapes Go.ChangeAt Go.RowKit Go.IntWalk

theorem Only2.chg' {a b : Nat} {w w' : World} (h : Only2 a b w w') : Chg (fun k => k = a ∨ k = b) w w' :=
  ⟨h.os, h.tape, h.output, by rw [h.size]; exact Nat.le_refl _, fun k _ hk => h.block k (fun e => hk (.inl e)) (fun e => hk (.inr e))⟩
set_option maxHeartbeats 1600000 in
set_option maxRecDepth 100000 in
theorem readAtLeast_short (B g off n k cap R sb so m mc i : Nat) (l : List UInt8) (cur : List Value) (T : TypeId) (w : World) (hR : Rd w R sb so m mc i)
    (hl : Hid (l.length = m)) (hrb : RB w (some ⟨sb, so, none⟩) l) (hmc : m ≤ mc) (hg : w.heap[g]? = some (.cells cur.toArray T (0, 0)))
    (hgR : g ≠ R) (hsR : sb ≠ R) (hk : k = m - i) (hpos : 0 < k) (hkn : k < n) (hfit : off + n ≤ cur.length) (hnc : n ≤ cap) (hm : m ≤ 2000000) (hn : n ≤ 2000000) (he : Eofs B w)
    (hge : B ≤ g ∧ B ≤ R) :
    Calls Tryd.prog 50 #[.iface 77 (.pointer (some ⟨R, 0, none⟩)), .slice (some ⟨g, off, none⟩) n cap, .int .i64 (n : Int)] w (ShortEnd g R w) := by
  have hna := nilAhead_read
  have hme := method_read
  have hmin : k = Nat.min (m - i) n := by rw [← hk]; exact (Nat.min_eq_left (by omega)).symm
  have HMIN := Lib.hid hmin
  have hik : i + k = m := by omega
  have HIK := Lib.hid hik
  clear hk hmin hik
  have d1 : decide ((0 : Int) < (n : Int)) = true := decide_eq_true (by omega)
  have d2 : decide ((n : Int) < (n : Int)) = false := decide_eq_false (by omega)
  have d3 : decide ((k : Int) < (n : Int)) = true := decide_eq_true (by omega)
  go_enter Tryd.func50, Tryd.ntmps50
  go_wp2_with fail
  refine wp_loop_rounds 3 ?_
  rw [rounds_succ]
  go_wp2_with fail
  have hcap : ¬ cap = 0 := by omega
  have i0 : (0 : Int) ≤ (n : Int) := by omega
  go_region_with ((go_at_call 81; refine (rdK_any g off n k cap R sb so m mc i l cur T w.drew hR hl hrb hmc hg hgR hsR hpos HMIN.out (by omega) hm).mono ?_; rintro e w2 ⟨rfl, hp⟩))
  have hp := hp.undrew
  obtain ⟨hon, -, hrd⟩ := hp
  rw [HIK.out] at hrd
  have he2 : Eofs B w2 := he.chg hon.chg' (fun i hi => by rintro (e | e) <;> omega)
  obtain ⟨p1, ca1, ta1, g1', -, -, -⟩ := he2.one
  obtain ⟨p2, ca2, ta2, g2', -, -, -⟩ := he2.two
  have g2 : w.cell? ⟨2, 0, none⟩ = some (.iface 147 (.pointer (some p2))) := by
    obtain ⟨p, ca, ta, h1, -, -, h4⟩ := he.two
    have := hon.chg'.cell (q := ⟨2, 0, none⟩) (World.block_lt_of_cell? w _ h1) (by rintro (e | e) <;> (simp only at e; omega))
    rw [← this]; exact g2'
  have HON := Lib.hid hon
  have G2 := Lib.hid g2
  clear he g2 hg hrb hR hl hon
  go_wp2_with fail
  rw [rounds_succ]
  go_wp2_with fail
  have k0 : (0 : Int) ≤ (k : Int) := by omega
  have k1 : (k : Int) ≤ (cap : Int) := by omega
  have k2 : (k : Int) ≤ (n : Int) := by omega
  go_region_with ((go_at_call 81; refine (rdEof_any B _ R sb so m mc w2.drew hrd (he2.drewN 1)).mono ?_; rintro e w3 ⟨⟨v, rfl, hv⟩, hp3⟩))
  obtain rfl : Value.iface 147 (.pointer (some p1)) = v := Option.some.inj (g1'.symm.trans hv)
  clear hna hme
  have q1 : w3.cell? ⟨1, 0, none⟩ = some (.iface 147 (.pointer (some p1))) := (hp3.cell (q := ⟨1, 0, none⟩) (World.block_lt_of_cell? w2 _ g1') id).trans g1'
  have q2 : w3.cell? ⟨2, 0, none⟩ = some (.iface 147 (.pointer (some p2))) := (hp3.cell (q := ⟨2, 0, none⟩) (World.block_lt_of_cell? w2 _ g2') id).trans g2'
  have HP3 := Lib.hid hp3
  have qe := eql_err_same p1
  clear g1' g2' hp3
  go_wp2_with fail
  rw [rounds_succ]
  go_wp2_with fail
  refine ⟨rfl, .tuple #[.int .i64 (k : Int), .iface 147 (.pointer (some p2))], by simp [results, Tryd.results50, go_sem], ⟨(k : Int), _, rfl, .inr G2.out⟩, ?_⟩
  exact HON.out.chg'.trans ((Chg.refl _ w2).drew.trans (HP3.out.mono (fun _ h => h.elim)))
set_option maxHeartbeats 800000 in
theorem readFull_short (B g off n cap R sb so m mc i : Nat) (l : List UInt8) (cur : List Value) (T : TypeId) (w : World) (hR : Rd w R sb so m mc i)
    (hl : Hid (l.length = m)) (hrb : RB w (some ⟨sb, so, none⟩) l) (hmc : m ≤ mc) (hg : w.heap[g]? = some (.cells cur.toArray T (0, 0)))
    (hgR : g ≠ R) (hsR : sb ≠ R) (hpos : 0 < n) (him : i ≤ m) (hin : m < i + n) (hfit : off + n ≤ cur.length) (hnc : n ≤ cap) (hm : m ≤ 2000000) (hn : n ≤ 2000000) (he : Eofs B w)
    (hge : B ≤ g ∧ B ≤ R) :
    Calls Tryd.prog 39 #[.iface 77 (.pointer (some ⟨R, 0, none⟩)), .slice (some ⟨g, off, none⟩) n cap] w (ShortEnd g R w) := by
  have HC : Calls Tryd.prog 50 #[.iface 77 (.pointer (some ⟨R, 0, none⟩)), .slice (some ⟨g, off, none⟩) n cap, .int .i64 (n : Int)] w (ShortEnd g R w) := by
    rcases Nat.lt_or_ge i m with h | h
    · exact readAtLeast_short B g off n (m - i) cap R sb so m mc i l cur T w hR hl hrb hmc hg hgR hsR rfl (by omega) (by omega) hfit hnc hm hn he hge
    · obtain rfl : i = m := Nat.le_antisymm him h
      exact readAtLeast_eof B g off n cap R sb so i mc w hR he hpos hnc
  have HCC := Lib.hid HC
  clear HC hR hl hrb hg he
  go_enter Tryd.func39, Tryd.ntmps39
  go_wp2_with (go_at_call 50; refine HCC.out.mono ?_; rintro e w' ⟨⟨nn, v, rfl, hv⟩, hp⟩)
  go_ret2
  exact ⟨⟨nn, v, rfl, hv⟩, hp⟩
end Go.Proofs.YtkiibhpmembcgaaDoor
