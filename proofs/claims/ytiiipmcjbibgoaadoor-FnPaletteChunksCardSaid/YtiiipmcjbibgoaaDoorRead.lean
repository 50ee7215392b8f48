/- A bytes.Reader of the call's own, and what io.ReadFull does over it: as many bytes as there is room for come into a row of the call's own, where as many are left. -/
import Derived.Test.YtiiipmcjbibgoaaDoorSeg
import Derived.Laws.CopyOwn
import Derived.StillTailTactics
import Derived.Deep.QuietTactic
import Derived.BigQuiet
import Derived.LoopN
import Derived.Deep.RegionWith
namespace Go.Proofs.YtiiipmcjbibgoaaDoor
open Go.ChangeShapes Go.WideShapes Go.ChangeAt Go.RowKit Go.IntWalk

/-- Nothing but two blocks has turned. -/
structure Only2 (a b : Nat) (w w' : World) : Prop where
  os : w'.os = w.os
  tape : w'.tape = w.tape
  output : w'.output = w.output
  size : w'.heap.size = w.heap.size
  block : ∀ k, k ≠ a → k ≠ b → w'.heap[k]? = w.heap[k]?
theorem Only2.refl (a b : Nat) (w : World) : Only2 a b w w := ⟨rfl, rfl, rfl, rfl, fun _ _ _ => rfl⟩
theorem Only2.trans {a b : Nat} {u v w : World} (h : Only2 a b u v) (k : Only2 a b v w) : Only2 a b u w :=
  ⟨k.os.trans h.os, k.tape.trans h.tape, k.output.trans h.output, k.size.trans h.size, fun i hi hj => (k.block i hi hj).trans (h.block i hi hj)⟩
theorem Only2.drewN {a b : Nat} {u w : World} (h : Only2 a b u w) (n : Nat) : Only2 a b u (w.drewN n) := ⟨h.os, h.tape, h.output, h.size, h.block⟩
theorem Only2.undrewN {a b n : Nat} {u w : World} (h : Only2 a b (u.drewN n) w) : Only2 a b u w := ⟨h.os, h.tape, h.output, h.size, h.block⟩
theorem Only2.drew {a b : Nat} {u w : World} (h : Only2 a b u w) : Only2 a b u w.drew := ⟨h.os, h.tape, h.output, h.size, h.block⟩
theorem Only2.undrew {a b : Nat} {u w : World} (h : Only2 a b u.drew w) : Only2 a b u w := ⟨h.os, h.tape, h.output, h.size, h.block⟩
theorem Only.two1 {a : Nat} (b : Nat) {u w : World} (h : Only a u w) : Only2 a b u w := ⟨h.os, h.tape, h.output, h.size, fun k hk _ => h.block k hk⟩
theorem Only.two2 {b : Nat} (a : Nat) {u w : World} (h : Only b u w) : Only2 a b u w := ⟨h.os, h.tape, h.output, h.size, fun k _ hk => h.block k hk⟩
theorem Only2.cell {a b : Nat} {w w' : World} (h : Only2 a b w w') {p : Addr} (hp : p.block ≠ a) (hq : p.block ≠ b) : w'.cell? p = w.cell? p := World.cell?_of_block (w := w) (h.block _ hp hq)
theorem Only2.below {a b B : Nat} {w w' : World} (h : Only2 a b w w') (ha : B ≤ a) (hb : B ≤ b) : Below B w w' :=
  ⟨h.os, h.tape, h.output, by rw [h.size]; exact Nat.le_refl _, fun k hk => h.block k (by omega) (by omega)⟩
theorem RB.only2 {w w' : World} {a b c o : Nat} {l : List UInt8} (h : RB w (some ⟨c, o, none⟩) l) (k : Only2 a b w w') (hne : c ≠ a) (hne2 : c ≠ b) : RB w' (some ⟨c, o, none⟩) l := by
  intro hl
  obtain ⟨b', o', e, hc⟩ := h hl
  simp only [Option.some.injEq, Addr.mk.injEq, and_true] at e
  obtain ⟨rfl, rfl⟩ := e
  exact ⟨c, o, rfl, fun i hi => by rw [k.cell (p := ⟨c, o + i, none⟩) hne hne2]; exact hc i hi⟩
/-- What lies ahead of a place of a list of bytes and behind it. -/
theorem RB.drop {w : World} {c o : Nat} {l : List UInt8} (h : RB w (some ⟨c, o, none⟩) l) (i : Nat) : RB w (some ⟨c, o + i, none⟩) (l.drop i) := by
  intro hl
  obtain ⟨b', o', e, hc⟩ := h (by intro e; rw [e] at hl; simp at hl)
  simp only [Option.some.injEq, Addr.mk.injEq, and_true] at e
  obtain ⟨rfl, rfl⟩ := e
  refine ⟨c, o + i, rfl, fun j hj => ?_⟩
  have := hc (i + j) (by simp at hj; omega)
  rw [Nat.add_assoc, this]
  simp [List.getD]
theorem RB.take {w : World} {ad : Option Addr} {l : List UInt8} (h : RB w ad l) (n : Nat) : RB w ad (l.take n) := by
  intro hl
  obtain ⟨b, o, e, hc⟩ := h (by intro e; rw [e] at hl; simp at hl)
  refine ⟨b, o, e, fun j hj => ?_⟩
  have hj' : j < n ∧ j < l.length := by simp at hj; omega
  rw [hc j hj'.2]
  simp [List.getD, hj'.1]

/-- Bytes as cells. -/
def cellsB (l : List UInt8) : List Value := l.map fun v => Value.int .u8 (v.toNat : Int)
theorem cellsB_length (l : List UInt8) : (cellsB l).length = l.length := by simp [cellsB]
theorem cellsB_one (l : List UInt8) : ∀ v ∈ cellsB l, v.oneCell' = true := by
  intro v hv
  obtain ⟨u, -, rfl⟩ := List.mem_map.1 hv
  rfl
theorem src_of {w : World} {b o : Nat} {l : List UInt8} (h : RB w (some ⟨b, o, none⟩) l) : ∀ j v, (cellsB l)[j]? = some v → w.cell? ((⟨b, o, none⟩ : Addr).add j) = some v := by
  intro j v hj
  obtain ⟨hlt, e⟩ := List.getElem?_eq_some_iff.1 hj
  simp only [cellsB, List.length_map] at hlt
  obtain ⟨b', o', e2, hc⟩ := h (by intro e3; rw [e3] at hlt; simp at hlt)
  simp only [Option.some.injEq, Addr.mk.injEq, and_true] at e2
  obtain ⟨rfl, rfl⟩ := e2
  have h2 := hc j hlt
  rw [← e]
  unfold Addr.add
  split
  · rename_i h0
    subst h0
    simpa [cellsB, List.getD, hlt] using h2
  · simpa [cellsB, List.getD, hlt] using h2

/-- A reader of bytes: where they lie, how many, and how many have been read. -/
def Rd (w : World) (R sb so m mc i : Nat) : Prop := ∃ pr : Int, w.heap[R]? = some (.cells #[.slice (some ⟨sb, so, none⟩) m mc, .int .i64 (i : Int), .int .i64 pr] 120 (0, 0))
theorem Rd.only {w w' : World} {R sb so m mc i c : Nat} (h : Rd w R sb so m mc i) (k : Only c w w') (hne : R ≠ c) : Rd w' R sb so m mc i := by
  obtain ⟨pr, h⟩ := h
  exact ⟨pr, (k.block R hne).trans h⟩
theorem Rd.below {w w' : World} {R sb so m mc i B : Nat} (h : Rd w R sb so m mc i) (k : Below B w w') (hlt : R < B) : Rd w' R sb so m mc i := by
  obtain ⟨pr, h⟩ := h
  exact ⟨pr, (k.block R hlt).trans h⟩

/-- What a reading leaves: so many bytes more in the row, so many less in the reader. -/
structure ReadPost (g off R sb so m mc i n : Nat) (l : List UInt8) (cur : List Value) (T : TypeId) (w w' : World) : Prop where
  only : Only2 g R w w'
  row : w'.heap[g]? = some (.cells (splice cur off (cellsB ((l.drop i).take n))).toArray T (0, 0))
  rd : Rd w' R sb so m mc (i + n)
theorem ReadPost.undrew {g off R sb so m mc i n : Nat} {l : List UInt8} {cur : List Value} {T : TypeId} {w w' : World} (h : ReadPost g off R sb so m mc i n l cur T w.drew w') : ReadPost g off R sb so m mc i n l cur T w w' := ⟨h.only.undrew, h.row, h.rd⟩
def ReadEnd (g off R sb so m mc i n : Nat) (l : List UInt8) (cur : List Value) (T : TypeId) (w : World) (e : Ending) (w' : World) : Prop :=
  e = .returned (.tuple #[.int .i64 (n : Int), .nilIface]) ∧ ReadPost g off R sb so m mc i n l cur T w w'

theorem newReader_any (ad : Option Addr) (n cap : Nat) (w : World) : Calls Tryd.prog 37 #[.slice ad n cap] w fun e w' =>
    e = .returned (.pointer (some ⟨w.heap.size, 0, none⟩)) ∧ w.alloc (.cells #[.slice ad n cap, .int .i64 0, .int .i64 (-1)] 120) = w' := by
  go_enter Tryd.func37, Tryd.ntmps37
  go_wp2
  go_ret
  exact ⟨rfl, rfl⟩

set_option maxHeartbeats 1600000 in
set_option maxRecDepth 100000 in
theorem rdRead_any (g off n cap R sb so m mc i : Nat) (l : List UInt8) (cur : List Value) (T : TypeId) (w : World) (hR : Rd w R sb so m mc i)
    (hl : Hid (l.length = m)) (hrb : RB w (some ⟨sb, so, none⟩) l) (hmc : m ≤ mc) (hg : w.heap[g]? = some (.cells cur.toArray T (0, 0)))
    (hgR : g ≠ R) (hsR : sb ≠ R) (hpos : 0 < n) (hin : i + n ≤ m) (hfit : off + n ≤ cur.length) (hm : m ≤ 1000000) :
    Calls Tryd.prog 95 #[.pointer (some ⟨R, 0, none⟩), .slice (some ⟨g, off, none⟩) n cap] w (ReadEnd g off R sb so m mc i n l cur T w) := by
  obtain ⟨pr, hR⟩ := hR
  have c0 : w.cell? ⟨R, 0, none⟩ = some (.slice (some ⟨sb, so, none⟩) m mc) := by rw [cell_of_row w R 0 _ _ _ hR]; rfl
  have c1 : w.cell? ⟨R, 1, none⟩ = some (.int .i64 (i : Int)) := by rw [cell_of_row w R 1 _ _ _ hR]; rfl
  have c2 : w.cell? ⟨R, 2, none⟩ = some (.int .i64 pr) := by rw [cell_of_row w R 2 _ _ _ hR]; rfl
  have f1 : w.frozen? ⟨R, 1, none⟩ = false := frozen_of_row w R 1 _ _ hR
  have f2 : w.frozen? ⟨R, 2, none⟩ = false := frozen_of_row w R 2 _ _ hR
  have d1 : decide ((m : Int) ≤ (i : Int)) = false := decide_eq_false (by omega)
  go_enter Tryd.func95, Tryd.ntmps95
  go_wp2_with fail
  go_quiet (fail)
  go_wp2_with fail
  obtain ⟨w2, hw2⟩ : ∃ w2, w2 = (w.drewN nq).setCell ⟨R, 2, none⟩ (.int .i64 (-1)) := ⟨_, rfl⟩
  have on2 : Only R w w2 := by rw [hw2]; exact ((Only.refl R w).drewN nq).setCell _ _
  have hR2 : w2.heap[R]? = some (.cells #[.slice (some ⟨sb, so, none⟩) m mc, .int .i64 (i : Int), .int .i64 (-1)] 120 (0, 0)) := by
    rw [hw2]; exact heap_setCell_same (w.drewN nq) R 2 _ _ _ hR
  have hg2 : w2.drew.heap[g]? = some (.cells cur.toArray T (0, 0)) := (on2.block g hgR).trans hg
  have hs2 : RB w2.drew (some ⟨sb, so, none⟩) l := hrb.only on2.drew hsR
  rw [← hw2]
  clear hw2 c0 c1 c2 f1 f2 hg
  have c0 : w2.cell? ⟨R, 0, none⟩ = some (.slice (some ⟨sb, so, none⟩) m mc) := by rw [cell_of_row w2 R 0 _ _ _ hR2]; rfl
  have c1 : w2.cell? ⟨R, 1, none⟩ = some (.int .i64 (i : Int)) := by rw [cell_of_row w2 R 1 _ _ _ hR2]; rfl
  have i0 : (0 : Int) ≤ (i : Int) := by omega
  have i1 : (i : Int) < (mc : Int) := by omega
  have i2 : (i : Int) ≤ (m : Int) := by omega
  go_still_tail 10, (by kernel_rfl)
  change wpList _ _ _ _ _ w2.drew
  obtain ⟨w3, hw3⟩ : ∃ w3, w3 = w2.drew := ⟨_, rfl⟩
  rw [← hw3] at hg2 hs2 ⊢
  have hR3 : w3.heap[R]? = some (.cells #[.slice (some ⟨sb, so, none⟩) m mc, .int .i64 (i : Int), .int .i64 (-1)] 120 (0, 0)) := by rw [hw3]; exact hR2
  have on3 : Only R w w3 := by rw [hw3]; exact on2.drew
  clear hw3 c0 c1 hR2 on2
  obtain ⟨cs, hcs⟩ : ∃ cs, cs = cellsB ((l.drop i).take n) := ⟨_, rfl⟩
  have hcl : cs.length = n := by rw [hcs, cellsB_length]; have := hl.out; simp; omega
  have hsrc := src_of ((hs2.drop i).take n)
  rw [← hcs] at hsrc
  have h1 : ∀ v ∈ cs, v.oneCell' = true := by rw [hcs]; exact cellsB_one _
  have HC := Lib.hid hcs
  obtain ⟨w4, hw4⟩ : ∃ w4, w4 = w3.setRow g (cur.toArray.toList.take off ++ (cs ++ cur.toArray.toList.drop (off + cs.length))).toArray := ⟨_, rfl⟩
  have hg4 : w4.heap[g]? = some (.cells (splice cur off cs).toArray T (0, 0)) := by rw [hw4]; simpa [splice] using setRow_heap w3 g _ _ T _ hg2
  have on4 : Only g w3 w4 := by rw [hw4]; exact ⟨rfl, rfl, rfl, by simp, fun k hk => setRow_other w3 g k _ hk⟩
  have HW4 := Lib.hid hw4
  have hR4 := (on4.block R (Ne.symm hgR)).trans hR3
  have e1 : w4.cell? ⟨R, 1, none⟩ = some (.int .i64 (i : Int)) := by rw [cell_of_row w4 R 1 _ _ _ hR4]; rfl
  have f1 : w4.frozen? ⟨R, 1, none⟩ = false := frozen_of_row w4 R 1 _ _ hR4
  have HH := Lib.hid hsrc
  have H1 := Lib.hid h1
  have HCL := Lib.hid hcl
  clear hcs hsrc h1 hcl hw4
  refine wpList_copy_own rfl (.tmp 20) (.tmp 29) 22 22 rfl 5 (by kernel_rfl) (by kernel_rfl) g off n cap ⟨sb, so + i, none⟩ (m - i) (mc - i) ?_ ?_ cur.toArray T hg2 cs (by rw [HCL.out]; exact (Nat.min_eq_right (by omega)).symm) HH.out (by rw [HCL.out]; simpa using hfit) H1.out ?_
  · rfl
  · show Value.slice (if mc = i then some ⟨sb, so, none⟩ else some ⟨sb, so + i, none⟩) (m - i) (mc - i) = _
    rw [if_neg (show ¬ mc = i by omega)]
  rw [← HW4.out, HCL.out]
  go_wp2_with fail
  go_ret2
  have on5 : Only R w4 (w4.setCell ⟨R, 1, none⟩ (.int .i64 ((i : Int) + (n : Int)))) := (Only.refl _ _).setCell _ _
  refine ⟨rfl, ((on3.two2 g).trans (on4.two1 R)).trans (on5.two2 g), ?_, -1, ?_⟩
  · rw [← HC.out]
    exact (on5.block g hgR).trans hg4
  · have := heap_setCell_same w4 R 1 _ _ (.int .i64 ((i : Int) + (n : Int))) hR4
    rw [this]
    simp

theorem nilAhead_read (a : Addr) (w : World) : (nilAhead 285 79 (.pointer (some a)) "Read").run Tryd.prog w = .ok (some false) w := by kernel_rfl
theorem method_read (a : Addr) (w : World) : (method 285 79 (.pointer (some a)) "Read").run Tryd.prog w = .ok (95, .pointer (some a)) w := by kernel_rfl

set_option maxHeartbeats 1600000 in
set_option maxRecDepth 100000 in
theorem readAtLeast_any (g off n cap R sb so m mc i : Nat) (l : List UInt8) (cur : List Value) (T : TypeId) (w : World) (hR : Rd w R sb so m mc i)
    (hl : Hid (l.length = m)) (hrb : RB w (some ⟨sb, so, none⟩) l) (hmc : m ≤ mc) (hg : w.heap[g]? = some (.cells cur.toArray T (0, 0)))
    (hgR : g ≠ R) (hsR : sb ≠ R) (hpos : 0 < n) (hin : i + n ≤ m) (hfit : off + n ≤ cur.length) (hnc : n ≤ cap) (hm : m ≤ 1000000) :
    Calls Tryd.prog 56 #[.iface 79 (.pointer (some ⟨R, 0, none⟩)), .slice (some ⟨g, off, none⟩) n cap, .int .i64 (n : Int)] w (ReadEnd g off R sb so m mc i n l cur T w) := by
  have hna := nilAhead_read
  have hme := method_read
  have d1 : decide ((0 : Int) < (n : Int)) = true := decide_eq_true (by omega)
  have d2 : decide ((n : Int) < (n : Int)) = false := decide_eq_false (by omega)
  go_enter Tryd.func56, Tryd.ntmps56
  go_wp2_with fail
  refine wp_loop_rounds 2 ?_
  rw [rounds_succ]
  go_wp2_with fail
  clear d1
  have hcap : ¬ cap = 0 := by omega
  have i0 : (0 : Int) ≤ (n : Int) := by omega
  go_region_with ((go_at_call 95; refine (rdRead_any g off n cap R sb so m mc i l cur T w.drew hR hl hrb hmc hg hgR hsR hpos hin hfit hm).mono ?_; rintro e w' ⟨rfl, hp⟩))
  clear hna hme
  go_wp2_with fail
  rw [rounds_succ]
  go_wp2_with fail
  go_ret2
  exact ⟨rfl, hp.undrew⟩

set_option maxHeartbeats 800000 in
theorem readFull_any (g off n cap R sb so m mc i : Nat) (l : List UInt8) (cur : List Value) (T : TypeId) (w : World) (hR : Rd w R sb so m mc i)
    (hl : Hid (l.length = m)) (hrb : RB w (some ⟨sb, so, none⟩) l) (hmc : m ≤ mc) (hg : w.heap[g]? = some (.cells cur.toArray T (0, 0)))
    (hgR : g ≠ R) (hsR : sb ≠ R) (hpos : 0 < n) (hin : i + n ≤ m) (hfit : off + n ≤ cur.length) (hnc : n ≤ cap) (hm : m ≤ 1000000) :
    Calls Tryd.prog 46 #[.iface 79 (.pointer (some ⟨R, 0, none⟩)), .slice (some ⟨g, off, none⟩) n cap] w (ReadEnd g off R sb so m mc i n l cur T w) := by
  go_enter Tryd.func46, Tryd.ntmps46
  go_wp2_with (go_at_call 56; refine (readAtLeast_any g off n cap R sb so m mc i l cur T w hR hl hrb hmc hg hgR hsR hpos hin hfit hnc hm).mono ?_; rintro e w' ⟨rfl, hp⟩)
  go_ret2
  exact ⟨rfl, hp⟩
end Go.Proofs.YtiiipmcjbibgoaaDoor
