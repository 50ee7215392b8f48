/- A stretch of bytes inside one block of memory of any type; bePutUint32; a bytes.Buffer of the call's own beside other blocks. -/
import Derived.Test.YtiiipmcjbibgoaaDoorShelf
import Derived.Test.YtiiipmcjbibgoaaDoorStart
import Derived.Test.YtiiipmcjbibgoaaDoorFour
import Derived.Lib.BufferKept
namespace Go.Proofs.YtiiipmcjbibgoaaDoor
open Go.ChangeShapes Go.WideShapes Go.ChangeAt Go.RowKit Go.IntWalk

/-- In block b of type T, behind the cells 'pre' and ahead of the cells 'post', stand the bytes l. -/
def SegT (T : TypeId) (w : World) (b : Nat) (pre post : List Value) (l : List UInt8) : Prop :=
  w.heap[b]? = some (.cells (pre ++ (cellsB l ++ post)).toArray T (0, 0))
theorem SegT.frozen {T : TypeId} {w : World} {b : Nat} {pre post : List Value} {l : List UInt8} (h : SegT T w b pre post l) (k : Nat) : w.frozen? ⟨b, k, none⟩ = false := frozen_of_row w b k _ _ h
theorem SegT.cellAt {T : TypeId} {w : World} {b o : Nat} {pre post : List Value} {l : List UInt8} (h : SegT T w b pre post l) (ho : pre.length = o) {j : Nat} (hj : j < l.length) : w.cell? ⟨b, o + j, none⟩ = some (.int .u8 ((l.getD j 0).toNat : Int)) := by
  rw [cell_of_row w b _ _ _ _ h, ← ho]
  simp [cellsB, List.getElem?_append, List.getD, hj]
theorem SegT.rb {T : TypeId} {w : World} {b o : Nat} {pre post : List Value} {l : List UInt8} (h : SegT T w b pre post l) (ho : pre.length = o) : RB w (some ⟨b, o, none⟩) l :=
  fun _ => ⟨b, o, rfl, fun _ hj => h.cellAt ho hj⟩
theorem SegT.store {T : TypeId} {w : World} {b o : Nat} {pre post : List Value} {l : List UInt8} (h : SegT T w b pre post l) (ho : pre.length = o) {j : Nat} (hj : j < l.length) (x : UInt8) :
    SegT T (w.setCell ⟨b, o + j, none⟩ (.int .u8 (x.toNat : Int))) b pre post (l.set j x) := by
  have h1 := heap_setCell_same w b (o + j) _ _ (.int .u8 (x.toNat : Int)) h
  unfold SegT
  rw [h1]
  congr 2
  rw [← ho]
  apply Array.toList_inj.1
  simp only [Array.toList_setIfInBounds]
  rw [List.set_append_right _ _ (by omega), Nat.add_sub_cancel_left, List.set_append_left _ _ (by rw [cellsB_length]; exact hj)]
  congr 2
  simp [cellsB, List.map_set]
theorem SegT.only {T : TypeId} {w w' : World} {b c : Nat} {pre post : List Value} {l : List UInt8} (h : SegT T w b pre post l) (k : Only c w w') (hne : b ≠ c) : SegT T w' b pre post l := (k.block b hne).trans h
theorem SegT.below {T : TypeId} {w w' : World} {b B : Nat} {pre post : List Value} {l : List UInt8} (h : SegT T w b pre post l) (k : Below B w w') (hne : b < B) : SegT T w' b pre post l := (k.block b hne).trans h
theorem SegT.drew {T : TypeId} {w : World} {b : Nat} {pre post : List Value} {l : List UInt8} (h : SegT T w b pre post l) : SegT T w.drew b pre post l := h
theorem SegT.drewN {T : TypeId} {w : World} {b : Nat} {pre post : List Value} {l : List UInt8} (h : SegT T w b pre post l) (n : Nat) : SegT T (w.drewN n) b pre post l := h

/-- Four bytes are put in place. -/
def PutEnd (T : TypeId) (b : Nat) (pre post : List Value) (v : Nat) (w : World) (e : Ending) (w' : World) : Prop :=
  e = .returned (.tuple #[]) ∧ SegT T w' b pre post (four v) ∧ Only b w w'
theorem four4 (v : Nat) (hv : v < 4294967296) : ∃ x0 x1 x2 x3 : UInt8, four v = [x0, x1, x2, x3] ∧ (v : Int) / 16777216 = (x0.toNat : Int) ∧ (v : Int) / 65536 % 256 = (x1.toNat : Int) ∧ (v : Int) / 256 % 256 = (x2.toNat : Int) ∧ (v : Int) % 256 = (x3.toNat : Int) :=
  ⟨_, _, _, _, rfl, by simp <;> omega, by simp <;> omega, by simp <;> omega, by simp <;> omega⟩

set_option maxHeartbeats 1600000 in
theorem bePut_any (T : TypeId) (b o n cap v : Nat) (pre post : List Value) (l : List UInt8) (w : World) (h : SegT T w b pre post l) (ho : Hid (pre.length = o)) (hl : Hid (l.length = 4)) (hn : 4 ≤ n) (hv : v < 4294967296) :
    Calls Tryd.prog 50 #[.slice (some ⟨b, o, none⟩) n cap, .int .u32 (v : Int)] w (PutEnd T b pre post v w) := by
  have hu : IntKind.u32.signed = false := rfl
  have hlo := hl.out
  have c0 := h.cellAt ho.out (j := 0) (by omega)
  have c1 := h.cellAt ho.out (j := 1) (by omega)
  have c2 := h.cellAt ho.out (j := 2) (by omega)
  have c3 := h.cellAt ho.out (j := 3) (by omega)
  have f0 := h.frozen o
  have f1 := h.frozen (o + 1)
  have f2 := h.frozen (o + 2)
  have f3 := h.frozen (o + 3)
  rw [Nat.add_zero] at c0
  have j0 : (3 : Int) < (n : Int) := by omega
  have j1 : (2 : Int) < (n : Int) := by omega
  have j2 : (1 : Int) < (n : Int) := by omega
  have j3 : (0 : Int) < (n : Int) := by omega
  have H := Lib.hid h
  obtain ⟨x0, x1, x2, x3, e4, e0, e1, e2, e3⟩ := four4 v hv
  have E4 := Lib.hid e4
  have E := Lib.hid (And.intro e0 (And.intro e1 (And.intro e2 e3)))
  clear h hlo e4 e0 e1 e2 e3
  go_enter Tryd.func50, Tryd.ntmps50
  go_wp2_with fail
  go_end0
  obtain ⟨e0, e1, e2, e3⟩ := E.out
  refine ⟨rfl, ?_, ?_⟩
  · rw [E4.out]
    have h0 := H.out.store ho.out (j := 0) (by have := hl.out; omega) x0
    have h1 := h0.store ho.out (j := 1) (by have := hl.out; simp; omega) x1
    have h2 := h1.store ho.out (j := 2) (by have := hl.out; simp; omega) x2
    have h3 := h2.store ho.out (j := 3) (by have := hl.out; simp; omega) x3
    have el : (((l.set 0 x0).set 1 x1).set 2 x2).set 3 x3 = [x0, x1, x2, x3] := by
      match l, hl.out with
      | [_, _, _, _], _ => rfl
    rw [el] at h3
    rw [e0, e1, e2, e3]
    exact h3
  · exact ((((Only.refl _ _).setCell _ _).setCell _ _).setCell _ _).setCell _ _

/-- A buffer of the call's own. -/
abbrev Buf (B bb : Nat) (l : List UInt8) (w : World) : Prop := Lib.IsBuffer 102 5 B bb (cellsB l) w
theorem Buf.only {B bb b : Nat} {l : List UInt8} {w w' : World} {cs : Array Value} {T : TypeId} {fz : Nat × Nat} (h : Buf B bb l w) (k : Only b w w') (hb : b ≠ bb) (hrow : w.heap[b]? = some (.cells cs T fz)) (hT : T ≠ 5) : Buf B bb l w' := by
  obtain ⟨hB, v, lr, hbk, hown, hne⟩ := h
  refine ⟨hB, v, lr, (k.block bb (Ne.symm hb)).trans hbk, ⟨hown.1, ?_⟩, hne⟩
  rcases hown.2 with hn | ⟨g, cap, cur, hv, hbg, hg, rest⟩
  · exact .inl hn
  · have hgb : g ≠ b := by
      intro e1
      rw [e1, hrow] at hg
      cases hg
      exact hT rfl
    exact .inr ⟨g, cap, cur, hv, hbg, (k.block g hgb).trans hg, rest⟩
theorem Buf.below {B bb : Nat} {l : List UInt8} {w w' : World} (h : Buf B bb l w) (k : Below w.heap.size w w') : Buf B bb l w' := by
  have hlt := h.lt
  obtain ⟨hB, v, lr, hbk, hown, hne⟩ := h
  refine ⟨hB, v, lr, (k.block bb hlt).trans hbk, ⟨hown.1, ?_⟩, hne⟩
  rcases hown.2 with hn | ⟨g, cap, cur, hv, hbg, hg, rest⟩
  · exact .inl hn
  · exact .inr ⟨g, cap, cur, hv, hbg, (k.block g (Lib.lt_of_heap hg)).trans hg, rest⟩
theorem Buf.drewN {B bb : Nat} {l : List UInt8} {w : World} (h : Buf B bb l w) (n : Nat) : Buf B bb l (w.drewN n) := h
theorem Buf.drew {B bb : Nat} {l : List UInt8} {w : World} (h : Buf B bb l w) : Buf B bb l w.drew := h
/-- What a write to the buffer leaves. -/
def WrEnd (B bb n : Nat) (l p : List UInt8) (w : World) (e : Ending) (w' : World) : Prop :=
  e = .returned (.tuple #[.int .i64 (n : Int), .nilIface]) ∧ Buf B bb (l ++ p) w' ∧ Below B w w' ∧ Lib.OthersKept 5 (some bb) w w'

set_option maxHeartbeats 3200000 in
set_option maxRecDepth 100000 in
theorem bufWrite_nil (B bb : Nat) (l : List UInt8) (w : World) (h : Buf B bb l w) :
    Calls Tryd.prog 52 #[.pointer (some ⟨bb, 0, none⟩), .slice none 0 0] w (WrEnd B bb 0 l [] w) := by
  obtain ⟨hB, v0, lr, hbk, -, -⟩ := id h
  have c2 : w.cell? ⟨bb, 2, none⟩ = some (.int .i8 lr) := by rw [Lib.cell_of_heap hbk]; rfl
  have f2 : w.frozen? ⟨bb, 2, none⟩ = false := Lib.frozen_of_heap hbk 2
  have h' := h.setLast 0
  have hbel0 : Below B w (w.setCell ⟨bb, 2, none⟩ (.int .i8 0)) := (Below.refl B w).setCell (p := ⟨bb, 2, none⟩) hB _
  have hk0 : Lib.OthersKept 5 (some bb) w (w.setCell ⟨bb, 2, none⟩ (.int .i8 0)) := (Lib.OthersKept.refl _ _ w).setCell ⟨bb, 2, none⟩ rfl _
  clear hbk v0
  have hinfo : (Tryd.prog.info? 5).map (·.size) = some 1 := by kernel_rfl
  have hce : ∀ d dLen dCap W, (Builtin.copy_ #[22, 22] 3 #[.slice d dLen dCap, .slice none 0 0]).run Tryd.prog W = .ok (goInt 0) W := fun d dLen dCap W => run_copy_none W 22 22 3 5 d none dLen dCap 0 0 Tryd.underlying22 hinfo (by simp)
  have H := Lib.hid h
  have HB0 := Lib.hid hbel0
  have HK0 := Lib.hid hk0
  clear h hbel0 hk0
  go_enter Tryd.func52, Tryd.ntmps52
  go_wp2_with (go_at_call 58; refine (Tryd.Buffer_tryGrow_own B bb 0 (cellsB l) _ ?_).mono ?_)
  · exact h'
  rintro e W1 (⟨rfl, xs, hxl, hI, hbel, hk, hg⟩ | ⟨rfl, rfl, hnr⟩)
  · clear h' c2 f2
    have hx0 : xs = [] := List.eq_nil_of_length_eq_zero hxl
    subst hx0
    rw [List.append_nil] at hI
    obtain ⟨-, lr2, hc⟩ := hI.cases
    have HE : Hid (Buf B bb (l ++ []) W1) := Lib.hid (by rw [List.append_nil]; exact hI)
    have HBE := Lib.hid (HB0.out.trans hbel)
    have HKE := Lib.hid (HK0.out.trans hk)
    clear hbel hk hg hI hxl
    rcases hc with ⟨hb0, hbk2⟩ | ⟨g, cap, cur, hbk2, -, -, hnc, hcm, -, -, -⟩
    · have hl0 : l = [] := by
        have := congrArg List.length hb0
        rw [cellsB_length] at this
        exact List.eq_nil_of_length_eq_zero this
      subst hl0
      have d0 : W1.cell? ⟨bb, 0, none⟩ = some (.slice none 0 0) := by rw [Lib.cell_of_heap hbk2]; rfl
      clear hbk2 hb0
      go_wp2
      all_goals (go_ret2; exact ⟨rfl, HE.out, HBE.out, HKE.out⟩)
    · have d0 : W1.cell? ⟨bb, 0, none⟩ = some (.slice (some ⟨g, 0, none⟩) (cellsB l).length cap) := by rw [Lib.cell_of_heap hbk2]; rfl
      unfold maxLen at hcm
      clear hbk2
      go_wp2
      all_goals (go_ret2; exact ⟨rfl, HE.out, HBE.out, HKE.out⟩)
  · obtain ⟨_, _, _, _, hlt⟩ := hnr
    omega
/-- Bytes are written to the buffer, wherever they lie. -/
theorem bufWrite_any (B bb n cap : Nat) (ad : Option Addr) (l p : List UInt8) (w : World) (h : Buf B bb l w) (hBw : B ≤ w.heap.size) (hp : Hid (p.length = n)) (hr : RB w ad p) (hab : ∀ a, ad = some a → a.block ≠ bb) (hnil : ad = none → n = 0 ∧ cap = 0) (hlim : l.length + n ≤ 1000000000) :
    Calls Tryd.prog 52 #[.pointer (some ⟨bb, 0, none⟩), .slice ad n cap] w (WrEnd B bb n l p w) := by
  cases ad with
  | none =>
    obtain ⟨rfl, rfl⟩ := hnil rfl
    have e : p = [] := List.eq_nil_of_length_eq_zero hp.out
    subst e
    exact bufWrite_nil B bb l w h
  | some a =>
    have hsrc : ∀ j v, (cellsB p)[j]? = some v → w.cell? (a.add j) = some v := by
      by_cases he : p = []
      · subst he
        intro j v hj
        simp [cellsB] at hj
      · obtain ⟨c, o, e, -⟩ := id (hr he)
        simp only [Option.some.injEq] at e
        subst e
        exact src_of hr
    refine (Tryd.Buffer_Write_any B bb (cellsB l) (cellsB p) a n cap w h hBw (cellsB_one l) (by rw [cellsB_length]; exact hp.out) (hab a rfl) hsrc (cellsB_one p) (by rw [cellsB_length]; omega)).mono ?_
    rintro e w' ⟨rfl, h1, h2, h3⟩
    refine ⟨rfl, ?_, h2, h3⟩
    have e : cellsB (l ++ p) = cellsB l ++ cellsB p := by simp [cellsB]
    unfold Buf
    rw [e]
    exact h1
end Go.Proofs.YtiiipmcjbibgoaaDoor
