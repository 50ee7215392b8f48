/- A stretch of bytes inside one block of memory that is written in place: what it holds, what a store does to it, and that nothing else turns. No function of the program in sight. -/
import Derived.Test.YtcfafomnoejemaaDoorBytes
import Derived.Lib.BufferWrite
namespace Go.Proofs.YtcfafomnoejemaaDoor
open Go.ChangeShapes Go.WideShapes Go.ChangeAt Go.RowKit

theorem u8lt (v : UInt8) : v.toNat < 256 := v.toNat_lt
/-- Nothing but block b has turned. -/
structure Only (b : Nat) (w w' : World) : Prop where
  os : w'.os = w.os
  tape : w'.tape = w.tape
  output : w'.output = w.output
  size : w'.heap.size = w.heap.size
  block : ∀ k, k ≠ b → w'.heap[k]? = w.heap[k]?
theorem Only.refl (b : Nat) (w : World) : Only b w w := ⟨rfl, rfl, rfl, rfl, fun _ _ => rfl⟩
theorem Only.trans {b : Nat} {u v w : World} (h : Only b u v) (k : Only b v w) : Only b u w :=
  ⟨k.os.trans h.os, k.tape.trans h.tape, k.output.trans h.output, k.size.trans h.size, fun i hi => (k.block i hi).trans (h.block i hi)⟩
theorem Only.drewN {b : Nat} {u w : World} (h : Only b u w) (n : Nat) : Only b u (w.drewN n) := ⟨h.os, h.tape, h.output, h.size, h.block⟩
theorem Only.drew {b : Nat} {u w : World} (h : Only b u w) : Only b u w.drew := ⟨h.os, h.tape, h.output, h.size, h.block⟩
theorem Only.setCell {b : Nat} {u w : World} (h : Only b u w) (i : Nat) (v : Value) : Only b u (w.setCell ⟨b, i, none⟩ v) :=
  h.trans ⟨rfl, rfl, rfl, by simp [World.setCell], fun k hk => Below.heap_setCell _ _ _ _ hk⟩
theorem Only.below {b B : Nat} {w w' : World} (h : Only b w w') (hB : B ≤ b) : Below B w w' :=
  ⟨h.os, h.tape, h.output, by rw [h.size]; exact Nat.le_refl _, fun k hk => h.block k (by omega)⟩
theorem Only.cell {b : Nat} {w w' : World} (h : Only b w w') {p : Addr} (hp : p.block ≠ b) : w'.cell? p = w.cell? p := World.cell?_of_block (w := w) (h.block _ hp)
theorem RB.only {w w' : World} {b c o : Nat} {l : List UInt8} (h : RB w (some ⟨c, o, none⟩) l) (k : Only b w w') (hne : c ≠ b) : RB w' (some ⟨c, o, none⟩) l := by
  intro hl
  obtain ⟨b', o', e, hc⟩ := h hl
  simp only [Option.some.injEq, Addr.mk.injEq, and_true] at e
  obtain ⟨rfl, rfl⟩ := e
  exact ⟨c, o, rfl, fun i hi => by rw [k.cell (p := ⟨c, o + i, none⟩) hne]; exact hc i hi⟩

/-- In block b, behind the cells 'pre' and ahead of the cells 'post', stand the bytes l; the block is of bytes and may be written. -/
def Seg (w : World) (b : Nat) (pre post : List Value) (l : List UInt8) : Prop :=
  w.heap[b]? = some (.cells (pre ++ l.map (fun v => Value.int .u8 (v.toNat : Int)) ++ post).toArray 5 (0, 0))
theorem Seg.lt {w : World} {b : Nat} {pre post : List Value} {l : List UInt8} (h : Seg w b pre post l) : b < w.heap.size := by
  rcases Nat.lt_or_ge b w.heap.size with h' | h'
  · exact h'
  · unfold Seg at h; simp [Array.getElem?_eq_none h'] at h
theorem Seg.frozen {w : World} {b : Nat} {pre post : List Value} {l : List UInt8} (h : Seg w b pre post l) (k : Nat) : w.frozen? ⟨b, k, none⟩ = false := frozen_of_row w b k _ _ h
theorem Seg.cellAt {w : World} {b o : Nat} {pre post : List Value} {l : List UInt8} (h : Seg w b pre post l) (ho : pre.length = o) {j : Nat} (hj : j < l.length) : w.cell? ⟨b, o + j, none⟩ = some (.int .u8 ((l.getD j 0).toNat : Int)) := by
  rw [cell_of_row w b _ _ _ _ h, ← ho]
  simp [List.getElem?_append, List.getD, hj]
theorem Seg.rb {w : World} {b o : Nat} {pre post : List Value} {l : List UInt8} (h : Seg w b pre post l) (ho : pre.length = o) : RB w (some ⟨b, o, none⟩) l :=
  fun _ => ⟨b, o, rfl, fun _ hj => h.cellAt ho hj⟩
theorem Seg.at {w : World} {b o : Nat} {pre post : List Value} {l : List UInt8} (h : Seg w b pre post l) (ho : pre.length = o) (j : Nat) (hj : j < l.length) :
    ∃ x : UInt8, Hid (l[j]? = some x) ∧ w.cell? ⟨b, o + j, none⟩ = some (.int .u8 (x.toNat : Int)) := (h.rb ho).at j hj
theorem Seg.store {w : World} {b o : Nat} {pre post : List Value} {l : List UInt8} (h : Seg w b pre post l) (ho : pre.length = o) {j : Nat} (hj : j < l.length) (x : UInt8) :
    Seg (w.setCell ⟨b, o + j, none⟩ (.int .u8 (x.toNat : Int))) b pre post (l.set j x) := by
  have h1 := heap_setCell_same w b (o + j) _ _ (.int .u8 (x.toNat : Int)) h
  unfold Seg
  rw [h1]
  congr 2
  rw [← ho]
  apply Array.toList_inj.1
  simp only [Array.toList_setIfInBounds, List.append_assoc]
  rw [List.set_append_right _ _ (by omega), Nat.add_sub_cancel_left, List.set_append_left _ _ (by simpa using hj), List.map_set]
theorem Seg.only {w w' : World} {b c : Nat} {pre post : List Value} {l : List UInt8} (h : Seg w b pre post l) (k : Only c w w') (hne : b ≠ c) : Seg w' b pre post l := (k.block b hne).trans h
theorem Seg.below {w w' : World} {b B : Nat} {pre post : List Value} {l : List UInt8} (h : Seg w b pre post l) (k : Below B w w') (hne : b < B) : Seg w' b pre post l := (k.block b hne).trans h
theorem Seg.drewN {w : World} {b : Nat} {pre post : List Value} {l : List UInt8} (h : Seg w b pre post l) (n : Nat) : Seg (w.drewN n) b pre post l := h

/-- The call's own slice as such a stretch, and back. -/
theorem OwnB.seg {w : World} {base : Nat} {v : Value} {l : List UInt8} (h : OwnB w base v l) (hl : l ≠ []) :
    ∃ g n cap post, v = .slice (some ⟨g, 0, none⟩) n cap ∧ Hid (l.length = n) ∧ base ≤ g ∧ n ≤ cap ∧ cap ≤ maxLen ∧ Seg w g [] post l ∧
      ∀ (w' : World) (l' : List UInt8), l'.length = l.length → Seg w' g [] post l' → OwnB w' base (.slice (some ⟨g, 0, none⟩) n cap) l' := by
  rcases h.2 with ⟨_, h0⟩ | ⟨g, cap, cur, hv, hb, hg, hnc, hcm, hcs, htake⟩
  · exact absurd (List.eq_nil_of_length_eq_zero h0) hl
  · refine ⟨g, _, cap, cur.toList.drop l.length, hv, Lib.hid rfl, hb, hnc, hcm, ?_, fun w' l' hl' hs => ⟨by simp, .inr ⟨g, cap, _, ?_, hb, hs, by omega, hcm, ?_, ?_⟩⟩⟩
    · unfold Seg
      rw [hg]
      congr 2
      apply Array.toList_inj.1
      simp only [List.nil_append]
      rw [← htake, Nat.mul_one, List.take_append_drop]
    · rw [hl']
    · simp [hl']
      omega
    · simp
end Go.Proofs.YtcfafomnoejemaaDoor
