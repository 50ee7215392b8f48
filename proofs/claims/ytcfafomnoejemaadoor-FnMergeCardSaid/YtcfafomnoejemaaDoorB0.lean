/- Small facts on memory. No function of the program in sight. -/
import Derived.Test.YtcfafomnoejemaaDoorClone
import Derived.Test.YtcfafomnoejemaaDoorSeg
import Derived.Deep.RegionHeld3
import Derived.Laws.Rows
namespace Go.Proofs.YtcfafomnoejemaaDoor
open Go.ChangeShapes Go.WideShapes Go.ChangeAt Go.RowKit Go.IntWalk

theorem size_alloc (w : World) (o : Obj) : (w.alloc o).heap.size = w.heap.size + 1 := by simp
theorem size_set (w : World) (a : Addr) (v : Value) : (w.setCell a v).heap.size = w.heap.size := by simp [World.setCell]
theorem alloc_at (w : World) (o : Obj) : (w.alloc o).heap[w.heap.size]? = some o := Array.getElem?_push_size
theorem undrew {B : Nat} {w w' : World} (h : Below B w.drew w') : Below B w w' := ⟨h.os, h.tape, h.output, h.size, h.block⟩
theorem bdrew {B : Nat} {a w : World} (h : Below B a w) : Below B a w.drew := ⟨h.os, h.tape, h.output, h.size, h.block⟩
theorem bdrewN {B : Nat} {a w : World} (h : Below B a w) (n : Nat) : Below B a (w.drewN n) := ⟨h.os, h.tape, h.output, h.size, h.block⟩
/-- A store to another block leaves a slice of the call's own as it is. -/
theorem OwnB.set_ne {w : World} {base b : Nat} {v : Value} {l : List UInt8} (h : OwnB w base v l) (j : Nat) (u : Value) (hne : ∀ g, v.ownBlock = some g → g ≠ b) : OwnB (w.setCell ⟨b, j, none⟩ u) base v l := by
  refine ⟨h.1, ?_⟩
  rcases h.2 with h2 | ⟨g, cap, cur, hv, hg, hh, r⟩
  · exact Or.inl h2
  · refine Or.inr ⟨g, cap, cur, hv, hg, ?_, r⟩
    rw [Below.heap_setCell _ _ _ _ (hne g (by rw [hv]; rfl))]
    exact hh
theorem ownsRow_slice {w : World} {base n size : Nat} {e : TypeId} {v : Value} {xs : List Value} (h : w.ownsRow base e size v n xs) : ∃ a c, v = .slice a n c := by
  rcases h.2 with ⟨rfl, hn⟩ | ⟨g, cap, cur, hv, -⟩
  · have : n = 0 := by omega
    subst this
    exact ⟨none, 0, rfl⟩
  · exact ⟨_, _, hv⟩
theorem ownsRow_only {w w' : World} {base n size b : Nat} {e : TypeId} {v : Value} {xs : List Value} (h : w.ownsRow base e size v n xs) (k : Only b w w') (hne : ∀ g, v.ownBlock = some g → g ≠ b) : w'.ownsRow base e size v n xs := by
  refine ⟨h.1, ?_⟩
  rcases h.2 with h2 | ⟨g, cap, cur, hv, hg, hh, r⟩
  · exact Or.inl h2
  · exact Or.inr ⟨g, cap, cur, hv, hg, (k.block g (hne g (by rw [hv]; rfl))).trans hh, r⟩
theorem ownsRow_mono {w : World} {base base' n size : Nat} {e : TypeId} {v : Value} {xs : List Value} (h : w.ownsRow base e size v n xs) (hb : base' ≤ base) : w.ownsRow base' e size v n xs := by
  refine ⟨h.1, ?_⟩
  rcases h.2 with h2 | ⟨g, cap, cur, hv, hg, r⟩
  · exact Or.inl h2
  · exact Or.inr ⟨g, cap, cur, hv, by omega, r⟩
/-- The kit's wpAnyH_take, the slot that is written told by its number. -/
theorem take_at {P : Program} {md : Region.Mode} {ops : Array Oper} {Q : Exit → Act → World → Prop} {S : World → Prop} (i : Nat) (d : Option Tmp) {oi : Oper} {v : Value} {fuel : Nat} {listed : Array Bool} {a : Act} {w : World} (hi : ops[i]? = some oi) (hd : oi.dst = d)
    (hs : Region.noSelect ops = true) (hf : Region.free md ops listed i = true) (hr : (Region.ready md ops listed).contains i = true)
    (hQ : ∀ c a w, Q (.panic c) (a.put d v) w → Q (.panic c) a w) (hy : YieldsIf P ops S oi v a) (hS : S w)
    (h : wpAnyH P md ops Q S fuel (listed.setIfInBounds i true) (a.put d v) w) : wpAnyH P md ops Q S (fuel + 1) listed a w := by
  subst hd
  exact wpAnyH_take hi hs hf hr hQ hy hS h
/-- A picture in memory: its bytes, how far rows lie apart, its corners. -/
def imgC (v : Value) (W H S : Nat) : List Value := [v, .int .i64 (S : Int), .int .i64 0, .int .i64 0, .int .i64 (W : Int), .int .i64 (H : Int)]
/-- Four integers in a block: a rectangle. -/
structure RcAt (N W H : Nat) (w : World) : Prop where
  c0 : w.cell? ⟨N, 0, none⟩ = some (.int .i64 0)
  c1 : w.cell? ⟨N, 1, none⟩ = some (.int .i64 0)
  c2 : w.cell? ⟨N, 2, none⟩ = some (.int .i64 (W : Int))
  c3 : w.cell? ⟨N, 3, none⟩ = some (.int .i64 (H : Int))
theorem RcAt.of_row {N W H : Nat} {w : World} {T : TypeId} (h : w.heap[N]? = some (.cells #[.int .i64 0, .int .i64 0, .int .i64 (W : Int), .int .i64 (H : Int)] T (0, 0))) : RcAt N W H w :=
  ⟨(cell_of_row w N 0 _ _ _ h).trans rfl, (cell_of_row w N 1 _ _ _ h).trans rfl, (cell_of_row w N 2 _ _ _ h).trans rfl, (cell_of_row w N 3 _ _ _ h).trans rfl⟩
theorem RcAt.kept {N W H : Nat} {w w' : World} (h : RcAt N W H w) (hk : w'.heap[N]? = w.heap[N]?) : RcAt N W H w' :=
  ⟨(World.cell?_of_block (w := w) hk).trans h.c0, (World.cell?_of_block (w := w) hk).trans h.c1, (World.cell?_of_block (w := w) hk).trans h.c2, (World.cell?_of_block (w := w) hk).trans h.c3⟩
end Go.Proofs.YtcfafomnoejemaaDoor
