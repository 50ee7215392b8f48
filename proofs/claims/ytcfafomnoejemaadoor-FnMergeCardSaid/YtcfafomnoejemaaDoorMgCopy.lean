/- 'copy' of bytes into a row of the call's own, as one step of a region that draws: nothing but that row's block turns. -/
import Derived.Test.YtcfafomnoejemaaDoorMgMath
import Derived.Deep.RegionLaw
namespace Go.Proofs.YtcfafomnoejemaaDoor
open Go.ChangeShapes Go.WideShapes Go.ChangeAt Go.RowKit Go.IntWalk

theorem RB.drop {w : World} {c o : Nat} {l : List UInt8} (h : RB w (some ⟨c, o, none⟩) l) (i : Nat) : RB w (some ⟨c, o + i, none⟩) (l.drop i) := by
  intro hl
  obtain ⟨b', o', e, hc⟩ := h (by intro e; rw [e] at hl; simp at hl)
  simp only [Option.some.injEq, Addr.mk.injEq, and_true] at e
  obtain ⟨rfl, rfl⟩ := e
  refine ⟨c, o + i, rfl, fun j hj => ?_⟩
  have := hc (i + j) (by simp at hj; omega)
  rw [Nat.add_assoc, this]
  simp [List.getD]
theorem RB.take {w : World} {ad : Option Addr} {l : List UInt8} (h : RB w ad l) (n : Nat) : RB w ad (l.take n) := by
  intro hl
  obtain ⟨b, o, e, hc⟩ := h (by intro e; rw [e] at hl; simp at hl)
  refine ⟨b, o, e, fun j hj => ?_⟩
  have hj' : j < n ∧ j < l.length := by simp at hj; omega
  rw [hc j hj'.2]
  simp [List.getD, hj'.1]

/-- Bytes as cells. -/
def cellsB (l : List UInt8) : List Value := l.map fun v => Value.int .u8 (v.toNat : Int)
theorem cellsB_length (l : List UInt8) : (cellsB l).length = l.length := by simp [cellsB]
theorem cellsB_one (l : List UInt8) : ∀ v ∈ cellsB l, v.oneCell' = true := by
  intro v hv
  obtain ⟨u, -, rfl⟩ := List.mem_map.1 hv
  rfl
theorem src_of {w : World} {b o : Nat} {l : List UInt8} (h : RB w (some ⟨b, o, none⟩) l) : ∀ j v, (cellsB l)[j]? = some v → w.cell? ((⟨b, o, none⟩ : Addr).add j) = some v := by
  intro j v hj
  obtain ⟨hlt, e⟩ := List.getElem?_eq_some_iff.1 hj
  simp only [cellsB, List.length_map] at hlt
  obtain ⟨b', o', e2, hc⟩ := h (by intro e3; rw [e3] at hlt; simp at hlt)
  simp only [Option.some.injEq, Addr.mk.injEq, and_true] at e2
  obtain ⟨rfl, rfl⟩ := e2
  have h2 := hc j hlt
  rw [← e]
  unfold Addr.add
  split
  · rename_i h0
    subst h0
    simpa [cellsB, List.getD, hlt] using h2
  · simpa [cellsB, List.getD, hlt] using h2

theorem Seg.whole {w : World} {b : Nat} {post : List Value} {l : List UInt8} (h : Seg w b [] post l) : w.heap[b]? = some (.cells (cellsB l ++ post).toArray 5 (0, 0)) := h
theorem Seg.ofSplice {w' : World} {b off : Nat} {post : List Value} {l seg : List UInt8} (hoff : off + seg.length ≤ l.length)
    (h : w'.heap[b]? = some (.cells (Go.splice (cellsB l ++ post) off (cellsB seg)).toArray 5 (0, 0))) : Seg w' b [] post (Go.splice l off seg) := Seg.splice hoff h
theorem RB.pix {w : World} {b : Nat} {src : List UInt8} (h : RB w (some ⟨b, 0, none⟩) src) (pw n y x : Nat) : RB w (some ⟨b, srcAt pw n y x, none⟩) (pix src pw n y x) := by
  have := (h.drop (srcAt pw n y x)).take n
  rw [Nat.zero_add] at this
  exact this
theorem only_setRow (w : World) (g : Nat) (cs : Array Value) : Only g w (w.setRow g cs) :=
  ⟨rfl, rfl, rfl, by simp [World.setRow], fun k hk => setRow_other w g k cs hk⟩
theorem step_copy_only {P : Program} {ops : Array Oper} {o : Oper} {a : Act} {w : World} {K : Act → World → Prop} {Q : Exit → Act → World → Prop} {E : Prop} (hgd : o.guard = none) (d s : Operand) (dT sT : TypeId)
    (ho : o.op = .call { callee := .builtin .copy, args := #[d, s], argTypes := #[dT, sT] }) (elem : TypeId) (hu : P.underlying dT = some (.slice elem)) (hsz : (P.info? elem).map (·.size) = some 1)
    (g off dLen dCap : Nat) (ad : Addr) (sLen sCap : Nat) (hd : a.eval d = .slice (some ⟨g, off, none⟩) dLen dCap) (hs : a.eval s = .slice (some ad) sLen sCap)
    (cur : List Value) (t : TypeId) (hg : w.heap[g]? = some (.cells cur.toArray t (0, 0))) (cs : List Value) (hn : cs.length = Nat.min sLen dLen)
    (hsrc : ∀ j v, cs[j]? = some v → w.cell? (ad.add j) = some v) (hfit : off + cs.length ≤ cur.length) (h1 : ∀ v ∈ cs, v.oneCell' = true)
    (h : ∀ w', Hid (w'.heap[g]? = some (.cells (splice cur off cs).toArray t (0, 0))) → Only g w w' → K (a.put o.dst (goInt cs.length)) w') :
    if Region.wanted o (yielded ops a.tmps) = true then Oper.wp P o a w K Q else E := by
  have hw : Region.wanted o (yielded ops a.tmps) = true := by simp [Region.wanted, hgd]
  rw [if_pos hw]
  have hrun := run_copy_row (P := P) w dT sT o.type elem g off dLen dCap ad sLen sCap cur.toArray t cs hu hsz hg hn hsrc (by simpa using hfit) h1
  unfold Oper.wp
  simp [execOp, ho, resolve, invoke, builtin, hd, hs, hrun, Result.andThen]
  exact h _ (show _ = _ by simpa [splice] using setRow_heap w g _ _ t _ hg) (only_setRow w g _)
theorem src_next (pw n y x : Nat) : srcAt pw n y (x + 1) = srcAt pw n y x + n := by
  unfold srcAt
  rw [← Nat.add_assoc, Nat.add_mul, Nat.one_mul]
theorem src_row (pw n y : Nat) : srcAt pw n y pw = srcAt pw n (y + 1) 0 := by
  unfold srcAt
  rw [Nat.add_mul y 1, Nat.one_mul, Nat.add_zero]
theorem dst_eq (q : Pt) (w n y x r : Nat) (hr : r = q.Y + y * q.DY) : r * (w * n) + q.X * n + x * q.DX * n = dstAt q w n y x := by
  unfold dstAt
  rw [← hr, Nat.add_mul, Nat.add_mul, Nat.mul_assoc r w n]
/-- A rectangle's block is written. -/
def rectTo (w : World) (N W H : Nat) : World := (((w.setCell ⟨N, 0, none⟩ (.int .i64 0)).setCell ⟨N, 1, none⟩ (.int .i64 0)).setCell ⟨N, 2, none⟩ (.int .i64 (W : Int))).setCell ⟨N, 3, none⟩ (.int .i64 (H : Int))
theorem rectTo_only (w : World) (N W H : Nat) : Only N w (rectTo w N W H) := ((((Only.refl _ _).setCell _ _).setCell _ _).setCell _ _).setCell _ _
theorem rectTo_row (w : World) (N W H : Nat) (h : w.heap[N]? = some (.cells #[.int .i64 0, .int .i64 0, .int .i64 0, .int .i64 0] 47 (0, 0))) :
    (rectTo w N W H).heap[N]? = some (.cells #[.int .i64 0, .int .i64 0, .int .i64 (W : Int), .int .i64 (H : Int)] 47 (0, 0)) := by
  have h1 := heap_setCell_same w N 0 _ _ (.int .i64 0) h
  have h2 := heap_setCell_same _ N 1 _ _ (.int .i64 0) h1
  have h3 := heap_setCell_same _ N 2 _ _ (.int .i64 (W : Int)) h2
  have h4 := heap_setCell_same _ N 3 _ _ (.int .i64 (H : Int)) h3
  exact h4
theorem bel_drew {B : Nat} {a w : World} (h : Below B a w) : Below B a w.drew := ⟨h.os, h.tape, h.output, h.size, h.block⟩
/-- The program's own table of the passes. -/
def Inter (w : World) : Prop :=
  ∃ G o, w.cell? ⟨0, 0, none⟩ = some (.slice (some ⟨G, o, none⟩) 7 7) ∧ ∀ p, p < 7 →
    w.cell? ⟨G, o + p * 4, none⟩ = some (.int .i64 ((ptOf p).DX : Int)) ∧ w.cell? ⟨G, o + p * 4 + 1, none⟩ = some (.int .i64 ((ptOf p).DY : Int)) ∧
    w.cell? ⟨G, o + p * 4 + 2, none⟩ = some (.int .i64 ((ptOf p).X : Int)) ∧ w.cell? ⟨G, o + p * 4 + 3, none⟩ = some (.int .i64 ((ptOf p).Y : Int))
/-- The pass lies in the whole: new memory, and of the elder blocks p1 alone turned. -/
def MgEnd (q : Pt) (W n pw ph p1 : Nat) (post : List Value) (B src : List UInt8) (w : World) (e : Ending) (w' : World) : Prop :=
  e = .returned (.tuple #[]) ∧ ∃ wm, Below w.heap.size w wm ∧ Only p1 wm w' ∧ Seg w' p1 [] post (allM q W n pw src ph B)
end Go.Proofs.YtcfafomnoejemaaDoor
