/- What ZZReadTransparency starts from and hands back. -/
import Derived.Test.YtiiipmcjbibgoaaDoorTrns2
import Derived.Test.YtiiipmcjbibgoaaDoorRdPal
import Derived.Test.YtiiipmcjbibgoaaDoorTrns3
import Derived.Deep.RegionHeld3
namespace Go.Proofs.YtiiipmcjbibgoaaDoor
open Go.ChangeShapes Go.WideShapes Go.ChangeAt Go.RowKit Go.IntWalk

/-- A decoder is begun over a reader and a sum that lie there. -/
theorem start_rdg (base R C sb so m mc : Nat) (cb dp : Int) (pal : Value) (l : List UInt8) (u : World)
    (hR : u.heap[R]? = some (.cells #[.slice (some ⟨sb, so, none⟩) m mc, .int .i64 0, .int .i64 (-1)] 120 (0, 0))) (hC : u.heap[C]? = some (.cells #[.int .u32 0] 83 (0, 0)))
    (hr : RB u (some ⟨sb, so, none⟩) l) (ht : Tab u) (h1 : base ≤ R) (h2 : base ≤ C) (hRC : R ≠ C) (hsb : sb < base) (htb : 0 < base) :
    Rdg u.heap.size R C sb so m mc l (u.alloc (.cells (dC R C cb dp pal) 90)) (d0 R C cb dp pal) 0 0 ∧ Pl base u.heap.size R C sb := by
  have hRl : R < u.heap.size := by
    rcases Nat.lt_or_ge R u.heap.size with h' | h'
    · exact h'
    · simp [Array.getElem?_eq_none h'] at hR
  have hCl : C < u.heap.size := by
    rcases Nat.lt_or_ge C u.heap.size with h' | h'
    · exact h'
    · simp [Array.getElem?_eq_none h'] at hC
  have hb : Below u.heap.size u (u.alloc (.cells (dC R C cb dp pal) 90)) := (Below.refl _ _).alloc (Nat.le_refl _) _
  exact ⟨⟨start_dec _ _ _ _ _ _ _ (heap_alloc_new u _), rfl, rfl, ⟨-1, (hb.block R hRl).trans hR⟩, (hb.block C hCl).trans hC, by omega, hr.below hb, ht.below hb⟩, ⟨by omega, h1, h2, by omega, by omega, hRC, hsb, htb⟩⟩

/-- The name of the chunk. -/
def trnsName : List UInt8 := [116, 82, 78, 83]
/-- Six bytes as an array's value. -/
def six (tr : List UInt8) : Value := .agg (cellsB tr).toArray
theorem six_zero : six tr0 = .agg #[.int .u8 0, .int .u8 0, .int .u8 0, .int .u8 0, .int .u8 0, .int .u8 0] := rfl
/-- Six bytes in a block. -/
theorem six_cells {w : World} {b o : Nat} {tr : List UInt8} (h : RB w (some ⟨b, o, none⟩) tr) (hl : tr.length = 6) :
    ∃ x0 x1 x2 x3 x4 x5 : Nat, six tr = .agg #[.int .u8 (x0 : Int), .int .u8 (x1 : Int), .int .u8 (x2 : Int), .int .u8 (x3 : Int), .int .u8 (x4 : Int), .int .u8 (x5 : Int)] ∧
      w.cell? ⟨b, o, none⟩ = some (.int .u8 (x0 : Int)) ∧ w.cell? ⟨b, o + 1, none⟩ = some (.int .u8 (x1 : Int)) ∧ w.cell? ⟨b, o + 2, none⟩ = some (.int .u8 (x2 : Int)) ∧
      w.cell? ⟨b, o + 3, none⟩ = some (.int .u8 (x3 : Int)) ∧ w.cell? ⟨b, o + 4, none⟩ = some (.int .u8 (x4 : Int)) ∧ w.cell? ⟨b, o + 5, none⟩ = some (.int .u8 (x5 : Int)) := by
  obtain ⟨b', o', e, hc⟩ := h (by intro e; rw [e] at hl; simp at hl)
  simp only [Option.some.injEq, Addr.mk.injEq, and_true] at e
  obtain ⟨rfl, rfl⟩ := e
  obtain ⟨a0, a1, a2, a3, a4, a5, rfl⟩ : ∃ a0 a1 a2 a3 a4 a5, tr = [a0, a1, a2, a3, a4, a5] := by
    match tr, hl with
    | [a0, a1, a2, a3, a4, a5], _ => exact ⟨_, _, _, _, _, _, rfl⟩
  exact ⟨_, _, _, _, _, _, rfl, hc 0 (by simp), hc 1 (by simp), hc 2 (by simp), hc 3 (by simp), hc 4 (by simp), hc 5 (by simp)⟩

/-- What is told of a sample: refused ahead of the bytes, or read. -/
def SamTold (l : List UInt8) (n k c : Nat) (v : Value) (tr : List UInt8) (ut : Bool) : Prop :=
  (clearBad k n ∧ (∃ s, v = .iface 94 (.string s)) ∧ ut = false) ∨
  (¬ clearBad k n ∧ v = sumV (crcFrom c (l.take n)) ((l.drop n).take 4) ∧ ut = true ∧ tr.take n = l.take n)
def SamEnd (base b : Nat) (l : List UInt8) (n k c : Nat) (w : World) (e : Ending) (w' : World) : Prop :=
  ∃ v tr ut, e = .returned v ∧ SamTold l n k c v tr ut ∧ tr.length = 6 ∧ RB w' (some ⟨b, 780, none⟩) tr ∧ w'.cell? ⟨b, 779, none⟩ = some (.bool ut) ∧ w'.cell? ⟨b, 6, none⟩ = some (.slice none 0 0) ∧ Below base w w'
/-- The kinds of which a sample is asked: 8 and 16 bits, no palette. -/
def samKind (k : Nat) : Prop := k = 4 ∨ k = 12 ∨ k = 6 ∨ k = 14 ∨ k = 5 ∨ k = 11 ∨ k = 13 ∨ k = 15
theorem sam_any (base b R C sb so mc n k c : Nat) (l : List UInt8) (d : DecV) (w : World) (L : Pl base b R C sb) (h : Rdg b R C sb so (n + 4) mc l w d 0 c)
    (hl : Hid (l.length = n + 4)) (hmc : n + 4 ≤ mc) (hk : samKind k) (e2 : d.cb = .int .i64 (k : Int)) (e0 : d.pal = .slice none 0 0) (eu : d.ut = .bool false) :
    Calls Tryd.prog 40 #[.pointer (some ⟨b, 0, none⟩), .int .u32 (n : Int)] w (SamEnd base b l n k c w) := by
  by_cases hb : clearBad k n
  · refine (trns_bad b n k hb w (h.dec.pre_cell 7 (by rw [← e2]; rfl))).mono ?_
    rintro e w' ⟨⟨s, rfl⟩, rfl⟩
    exact ⟨_, d.tr, false, rfl, .inl ⟨hb, ⟨s, rfl⟩, rfl⟩, h.dec.trl, h.dec.trAt, by rw [h.dec.utAt, eu], h.dec.pre_cell 6 (by rw [← e0]; rfl), Below.refl _ _⟩
  · have hc : (n = 2 ∧ (k = 4 ∨ k = 12)) ∨ (n = 6 ∧ (k = 6 ∨ k = 14)) := by
      unfold clearBad at hb
      unfold samKind at hk
      omega
    rcases hc with ⟨rfl, hk⟩ | ⟨rfl, hk⟩
    · refine (trns_gray base b R C sb so mc k c l d w L h hl hmc hk e2 e0 eu).mono ?_
      rintro e w' ⟨tr, rfl, h1, h2, h3, h4, h5, h6⟩
      exact ⟨_, tr, true, rfl, .inr ⟨hb, rfl, rfl, h3⟩, h2, h1, h4, h5, h6⟩
    · refine (trns_true base b R C sb so mc k c l d w L h hl hmc hk e2 e0 eu).mono ?_
      rintro e w' ⟨tr, rfl, h1, h2, h3, h4, h5, h6⟩
      exact ⟨_, tr, true, rfl, .inr ⟨hb, rfl, rfl, h3⟩, h2, h1, h4, h5, h6⟩
/-- Six values are stored in a block of six. -/
def put6 (w : World) (G : Nat) (v0 v1 v2 v3 v4 v5 : Value) : World :=
  (((((w.setCell ⟨G, 0, none⟩ v0).setCell ⟨G, 1, none⟩ v1).setCell ⟨G, 2, none⟩ v2).setCell ⟨G, 3, none⟩ v3).setCell ⟨G, 4, none⟩ v4).setCell ⟨G, 5, none⟩ v5
theorem put6_row {w : World} {G : Nat} {T : TypeId} {y0 y1 y2 y3 y4 y5 : Value} (v0 v1 v2 v3 v4 v5 : Value) (h : w.heap[G]? = some (.cells #[y0, y1, y2, y3, y4, y5] T (0, 0))) :
    (put6 w G v0 v1 v2 v3 v4 v5).heap[G]? = some (.cells #[v0, v1, v2, v3, v4, v5] T (0, 0)) := by
  have h0 := heap_setCell_same _ G 0 _ _ v0 h
  have h1 := heap_setCell_same _ G 1 _ _ v1 h0
  have h2 := heap_setCell_same _ G 2 _ _ v2 h1
  have h3 := heap_setCell_same _ G 3 _ _ v3 h2
  have h4 := heap_setCell_same _ G 4 _ _ v4 h3
  exact heap_setCell_same _ G 5 _ _ v5 h4
theorem put6_only (w : World) (G : Nat) (v0 v1 v2 v3 v4 v5 : Value) : Only G w (put6 w G v0 v1 v2 v3 v4 v5) :=
  ((((((Only.refl G w).setCell 0 v0).setCell 1 v1).setCell 2 v2).setCell 3 v3).setCell 4 v4).setCell 5 v5
/-- What ZZReadTransparency hands back: its second result lies in a block. -/
theorem zz_results (tmps : Array Value) (w : World) (G : Nat) (pv ut v v0 v1 v2 v3 v4 v5 : Value) (h8 : tmps.getD 8 undef = pv) (h9 : tmps.getD 9 undef = .pointer (some ⟨G, 0, none⟩)) (h10 : tmps.getD 10 undef = ut) (h11 : tmps.getD 11 undef = v)
    (hrow : w.heap[G]? = some (.cells #[v0, v1, v2, v3, v4, v5] 66 (0, 0))) : (results Tryd.f30 tmps).run Tryd.prog w = .ok (.tuple #[pv, .agg #[v0, v1, v2, v3, v4, v5], ut, v]) w := by
  have c0 : w.cell? ⟨G, 0, none⟩ = some v0 := by rw [cell_of_row w G 0 _ _ _ hrow]; rfl
  have c1 : w.cell? ⟨G, 1, none⟩ = some v1 := by rw [cell_of_row w G 1 _ _ _ hrow]; rfl
  have c2 : w.cell? ⟨G, 2, none⟩ = some v2 := by rw [cell_of_row w G 2 _ _ _ hrow]; rfl
  have c3 : w.cell? ⟨G, 3, none⟩ = some v3 := by rw [cell_of_row w G 3 _ _ _ hrow]; rfl
  have c4 : w.cell? ⟨G, 4, none⟩ = some v4 := by rw [cell_of_row w G 4 _ _ _ hrow]; rfl
  have c5 : w.cell? ⟨G, 5, none⟩ = some v5 := by rw [cell_of_row w G 5 _ _ _ hrow]; rfl
  subst h8 h10 h11
  rw [Array.getD_eq_getD_getElem?] at h9
  simp [results, Tryd.results30, go_sem, h9, c0, c1, c2, c3, c4, c5]
def ZSamEnd (l : List UInt8) (n k : Nat) (w : World) (e : Ending) (w' : World) : Prop :=
  ∃ v tr ut, e = .returned (.tuple #[.slice none 0 0, six tr, .bool ut, v]) ∧ SamTold l n k (crcOf trnsName) v tr ut ∧ tr.length = 6 ∧ Below w.heap.size w w'

end Go.Proofs.YtiiipmcjbibgoaaDoor
