/- The contracts of ZZFilter and of the thin package's Filter. -/
import Derived.Test.YtmidfhcfnemkoaaFilt
import Derived.Test.YtmidfhcfnemkoaaClone
import Derived.Laws.MakeOwn
import Derived.Laws.CopyOwn
import Derived.Deep.QuietTactic
import Derived.BigQuiet
namespace Go.Proofs.Ytmidfhcfnemkoaa
open Go.ChangeShapes Go.WideShapes Go.ChangeAt Go.RowKit Go.IntWalk

/-- The cells of a new buffer. -/
def zeros (n : Nat) : Array Value := (Pre ++ (List.replicate n (0 : UInt8)).map (fun (v : UInt8) => Value.int .u8 (v.toNat : Int)) ++ []).toArray
theorem made_zeros (n : Nat) : madeCells (Value.int .u8 0).cells ((n + 1) * 1) = zeros n := by
  apply Array.toList_inj.1
  simp only [madeCells, zeros, Pre, Value.cells, Nat.mul_one]
  apply List.ext_getElem?
  intro i
  rcases i with _ | i
  · simp
  · by_cases h : i < n <;> simp [h, Nat.mod_one]
theorem alloc_heap (w : World) (o : Obj) : (w.alloc o).heap = w.heap.push o := rfl
theorem make_bytes (n : Nat) (hm : n ≤ 1000000) (w : World) : (Instr.makeSlice 22 (.int .i64 (1 + (n : Int))) (.int .i64 (1 + (n : Int)))).run Try.prog w = .ok (.slice (some ⟨w.heap.size, 0, none⟩) (n + 1) (n + 1)) (w.alloc (.cells (zeros n) 5)) := by
  obtain ⟨i0, hi, hz0, hz1, hz2⟩ := info_parts info_byte
  have h := run_make (P := Try.prog) w 22 5 i0 (.int .u8 0) (by kernel_rfl) hi hz0 .i64 .i64 (1 + (n : Int)) (1 + (n : Int)) (by omega) (Int.le_refl _) (by rw [hz2]; omega) (by omega)
  rw [show (1 + (n : Int)).toNat = n + 1 by omega, hz1, made_zeros] at h
  exact h

def slotsL (s n t : Nat) : List Value := (List.range 5).map fun j => if j < t then .slice (some ⟨s + 1 + j, 0, none⟩) (n + 1) (n + 1) else .slice none 0 0
/-- The first t of the five buffers have been made. -/
structure Made (s n t : Nat) (w wr : World) : Prop where
  size : wr.heap.size = s + 1 + t
  tab : wr.heap[s]? = some (.cells (slotsL s n t).toArray 33 (0, 0))
  bufs : ∀ j, j < t → Seg wr (s + 1 + j) Pre [] (List.replicate n 0)
  bel : Below s w wr
theorem Made.start (n : Nat) (w : World) : Made w.heap.size n 0 w (w.alloc (.cells #[.slice none 0 0, .slice none 0 0, .slice none 0 0, .slice none 0 0, .slice none 0 0] 33)) :=
  ⟨by rw [alloc_heap]; simp, by rw [alloc_heap]; simp [slotsL, List.range, List.range.loop], fun j hj => absurd hj (by omega), (Below.refl _ _).alloc (Nat.le_refl _) _⟩
theorem Made.tab1 {s n t : Nat} {w wr : World} (h : Made s n t w wr) : (wr.alloc (.cells (zeros n) 5)).heap[s]? = some (.cells (slotsL s n t).toArray 33 (0, 0)) := by
  have hs := h.size
  have : s < wr.heap.size := by omega
  rw [alloc_heap]
  simpa [Array.getElem?_push, Nat.ne_of_lt this] using h.tab
theorem Made.next {s n t : Nat} {w wr : World} (h : Made s n t w wr) (ht : t < 5) : Made s n (t + 1) w ((wr.alloc (.cells (zeros n) 5)).setCell ⟨s, t, none⟩ (.slice (some ⟨wr.heap.size, 0, none⟩) (n + 1) (n + 1))) := by
  have hs := h.size
  have O : Only s (wr.alloc (.cells (zeros n) 5)) ((wr.alloc (.cells (zeros n) 5)).setCell ⟨s, t, none⟩ (.slice (some ⟨wr.heap.size, 0, none⟩) (n + 1) (n + 1))) := (Only.refl _ _).setCell _ _
  have ht1 := h.tab1
  refine ⟨?_, ?_, ?_, ?_⟩
  · rw [O.size, alloc_heap]; simp; omega
  · rw [heap_setCell_same _ s t _ _ _ ht1, hs]
    congr 2
    obtain rfl | rfl | rfl | rfl | rfl : t = 0 ∨ t = 1 ∨ t = 2 ∨ t = 3 ∨ t = 4 := by omega
    all_goals rfl
  · intro j hj
    refine Seg.only ?_ O (by omega)
    rcases Nat.lt_or_ge j t with h' | h'
    · have := h.bufs j h'
      have h2 := this.lt
      unfold Seg at this ⊢
      rw [alloc_heap]
      simpa [Array.getElem?_push, Nat.ne_of_lt h2] using this
    · obtain rfl : j = t := by omega
      unfold Seg
      rw [alloc_heap, ← hs]
      simp [zeros]
  · exact (h.bel.alloc (by omega) _).setCell (p := ⟨s, t, none⟩) (Nat.le_refl _) _
theorem Made.cell {s n t j : Nat} {w wr : World} (h : Made s n t w wr) (hj : j < 5) : wr.cell? ⟨s, j, none⟩ = some (if j < t then .slice (some ⟨s + 1 + j, 0, none⟩) (n + 1) (n + 1) else .slice none 0 0) := by
  rw [cell_of_row wr s j _ _ _ h.tab]
  simp [slotsL, hj]
theorem own_zero (w : World) (base : Nat) (hb : base ≤ w.heap.size) : OwnB (w.alloc (.cells #[.int .u8 0] 5)) base (.slice (some ⟨w.heap.size, 0, none⟩) 1 1) [0] :=
  World.ownsRow_lit w #[.int .u8 0] 1 hb (by unfold maxLen; omega) rfl
theorem RB.tail {w : World} {b : Nat} {v : UInt8} {l : List UInt8} (h : RB w (some ⟨b, 0, none⟩) (v :: l)) : RB w (some ⟨b, 1, none⟩) l := by
  intro hl
  obtain ⟨b', o', e, hc⟩ := h (by simp)
  simp only [Option.some.injEq, Addr.mk.injEq, and_true] at e
  obtain ⟨rfl, rfl⟩ := e
  refine ⟨b, 1, rfl, fun j hj => ?_⟩
  have := hc (j + 1) (by simp; omega)
  rw [show (1 + j) = 0 + (j + 1) by omega, this]
  simp

/-- A row's bytes as cells. -/
def cellsB (l : List UInt8) : List Value := l.map fun v => Value.int .u8 (v.toNat : Int)
theorem copied {w : World} {g n : Nat} {row : List UInt8} (hz : w.heap[g]? = some (.cells (zeros n) 5 (0, 0))) (hn : row.length = n) :
    Seg (w.setRow g ((zeros n).toList.take 1 ++ (cellsB row ++ (zeros n).toList.drop (1 + (cellsB row).length))).toArray) g Pre [] row ∧
      Only g w (w.setRow g ((zeros n).toList.take 1 ++ (cellsB row ++ (zeros n).toList.drop (1 + (cellsB row).length))).toArray) := by
  refine ⟨?_, ⟨rfl, rfl, rfl, by simp [World.setRow], fun k hk => setRow_other w g k _ hk⟩⟩
  unfold Seg
  rw [setRow_heap w g _ _ _ _ hz]
  congr 2
  apply Array.toList_inj.1
  have e : (zeros n).toList.drop (1 + (cellsB row).length) = [] := List.drop_of_length_le (by simp [zeros, Pre, cellsB, hn]; omega)
  rw [e]
  simp [zeros, Pre, cellsB]
theorem src_of {w : World} {b o : Nat} {l : List UInt8} (h : RB w (some ⟨b, o, none⟩) l) : ∀ j v, (cellsB l)[j]? = some v → w.cell? ((⟨b, o, none⟩ : Addr).add j) = some v := by
  intro j v hj
  obtain ⟨hlt, e⟩ := List.getElem?_eq_some_iff.1 hj
  simp only [cellsB, List.length_map] at hlt
  obtain ⟨b', o', e2, hc⟩ := h (by intro e3; rw [e3] at hlt; simp at hlt)
  simp only [Option.some.injEq, Addr.mk.injEq, and_true] at e2
  obtain ⟨rfl, rfl⟩ := e2
  have h2 := hc j hlt
  rw [← e]
  unfold Addr.add
  split
  · rename_i h0
    subst h0
    simpa [cellsB, List.getD, hlt] using h2
  · simpa [cellsB, List.getD, hlt] using h2
theorem cell_below {w w' : World} {B : Nat} {p : Addr} (h : Below B w w') (hp : p.block < B) : w'.cell? p = w.cell? p := World.cell?_of_block (h.block _ hp)
/-- What the two calls tell: the filter, the row under it, and that under none of the five it weighs less. -/
structure Chosen (f : Nat) (row above : List UInt8) (step : Nat) (out : List UInt8) : Prop where
  kind : f ≤ 4
  is : out = filtered f row above step
  least : ∀ j, j ≤ 4 → weight out ≤ weight (filtered j row above step)
theorem Best.chosen {row above : List UInt8} {step best f : Nat} {D : Nat → List UInt8} (h : Best (fun k => filtered k row above step) D [3, 1, 0, 4, 2] best f) : Chosen f row above step (filtered f row above step) := by
  have hm := h.mem
  refine ⟨by simp at hm; omega, rfl, fun j hj => ?_⟩
  have := h.least j (by simp; omega)
  rw [h.val] at this
  exact this
def bufOf (row : List UInt8) (D : Nat → List UInt8) (f : Nat) : List UInt8 := if f = 0 then row else D f
theorem Held5.buf {w : World} {s gp n f : Nat} {row above : List UInt8} {D : Nat → List UInt8} (H : Held5 w (s + 1 + 0) (s + 1 + 1) (s + 1 + 2) (s + 1 + 3) (s + 1 + 4) gp n row above (D 1) (D 2) (D 3) (D 4)) (hf : f ≤ 4) : Seg w (s + 1 + f) Pre [] (bufOf row D f) := by
  obtain rfl | rfl | rfl | rfl | rfl : f = 0 ∨ f = 1 ∨ f = 2 ∨ f = 3 ∨ f = 4 := by omega
  · exact H.h0
  · exact H.h1
  · exact H.h2
  · exact H.h3
  · exact H.h4

set_option maxHeartbeats 3200000 in
theorem zzFilter_any (ad ad2 : Option Addr) (n cap cap2 step : Nat) (row above : List UInt8) (w : World) (hn : Hid (row.length = n)) (hr : RB w ad row)
    (hn2 : Hid (above.length = n)) (hab : RB w ad2 above) (hs1 : 1 ≤ step) (hs2 : step ≤ 8) (hle : step ≤ n) (hm : n ≤ 1000000) :
    Calls Try.prog 17 #[.slice ad n cap, .slice ad2 n cap2, .int .i64 (step : Int)] w fun e w' =>
      ∃ (f g : Nat) (out : List UInt8), e = .returned (.tuple #[.int .i64 (f : Int), .slice (some ⟨g, 1, none⟩) n n]) ∧ Hid (out.length = n) ∧ RB w' (some ⟨g, 1, none⟩) out ∧ Chosen f row above step out ∧ Below w.heap.size w w' := by
  obtain ⟨b0, o0, rfl, hc0⟩ := hr (by have := hn.out; intro e; rw [e] at this; simp at this; omega)
  obtain ⟨b1, o1, rfl, -⟩ := hab (by have := hn2.out; intro e; rw [e] at this; simp at this; omega)
  go_enter Try.func17, Try.ntmps17
  obtain ⟨s, hs⟩ : ∃ s, s = w.heap.size := ⟨_, rfl⟩
  have HS := Lib.hid hs
  rw [← hs]
  clear hs
  go_upto_block 0 with fail
  rw [← HS.out]
  have M0 := Made.start n w
  rw [← HS.out] at M0
  obtain ⟨w0, hw0⟩ : ∃ w0, w0 = w.alloc (.cells #[.slice none 0 0, .slice none 0 0, .slice none 0 0, .slice none 0 0, .slice none 0 0] 33) := ⟨_, rfl⟩
  rw [← hw0] at M0 ⊢
  clear hw0
  go_cut [9, 12] from 12 to 21 (fun _ _ w' => Made s n 5 w w')
  case first =>
    go_wp2_with fail
    go_loopw [12, 9] (fun i _ wr => ∃ t : Nat, t ≤ 5 ∧ i = .int .i64 t ∧ Made s n t w wr) (fun i _ _ => 5 - (intOf i).toNat)
    case atStart => exact ⟨0, by omega, rfl, M0⟩
    case round =>
      obtain ⟨t, ht, rfl, M⟩ := hrel
      by_cases hlt : t < 5
      · have i0 : (0 : Int) ≤ (t : Int) := by omega
        have i1 : (t : Int) < 5 := by omega
        have hmk := make_bytes n hm wr
        obtain ⟨w1, hw1⟩ : ∃ w1, w1 = wr.alloc (.cells (zeros n) 5) := ⟨_, rfl⟩
        have NX := M.next hlt
        have htab := M.tab1
        rw [← hw1] at hmk NX htab
        clear hw1
        have hfz := frozen_of_row w1 s t _ _ htab
        have hold : w1.cell? ⟨s, t, none⟩ = some (.slice none 0 0) := by
          rw [cell_of_row w1 s t _ _ _ htab]
          simp [slotsL, hlt]
        clear htab M
        go_wp2_with fail
        go_round
        case rel => exact ⟨t + 1, by omega, by go_num, NX⟩
        case measure => simp [intOf]; omega


      · obtain rfl : t = 5 := by omega
        go_wp2_with fail
        go_meet
        case rel => exact M
  case rest =>
    have M := hcut
    clear hcut M0
    have kk0 := M.cell (j := 0) (by omega)
    have kk1 := M.cell (j := 1) (by omega)
    have kk2 := M.cell (j := 2) (by omega)
    have kk3 := M.cell (j := 3) (by omega)
    have kk4 := M.cell (j := 4) (by omega)
    rw [if_pos (by omega)] at kk0 kk1 kk2 kk3 kk4
    have hz : wc.heap[s + 1 + 0]? = some (.cells (zeros n) 5 (0, 0)) := M.bufs 0 (by omega)
    have hrow : RB wc (some ⟨b0, o0, none⟩) row := hr.below (HS.out ▸ M.bel)
    have habv : RB wc (some ⟨b1, o1, none⟩) above := hab.below (HS.out ▸ M.bel)
    have MM := Lib.hid M
    clear M
    obtain ⟨cs, hcs⟩ : ∃ cs, cs = cellsB row := ⟨_, rfl⟩
    have HC := Lib.hid hcs
    clear hcs
    obtain ⟨w2, hw2⟩ : ∃ w2, w2 = wc.setRow (s + 1) ((zeros n).toList.take 1 ++ (cs ++ (zeros n).toList.drop (1 + cs.length))).toArray := ⟨_, rfl⟩
    have HW := Lib.hid hw2
    clear hw2
    have hcp := copied (row := row) hz hn.out
    rw [← HC.out, ← HW.out] at hcp
    obtain ⟨sg0, on0⟩ := hcp
    have hsz : w2.heap.size = s + 6 := by rw [on0.size, MM.out.size]
    have OW := Lib.hid on0
    have hab2 : RB (w2.alloc (.cells #[.int .u8 0] 5)) (some ⟨b1, o1, none⟩) above := (hab.below (HS.out ▸ MM.out.bel.trans (on0.below (B := s) (by omega)))).below ((Below.refl _ _).alloc (Nat.le_of_lt_succ (by have := hab.lt (by have := hn2.out; intro e; rw [e] at this; simp at this; omega); have := HS.out; omega)) _)
    have HSZ := Lib.hid hsz
    clear on0 hsz
    go_wp2_with (first | done | (refine wpList_copy_own rfl (.tmp 24) (.tmp 25) 22 22 rfl 5 (by kernel_rfl) (by kernel_rfl) (s + 1) 1 n n ⟨b0, o0, none⟩ n cap rfl rfl (zeros n) 5 hz cs (by rw [HC.out]; simp [cellsB, hn.out]) (by rw [HC.out]; exact src_of hrow) (by rw [HC.out]; simp [cellsB, hn.out, zeros, Pre]; omega) (by rw [HC.out]; intro v hv; simp [cellsB] at hv; obtain ⟨u, -, rfl⟩ := hv; rfl) ?_; rw [← HW.out]) | (at_builtin; refine wpList_append_bytes rfl (.tmp 27) (.tmp 28) rfl (s + 6) (.slice (some ⟨w2.heap.size, 0, none⟩) 1 1) [0] above rfl (own_zero w2 (s + 6) (Nat.le_of_eq HSZ.out.symm)) (some ⟨b1, o1, none⟩) n cap2 rfl hn2.out hab2 (by intro h; cases h) (by simp; omega) (by rw [alloc_heap]; simp [HSZ.out]) ?_; intro v' w3 hown hg hb3 hnl))
    have B3 : Below (s + 6) w2 w3 := ((Below.refl _ _).alloc (Nat.le_of_eq HSZ.out.symm) _).trans hb3
    obtain ⟨adp, mp, pcap, rfl, hmp, hrp, hlp, -, -, hblk⟩ := hown.shapeN
    obtain ⟨gp, o', rfl, -⟩ := hrp (by simp)
    obtain ⟨hgp, -, ho', -⟩ := hblk _ rfl
    simp only at ho' hgp
    subst ho'
    obtain rfl : n + 1 = mp := by have h1 := hmp.out; have h2 := hn2.out; simp at h1; omega
    have L : Lie (s + 1 + 0) (s + 1 + 1) (s + 1 + 2) (s + 1 + 3) (s + 1 + 4) gp (s + 1) := by constructor <;> omega
    have sgj : ∀ j, 1 ≤ j → j ≤ 4 → Seg w3 (s + 1 + j) Pre [] (List.replicate n 0) := fun j h1 h4 => ((MM.out.bufs j (by omega)).only OW.out (by omega)).below B3 (by omega)
    have H : Held5 w3 (s + 1 + 0) (s + 1 + 1) (s + 1 + 2) (s + 1 + 3) (s + 1 + 4) gp n row above (List.replicate n 0) (List.replicate n 0) (List.replicate n 0) (List.replicate n 0) :=
      ⟨sg0.below B3 (by omega), sgj 1 (by omega) (by omega), sgj 2 (by omega) (by omega), sgj 3 (by omega) (by omega), sgj 4 (by omega) (by omega), RB.tail hrp, hn.out, hn2.out, by simp, by simp, by simp, by simp⟩
    have kj : ∀ j, j < 5 → w3.cell? ⟨s, j, none⟩ = some (.slice (some ⟨s + 1 + j, 0, none⟩) (n + 1) (n + 1)) := fun j hj => by
      rw [cell_below B3 (show s < s + 6 by omega), OW.out.cell (show s ≠ s + 1 by omega), MM.out.cell hj, if_pos hj]
    have HK := Lib.hid kj
    have B4 : Below s w w3 := (MM.out.bel.trans (OW.out.below (by omega))).trans (B3.mono (by omega))
    clear kk0 kk1 kk2 kk3 kk4 sgj kj hrp hblk hb3 hg hnl hown hab2 sg0 hz hrow habv
    go_wp2_with (go_at_call 20; refine (filter_any s (s + 1 + 0) (s + 1 + 1) (s + 1 + 2) (s + 1 + 3) (s + 1 + 4) gp (s + 1) n pcap step row above (fun _ => List.replicate n 0) w3 L H (HK.out 0 (by omega)) (HK.out 1 (by omega)) (HK.out 2 (by omega)) (HK.out 3 (by omega)) (HK.out 4 (by omega)) hs1 hs2 hle hm hlp).mono ?_; rintro e w4 ⟨f, best, D, rfl, hb4, H4, HB⟩)
    have CH := HB.chosen
    have hf4 := CH.kind
    have hcont := HB.cont
    have sgf := H4.buf hf4
    have eo : bufOf row D f = filtered f row above step := by
      unfold bufOf
      split
      · rename_i h0; subst h0; exact (filtered_none row above step).symm
      · exact hcont
    rw [eo] at sgf
    have hrb := sgf.rb (o := 1) rfl
    have kf : w4.cell? ⟨s, f, none⟩ = some (.slice (some ⟨s + 1 + f, 0, none⟩) (n + 1) (n + 1)) := by
      rw [cell_below hb4 (show s < s + 1 by omega)]
      exact HK.out f (by omega)
    have B5 : Below s w w4 := B4.trans (hb4.mono (by omega))
    have f0 : (0 : Int) ≤ (f : Int) := by omega
    have f1 : (f : Int) < 5 := by omega
    clear HB hcont sgf eo H4 H hb4 hf4
    go_wp2_with fail
    go_quiet (fail)
    go_wp2_with fail
    go_ret2
    exact ⟨f, s + 1 + f, _, rfl, Lib.hid (by rw [filtered_length, hn.out]), hrb, CH, ⟨B5.os, B5.tape, B5.output, B5.size, B5.block⟩⟩

/-- What the two calls leave: the filter and the row under it, in new memory. -/
def ChosenPost (row above : List UInt8) (step : Nat) (w : World) (e : Ending) (w' : World) : Prop :=
  ∃ (f : Nat) (v : Value) (out : List UInt8), e = .returned (.tuple #[.int .i64 (f : Int), v]) ∧ Chosen f row above step out ∧ OwnB w' w.heap.size v out ∧ Below w.heap.size w w'

set_option maxHeartbeats 800000 in
theorem implFilter_any (ad ad2 : Option Addr) (n cap cap2 step : Nat) (row above : List UInt8) (w : World) (hn : Hid (row.length = n)) (hr : RB w ad row) (hnil : ad = none → n = 0 ∧ cap = 0)
    (hn2 : Hid (above.length = n)) (hab : RB w ad2 above) (hnil2 : ad2 = none → n = 0 ∧ cap2 = 0) (hs1 : 1 ≤ step) (hs2 : step ≤ 8) (hle : step ≤ n) (hm : n ≤ 1000000) :
    Calls Try.prog 12 #[.slice ad n cap, .slice ad2 n cap2, .int .i64 (step : Int)] w (ChosenPost row above step w) := by
  go_enter Try.func12, Try.ntmps12
  go_wp2_with fail
  refine (clone_any ad n cap row hn w (by omega) hr hnil).mono ?_
  rintro e w1 ⟨v1, rfl, ho1, hb1, -⟩
  obtain ⟨a1, m1, c1, rfl, hm1, hr1, -, -, hnil1, -⟩ := ho1.shapeN
  obtain rfl : n = m1 := by have h1 := hm1.out; have h2 := hn.out; omega
  go_wp2_with fail
  refine (clone_any ad2 n cap2 above hn2 w1 (by omega) (hab.below hb1) hnil2).mono ?_
  rintro e w2 ⟨v2, rfl, ho2, hb2, -⟩
  obtain ⟨a2, m2, c2, rfl, hm2', hr2, -, -, -, -⟩ := ho2.shapeN
  obtain rfl : n = m2 := by have h1 := hm2'.out; have h2 := hn2.out; omega
  have B2 : Below w.heap.size w w2 := hb1.trans (hb2.mono hb1.size)
  go_wp2_with fail
  refine (zzFilter_any a1 a2 n c1 c2 step row above w2 hn (hr1.below hb2) hn2 hr2 hs1 hs2 hle hm).mono ?_
  rintro e w3 ⟨f, g, out, rfl, hlo, hr3, hch, hb3⟩
  have B3 : Below w.heap.size w w3 := B2.trans (hb3.mono B2.size)
  go_wp2_with fail
  refine (clone_any (some ⟨g, 1, none⟩) n n out hlo w3 (by omega) hr3 (by intro h; cases h)).mono ?_
  rintro e w4 ⟨v4, rfl, ho4, hb4, -⟩
  go_wp2_with fail
  go_ret2
  exact ⟨f, _, out, rfl, hch, ho4.mono B3.size, B3.trans (hb4.mono B3.size)⟩
end Go.Proofs.Ytmidfhcfnemkoaa
