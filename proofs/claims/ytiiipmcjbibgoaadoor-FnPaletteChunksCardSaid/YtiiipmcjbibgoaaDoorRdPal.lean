/- The contract of ZZReadPalette. -/
import Derived.Test.YtiiipmcjbibgoaaDoorPlte3
namespace Go.Proofs.YtiiipmcjbibgoaaDoor
open Go.ChangeShapes Go.WideShapes Go.ChangeAt Go.RowKit Go.IntWalk

/-- What a palette's chunk is answered with, and the palette that then stands in the decoder. -/
def PalTold (base : Nat) (l : List UInt8) (n dp c k : Nat) (w' : World) (v pv : Value) : Prop :=
  (badLen n dp ∧ v = badLenV ∧ pv = .slice none 0 0) ∨
  (¬ badLen n dp ∧ (7 ≤ k ∧ k ≤ 10) ∧ v = sumV (crcFrom c (l.take n)) ((l.drop n).take 4) ∧ ∃ P, base ≤ P ∧ pv = .slice (some ⟨P, 0, none⟩) (n / 3) 256 ∧ w'.heap[P]? = some (.cells (palV l (n / 3)).toArray 97 (0, 0))) ∨
  (¬ badLen n dp ∧ ¬ (7 ≤ k ∧ k ≤ 10) ∧ v = (if isTrue k then sumV (crcFrom c (l.take n)) ((l.drop n).take 4) else kindErrV) ∧ pv = .slice none 0 0)
def PlteEnd (base b : Nat) (l : List UInt8) (n dp c k : Nat) (w : World) (e : Ending) (w' : World) : Prop :=
  ∃ v pv, e = .returned v ∧ w'.cell? ⟨b, 6, none⟩ = some pv ∧ Below base w w' ∧ PalTold base l n dp c k w' v pv
theorem plte_any (base b R C sb so mc n dp k c : Nat) (l : List UInt8) (d : DecV) (w : World) (L : Pl base b R C sb) (h : Rdg b R C sb so (n + 4) mc l w d 0 c)
    (hl : Hid (l.length = n + 4)) (hmc : n + 4 ≤ mc) (hn : n ≤ 1000) (hdp : dp = 1 ∨ dp = 2 ∨ dp = 4 ∨ dp = 8 ∨ dp = 16) (e1 : d.dp = .int .i64 (dp : Int)) (e2 : d.cb = .int .i64 (k : Int)) (e0 : d.pal = .slice none 0 0) (hk : k ≤ 15 ∧ k ≠ 0) :
    Calls Tryd.prog 39 #[.pointer (some ⟨b, 0, none⟩), .int .u32 (n : Int)] w (PlteEnd base b l n dp c k w) := by
  by_cases hb : badLen n dp
  · refine (plte_bad b n dp hn hdp hb w (h.dec.pre_cell 5 (by rw [← e1]; rfl))).mono ?_
    rintro e w' ⟨rfl, rfl⟩
    exact ⟨_, _, rfl, h.dec.pre_cell 6 (v := .slice none 0 0) (by rw [← e0]; rfl), Below.refl _ _, .inl ⟨hb, rfl, rfl⟩⟩
  by_cases hp : 7 ≤ k ∧ k ≤ 10
  · refine (plte_pal base b R C sb so mc n dp k c l d w L h hl hmc hn hdp hb e1 e2 e0 hp).mono ?_
    rintro e w' ⟨P, rfl, h6, hP, h0, hbl⟩
    exact ⟨_, _, rfl, h6, hbl, .inr (.inl ⟨hb, hp, rfl, P, h0, rfl, hP⟩)⟩
  · refine (plte_else base b R C sb so mc n dp k c l d w L h hl hmc hn hdp hb e1 e2 e0 ⟨hk.1, hk.2, hp⟩).mono ?_
    rintro e w' ⟨rfl, h6, hbl⟩
    exact ⟨_, _, rfl, h6, hbl, .inr (.inr ⟨hb, hp, rfl, rfl⟩)⟩

/-- The name of a palette's chunk. -/
def plteName : List UInt8 := [80, 76, 84, 69]
def ZPalEnd (l : List UInt8) (n dp k : Nat) (w : World) (e : Ending) (w' : World) : Prop :=
  ∃ v pv, e = .returned (.tuple #[pv, v]) ∧ Below w.heap.size w w' ∧ PalTold w.heap.size l n dp (crcOf plteName) k w' v pv

set_option maxHeartbeats 3200000 in
set_option maxRecDepth 100000 in
theorem zzReadPalette_any (k dp n sb so mc : Nat) (l : List UInt8) (w : World) (hl : Hid (l.length = n + 4)) (hr : RB w (some ⟨sb, so, none⟩) l) (hmc : n + 4 ≤ mc) (ht : Tab w)
    (hn : n ≤ 1000) (hdp : dp = 1 ∨ dp = 2 ∨ dp = 4 ∨ dp = 8 ∨ dp = 16) (hk : k ≤ 15 ∧ k ≠ 0) :
    Calls Tryd.prog 26 #[.int .i64 (k : Int), .int .i64 (dp : Int), .int .u32 (n : Int), .slice (some ⟨sb, so, none⟩) (n + 4) mc] w (ZPalEnd l n dp k w) := by
  have hsb : sb < w.heap.size := hr.lt (by have := hl.out; intro e; rw [e] at this; simp at this)
  obtain ⟨H1, L, hb1⟩ := begun_rdg w sb so (n + 4) mc k dp (.slice none 0 0) l hr ht hsb
  go_enter Tryd.func26, Tryd.ntmps26
  go_upto_region 2 with (first
    | (go_at_call 37; refine (newReader_any (some ⟨sb, so, none⟩) (n + 4) mc w).mono ?_; rintro e w' ⟨rfl, rfl⟩)
    | (refine wpList_build_given rfl 90 #[(0, .tmp 14), (2, .tmp 15), (7, .tmp 16), (5, .tmp 17)] rfl #[(0, .iface 79 (.pointer (some ⟨w.heap.size, 0, none⟩))), (2, .pointer (some ⟨w.heap.size + 1, 0, none⟩)), (7, .int .i64 (k : Int)), (5, .int .i64 (dp : Int))] (.agg (dC w.heap.size (w.heap.size + 1) k dp (.slice none 0 0))) ?_ (build_palette w.heap.size (w.heap.size + 1) k dp _) ?_; (· simp [Act.eval])))
  change Code.wp _ _ _ _ (begun w sb so (n + 4) mc k dp (.slice none 0 0))
  obtain ⟨w3, hw3⟩ : ∃ w3, w3 = begun w sb so (n + 4) mc k dp (.slice none 0 0) := ⟨_, rfl⟩
  rw [← hw3] at H1 hb1 ⊢
  clear hw3
  generalize hB : w.heap.size + 1 + 1 = b at H1 L ⊢
  generalize hC : w.heap.size + 1 = C at H1 L ⊢
  generalize hR : w.heap.size = R at H1 L hb1 ⊢
  have HRS := Lib.hid hR
  clear hB hC hR hsb
  have k2 : w3.cell? ⟨b, 2, none⟩ = some (.pointer (some ⟨C, 0, none⟩)) := H1.dec.pre_cell 2 (by rw [← H1.ec]; rfl)
  have H2 := H1.below ((Below.refl _ _).alloc (Nat.le_refl _) (.cells (cellsB plteName).toArray 5 (4, 5)))
  have hb2 : Below R w (w3.alloc (.cells (cellsB plteName).toArray 5 (4, 5))) := hb1.alloc (by rw [← HRS.out]; rw [← HRS.out] at hb1; exact hb1.size) _
  have kc := fun (w : World) (C : Array Value) (n c : Nat) => Lib.run_convert_bytes_const (P := Tryd.prog) w 22 5 C n c Tryd.underlying22 Tryd.underlying5
  have hrn := RB.litF w3 plteName 5 (4, 5)
  go_wp2_with fail
  refine (writeSum_any R b R C sb so (n + 4) mc l _ 0 0 (some ⟨w3.heap.size, 0, none⟩) 4 4 plteName _ L H2 (Lib.hid rfl) hrn (by omega)).mono ?_
  rintro e w4 ⟨rfl, H4, hb4⟩
  have hb5 : Below R w w4 := hb2.trans (hb4.mono (Nat.le_refl _))
  clear kc hrn H1 H2 hb1 hb2 hb4 k2
  have HB5 := Lib.hid hb5
  clear hb5
  go_wp2_with fail
  refine (plte_any R b R C sb so mc n dp k _ l _ w4 L H4 hl hmc hn hdp rfl rfl rfl hk).mono ?_
  rintro e w5 ⟨v, pv, rfl, q6, hb6, hend⟩
  have HB6 : Hid (Below R w w5) := Lib.hid (HB5.out.trans (hb6.mono (Nat.le_refl _)))
  have HE := Lib.hid hend
  clear hb6 HB5 H4 hend
  go_wp2_with fail
  refine bodyPost_ret (v := .tuple #[pv, v]) (by simp [results, Tryd.results26, go_sem]) rfl ⟨v, pv, rfl, ?_, ?_⟩
  · rw [HRS.out]
    exact HB6.out
  · rw [HRS.out]
    exact HE.out
end Go.Proofs.YtiiipmcjbibgoaaDoor
