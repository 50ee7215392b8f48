/- The contracts of ZZReadHeader and of the thin package's ReadHeader. -/
import Derived.Test.YtiiipmcjbibgoaaDoorTabs
import Derived.Test.YtiiipmcjbibgoaaDoorClone
import Derived.Deep.Cut
import Derived.Lib.SlBytesConst
namespace Go.Proofs.YtiiipmcjbibgoaaDoor
open Go.ChangeShapes Go.WideShapes Go.ChangeAt Go.RowKit Go.IntWalk

/-- A new block of bytes, marked or not. -/
theorem RB.litF (w : World) (l : List UInt8) (t : TypeId) (fr : Nat × Nat) : RB (w.alloc (.cells (cellsB l).toArray t fr)) (some ⟨w.heap.size, 0, none⟩) l := by
  intro _
  refine ⟨w.heap.size, 0, rfl, fun j hj => ?_⟩
  rw [cell_of_row _ _ _ _ _ _ (heap_alloc_new w _)]
  simp [cellsB, List.getD, hj]
/-- The name of the first chunk. -/
def ihdrName : List UInt8 := [73, 72, 68, 82]
/-- What is told of a first chunk. -/
def ZHeadEnd (l : List UInt8) (w : World) (e : Ending) (w' : World) : Prop :=
  ∃ (wd ht k dp il : Nat) (v : Value), e = .returned (.tuple #[.int .i64 (wd : Int), .int .i64 (ht : Int), .int .i64 (k : Int), .int .i64 (dp : Int), .int .i64 (il : Int), v]) ∧ k ≤ 15 ∧ Below w.heap.size w w' ∧
    ((v = .nilIface ∧ GoodH l (crcOf ihdrName) ∧ wd = be4 l ∧ ht = be4 (l.drop 4) ∧ k = cbOf (l.getD 8 0).toNat (l.getD 9 0).toNat ∧ dp = (l.getD 8 0).toNat ∧ il = (l.getD 12 0).toNat) ∨ (ErrV v ∧ ¬ GoodH l (crcOf ihdrName)))

set_option maxHeartbeats 3200000 in
set_option maxRecDepth 100000 in
theorem zzReadHeader_any (sb so mc : Nat) (l : List UInt8) (w : World) (hl : Hid (l.length = 17)) (hr : RB w (some ⟨sb, so, none⟩) l) (hmc : 17 ≤ mc) (ht : Tab w)
    (hbig : Hid (0 < be4 l → 0 < be4 (l.drop 4) → be4 l * be4 (l.drop 4) ≤ 1125899906842624)) :
    Calls Tryd.prog 31 #[.slice (some ⟨sb, so, none⟩) 17 mc] w (ZHeadEnd l w) := by
  have hsb : sb < w.heap.size := hr.lt (by have := hl.out; intro e; rw [e] at this; simp at this)
  obtain ⟨H1, L, hb1⟩ := begun_rdg w sb so 17 mc 0 0 (.slice none 0 0) l hr ht hsb
  go_enter Tryd.func31, Tryd.ntmps31
  go_upto_region 2 with (first
    | (go_at_call 37; refine (newReader_any (some ⟨sb, so, none⟩) 17 mc w).mono ?_; rintro e w' ⟨rfl, rfl⟩)
    | (refine wpList_build_given rfl 90 #[(0, .tmp 11), (2, .tmp 12)] rfl #[(0, .iface 79 (.pointer (some ⟨w.heap.size, 0, none⟩))), (2, .pointer (some ⟨w.heap.size + 1, 0, none⟩))] (.agg (dC w.heap.size (w.heap.size + 1) 0 0 (.slice none 0 0))) ?_ (build_header w.heap.size (w.heap.size + 1) _) ?_; (· simp [Act.eval])))
  change Code.wp _ _ _ _ (begun w sb so 17 mc 0 0 (.slice none 0 0))
  obtain ⟨w3, hw3⟩ : ∃ w3, w3 = begun w sb so 17 mc 0 0 (.slice none 0 0) := ⟨_, rfl⟩
  rw [← hw3] at H1 hb1 ⊢
  clear hw3
  generalize hB : w.heap.size + 1 + 1 = b at H1 L ⊢
  generalize hC : w.heap.size + 1 = C at H1 L ⊢
  generalize hR : w.heap.size = R at H1 L hb1 ⊢
  have HRS := Lib.hid hR
  clear hB hC hR hsb
  have k2 : w3.cell? ⟨b, 2, none⟩ = some (.pointer (some ⟨C, 0, none⟩)) := H1.dec.pre_cell 2 (by rw [← H1.ec]; rfl)
  have H2 := H1.below ((Below.refl _ _).alloc (Nat.le_refl _) (.cells (cellsB ihdrName).toArray 5 (4, 5)))
  have hb2 : Below R w (w3.alloc (.cells (cellsB ihdrName).toArray 5 (4, 5))) := hb1.alloc (by rw [← HRS.out]; rw [← HRS.out] at hb1; exact hb1.size) _
  have kc := fun (w : World) (C : Array Value) (n c : Nat) => Lib.run_convert_bytes_const (P := Tryd.prog) w 22 5 C n c Tryd.underlying22 Tryd.underlying5
  have hrn := RB.litF w3 ihdrName 5 (4, 5)
  go_wp2_with fail
  refine (writeSum_any R b R C sb so 17 mc l _ 0 0 (some ⟨w3.heap.size, 0, none⟩) 4 4 ihdrName _ L H2 (Lib.hid rfl) hrn (by omega)).mono ?_
  rintro e w4 ⟨rfl, H4, hb4⟩
  have hb5 : Below R w w4 := hb2.trans (hb4.mono (Nat.le_refl _))
  clear kc hrn H1 H2 hb1 hb2 hb4 k2
  have HB5 := Lib.hid hb5
  clear hb5
  go_wp2_with fail
  refine (parseIHDR_any R b R C sb so mc l _ _ w4 L H4 hl hmc rfl rfl rfl rfl rfl hbig).mono ?_
  rintro e w5 ⟨wd, ht, k, dp, il, v, rfl, q3, q4, q7, q5, q778, hk, hb6, hend⟩
  have HB6 : Hid (Below R w w5) := Lib.hid (HB5.out.trans (hb6.mono (Nat.le_refl _)))
  have HE := Lib.hid hend
  clear hb6 HB5 H4 hend
  go_wp2_with fail
  go_quiet (fail)
  go_wp2_with fail
  refine bodyPost_ret (v := .tuple #[.int .i64 (wd : Int), .int .i64 (ht : Int), .int .i64 (k : Int), .int .i64 (dp : Int), .int .i64 (il : Int), v]) (by simp [results, Tryd.results31, go_sem]) rfl ⟨wd, ht, k, dp, il, v, rfl, hk, ?_, HE.out⟩
  rw [HRS.out]
  exact ⟨HB6.out.os, HB6.out.tape, HB6.out.output, HB6.out.size, HB6.out.block⟩
end Go.Proofs.YtiiipmcjbibgoaaDoor
