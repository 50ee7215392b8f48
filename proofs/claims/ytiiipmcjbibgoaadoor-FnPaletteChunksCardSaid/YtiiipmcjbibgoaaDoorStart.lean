/- How a decoder begins: the block that the text lays. -/
import Derived.Test.YtiiipmcjbibgoaaDoorDec
import Derived.KernelRfl
namespace Go.Proofs.YtiiipmcjbibgoaaDoor
open Go.ChangeShapes Go.WideShapes Go.ChangeAt Go.RowKit Go.IntWalk

/-- A value as the model builds it, given. -/
theorem wpList_build_given {P : Program} {ops : Array Oper} {rest : List Oper} {o : Oper} {a : Act} {w : World} {Q : Exit → Act → World → Prop} (hgd : o.guard = none) (t : TypeId) (parts : Array (Nat × Operand)) (ho : o.op = .build t parts) (vals : Array (Nat × Value)) (v : Value)
    (hp : parts.map (fun (i, x) => (i, a.eval x)) = vals) (hrun : (Instr.build t vals).run P w = .ok v w) (h : wpList P ops Q rest (a.put o.dst v) w) : wpList P ops Q (o :: rest) a w :=
  wpList_plain hgd fun _ hK => by
    unfold Oper.wp execOp
    simp only [ho, hp, Sem.run_bind, hrun, Result.andThen_ok]
    exact hK _ _ h

def tmp0 : List UInt8 := List.replicate 768 0
def tr0 : List UInt8 := List.replicate 6 0
/-- The decoder as the text lays it. -/
def d0 (R C : Nat) (cb dp : Int) (pal : Value) : DecV :=
  { r := .iface 79 (.pointer (some ⟨R, 0, none⟩)), img := .nilIface, crc := .pointer (some ⟨C, 0, none⟩), wd := .int .i64 0, ht := .int .i64 0, dp := .int .i64 dp, pal := pal, cb := .int .i64 cb, st := .int .i64 0, ln := .int .u32 0,
    tmp := tmp0, lace := .int .i64 0, ut := .bool false, tr := tr0 }
/-- Its cells. -/
def dC (R C : Nat) (cb dp : Int) (pal : Value) : Array Value := (d0 R C cb dp pal).cells.toArray
theorem build_header (R C : Nat) (w : World) : (Instr.build 90 #[(0, .iface 79 (.pointer (some ⟨R, 0, none⟩))), (2, .pointer (some ⟨C, 0, none⟩))]).run Tryd.prog w = .ok (.agg (dC R C 0 0 (.slice none 0 0))) w := by kernel_rfl
theorem build_palette (R C : Nat) (cb dp : Int) (w : World) : (Instr.build 90 #[(0, .iface 79 (.pointer (some ⟨R, 0, none⟩))), (2, .pointer (some ⟨C, 0, none⟩)), (7, .int .i64 cb), (5, .int .i64 dp)]).run Tryd.prog w = .ok (.agg (dC R C cb dp (.slice none 0 0))) w := by kernel_rfl
theorem build_clear (R C : Nat) (cb : Int) (ad : Option Addr) (n cap : Nat) (w : World) : (Instr.build 90 #[(0, .iface 79 (.pointer (some ⟨R, 0, none⟩))), (2, .pointer (some ⟨C, 0, none⟩)), (7, .int .i64 cb), (6, .slice ad n cap)]).run Tryd.prog w = .ok (.agg (dC R C cb 0 (.slice ad n cap))) w := by kernel_rfl
theorem start_dec (R C b : Nat) (cb dp : Int) (pal : Value) (w : World) (h : w.heap[b]? = some (.cells (dC R C cb dp pal) 90 (0, 0))) : Dec w b (d0 R C cb dp pal) :=
  ⟨h, List.length_replicate, List.length_replicate⟩
/-- The world behind the decoder's making. -/
def begun (w : World) (sb so m mc : Nat) (cb dp : Int) (pal : Value) : World :=
  ((w.alloc (.cells #[.slice (some ⟨sb, so, none⟩) m mc, .int .i64 0, .int .i64 (-1)] 120)).alloc (.cells #[.int .u32 0] 83)).alloc (.cells (dC w.heap.size (w.heap.size + 1) cb dp pal) 90)
theorem size_alloc (w : World) (o : Obj) : (w.alloc o).heap.size = w.heap.size + 1 := by
  show (w.heap.push o).size = _
  simp
theorem begun_rdg (w : World) (sb so m mc : Nat) (cb dp : Int) (pal : Value) (l : List UInt8) (hr : RB w (some ⟨sb, so, none⟩) l) (ht : Tab w) (hsb : sb < w.heap.size) :
    Rdg (w.heap.size + 1 + 1) w.heap.size (w.heap.size + 1) sb so m mc l (begun w sb so m mc cb dp pal) (d0 w.heap.size (w.heap.size + 1) cb dp pal) 0 0 ∧ Pl w.heap.size (w.heap.size + 1 + 1) w.heap.size (w.heap.size + 1) sb ∧ Below w.heap.size w (begun w sb so m mc cb dp pal) := by
  have htb := ht.lt
  have hb : Below w.heap.size w (begun w sb so m mc cb dp pal) := (((Below.refl _ _).alloc (Nat.le_refl _) _).alloc (by rw [size_alloc]; omega) _).alloc (by rw [size_alloc, size_alloc]; omega) _
  refine ⟨⟨start_dec _ _ _ _ _ _ _ ?_, rfl, rfl, ⟨-1, ?_⟩, ?_, by omega, hr.below hb, ht.below hb⟩, ⟨by omega, by omega, by omega, by omega, by omega, by omega, hsb, htb⟩, hb⟩
  · have := heap_alloc_new ((w.alloc (.cells #[.slice (some ⟨sb, so, none⟩) m mc, .int .i64 0, .int .i64 (-1)] 120)).alloc (.cells #[.int .u32 0] 83)) (.cells (dC w.heap.size (w.heap.size + 1) cb dp pal) 90)
    rw [size_alloc, size_alloc] at this
    exact this
  · rw [show begun w sb so m mc cb dp pal = _ from rfl, begun, heap_alloc_old _ _ (by rw [size_alloc, size_alloc]; omega), heap_alloc_old _ _ (by rw [size_alloc]; omega)]
    exact heap_alloc_new w _
  · rw [begun, heap_alloc_old _ _ (by rw [size_alloc, size_alloc]; omega)]
    have := heap_alloc_new (w.alloc (.cells #[.slice (some ⟨sb, so, none⟩) m mc, .int .i64 0, .int .i64 (-1)] 120)) (.cells #[.int .u32 0] 83)
    rw [size_alloc] at this
    exact this
/-- A new block of bytes. -/
theorem RB.lit (w : World) (l : List UInt8) (t : TypeId) : RB (w.alloc (.cells (cellsB l).toArray t)) (some ⟨w.heap.size, 0, none⟩) l := by
  intro _
  refine ⟨w.heap.size, 0, rfl, fun j hj => ?_⟩
  rw [cell_of_row _ _ _ _ _ _ (heap_alloc_new w _)]
  simp [cellsB, List.getD, hj]

end Go.Proofs.YtiiipmcjbibgoaaDoor
