/- The contract of the reference's Four: a number in four bytes, the highest first. -/
import Derived.Test.YtiiipmcjbibgoaaDoorBytes
namespace Go.Proofs.YtiiipmcjbibgoaaDoor
open Go.ChangeShapes Go.WideShapes Go.ChangeAt Go.RowKit Go.IntWalk

/-- A number in four bytes, the highest first. -/
def four (n : Nat) : List UInt8 := [UInt8.ofNat (n / 16777216), UInt8.ofNat (n / 65536), UInt8.ofNat (n / 256), UInt8.ofNat n]
theorem four_len (n : Nat) : (four n).length = 4 := rfl

theorem four_any (n : Nat) (h : n < 4294967296) (w : World) :
    Calls Tryd.prog 19 #[.int .u32 (n : Int)] w fun e w' => e = .returned (.slice (some ⟨w.heap.size, 0, none⟩) 4 4) ∧ OwnB w' w.heap.size (.slice (some ⟨w.heap.size, 0, none⟩) 4 4) (four n) ∧ Below w.heap.size w w' := by
  have hu : IntKind.u32.signed = false := rfl
  go_enter Tryd.func19, Tryd.ntmps19
  go_wp2
  go_ret
  refine ⟨rfl, ?_, (Below.refl _ _).alloc (Nat.le_refl _) _⟩
  have e := World.ownsRow_lit (base := w.heap.size) (e := 5) (size := 1) w (((four n).map fun b => Value.int .u8 (b.toNat : Int)).toArray) 4 (Nat.le_refl _) (by unfold maxLen; omega) rfl
  have e2 : ((four n).map fun b => Value.int .u8 (b.toNat : Int)).toArray = #[.int .u8 ((n : Int) / 16777216), .int .u8 ((n : Int) / 65536 % 256), .int .u8 ((n : Int) / 256 % 256), .int .u8 ((n : Int) % 256)] := by
    simp [four]
    omega
  rw [e2] at e
  have e3 : (#[Value.int .u8 ((n : Int) / 16777216), .int .u8 ((n : Int) / 65536 % 256), .int .u8 ((n : Int) / 256 % 256), .int .u8 ((n : Int) % 256)] : Array Value).toList = (four n).map fun b => Value.int .u8 (b.toNat : Int) := by rw [← e2]
  unfold OwnB
  rw [← e3]
  exact e
end Go.Proofs.YtiiipmcjbibgoaaDoor
