/- The contract of the laws' kindOf: one of the fifteen colour types with their bits a sample. -/
import Derived.Test.YtiiipmcjbibgoaaDoorHeadLaw
namespace Go.Proofs.YtiiipmcjbibgoaaDoor
open Go.ChangeShapes Go.WideShapes Go.ChangeAt Go.RowKit Go.IntWalk

def kC (k : Nat) : Nat := [0, 0, 0, 0, 0, 2, 2, 3, 3, 3, 3, 4, 4, 6, 6].getD k 0
def kD (k : Nat) : Nat := [1, 2, 4, 8, 16, 8, 16, 1, 2, 4, 8, 8, 16, 8, 16].getD k 0
theorem lt15 {k : Nat} (h : k < 15) : k = 0 ∨ k = 1 ∨ k = 2 ∨ k = 3 ∨ k = 4 ∨ k = 5 ∨ k = 6 ∨ k = 7 ∨ k = 8 ∨ k = 9 ∨ k = 10 ∨ k = 11 ∨ k = 12 ∨ k = 13 ∨ k = 14 := by omega
theorem kind_good {k : Nat} (h : k < 15) : cbOf (kD k) (kC k) ≠ 0 := by
  obtain rfl | rfl | rfl | rfl | rfl | rfl | rfl | rfl | rfl | rfl | rfl | rfl | rfl | rfl | rfl := lt15 h
  all_goals decide
theorem kind_le {k : Nat} (h : k < 15) : kC k ≤ 6 ∧ kD k ≤ 16 := by
  obtain rfl | rfl | rfl | rfl | rfl | rfl | rfl | rfl | rfl | rfl | rfl | rfl | rfl | rfl | rfl := lt15 h
  all_goals decide

set_option maxHeartbeats 3200000 in
theorem kindOf_any (n : Nat) (hn : n ≤ 255) (w : World) :
    Calls Tryd.prog 15 #[.int .u8 (n : Int)] w fun e w' => e = .returned (.tuple #[.int .i64 (kC (n % 15) : Int), .int .i64 (kD (n % 15) : Int)]) ∧ ∃ q, w' = w.drewN q := by
  obtain ⟨k, hk⟩ : ∃ k, k = n % 15 := ⟨_, rfl⟩
  have hk15 : k < 15 := by omega
  have e1 : (n : Int).tmod 15 = (k : Int) := by
    rw [Int.tmod_eq_emod_of_nonneg (by omega)]; omega
  rw [← hk]
  clear hk
  obtain rfl | rfl | rfl | rfl | rfl | rfl | rfl | rfl | rfl | rfl | rfl | rfl | rfl | rfl | rfl := lt15 hk15
  all_goals
    clear hk15
    go_enter Tryd.func15, Tryd.ntmps15
    go_wp2_with fail
    go_quiet (fail)
    go_wp2_with fail
    go_ret2
    exact ⟨rfl, _, rfl⟩
end Go.Proofs.YtiiipmcjbibgoaaDoor
