/- The contract of abs of the package. -/
import Derived.Test.YtmidfhcfnemkoaaRows
import Derived.Test.YtmidfhcfnemkoaaMath
import Derived.WalkKit
import Derived.ProofKit
import Derived.OpenShut
import Derived.Lib.Hide
namespace Go.Proofs.Ytmidfhcfnemkoaa
open Go.ChangeShapes Go.WideShapes Go.ChangeAt Go.RowKit

theorem ret_eq {k : IntKind} {a b : Int} (h : a = b) : Ending.returned (.int k a) = .returned (.int k b) := by rw [h]

theorem abs_any (x : Int) (w : World) (h1 : -1000 ≤ x) (h2 : x ≤ 1000) :
    Calls Try.prog 21 #[.int .i64 x] w fun e w' => e = .returned (.int .i64 (absI x)) ∧ w = w' := by
  go_enter Try.func21, Try.ntmps21
  go_wp2
  go_ret
  exact ⟨ret_eq (abs_walk x (by omega) (by omega)), rfl⟩
end Go.Proofs.Ytmidfhcfnemkoaa
