/- The contracts of abs and paeth of the package: what they return, for bytes. -/
import Derived.Test.YtbliooncenbboaaRows
import Derived.Test.YtbliooncenbboaaMath
import Derived.WalkKit
import Derived.ProofKit
import Derived.OpenShut
import Derived.Lib.Hide
namespace Go.Proofs.Ytbliooncenbboaa
open Go.ChangeShapes Go.WideShapes Go.ChangeAt Go.RowKit

theorem ret_int {k : IntKind} {a b : Int} (h : a = b) : Ending.returned (.int k a) = .returned (.int k b) := by rw [h]

theorem abs_any (x : Int) (w : World) (h1 : -1000 ≤ x) (h2 : x ≤ 1000) :
    Calls Try.prog 10 #[.int .i64 x] w fun e w' => e = .returned (.int .i64 (absI x)) ∧ w = w' := by
  go_enter Try.func10, Try.ntmps10
  go_wp2
  go_ret
  exact ⟨ret_int (abs_walk x (by omega) (by omega)), rfl⟩

theorem paeth_any (a b c : Int) (w : World) (ha : 0 ≤ a ∧ a ≤ 255) (hb : 0 ≤ b ∧ b ≤ 255) (hc : 0 ≤ c ∧ c ≤ 255) :
    Calls Try.prog 9 #[.int .u8 a, .int .u8 b, .int .u8 c] w fun e w' => e = .returned (.int .u8 (paethI a b c)) ∧ w = w' := by
  obtain ⟨ha1, ha2⟩ := ha
  obtain ⟨hb1, hb2⟩ := hb
  obtain ⟨hc1, hc2⟩ := hc
  have p1 := absI_nonneg (b - c)
  have p2 := absI_nonneg (a - c)
  have p3 := absI_nonneg (b - c + (a - c))
  have q1 := absI_le (b - c) 255 (by omega) (by omega)
  have q2 := absI_le (a - c) 255 (by omega) (by omega)
  have q3 := absI_le (b - c + (a - c)) 510 (by omega) (by omega)
  go_enter Try.func9, Try.ntmps9
  go_wp2_with (go_at_call 10; refine (abs_any _ _ (by omega) (by omega)).mono ?_; rintro e w' ⟨rfl, rfl⟩)
  all_goals (go_ret; exact ⟨ret_int (by unfold paethI; (repeat' split) <;> omega), rfl⟩)

theorem zzPaeth_any (a b c : Int) (w : World) (ha : 0 ≤ a ∧ a ≤ 255) (hb : 0 ≤ b ∧ b ≤ 255) (hc : 0 ≤ c ∧ c ≤ 255) :
    Calls Try.prog 7 #[.int .u8 a, .int .u8 b, .int .u8 c] w fun e w' => e = .returned (.int .u8 (paethI a b c)) ∧ w = w' := by
  go_enter Try.func7, Try.ntmps7
  go_wp2_with (go_at_call 9; refine (paeth_any _ _ _ _ ha hb hc).mono ?_; rintro e w' ⟨rfl, rfl⟩)
  go_ret
  exact ⟨rfl, rfl⟩

theorem implPaeth_any (a b c : Int) (w : World) (ha : 0 ≤ a ∧ a ≤ 255) (hb : 0 ≤ b ∧ b ≤ 255) (hc : 0 ≤ c ∧ c ≤ 255) :
    Calls Try.prog 5 #[.int .u8 a, .int .u8 b, .int .u8 c] w fun e w' => e = .returned (.int .u8 (paethI a b c)) ∧ w = w' := by
  go_enter Try.func5, Try.ntmps5
  go_wp2_with (go_at_call 7; refine (zzPaeth_any _ _ _ _ ha hb hc).mono ?_; rintro e w' ⟨rfl, rfl⟩)
  go_ret
  exact ⟨rfl, rfl⟩
end Go.Proofs.Ytbliooncenbboaa
