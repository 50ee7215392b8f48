/- The contracts of distance and Paeth of the reference: the same predictor. -/
import Derived.Test.YtmidfhcfnemkoaaAbs
namespace Go.Proofs.Ytmidfhcfnemkoaa
open Go.ChangeShapes Go.WideShapes Go.ChangeAt Go.RowKit

theorem distance_any (a b : Int) (w : World) (h1 : -100000 ≤ a ∧ a ≤ 100000) (h2 : -100000 ≤ b ∧ b ≤ 100000) :
    Calls Try.prog 22 #[.int .i64 a, .int .i64 b] w fun e w' => e = .returned (.int .i64 (absI (a - b))) ∧ w = w' := by
  obtain ⟨a1, a2⟩ := h1
  obtain ⟨b1, b2⟩ := h2
  go_enter Try.func22, Try.ntmps22
  go_wp2
  all_goals (go_ret; exact ⟨ret_eq (by unfold absI; omega), rfl⟩)

theorem specPaeth_any (a b c : Int) (w : World) (ha : 0 ≤ a ∧ a ≤ 255) (hb : 0 ≤ b ∧ b ≤ 255) (hc : 0 ≤ c ∧ c ≤ 255) :
    Calls Try.prog 19 #[.int .i64 a, .int .i64 b, .int .i64 c] w fun e w' => e = .returned (.int .i64 (paethI a b c)) ∧ w = w' := by
  obtain ⟨ha1, ha2⟩ := ha
  obtain ⟨hb1, hb2⟩ := hb
  obtain ⟨hc1, hc2⟩ := hc
  have p1 := absI_nonneg (a + b - c - a)
  have p2 := absI_nonneg (a + b - c - b)
  have p3 := absI_nonneg (a + b - c - c)
  have q1 := absI_le (a + b - c - a) 510 (by omega) (by omega)
  have q2 := absI_le (a + b - c - b) 510 (by omega) (by omega)
  have q3 := absI_le (a + b - c - c) 510 (by omega) (by omega)
  go_enter Try.func19, Try.ntmps19
  go_wp2_with (go_at_call 22; refine (distance_any _ _ _ (by omega) (by omega)).mono ?_; rintro e w' ⟨rfl, rfl⟩)
  all_goals (go_ret; refine ⟨ret_eq ?_, rfl⟩; (have e1 : a + b - c - a = b - c := by omega); (have e2 : a + b - c - b = a - c := by omega); (have e3 : a + b - c - c = b - c + (a - c) := by omega); simp only [e1, e2, e3] at *; unfold paethI; (repeat' split) <;> omega)
end Go.Proofs.Ytmidfhcfnemkoaa
