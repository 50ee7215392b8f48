/- The contract of paeth of the package: the predictor, for bytes. -/
import Derived.Test.YtmidfhcfnemkoaaAbs
namespace Go.Proofs.Ytmidfhcfnemkoaa
open Go.ChangeShapes Go.WideShapes Go.ChangeAt Go.RowKit

theorem paeth_any (a b c : Int) (w : World) (ha : 0 ≤ a ∧ a ≤ 255) (hb : 0 ≤ b ∧ b ≤ 255) (hc : 0 ≤ c ∧ c ≤ 255) :
    Calls Try.prog 24 #[.int .u8 a, .int .u8 b, .int .u8 c] w fun e w' => e = .returned (.int .u8 (paethI a b c)) ∧ w = w' := by
  obtain ⟨ha1, ha2⟩ := ha
  obtain ⟨hb1, hb2⟩ := hb
  obtain ⟨hc1, hc2⟩ := hc
  have p1 := absI_nonneg (b - c)
  have p2 := absI_nonneg (a - c)
  have p3 := absI_nonneg (b - c + (a - c))
  have q1 := absI_le (b - c) 255 (by omega) (by omega)
  have q2 := absI_le (a - c) 255 (by omega) (by omega)
  have q3 := absI_le (b - c + (a - c)) 510 (by omega) (by omega)
  go_enter Try.func24, Try.ntmps24
  go_wp2_with (go_at_call 21; refine (abs_any _ _ (by omega) (by omega)).mono ?_; rintro e w' ⟨rfl, rfl⟩)
  all_goals (go_ret; exact ⟨ret_eq (by unfold paethI; (repeat' split) <;> omega), rfl⟩)
end Go.Proofs.Ytmidfhcfnemkoaa
