/- The walk through the law FnMerge, both ways together. -/
import Derived.Test.YtcfafomnoejemaaDoorMgLaw
namespace Go.Proofs.YtcfafomnoejemaaDoor
open Go.ChangeShapes Go.WideShapes Go.ChangeAt Go.RowKit Go.IntWalk

set_option maxHeartbeats 1600000 in
set_option maxRecDepth 100000 in
theorem mergeLaw (x0 x1 x2 x3 len4 cap4 len5 cap5 : Nat) (ad4 ad5 : Option Addr) (l4 l5 : List UInt8) (w : World) (b0 : x0 < 256) (b1 : x1 < 256) (b2 : x2 < 256) (b3 : x3 < 256)
    (h4 : Hid (InB w ad4 len4 cap4 l4)) (h5 : Hid (InB w ad5 len5 cap5 l5)) (hI : Hid (Inter w)) :
    Calls Tryd.prog 3 #[.int .u8 (x0 : Int), .int .u8 (x1 : Int), .int .u8 (x2 : Int), .int .u8 (x3 : Int), .slice ad4 len4 cap4, .slice ad5 len5 cap5] w (TrueEnd w) := by
  by_cases hbig : 2147483647 < len4 ∨ 2147483647 < len5
  · have n4 : len4 ≤ 9223372036854775807 := Nat.le_trans h4.out.hcap h4.out.most
    have n5 : len5 ≤ 9223372036854775807 := Nat.le_trans h5.out.hcap h5.out.most
    have hcase : decide ((2147483647 : Int) < (len4 : Int)) = true ∨ (decide ((2147483647 : Int) < (len4 : Int)) = false ∧ decide ((2147483647 : Int) < (len5 : Int)) = true) := by
      by_cases h1 : 2147483647 < len4
      · exact .inl (decide_eq_true (by omega))
      · exact .inr ⟨decide_eq_false (by omega), decide_eq_true (by omega)⟩
    clear hbig n4 n5
    rcases hcase with q1 | ⟨q1, q2⟩
    all_goals
      go_enter Tryd.func3, Tryd.ntmps3
      go_wp2_with fail
      go_ret
      exact ⟨rfl, Below.refl _ _⟩
  · by_cases hk : x0 % 7 = 6
    · exact mergeLaw_pal x0 x1 x2 x3 len4 cap4 len5 cap5 ad4 ad5 l4 l5 w b0 b1 b2 b3 h4 h5 (by omega) (by omega) hI hk
    · exact mergeLaw_plain x0 x1 x2 x3 len4 cap4 len5 cap5 ad4 ad5 l4 l5 w b0 b1 b2 b3 h4 h5 (by omega) (by omega) hI hk
end Go.Proofs.YtcfafomnoejemaaDoor
