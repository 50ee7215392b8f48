/- The contract of the reference's predicted: what a filter takes from the byte at a place. It only reads. -/
import Derived.Test.YtmidfhcfnemkoaaSpecPaeth
import Derived.Test.YtmidfhcfnemkoaaFilterMath
import Derived.Test.YtmidfhcfnemkoaaSeg
import Derived.Deep.QuietTactic
import Derived.BigQuiet
namespace Go.Proofs.Ytmidfhcfnemkoaa
open Go.ChangeShapes Go.WideShapes Go.ChangeAt Go.RowKit Go.IntWalk

/-- What the call leaves: the number, and some draws. -/
def Quietly (z : Int) (w : World) (e : Ending) (w' : World) : Prop := e = .returned (.int .i64 z) ∧ ∃ n, w' = w.drewN n

set_option maxHeartbeats 1600000 in
set_option maxRecDepth 100000 in
theorem predicted_any (k b o n cap c po n2 cap2 i step : Nat) (row above : List UInt8) (w : World) (hk : k ≤ 4) (hn : Hid (row.length = n)) (hr : RB w (some ⟨b, o, none⟩) row)
    (hn2 : Hid (above.length = n2)) (hab : RB w (some ⟨c, po, none⟩) above) (hi : i < n) (hi2 : i < n2) (hs1 : 1 ≤ step) (hs2 : step ≤ 8) (hm : n ≤ 9223372036854775807) :
    Calls Try.prog 16 #[.int .i64 (k : Int), .slice (some ⟨b, o, none⟩) n cap, .slice (some ⟨c, po, none⟩) n2 cap2, .int .i64 (i : Int), .int .i64 (step : Int)] w (Quietly (predZ k row above step i) w) := by
  obtain ⟨y, HY, hy⟩ := hab.at i (by have := hn2.out; omega)
  have ry := u8lt y
  have j0 : (0 : Int) ≤ (i : Int) := by omega
  have j1 : (i : Int) < (n2 : Int) := by omega
  by_cases hle : step ≤ i
  · obtain ⟨x, HX, hx⟩ := hr.at (i - step) (by have := hn.out; omega)
    obtain ⟨z, HZ, hz⟩ := hab.at (i - step) (by have := hn2.out; omega)
    have rx := u8lt x
    have rz := u8lt z
    have j2 : (0 : Int) ≤ (i : Int) - (step : Int) := by omega
    have j3 : (i : Int) - (step : Int) < (n : Int) := by omega
    have j4 : (i : Int) - (step : Int) < (n2 : Int) := by omega
    have HP : Hid (predZ k row above step i = predI k (x.toNat : Int) (y.toNat : Int) (z.toNat : Int)) := Lib.hid (by
      unfold predZ aval
      rw [if_pos hle, if_pos hle]
      simp only [List.getD, HX.out, HY.out, HZ.out, Option.getD_some])
    rw [HP.out]
    clear hr hab
    obtain rfl | rfl | rfl | rfl | rfl : k = 0 ∨ k = 1 ∨ k = 2 ∨ k = 3 ∨ k = 4 := by omega
    · go_enter Try.func16, Try.ntmps16
      go_wp2_with fail
      go_quiet (fail)
      go_wp2_with fail
      go_quiet (fail)
      go_wp2_with fail
      go_ret
      exact ⟨ret_eq (by simp [predI]), _, rfl⟩
    · go_enter Try.func16, Try.ntmps16
      go_wp2_with fail
      go_quiet (fail)
      go_wp2_with fail
      go_quiet (fail)
      go_wp2_with fail
      go_ret
      exact ⟨ret_eq (by simp [predI]), _, rfl⟩
    · go_enter Try.func16, Try.ntmps16
      go_wp2_with fail
      go_quiet (fail)
      go_wp2_with fail
      go_quiet (fail)
      go_wp2_with fail
      go_ret
      exact ⟨ret_eq (by simp [predI]), _, rfl⟩
    · go_enter Try.func16, Try.ntmps16
      go_wp2_with fail
      go_quiet (fail)
      go_wp2_with fail
      go_quiet (fail)
      go_wp2_with fail
      go_ret
      exact ⟨ret_eq (by simp [predI]), _, rfl⟩
    · go_enter Try.func16, Try.ntmps16
      go_wp2_with fail
      go_quiet (fail)
      go_wp2_with fail
      go_quiet (fail)
      go_wp2_with (go_at_call 19; refine (specPaeth_any _ _ _ _ ⟨by omega, by omega⟩ ⟨by omega, by omega⟩ ⟨by omega, by omega⟩).mono ?_; rintro e w' ⟨rfl, rfl⟩)
      go_ret
      exact ⟨ret_eq (by simp [predI]), _, rfl⟩
  · have HP : Hid (predZ k row above step i = predI k 0 (y.toNat : Int) 0) := Lib.hid (by
      unfold predZ aval
      rw [if_neg hle, if_neg hle]
      simp only [List.getD, HY.out, Option.getD_some]
      rfl)
    rw [HP.out]
    clear hr hab
    obtain rfl | rfl | rfl | rfl | rfl : k = 0 ∨ k = 1 ∨ k = 2 ∨ k = 3 ∨ k = 4 := by omega
    · go_enter Try.func16, Try.ntmps16
      go_wp2_with fail
      go_quiet (fail)
      go_wp2_with fail
      go_ret
      exact ⟨ret_eq (by simp [predI]), _, rfl⟩
    · go_enter Try.func16, Try.ntmps16
      go_wp2_with fail
      go_quiet (fail)
      go_wp2_with fail
      go_ret
      exact ⟨ret_eq (by simp [predI]), _, rfl⟩
    · go_enter Try.func16, Try.ntmps16
      go_wp2_with fail
      go_quiet (fail)
      go_wp2_with fail
      go_ret
      exact ⟨ret_eq (by simp [predI]), _, rfl⟩
    · go_enter Try.func16, Try.ntmps16
      go_wp2_with fail
      go_quiet (fail)
      go_wp2_with fail
      go_ret
      exact ⟨ret_eq (by simp [predI]), _, rfl⟩
    · go_enter Try.func16, Try.ntmps16
      go_wp2_with fail
      go_quiet (fail)
      go_wp2_with (go_at_call 19; refine (specPaeth_any _ _ _ _ ⟨by omega, by omega⟩ ⟨by omega, by omega⟩ ⟨by omega, by omega⟩).mono ?_; rintro e w' ⟨rfl, rfl⟩)
      go_ret
      exact ⟨ret_eq (by simp [predI]), _, rfl⟩
end Go.Proofs.Ytmidfhcfnemkoaa
