/- The contracts of the reference's Weight and of the laws' rowsOk. -/
import Derived.Test.YtmidfhcfnemkoaaPaeth
import Derived.Test.YtmidfhcfnemkoaaFilterMath
import Derived.Test.YtmidfhcfnemkoaaBytes
import Derived.Test.YtmidfhcfnemkoaaSeg
import Derived.Deep.QuietTactic
import Derived.BigQuiet
namespace Go.Proofs.Ytmidfhcfnemkoaa
open Go.ChangeShapes Go.WideShapes Go.ChangeAt Go.RowKit Go.IntWalk

set_option maxHeartbeats 800000 in
theorem specWeight_any (ad : Option Addr) (n cap : Nat) (l : List UInt8) (w : World) (hn : Hid (l.length = n)) (hr : RB w ad l) (hm : n ≤ 1000000) :
    Calls Try.prog 13 #[.slice ad n cap] w fun e w' => e = .returned (.int .i64 (weight l : Int)) ∧ w = w' := by
  go_enter Try.func13, Try.ntmps13
  go_wp2_with fail
  go_loop [3, 8] (fun s i => ∃ t sm : Nat, t ≤ n ∧ i = .int .i64 t ∧ s = .int .i64 sm ∧ Hid (sm = weight (l.take t)) ∧ sm ≤ 128 * t) (fun _ i => n - (intOf i).toNat)
  case atStart => exact ⟨0, 0, Nat.zero_le _, rfl, rfl, Lib.hid (by simp [weight]), Nat.zero_le _⟩
  case round =>
    obtain ⟨t, sm, ht, rfl, rfl, hsm, hbd⟩ := hrel
    by_cases hlt : t < n
    · obtain ⟨b, o, rfl, -⟩ := hr (by have := hn.out; intro e; rw [e] at this; simp at this; omega)
      obtain ⟨x, HX, hx⟩ := hr.at t (by rw [hn.out]; exact hlt)
      have rx := u8lt x
      have i0 : (0 : Int) ≤ (t : Int) := by omega
      have i1 : (t : Int) < (n : Int) := by omega
      have hw := absB_le x
      obtain ⟨sm2, hsm2⟩ : ∃ q, q = sm + absB x := ⟨_, rfl⟩
      have HS2 : Hid (sm2 = weight (l.take (t + 1))) := Lib.hid (by rw [hsm2, List.take_add_one, HX.out]; simp only [Option.toList]; rw [weight_snoc, ← hsm.out])
      have hbd2 : sm2 ≤ 128 * (t + 1) := by omega
      have e1 : IntKind.i64.wrap (x.toNat : Int) = (x.toNat : Int) := i64_in _ ⟨by omega, by omega⟩
      have hq : (sm : Int) + (if 256 - (x.toNat : Int) < (x.toNat : Int) then 256 - (x.toNat : Int) else (x.toNat : Int)) = (sm2 : Int) := by
        rw [hsm2]
        unfold absB
        split <;> omega
      clear hsm2
      go_wp2_with fail
      go_round
      case rel => exact ⟨t + 1, sm2, by omega, by go_num, rfl, HS2, hbd2⟩
      case measure => simp [intOf]; omega
    · obtain rfl : n = t := by omega
      go_wp2_with fail
      go_ret
      exact ⟨ret_eq (by rw [hsm.out, List.take_of_length_le (Nat.le_of_eq hn.out)]), rfl⟩

theorem rowsOk_yes (a0 a1 : Option Addr) (n c0 c1 step : Nat) (w : World) (h1 : n ≤ 4096) (hs1 : 1 ≤ step) (hs2 : step ≤ 8) (hle : step ≤ n) :
    Calls Try.prog 11 #[.slice a0 n c0, .slice a1 n c1, .int .u8 (step : Int)] w fun e w' => e = .returned (.bool true) ∧ w = w' := by
  have c2 : decide ((n : Int) ≤ 4096) = true := decide_eq_true (by omega)
  have c3 : decide ((1 : Int) ≤ (step : Int)) = true := decide_eq_true (by omega)
  have c4 : decide ((step : Int) ≤ 8) = true := decide_eq_true (by omega)
  have c7 : decide ((step : Int) ≤ (n : Int)) = true := decide_eq_true (by omega)
  have k1 : IntKind.i64.wrap (step : Int) = (step : Int) := i64_in _ ⟨by omega, by omega⟩
  go_enter Try.func11, Try.ntmps11
  go_wp2_with fail
  all_goals first | (exfalso; omega) | skip
  all_goals go_ret
  all_goals exact ⟨rfl, rfl⟩
theorem rowsOk_no (a0 a1 : Option Addr) (n m c0 c1 step : Nat) (w : World) (hstep : step ≤ 255) (h : ¬ (m = n ∧ n ≤ 4096 ∧ 1 ≤ step ∧ step ≤ 8 ∧ step ≤ n)) :
    Calls Try.prog 11 #[.slice a0 n c0, .slice a1 m c1, .int .u8 (step : Int)] w fun e w' => e = .returned (.bool false) ∧ w = w' := by
  have k1 : IntKind.i64.wrap (step : Int) = (step : Int) := i64_in _ ⟨by omega, by omega⟩
  go_enter Try.func11, Try.ntmps11
  go_wp2_with fail
  all_goals first | (exfalso; omega) | skip
  all_goals go_ret
  all_goals refine ⟨?_, rfl⟩
  all_goals first | rfl | (simp; omega) | trace_state
end Go.Proofs.Ytmidfhcfnemkoaa
