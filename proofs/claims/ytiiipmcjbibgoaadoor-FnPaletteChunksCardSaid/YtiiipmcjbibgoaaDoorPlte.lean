/- The contract of the decoder's parsePLTE. -/
import Derived.Test.YtiiipmcjbibgoaaDoorRdHead
import Derived.Deep.DeepCutAuto
import Derived.Outline
namespace Go.Proofs.YtiiipmcjbibgoaaDoor
open Go.ChangeShapes Go.WideShapes Go.ChangeAt Go.RowKit Go.IntWalk

/-- So many bytes are no palette's. -/
def badLen (n dp : Nat) : Prop := n % 3 ≠ 0 ∨ n / 3 = 0 ∨ 256 < n / 3 ∨ 2 ^ dp < n / 3
def badLenV : Value := .iface 94 (.string ⟨#[98, 97, 100, 32, 80, 76, 84, 69, 32, 108, 101, 110, 103, 116, 104]⟩)
theorem dp_cases {dp : Nat} (h : dp = 1 ∨ dp = 2 ∨ dp = 4 ∨ dp = 8 ∨ dp = 16) : 2 ^ dp ≤ 65536 := by
  rcases h with rfl | rfl | rfl | rfl | rfl <;> decide
/-- What the length's test tells. -/
theorem plte_bad (b n dp : Nat) (hn : n ≤ 1000) (hdp : dp = 1 ∨ dp = 2 ∨ dp = 4 ∨ dp = 8 ∨ dp = 16) (hbad : badLen n dp) (w : World) (hc : w.cell? ⟨b, 5, none⟩ = some (.int .i64 (dp : Int))) :
    Calls Tryd.prog 39 #[.pointer (some ⟨b, 0, none⟩), .int .u32 (n : Int)] w fun e w' => e = .returned badLenV ∧ w = w' := by
  obtain ⟨np, hnp⟩ : ∃ np, np = n / 3 := ⟨_, rfl⟩
  obtain ⟨rm, hrm⟩ : ∃ rm, rm = n % 3 := ⟨_, rfl⟩
  have e1 : (n : Int).tdiv 3 = (np : Int) := by rw [Int.tdiv_eq_ediv_of_nonneg (by omega)]; omega
  have e2 : (n : Int).tmod 3 = (rm : Int) := by rw [Int.tmod_eq_emod_of_nonneg (by omega)]; omega
  have e3 : (n : Int) / 3 = (np : Int) := by omega
  have e4 : (n : Int) % 3 = (rm : Int) := by omega
  have hb : rm ≠ 0 ∨ np = 0 ∨ 256 < np ∨ 2 ^ dp < np := by rw [hnp, hrm]; exact hbad
  clear hnp hrm hbad
  by_cases h1 : rm = 0
  case neg =>
    have y : ((rm : Int) != 0) = true := by simp; omega
    go_enter Tryd.func39, Tryd.ntmps39
    go_wp2_with fail
    go_ret
    exact ⟨rfl, rfl⟩
  obtain rfl := h1
  by_cases h2 : np = 0
  · obtain rfl := h2
    go_enter Tryd.func39, Tryd.ntmps39
    go_wp2_with fail
    go_ret
    exact ⟨rfl, rfl⟩
  have y2 : (0 : Int) < (np : Int) := by omega
  by_cases h3 : 256 < np
  · have y3 : (256 : Int) < (np : Int) := by omega
    go_enter Tryd.func39, Tryd.ntmps39
    go_wp2_with fail
    go_ret
    exact ⟨rfl, rfl⟩
  have y3 : (np : Int) ≤ 256 := by omega
  have h4 : 2 ^ dp < np := by omega
  rcases hdp with rfl | rfl | rfl | rfl | rfl
  all_goals
    first
      | (exfalso; omega)
      | (have y4 := h4
         simp at y4
         go_enter Tryd.func39, Tryd.ntmps39
         go_wp2_with fail
         go_ret
         exact ⟨rfl, rfl⟩)
end Go.Proofs.YtiiipmcjbibgoaaDoor
