/- The thin package's small tables: the number of a colour type with so many bits; what is told of an error of form. -/
import Derived.Test.YtkiibhpmembcgaaDoorGBase
import Derived.Outline
namespace Go.Proofs.YtkiibhpmembcgaaDoor
open Go.ChangeShapes Go.WideShapes Go.ChangeAt Go.RowKit Go.IntWalk

theorem assert_format (s : ByteArray) (w : World) : (Instr.typeAssert (.iface 80 (.string s)) 54 80 true).run Tryd.prog w = .ok (.tuple #[.string s, .bool true]) w := by kernel_rfl
theorem partCode_nil (w : World) : Calls Tryd.prog 23 #[.nilIface] w fun e w' => e = .returned (.int .i64 0) ∧ w = w' := by
  go_enter Tryd.func23, Tryd.ntmps23
  go_wp2_with fail
  go_ret
  exact ⟨rfl, rfl⟩
set_option maxRecDepth 100000 in
theorem partCode_format (s : ByteArray) (w : World) : Calls Tryd.prog 23 #[.iface 80 (.string s)] w fun e w' => e = .returned (.int .i64 1) ∧ w = w' := by
  have h1 := assert_format s
  go_enter Tryd.func23, Tryd.ntmps23
  go_wp2_with fail
  go_ret
  exact ⟨rfl, rfl⟩
/-- The package's number of a hundred times the colour type and the bits a sample; nought where there is none. -/
def rk (n : Nat) : Nat := if n = 1 then 1 else if n = 2 then 2 else if n = 4 then 3 else if n = 8 then 4 else if n = 16 then 12 else if n = 208 then 6 else if n = 216 then 14 else if n = 301 then 7 else if n = 302 then 8 else if n = 304 then 9 else if n = 308 then 10 else if n = 408 then 5 else if n = 416 then 13 else if n = 608 then 11 else if n = 616 then 15 else 0
theorem ite_le {p : Prop} [Decidable p] {a b k : Nat} (ha : a ≤ k) (hb : b ≤ k) : (if p then a else b) ≤ k := by split <;> assumption
theorem rk_le (n : Nat) : rk n ≤ 15 := by
  unfold rk
  repeat' (first | exact Nat.le_of_ble_eq_true rfl | refine ite_le ?_ ?_)

set_option maxHeartbeats 1600000 in
theorem rowKind_any (c d : Nat) (hc : c ≤ 255) (hd : d ≤ 255) (w : World) :
    Calls Tryd.prog 19 #[.int .i64 (c : Int), .int .i64 (d : Int)] w fun e w' => e = .returned (.int .i64 (rk (100 * c + d) : Int)) ∧ w = w' := by
  obtain ⟨n, hn⟩ : ∃ n, n = 100 * c + d := ⟨_, rfl⟩
  have en : (100 : Int) * (c : Int) + (d : Int) = (n : Int) := by omega
  rw [← hn]
  clear hn
  by_cases x1 : n = 1
  · obtain rfl := x1
    go_enter Tryd.func19, Tryd.ntmps19
    go_wp2_with fail
    go_ret
    exact ⟨rfl, rfl⟩
  by_cases x2 : n = 2
  · obtain rfl := x2
    go_enter Tryd.func19, Tryd.ntmps19
    go_wp2_with fail
    go_ret
    exact ⟨rfl, rfl⟩
  by_cases x4 : n = 4
  · obtain rfl := x4
    go_enter Tryd.func19, Tryd.ntmps19
    go_wp2_with fail
    go_ret
    exact ⟨rfl, rfl⟩
  by_cases x8 : n = 8
  · obtain rfl := x8
    go_enter Tryd.func19, Tryd.ntmps19
    go_wp2_with fail
    go_ret
    exact ⟨rfl, rfl⟩
  by_cases x16 : n = 16
  · obtain rfl := x16
    go_enter Tryd.func19, Tryd.ntmps19
    go_wp2_with fail
    go_ret
    exact ⟨rfl, rfl⟩
  by_cases x208 : n = 208
  · obtain rfl := x208
    go_enter Tryd.func19, Tryd.ntmps19
    go_wp2_with fail
    go_ret
    exact ⟨rfl, rfl⟩
  by_cases x216 : n = 216
  · obtain rfl := x216
    go_enter Tryd.func19, Tryd.ntmps19
    go_wp2_with fail
    go_ret
    exact ⟨rfl, rfl⟩
  by_cases x301 : n = 301
  · obtain rfl := x301
    go_enter Tryd.func19, Tryd.ntmps19
    go_wp2_with fail
    go_ret
    exact ⟨rfl, rfl⟩
  by_cases x302 : n = 302
  · obtain rfl := x302
    go_enter Tryd.func19, Tryd.ntmps19
    go_wp2_with fail
    go_ret
    exact ⟨rfl, rfl⟩
  by_cases x304 : n = 304
  · obtain rfl := x304
    go_enter Tryd.func19, Tryd.ntmps19
    go_wp2_with fail
    go_ret
    exact ⟨rfl, rfl⟩
  by_cases x308 : n = 308
  · obtain rfl := x308
    go_enter Tryd.func19, Tryd.ntmps19
    go_wp2_with fail
    go_ret
    exact ⟨rfl, rfl⟩
  by_cases x408 : n = 408
  · obtain rfl := x408
    go_enter Tryd.func19, Tryd.ntmps19
    go_wp2_with fail
    go_ret
    exact ⟨rfl, rfl⟩
  by_cases x416 : n = 416
  · obtain rfl := x416
    go_enter Tryd.func19, Tryd.ntmps19
    go_wp2_with fail
    go_ret
    exact ⟨rfl, rfl⟩
  by_cases x608 : n = 608
  · obtain rfl := x608
    go_enter Tryd.func19, Tryd.ntmps19
    go_wp2_with fail
    go_ret
    exact ⟨rfl, rfl⟩
  by_cases x616 : n = 616
  · obtain rfl := x616
    go_enter Tryd.func19, Tryd.ntmps19
    go_wp2_with fail
    go_ret
    exact ⟨rfl, rfl⟩
  have v1 : ((n : Int) == 1) = false := by simp; omega
  have v2 : ((n : Int) == 2) = false := by simp; omega
  have v4 : ((n : Int) == 4) = false := by simp; omega
  have v8 : ((n : Int) == 8) = false := by simp; omega
  have v16 : ((n : Int) == 16) = false := by simp; omega
  have v208 : ((n : Int) == 208) = false := by simp; omega
  have v216 : ((n : Int) == 216) = false := by simp; omega
  have v301 : ((n : Int) == 301) = false := by simp; omega
  have v302 : ((n : Int) == 302) = false := by simp; omega
  have v304 : ((n : Int) == 304) = false := by simp; omega
  have v308 : ((n : Int) == 308) = false := by simp; omega
  have v408 : ((n : Int) == 408) = false := by simp; omega
  have v416 : ((n : Int) == 416) = false := by simp; omega
  have v608 : ((n : Int) == 608) = false := by simp; omega
  have v616 : ((n : Int) == 616) = false := by simp; omega
  go_enter Tryd.func19, Tryd.ntmps19
  go_wp2_with fail
  go_ret
  exact ⟨by simp [rk, x1, x2, x4, x8, x16, x208, x216, x301, x302, x304, x308, x408, x416, x608, x616], rfl⟩

/-- The fifteen kinds, as the thin package lists them. -/
def kinds : List Nat := [1, 2, 4, 8, 16, 208, 216, 301, 302, 304, 308, 408, 416, 608, 616]
theorem kinds_le : ∀ x ∈ kinds, x ≤ 616 := by decide
/-- What is told of a number of the package. -/
def ColEnd (k : Nat) (w : World) (e : Ending) (w' : World) : Prop :=
  Below w.heap.size w w' ∧ ((∃ x ∈ kinds, rk x = k ∧ e = .returned (.tuple #[.int .i64 ((x / 100 : Nat) : Int), .int .i64 ((x % 100 : Nat) : Int), .bool true])) ∨ ((∀ x ∈ kinds, rk x ≠ k) ∧ e = .returned (.tuple #[.int .i64 0, .int .i64 0, .bool false])))
end Go.Proofs.YtkiibhpmembcgaaDoor
