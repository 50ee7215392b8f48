/- The thin package's small tables: the number of a colour type with so many bits, and back; what is told of an error. -/
import Derived.Test.YtiiipmcjbibgoaaDoorIhdr
namespace Go.Proofs.YtiiipmcjbibgoaaDoor
open Go.ChangeShapes Go.WideShapes Go.ChangeAt Go.RowKit Go.IntWalk

theorem assert_format (s : ByteArray) (w : World) : (Instr.typeAssert (.iface 94 (.string s)) 59 94 true).run Tryd.prog w = .ok (.tuple #[.string s, .bool true]) w := by kernel_rfl
theorem assert_other (s : ByteArray) (w : World) : (Instr.typeAssert (.iface 95 (.string s)) 59 94 true).run Tryd.prog w = .ok (.tuple #[.string ⟨#[]⟩, .bool false]) w := by kernel_rfl
theorem assert_feature (s : ByteArray) (w : World) : (Instr.typeAssert (.iface 95 (.string s)) 59 95 true).run Tryd.prog w = .ok (.tuple #[.string s, .bool true]) w := by kernel_rfl
theorem partCode_nil (w : World) : Calls Tryd.prog 28 #[.nilIface] w fun e w' => e = .returned (.int .i64 0) ∧ w = w' := by
  go_enter Tryd.func28, Tryd.ntmps28
  go_wp2_with fail
  go_ret
  exact ⟨rfl, rfl⟩
set_option maxRecDepth 100000 in
theorem partCode_format (s : ByteArray) (w : World) : Calls Tryd.prog 28 #[.iface 94 (.string s)] w fun e w' => e = .returned (.int .i64 1) ∧ w = w' := by
  have h1 := assert_format s
  go_enter Tryd.func28, Tryd.ntmps28
  go_wp2_with fail
  go_ret
  exact ⟨rfl, rfl⟩
set_option maxRecDepth 100000 in
theorem partCode_feature (s : ByteArray) (w : World) : Calls Tryd.prog 28 #[.iface 95 (.string s)] w fun e w' => e = .returned (.int .i64 2) ∧ w = w' := by
  have h1 := assert_other s
  have h2 := assert_feature s
  go_enter Tryd.func28, Tryd.ntmps28
  go_wp2_with fail
  go_ret
  exact ⟨rfl, rfl⟩
/-- What is told of an error is 1 or 2. -/
theorem partCode_err (v : Value) (hv : ErrV v) (w : World) : Calls Tryd.prog 28 #[v] w fun e w' => (∃ z : Int, e = .returned (.int .i64 z) ∧ 1 ≤ z ∧ z ≤ 2) ∧ w = w' := by
  obtain ⟨s, rfl | rfl⟩ := hv
  · exact (partCode_format s w).mono fun e w' h => ⟨⟨1, h.1, by omega, by omega⟩, h.2⟩
  · exact (partCode_feature s w).mono fun e w' h => ⟨⟨2, h.1, by omega, by omega⟩, h.2⟩

/-- The package's number of a hundred times the colour type and the bits a sample; nought where there is none. -/
def rk (n : Nat) : Nat := if n = 1 then 1 else if n = 2 then 2 else if n = 4 then 3 else if n = 8 then 4 else if n = 16 then 12 else if n = 208 then 6 else if n = 216 then 14 else if n = 301 then 7 else if n = 302 then 8 else if n = 304 then 9 else if n = 308 then 10 else if n = 408 then 5 else if n = 416 then 13 else if n = 608 then 11 else if n = 616 then 15 else 0
theorem ite_le {p : Prop} [Decidable p] {a b k : Nat} (ha : a ≤ k) (hb : b ≤ k) : (if p then a else b) ≤ k := by split <;> assumption
theorem rk_le (n : Nat) : rk n ≤ 15 := by
  unfold rk
  repeat' (first | exact Nat.le_of_ble_eq_true rfl | refine ite_le ?_ ?_)

set_option maxHeartbeats 1600000 in
theorem rowKind_any (c d : Nat) (hc : c ≤ 255) (hd : d ≤ 255) (w : World) :
    Calls Tryd.prog 27 #[.int .i64 (c : Int), .int .i64 (d : Int)] w fun e w' => e = .returned (.int .i64 (rk (100 * c + d) : Int)) ∧ w = w' := by
  obtain ⟨n, hn⟩ : ∃ n, n = 100 * c + d := ⟨_, rfl⟩
  have en : (100 : Int) * (c : Int) + (d : Int) = (n : Int) := by omega
  rw [← hn]
  clear hn
  by_cases x1 : n = 1
  · obtain rfl := x1
    go_enter Tryd.func27, Tryd.ntmps27
    go_wp2_with fail
    go_ret
    exact ⟨rfl, rfl⟩
  by_cases x2 : n = 2
  · obtain rfl := x2
    go_enter Tryd.func27, Tryd.ntmps27
    go_wp2_with fail
    go_ret
    exact ⟨rfl, rfl⟩
  by_cases x4 : n = 4
  · obtain rfl := x4
    go_enter Tryd.func27, Tryd.ntmps27
    go_wp2_with fail
    go_ret
    exact ⟨rfl, rfl⟩
  by_cases x8 : n = 8
  · obtain rfl := x8
    go_enter Tryd.func27, Tryd.ntmps27
    go_wp2_with fail
    go_ret
    exact ⟨rfl, rfl⟩
  by_cases x16 : n = 16
  · obtain rfl := x16
    go_enter Tryd.func27, Tryd.ntmps27
    go_wp2_with fail
    go_ret
    exact ⟨rfl, rfl⟩
  by_cases x208 : n = 208
  · obtain rfl := x208
    go_enter Tryd.func27, Tryd.ntmps27
    go_wp2_with fail
    go_ret
    exact ⟨rfl, rfl⟩
  by_cases x216 : n = 216
  · obtain rfl := x216
    go_enter Tryd.func27, Tryd.ntmps27
    go_wp2_with fail
    go_ret
    exact ⟨rfl, rfl⟩
  by_cases x301 : n = 301
  · obtain rfl := x301
    go_enter Tryd.func27, Tryd.ntmps27
    go_wp2_with fail
    go_ret
    exact ⟨rfl, rfl⟩
  by_cases x302 : n = 302
  · obtain rfl := x302
    go_enter Tryd.func27, Tryd.ntmps27
    go_wp2_with fail
    go_ret
    exact ⟨rfl, rfl⟩
  by_cases x304 : n = 304
  · obtain rfl := x304
    go_enter Tryd.func27, Tryd.ntmps27
    go_wp2_with fail
    go_ret
    exact ⟨rfl, rfl⟩
  by_cases x308 : n = 308
  · obtain rfl := x308
    go_enter Tryd.func27, Tryd.ntmps27
    go_wp2_with fail
    go_ret
    exact ⟨rfl, rfl⟩
  by_cases x408 : n = 408
  · obtain rfl := x408
    go_enter Tryd.func27, Tryd.ntmps27
    go_wp2_with fail
    go_ret
    exact ⟨rfl, rfl⟩
  by_cases x416 : n = 416
  · obtain rfl := x416
    go_enter Tryd.func27, Tryd.ntmps27
    go_wp2_with fail
    go_ret
    exact ⟨rfl, rfl⟩
  by_cases x608 : n = 608
  · obtain rfl := x608
    go_enter Tryd.func27, Tryd.ntmps27
    go_wp2_with fail
    go_ret
    exact ⟨rfl, rfl⟩
  by_cases x616 : n = 616
  · obtain rfl := x616
    go_enter Tryd.func27, Tryd.ntmps27
    go_wp2_with fail
    go_ret
    exact ⟨rfl, rfl⟩
  have v1 : ((n : Int) == 1) = false := by simp; omega
  have v2 : ((n : Int) == 2) = false := by simp; omega
  have v4 : ((n : Int) == 4) = false := by simp; omega
  have v8 : ((n : Int) == 8) = false := by simp; omega
  have v16 : ((n : Int) == 16) = false := by simp; omega
  have v208 : ((n : Int) == 208) = false := by simp; omega
  have v216 : ((n : Int) == 216) = false := by simp; omega
  have v301 : ((n : Int) == 301) = false := by simp; omega
  have v302 : ((n : Int) == 302) = false := by simp; omega
  have v304 : ((n : Int) == 304) = false := by simp; omega
  have v308 : ((n : Int) == 308) = false := by simp; omega
  have v408 : ((n : Int) == 408) = false := by simp; omega
  have v416 : ((n : Int) == 416) = false := by simp; omega
  have v608 : ((n : Int) == 608) = false := by simp; omega
  have v616 : ((n : Int) == 616) = false := by simp; omega
  go_enter Tryd.func27, Tryd.ntmps27
  go_wp2_with fail
  go_ret
  exact ⟨by simp [rk, x1, x2, x4, x8, x16, x208, x216, x301, x302, x304, x308, x408, x416, x608, x616], rfl⟩

/-- The fifteen kinds, as the thin package lists them. -/
def kinds : List Nat := [1, 2, 4, 8, 16, 208, 216, 301, 302, 304, 308, 408, 416, 608, 616]
theorem kinds_le : ∀ x ∈ kinds, x ≤ 616 := by decide
/-- What is told of a number of the package. -/
def ColEnd (k : Nat) (w : World) (e : Ending) (w' : World) : Prop :=
  Below w.heap.size w w' ∧ ((∃ x ∈ kinds, rk x = k ∧ e = .returned (.tuple #[.int .i64 ((x / 100 : Nat) : Int), .int .i64 ((x % 100 : Nat) : Int), .bool true])) ∨ ((∀ x ∈ kinds, rk x ≠ k) ∧ e = .returned (.tuple #[.int .i64 0, .int .i64 0, .bool false])))

set_option maxHeartbeats 1600000 in
set_option maxRecDepth 100000 in
theorem colourOf_any (k : Nat) (w : World) : Calls Tryd.prog 32 #[.int .i64 (k : Int)] w (ColEnd k w) := by
  go_enter Tryd.func32, Tryd.ntmps32
  go_wp2_with fail
  obtain ⟨w1, hw1⟩ : ∃ w1, w1 = w.alloc (.cells (kinds.map fun (x : Nat) => Value.int .i64 (x : Int)).toArray 3) := ⟨_, rfl⟩
  have hb : Below w.heap.size w w1 := by rw [hw1]; exact (Below.refl _ _).alloc (Nat.le_refl _) _
  have hc : ∀ t, t < 15 → w1.cell? ⟨w.heap.size, t, none⟩ = some (.int .i64 ((kinds.getD t 0 : Nat) : Int)) := fun t ht => by
    rw [cell_of_row w1 w.heap.size t _ _ _ (by rw [hw1]; exact heap_alloc_new w _)]
    have hl : t < kinds.length := ht
    simp [List.getD, hl]
  change (Code.wp _ _ _ _ (w.alloc (.cells (kinds.map fun (x : Nat) => Value.int .i64 (x : Int)).toArray 3)))
  rw [← hw1]
  have HC := Lib.hid hc
  clear hw1 hc
  go_loop [9] (fun i => ∃ t : Nat, t ≤ 15 ∧ i = .int .i64 t ∧ Hid (∀ j, j < t → rk (kinds.getD j 0) ≠ k)) (fun i => 15 - (intOf i).toNat)
  case atStart => exact ⟨0, by omega, rfl, Lib.hid (fun j hj => by omega)⟩
  case round =>
    obtain ⟨t, ht, rfl, hno⟩ := hrel
    by_cases hlt : t < 15
    · have hcell := HC.out t hlt
      have hx1 : kinds.getD t 0 ∈ kinds := by
        have hl : t < kinds.length := hlt
        simp [List.getD, hl]
      have hx2 := kinds_le _ hx1
      obtain ⟨x, hx⟩ : ∃ x, x = kinds.getD t 0 := ⟨_, rfl⟩
      rw [← hx] at hcell hx1 hx2
      have HX := Lib.hid hx
      have HX1 := Lib.hid hx1
      clear hx hx1
      have i0 : (0 : Int) ≤ (t : Int) := by omega
      have i1 : (t : Int) < 15 := by omega
      have e1 : IntKind.i64.wrap ((x : Int).tdiv 100) = ((x / 100 : Nat) : Int) := by
        rw [Int.tdiv_eq_ediv_of_nonneg (by omega), i64_in _ ⟨by omega, by omega⟩]; omega
      have e2 : (x : Int).tmod 100 = ((x % 100 : Nat) : Int) := by
        rw [Int.tmod_eq_emod_of_nonneg (by omega)]; omega
      have e3 : 100 * (x / 100) + x % 100 = x := by omega
      have E3 := Lib.hid e3
      clear e3
      by_cases hq : rk x = k
      · have hd : ((rk x : Int) == (k : Int)) = true := by rw [hq]; simp
        go_wp2_with (go_at_call 27; refine (rowKind_any (x / 100) (x % 100) (by omega) (by omega) w1).mono ?_; rw [E3.out]; rintro e w2 ⟨rfl, rfl⟩)
        go_ret3
        exact ⟨hb, .inl ⟨x, HX1.out, hq, rfl⟩⟩
      · have hd : ((rk x : Int) == (k : Int)) = false := by simp; omega
        go_wp2_with (go_at_call 27; refine (rowKind_any (x / 100) (x % 100) (by omega) (by omega) w1).mono ?_; rw [E3.out]; rintro e w2 ⟨rfl, rfl⟩)
        go_round
        case rel => exact ⟨t + 1, by omega, by go_num, Lib.hid (fun j hj => by
          rcases Nat.lt_or_ge j t with h' | h'
          · exact hno.out j h'
          · obtain rfl : j = t := by omega
            rw [← HX.out]; exact hq)⟩
        case measure => simp [intOf]; omega
    · obtain rfl : t = 15 := by omega
      go_wp2_with fail
      go_ret3
      exact ⟨hb, .inr ⟨fun x hx => by
        obtain ⟨j, hj, e⟩ := List.getElem_of_mem hx
        have := hno.out j hj
        rwa [show kinds.getD j 0 = x by simp [List.getD, hj, e]] at this, rfl⟩⟩
end Go.Proofs.YtiiipmcjbibgoaaDoor
