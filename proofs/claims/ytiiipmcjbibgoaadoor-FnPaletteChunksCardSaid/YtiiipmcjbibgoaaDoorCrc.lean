/- The contracts of the package's CRC: what Write and Sum32 of its digest do, over the table that the program's text lays; the reference's CRC. -/
import Derived.Test.YtiiipmcjbibgoaaDoorCrcMath
import Derived.Test.YtiiipmcjbibgoaaDoorClone
namespace Go.Proofs.YtiiipmcjbibgoaaDoor
open Go.ChangeShapes Go.WideShapes Go.ChangeAt Go.RowKit Go.IntWalk

/-- The package's table lies in memory: its entries are those of the CRC-32. -/
def Tab (w : World) : Prop := ∀ i : Nat, i < 256 → w.cell? ⟨0, i, none⟩ = some (.int .u32 ((crcByte i : Nat) : Int))

theorem take_succ_of {l : List UInt8} {k : Nat} {x : UInt8} (h : l[k]? = some x) : l.take (k + 1) = l.take k ++ [x] := by
  rw [List.take_add_one, h]; rfl

theorem u32_signed : IntKind.u32.signed = false := rfl
theorem not_u32 (n : Nat) (h : n < 4294967296) : bits .xor .u32 IntKind.u32.max (n : Int) = ((4294967295 ^^^ n : Nat) : Int) := u32_xor_nat 4294967295 n (by omega) h
theorem crcRun_step {s : Nat} {l : List UInt8} {k : Nat} {x : UInt8} (h : l[k]? = some x) :
    crcRun s (l.take (k + 1)) = crcByte (crcRun s (l.take k) % 256 ^^^ x.toNat) ^^^ crcRun s (l.take k) / 256 := by
  rw [take_succ_of h, crcRun_snoc, crcByte_table]

set_option maxHeartbeats 400000 in
theorem write_any (b o : Nat) (c : Nat) (hc : c < 4294967296) (ad : Option Addr) (len cap : Nat) (l : List UInt8) (hl : Hid (l.length = len)) (w : World)
    (hm : len ≤ 9223372036854775807) (hr : RB w ad l) (ht : Tab w) (hcell : w.cell? ⟨b, o, none⟩ = some (.int .u32 (c : Int))) (hf : w.frozen? ⟨b, o, none⟩ = false) :
    Calls Tryd.prog 38 #[.pointer (some ⟨b, o, none⟩), .slice ad len cap] w fun e w' =>
      e = .returned (.tuple #[.int .i64 len, .nilIface]) ∧ w.setCell ⟨b, o, none⟩ (.int .u32 ((crcFrom c l : Nat) : Int)) = w' := by
  have hu := u32_signed
  have hn := not_u32 c hc
  obtain ⟨s0, hs0⟩ : ∃ s0, s0 = 4294967295 ^^^ c := ⟨_, rfl⟩
  have hs0lt : s0 < 4294967296 := by rw [hs0]; exact xor_lt32 (by omega) hc
  rw [← hs0] at hn
  have HS0 := Lib.hid hs0
  clear hs0
  go_enter Tryd.func38, Tryd.ntmps38
  go_wp2
  clear hn
  go_loop [6, 16] (fun s i => ∃ k : Nat, k ≤ len ∧ i = .int .i64 k ∧ s = .int .u32 ((crcRun s0 (l.take k) : Nat) : Int)) (fun _ i => len - (intOf i).toNat)
  case atStart => exact ⟨0, Nat.zero_le _, rfl, rfl⟩
  case round =>
    obtain ⟨k, hk, rfl, rfl⟩ := hrel
    obtain ⟨s, hs⟩ : ∃ s, s = crcRun s0 (l.take k) := ⟨_, rfl⟩
    have hslt : s < 4294967296 := by rw [hs]; exact crcRun_lt _ _ hs0lt
    rw [← hs]
    have HS := Lib.hid hs
    clear hs
    by_cases hlt : k < len
    · obtain ⟨b', off', rfl, -⟩ := hr (by have := hl.out; intro e; rw [e] at this; simp at this; omega)
      obtain ⟨x, HX, hx⟩ := hr.at k (by have := hl.out; omega)
      have hxlt := byte_lt x
      have e1 : bits .xor .u8 ((s : Int) % 256) (x.toNat : Int) = ((s % 256 ^^^ x.toNat : Nat) : Int) := by
        have := u8_xor_nat (s % 256) x.toNat (by omega) hxlt
        simpa using this
      obtain ⟨i, hi⟩ : ∃ i, i = s % 256 ^^^ x.toNat := ⟨_, rfl⟩
      have hilt : i < 256 := by rw [hi]; exact Nat.xor_lt_two_pow (n := 8) (by omega) hxlt
      rw [← hi] at e1
      have HI := Lib.hid hi
      clear hi
      have h2 := ht i hilt
      go_wp2
      go_round
      case rel =>
        refine ⟨k + 1, by omega, by go_num, ?_⟩
        have e2 := u32_xor_nat (crcByte i) (s / 256) (crcByte_lt i (by omega)) (by omega)
        have e3 : ((s / 256 : Nat) : Int) = (s : Int) / 256 := by omega
        rw [e3] at e2
        rw [e2, crcRun_step HX.out, ← HS.out, ← HI.out]
      case measure => simp [intOf]; omega
    · have hn := not_u32 s hslt
      go_wp2
      go_ret2
      refine ⟨rfl, ?_⟩
      have e : k = len := by omega
      have e2 : l.take k = l := List.take_of_length_le (by have := hl.out; omega)
      unfold crcFrom
      rw [← HS0.out, HS.out, e2]

theorem sum32_any (b o : Nat) (v : Value) (w : World) (hcell : w.cell? ⟨b, o, none⟩ = some v) :
    Calls Tryd.prog 51 #[.pointer (some ⟨b, o, none⟩)] w fun e w' => e = .returned v ∧ w = w' := by
  go_enter Tryd.func51, Tryd.ntmps51
  go_wp2
  go_ret
  exact ⟨rfl, rfl⟩
theorem Tab.below {w w' : World} (h : Tab w) (hb : Below w.heap.size w w') : Tab w' := by
  intro i hi
  rw [hb.cell (p := ⟨_, i, none⟩) (World.block_lt_of_cell? w _ (h i hi))]
  exact h i hi

/-- One byte of the reference's CRC: eight bits, one by one. -/
theorem crcBits_succ (n x : Nat) : crcBits (n + 1) x = crcBit (crcBits n x) := by
  induction n generalizing x with
  | zero => rfl
  | succ n ih => show crcBits (n + 1) (crcBit x) = _; rw [ih]; rfl
theorem and_one_u32 (n : Nat) (h : n < 4294967296) : bits .and .u32 (n : Int) 1 = ((n % 2 : Nat) : Int) := by
  have := u32_and_nat n 1 h (by omega)
  rw [show ((1 : Nat) : Int) = 1 from rfl] at this
  rw [this, Nat.and_one_is_mod]

set_option maxHeartbeats 400000 in
theorem specCrc_any (ad : Option Addr) (len cap : Nat) (l : List UInt8) (hl : Hid (l.length = len)) (w : World)
    (hm : len ≤ 9223372036854775807) (hr : RB w ad l) :
    Calls Tryd.prog 14 #[.slice ad len cap] w fun e w' => e = .returned (.int .u32 ((crcOf l : Nat) : Int)) ∧ w = w' := by
  have hu := u32_signed
  go_enter Tryd.func14, Tryd.ntmps14
  go_wp2
  go_loop [3, 8] (fun s i => ∃ k : Nat, k ≤ len ∧ i = .int .i64 k ∧ s = .int .u32 ((crcRun 4294967295 (l.take k) : Nat) : Int)) (fun _ i => len - (intOf i).toNat)
  case atStart => exact ⟨0, Nat.zero_le _, rfl, rfl⟩
  case round =>
    obtain ⟨k, hk, rfl, rfl⟩ := hrel
    obtain ⟨s, hs⟩ : ∃ s, s = crcRun 4294967295 (l.take k) := ⟨_, rfl⟩
    have hslt : s < 4294967296 := by rw [hs]; exact crcRun_lt _ _ (by omega)
    rw [← hs]
    have HS := Lib.hid hs
    clear hs
    by_cases hlt : k < len
    · obtain ⟨b', off', rfl, -⟩ := hr (by have := hl.out; intro e; rw [e] at this; simp at this; omega)
      obtain ⟨x, HX, hx⟩ := hr.at k (by have := hl.out; omega)
      have hxlt := byte_lt x
      have e1 := u32_xor_nat s x.toNat hslt (by omega)
      obtain ⟨t, ht⟩ : ∃ t, t = s ^^^ x.toNat := ⟨_, rfl⟩
      have htlt : t < 4294967296 := by rw [ht]; exact xor_lt32 hslt (by omega)
      rw [← ht] at e1
      have HT := Lib.hid ht
      clear ht
      go_wp2
      clear e1
      go_loop [3, 16] (fun s i => ∃ j : Nat, j ≤ 8 ∧ i = .int .i64 j ∧ s = .int .u32 ((crcBits j t : Nat) : Int)) (fun _ i => 8 - (intOf i).toNat)
      case atStart => exact ⟨0, Nat.zero_le _, rfl, rfl⟩
      case round =>
        obtain ⟨j, hj, rfl, rfl⟩ := hrel
        obtain ⟨y, hy⟩ : ∃ y, y = crcBits j t := ⟨_, rfl⟩
        have hylt : y < 4294967296 := by rw [hy]; exact crcBits_lt _ _ htlt
        rw [← hy]
        have HY := Lib.hid hy
        clear hy
        by_cases hj8 : j < 8
        · have e1 := and_one_u32 y hylt
          by_cases hy2 : y % 2 = 1
          · rw [hy2] at e1
            go_wp2
            go_round
            case rel =>
              refine ⟨j + 1, by omega, by go_num, ?_⟩
              have e2 := u32_xor_nat (y / 2) 3988292384 (by omega) (by omega)
              have e3 : ((y / 2 : Nat) : Int) = (y : Int) / 2 := by omega
              have e4 : ((3988292384 : Nat) : Int) = 3988292384 := rfl
              rw [e3, e4] at e2
              rw [e2, crcBits_succ, ← HY.out]
              unfold crcBit
              rw [if_pos hy2]
            case measure => simp [intOf]; omega
          · have hy0 : y % 2 = 0 := by omega
            rw [hy0] at e1
            go_wp2
            go_round
            case rel =>
              refine ⟨j + 1, by omega, by go_num, ?_⟩
              have e3 : ((y / 2 : Nat) : Int) = (y : Int) / 2 := by omega
              rw [crcBits_succ, ← HY.out]
              unfold crcBit
              rw [if_neg hy2, e3]
            case measure => simp [intOf]; omega
        · go_wp2
          go_round
          case rel =>
            refine ⟨k + 1, by omega, by go_num, ?_⟩
            have e : j = 8 := by omega
            rw [take_succ_of HX.out, crcRun_snoc, HY.out, HT.out, HS.out, e]
            rfl
          case measure => simp [intOf]; omega
    · have hn := not_u32 s hslt
      go_wp2
      go_ret
      refine ⟨ret_int ?_, rfl⟩
      have e : k = len := by omega
      have e2 : l.take k = l := List.take_of_length_le (by have := hl.out; omega)
      unfold crcOf crcFrom
      rw [HS.out, e2]
      rfl
end Go.Proofs.YtiiipmcjbibgoaaDoor
