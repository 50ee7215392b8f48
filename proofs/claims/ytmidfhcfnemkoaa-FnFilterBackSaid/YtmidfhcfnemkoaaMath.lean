/- Plain mathematics of bytes and of the Paeth predictor: no program in sight. -/
import Derived.Laws.BitsAllLaws
import Derived.IntWalk
namespace Go.Proofs.Ytmidfhcfnemkoaa
open Go.IntWalk Go.RowKit
/-- How far a number is from nought. -/
def absI (x : Int) : Int := (x.natAbs : Int)
theorem absI_nonneg (x : Int) : 0 ≤ absI x := by unfold absI; omega
theorem absI_le (x k : Int) (h1 : -k ≤ x) (h2 : x ≤ k) : absI x ≤ k := by unfold absI; omega
theorem xor_zero (x : Int) (h1 : 0 ≤ x) (h2 : x < 9223372036854775808) : bits .xor .i64 x 0 = x := by
  obtain ⟨a, rfl⟩ := Int.eq_ofNat_of_zero_le h1
  show IntKind.i64.wrap ((BitVec.ofInt 64 (a : Int) ^^^ BitVec.ofInt 64 0).toNat : Int) = _
  have e : BitVec.ofInt 64 0 = 0#64 := by decide
  rw [e, BitVec.xor_zero, ofInt_u64 a (by omega)]
  simp [IntKind.wrap, IntKind.bits, IntKind.signed]
  omega
theorem xor_neg (x : Int) (h1 : -9223372036854775808 ≤ x) (h2 : x < 0) : bits .xor .i64 x (-1) = -1 - x := by
  obtain ⟨a, ha⟩ := Int.eq_ofNat_of_zero_le (a := -1 - x) (by omega)
  obtain rfl : x = -1 - (a : Int) := by omega
  show IntKind.i64.wrap ((BitVec.ofInt 64 (-1 - (a : Int)) ^^^ BitVec.ofInt 64 (-1)).toNat : Int) = _
  have e : BitVec.ofInt 64 (-1) = BitVec.allOnes 64 := by decide
  have e2 : BitVec.ofInt 64 (-1 - (a : Int)) = ~~~ (BitVec.ofInt 64 (a : Int)) := by
    have e3 : BitVec.ofInt 64 (-1) = -1#64 := by decide
    rw [BitVec.not_eq_neg_add, Int.sub_eq_add_neg, BitVec.ofInt_add, BitVec.ofInt_neg (n := (a : Int)), e3, BitVec.add_comm, ← BitVec.sub_eq_add_neg]
  rw [e, BitVec.xor_allOnes, e2, BitVec.not_not, ofInt_u64 a (by omega)]
  simp [IntKind.wrap, IntKind.bits, IntKind.signed]
  omega
theorem abs_walk (x : Int) (h1 : -9223372036854775808 < x) (h2 : x < 9223372036854775808) :
    wrap64 (bits BinOp.xor IntKind.i64 x (x / 9223372036854775808) - x / 9223372036854775808) = absI x := by
  by_cases h : 0 ≤ x
  · have e : x / 9223372036854775808 = 0 := by omega
    rw [e, xor_zero x h h2]
    unfold wrap64 absI; omega
  · have e : x / 9223372036854775808 = -1 := by omega
    rw [e, xor_neg x (by omega) (by omega)]
    unfold wrap64 absI; omega
/-- The Paeth predictor of left a, above b, above left c. -/
def paethI (a b c : Int) : Int :=
  if absI (b - c) ≤ absI (a - c) ∧ absI (b - c) ≤ absI (b - c + (a - c)) then a else if absI (a - c) ≤ absI (b - c + (a - c)) then b else c
theorem paethI_range (a b c : Int) (ha : 0 ≤ a ∧ a ≤ 255) (hb : 0 ≤ b ∧ b ≤ 255) (hc : 0 ≤ c ∧ c ≤ 255) : 0 ≤ paethI a b c ∧ paethI a b c ≤ 255 := by
  unfold paethI; split <;> (try split) <;> omega
theorem paethI_a {a b c : Int} (h1 : absI (b - c) ≤ absI (a - c)) (h2 : absI (b - c) ≤ absI (b - c + (a - c))) : paethI a b c = a := by
  unfold paethI; rw [if_pos ⟨h1, h2⟩]
theorem paethI_b {a b c : Int} (h1 : ¬ (absI (b - c) ≤ absI (a - c) ∧ absI (b - c) ≤ absI (b - c + (a - c)))) (h2 : absI (a - c) ≤ absI (b - c + (a - c))) : paethI a b c = b := by
  unfold paethI; rw [if_neg h1, if_pos h2]
theorem paethI_c {a b c : Int} (h1 : ¬ (absI (b - c) ≤ absI (a - c) ∧ absI (b - c) ≤ absI (b - c + (a - c)))) (h2 : ¬ absI (a - c) ≤ absI (b - c + (a - c))) : paethI a b c = c := by
  unfold paethI; rw [if_neg h1, if_neg h2]
theorem paethI_near (a b c : Int) : (a + b - c - paethI a b c).natAbs ≤ (a + b - c - a).natAbs ∧ (a + b - c - paethI a b c).natAbs ≤ (a + b - c - b).natAbs ∧ (a + b - c - paethI a b c).natAbs ≤ (a + b - c - c).natAbs := by
  have e1 : a + b - c - a = b - c := by omega
  have e2 : a + b - c - b = a - c := by omega
  have e3 : a + b - c - c = b - c + (a - c) := by omega
  unfold paethI absI
  split
  · rw [e1, e2, e3]; omega
  · split
    · rw [e1, e2, e3]; omega
    · rw [e1, e2, e3]; omega
theorem paethI_of (a b c : Int) : paethI a b c = a ∨ paethI a b c = b ∨ paethI a b c = c := by
  unfold paethI; split <;> (try split) <;> simp
end Go.Proofs.Ytmidfhcfnemkoaa
