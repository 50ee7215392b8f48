/- Plain mathematics of the CRC-32: a change within four bytes that stand side by side changes the sum. No program in sight. -/
import Derived.Test.YtiiipmcjbibgoaaDoorCrcMath
namespace Go.Proofs.YtiiipmcjbibgoaaDoor
/-- The bytes of a list, those at its head turned by further bytes. -/
def zipX : List UInt8 → List UInt8 → List UInt8
  | [], _ => []
  | xs, [] => xs
  | x :: xs, v :: vs => (x ^^^ v) :: zipX xs vs
theorem zipX_nil (xs : List UInt8) : zipX xs [] = xs := by cases xs <;> rfl
theorem zipX_length : ∀ (xs vs : List UInt8), (zipX xs vs).length = xs.length
  | [], _ => rfl
  | x :: xs, [] => rfl
  | x :: xs, v :: vs => by simp [zipX, zipX_length xs vs]
theorem zipX_snoc : ∀ (xs vs : List UInt8) (v x : UInt8), (zipX xs vs)[vs.length]? = some x → zipX xs (vs ++ [v]) = (zipX xs vs).set vs.length (x ^^^ v)
  | [], _, _, _, h => by simp [zipX] at h
  | x :: xs, [], v, y, h => by
    simp [zipX] at h
    subst h
    simp [zipX, zipX_nil]
  | x :: xs, u :: us, v, y, h => by
    simp only [zipX, List.length_cons, List.getElem?_cons_succ] at h
    simp only [List.cons_append, zipX, List.length_cons, List.set_cons_succ, zipX_snoc xs us v y h]
theorem zipX_past : ∀ (xs vs : List UInt8) (v : UInt8), xs.length ≤ vs.length → zipX xs (vs ++ [v]) = zipX xs vs
  | [], _, _, _ => by simp [zipX]
  | x :: xs, [], _, h => by simp at h
  | x :: xs, u :: us, v, h => by simp only [List.cons_append, zipX, zipX_past xs us v (by simpa using h)]
/-- Are the bytes that turn something all nought? -/
def sameB (xs vs : List UInt8) : Bool := (vs.take xs.length).all fun v => v == 0
theorem sameB_snoc (xs vs : List UInt8) (v : UInt8) (h : vs.length < xs.length) : sameB xs (vs ++ [v]) = (sameB xs vs && v == 0) := by
  unfold sameB
  rw [List.take_of_length_le (by simp; omega), List.take_of_length_le (by omega)]
  simp
theorem sameB_past (xs vs : List UInt8) (v : UInt8) (h : xs.length ≤ vs.length) : sameB xs (vs ++ [v]) = sameB xs vs := by
  unfold sameB
  rw [List.take_append_of_le_length h]
/-- How far two states are apart behind n bytes, of which some are turned. -/
def delta : Nat → Nat → List UInt8 → Nat
  | 0, d, _ => d
  | n + 1, d, vs => delta n (crcByte (d ^^^ (vs.headD 0).toNat)) vs.tail
theorem delta_succ_nil (n d : Nat) : delta (n + 1) d [] = delta n (crcByte d) [] := by
  show delta n (crcByte (d ^^^ 0)) [] = _
  rw [Nat.xor_zero]
theorem delta_succ_cons (n d : Nat) (v : UInt8) (vs : List UInt8) : delta (n + 1) d (v :: vs) = delta n (crcByte (d ^^^ v.toNat)) vs := rfl
theorem crcByte_nought : crcByte 0 = 0 := by decide
theorem xor4 (a b c d : Nat) : a ^^^ b ^^^ (c ^^^ d) = (a ^^^ c) ^^^ (b ^^^ d) := by
  apply Nat.eq_of_testBit_eq
  intro i
  simp only [Nat.testBit_xor]
  cases a.testBit i <;> cases b.testBit i <;> cases c.testBit i <;> cases d.testBit i <;> rfl
theorem crcRun_delta : ∀ (xs vs : List UInt8) (s d : Nat), crcRun (s ^^^ d) (zipX xs vs) = crcRun s xs ^^^ delta xs.length d vs
  | [], _, _, _ => rfl
  | x :: xs, [], s, d => by
    have e : s ^^^ d ^^^ x.toNat = (s ^^^ x.toNat) ^^^ d := by rw [Nat.xor_assoc, Nat.xor_comm d, ← Nat.xor_assoc]
    show crcRun (crcByte (s ^^^ d ^^^ x.toNat)) xs = crcRun (crcByte (s ^^^ x.toNat)) xs ^^^ delta (xs.length + 1) d []
    rw [delta_succ_nil, e, crcByte_xor, ← crcRun_delta xs [] (crcByte (s ^^^ x.toNat)) (crcByte d), zipX_nil]
  | x :: xs, v :: vs, s, d => by
    show crcRun (crcByte (s ^^^ d ^^^ (x ^^^ v).toNat)) (zipX xs vs) = crcRun (crcByte (s ^^^ x.toNat)) xs ^^^ delta xs.length (crcByte (d ^^^ v.toNat)) vs
    rw [UInt8.toNat_xor, xor4, crcByte_xor, crcRun_delta xs vs]
theorem delta_nil : ∀ (n d : Nat), d < 4294967296 → (delta n d [] = 0 ↔ d = 0)
  | 0, d, _ => Iff.rfl
  | n + 1, d, h => by
    rw [delta_succ_nil, delta_nil n _ (crcByte_lt d h)]
    exact ⟨crcByte_zero d h, fun e => by rw [e]; exact crcByte_nought⟩
theorem crcBits_add (m n x : Nat) : crcBits (m + n) x = crcBits n (crcBits m x) := by
  induction m generalizing x with
  | zero => simp [crcBits]
  | succ m ih => rw [Nat.succ_add]; exact ih _
theorem crcBits_nought (n : Nat) : crcBits n 0 = 0 := by
  induction n with
  | zero => rfl
  | succ n ih => exact ih
theorem lt32_of {w j : Nat} (hj : j ≤ 4) (hw : w < 2 ^ (8 * j)) : w < 4294967296 :=
  Nat.lt_of_lt_of_le hw (show 2 ^ (8 * j) ≤ 2 ^ 32 from Nat.pow_le_pow_right (by omega) (by omega))
theorem delta_iff : ∀ (vs : List UInt8) (n j w : Nat), j + vs.length ≤ 4 → w < 2 ^ (8 * j) → (delta n (crcBits (8 * j) w) vs = 0 ↔ w = 0 ∧ (vs.take n).all (fun v => v == 0) = true)
  | vs, 0, j, w, h, hw => by
    show crcBits (8 * j) w = 0 ↔ _
    simp only [List.take_zero, List.all_nil, and_true]
    exact ⟨crcBits_zero _ w (lt32_of (by omega) hw), fun e => by rw [e, crcBits_nought]⟩
  | [], n + 1, j, w, h, hw => by
    have h32 := lt32_of (by simp at h; omega) hw
    rw [delta_nil _ _ (crcBits_lt _ _ h32)]
    simp only [List.take_nil, List.all_nil, and_true]
    exact ⟨crcBits_zero _ w h32, fun e => by rw [e, crcBits_nought]⟩
  | v :: vs, n + 1, j, w, h, hw => by
    have hv : v.toNat < 2 ^ 8 := v.toNat_lt
    have hj : 8 * (j + 1) = 8 * j + 8 := by omega
    have hp : 2 ^ (8 * (j + 1)) = 2 ^ (8 * j) * 2 ^ 8 := by rw [hj, Nat.pow_add]
    have hy : 2 ^ (8 * j) * v.toNat < 2 ^ (8 * (j + 1)) := by rw [hp]; exact Nat.mul_lt_mul_of_pos_left hv (Nat.two_pow_pos _)
    have e : crcByte (crcBits (8 * j) w ^^^ v.toNat) = crcBits (8 * (j + 1)) (w ^^^ 2 ^ (8 * j) * v.toNat) := by
      have e1 : v.toNat = crcBits (8 * j) (2 ^ (8 * j) * v.toNat) := (crcBits_shift (8 * j) v.toNat).symm
      conv => lhs; rw [e1]
      rw [← crcBits_xor, hj, crcBits_add]
      rfl
    have hw' : w ^^^ 2 ^ (8 * j) * v.toNat < 2 ^ (8 * (j + 1)) := Nat.xor_lt_two_pow (Nat.lt_of_lt_of_le hw (Nat.pow_le_pow_right (by omega) (by omega))) hy
    rw [delta_succ_cons, e, delta_iff vs n (j + 1) _ (by simp at h; omega) hw', List.take_succ_cons, List.all_cons, Bool.and_eq_true]
    have key : w ^^^ 2 ^ (8 * j) * v.toNat = 0 ↔ w = 0 ∧ (v == 0) = true := by
      constructor
      · intro h0
        have e2 : w = 2 ^ (8 * j) * v.toNat := by
          have : w ^^^ 2 ^ (8 * j) * v.toNat ^^^ 2 ^ (8 * j) * v.toNat = 0 ^^^ 2 ^ (8 * j) * v.toNat := by rw [h0]
          rwa [Nat.xor_assoc, Nat.xor_self, Nat.xor_zero, Nat.zero_xor] at this
        have v0 : v.toNat = 0 := by
          rcases Nat.eq_zero_or_pos v.toNat with h1 | h1
          · exact h1
          · have := Nat.mul_le_mul_left (2 ^ (8 * j)) h1
            omega
        rw [v0, Nat.mul_zero] at e2
        exact ⟨e2, by rw [beq_iff_eq]; exact UInt8.toNat_inj.1 v0⟩
      · rintro ⟨rfl, h1⟩
        rw [beq_iff_eq] at h1
        subst h1
        simp
    rw [key, and_assoc]
/-- A change within four bytes that stand side by side changes the sum. -/
theorem crcOf_burst (xs ys vs : List UInt8) (h : vs.length ≤ 4) : (crcOf (xs ++ ys) = crcOf (xs ++ zipX ys vs)) ↔ sameB ys vs = true := by
  rw [crcOf_eq_iff, crcRun_append, crcRun_append]
  have e := crcRun_delta ys vs (crcRun 4294967295 xs) 0
  rw [Nat.xor_zero] at e
  rw [e]
  have d := delta_iff vs ys.length 0 0 (by omega) (by decide)
  have d0 : crcBits (8 * 0) 0 = 0 := rfl
  rw [d0] at d
  unfold sameB
  have hx : (crcRun (crcRun 4294967295 xs) ys = crcRun (crcRun 4294967295 xs) ys ^^^ delta ys.length 0 vs) ↔ delta ys.length 0 vs = 0 := by
    constructor
    · intro h0
      have := congrArg (fun t => crcRun (crcRun 4294967295 xs) ys ^^^ t) h0
      simp only [← Nat.xor_assoc, Nat.xor_self, Nat.zero_xor] at this
      exact this.symm
    · intro h0; rw [h0, Nat.xor_zero]
  rw [hx, d]
  simp
end Go.Proofs.YtiiipmcjbibgoaaDoor
