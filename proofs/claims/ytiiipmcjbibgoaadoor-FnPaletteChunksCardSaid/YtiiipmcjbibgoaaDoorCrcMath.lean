/- Plain mathematics of the CRC-32: one bit, one byte, a text; that it is linear, that a step loses nothing, and what the table is. No program in sight. -/
namespace Go.Proofs.YtiiipmcjbibgoaaDoor
/-- One bit of the CRC: the lowest bit goes out; where it was set, the polynomial goes in. -/
def crcBit (x : Nat) : Nat := if x % 2 = 1 then x / 2 ^^^ 3988292384 else x / 2
def crcBits : Nat → Nat → Nat
  | 0, x => x
  | n + 1, x => crcBits n (crcBit x)
/-- One byte's worth of bits. -/
def crcByte (x : Nat) : Nat := crcBits 8 x
/-- The state behind a text. -/
def crcRun (s : Nat) (l : List UInt8) : Nat := l.foldl (fun s v => crcByte (s ^^^ v.toNat)) s
/-- The CRC-32 of a text, begun at a sum that has gone before. -/
def crcFrom (c : Nat) (l : List UInt8) : Nat := 4294967295 ^^^ crcRun (4294967295 ^^^ c) l
def crcOf (l : List UInt8) : Nat := crcFrom 0 l

theorem crcBit_even (x : Nat) : crcBit (2 * x) = x := by
  unfold crcBit; rw [if_neg (by omega)]; omega
theorem crcBit_lt (x : Nat) (h : x < 4294967296) : crcBit x < 4294967296 := by
  unfold crcBit; split
  · exact Nat.xor_lt_two_pow (n := 32) (by omega) (by omega)
  · omega
theorem crcBit_zero (x : Nat) (h : x < 4294967296) (h0 : crcBit x = 0) : x = 0 := by
  unfold crcBit at h0
  split at h0
  · have : x / 2 = 3988292384 := by
      have e : x / 2 ^^^ 3988292384 ^^^ 3988292384 = 0 ^^^ 3988292384 := by rw [h0]
      rwa [Nat.xor_assoc, Nat.xor_self, Nat.xor_zero, Nat.zero_xor] at e
    omega
  · omega
theorem crcBit_xor (x y : Nat) : crcBit (x ^^^ y) = crcBit x ^^^ crcBit y := by
  have hd : (x ^^^ y) / 2 = x / 2 ^^^ y / 2 := Nat.xor_div_two
  have hm : (x ^^^ y) % 2 = x % 2 ^^^ y % 2 := by have := Nat.xor_mod_two_pow (a := x) (b := y) (n := 1); simpa using this
  unfold crcBit
  rw [hd, hm]
  rcases Nat.mod_two_eq_zero_or_one x with hx | hx <;> rcases Nat.mod_two_eq_zero_or_one y with hy | hy <;> rw [hx, hy] <;> simp
  · rw [Nat.xor_assoc]
  · rw [Nat.xor_assoc, Nat.xor_comm (y / 2), ← Nat.xor_assoc]
  · rw [Nat.xor_assoc, Nat.xor_comm (y / 2), ← Nat.xor_assoc 3988292384, Nat.xor_self, Nat.zero_xor]
theorem crcBits_lt (n : Nat) : ∀ x, x < 4294967296 → crcBits n x < 4294967296 := by
  induction n with
  | zero => intro x h; exact h
  | succ n ih => intro x h; exact ih _ (crcBit_lt x h)
theorem crcBits_zero (n : Nat) : ∀ x, x < 4294967296 → crcBits n x = 0 → x = 0 := by
  induction n with
  | zero => intro x _ h; exact h
  | succ n ih => intro x h h0; exact crcBit_zero x h (ih _ (crcBit_lt x h) h0)
theorem crcBits_xor (n : Nat) : ∀ x y, crcBits n (x ^^^ y) = crcBits n x ^^^ crcBits n y := by
  induction n with
  | zero => intro x y; rfl
  | succ n ih => intro x y; show crcBits n (crcBit _) = _; rw [crcBit_xor, ih]; rfl
theorem crcBits_shift (n : Nat) : ∀ x, crcBits n (2 ^ n * x) = x := by
  induction n with
  | zero => intro x; simp [crcBits]
  | succ n ih => intro x; show crcBits n (crcBit _) = _; rw [Nat.pow_succ, Nat.mul_comm (2 ^ n) 2, Nat.mul_assoc, crcBit_even, ih]
theorem crcByte_lt (x : Nat) (h : x < 4294967296) : crcByte x < 4294967296 := crcBits_lt 8 x h
theorem crcByte_zero (x : Nat) (h : x < 4294967296) (h0 : crcByte x = 0) : x = 0 := crcBits_zero 8 x h h0
theorem crcByte_xor (x y : Nat) : crcByte (x ^^^ y) = crcByte x ^^^ crcByte y := crcBits_xor 8 x y
theorem crcByte_shift (x : Nat) : crcByte (256 * x) = x := crcBits_shift 8 x
/-- A number is its lowest byte and what stands above. -/
theorem split_byte (x : Nat) : x = x % 256 ^^^ 256 * (x / 256) := by
  apply Nat.eq_of_testBit_eq
  intro i
  have h1 : (x % 256).testBit i = (decide (i < 8) && x.testBit i) := Nat.testBit_mod_two_pow x 8 i
  have h2 : (256 * (x / 256)).testBit i = (decide (8 ≤ i) && (x / 256).testBit (i - 8)) := Nat.testBit_two_pow_mul (i := 8)
  have h3 : (x / 256).testBit (i - 8) = x.testBit (i - 8 + 8) := Nat.testBit_div_two_pow (n := 8) x (i - 8)
  rw [Nat.testBit_xor, h1, h2, h3]
  by_cases h : i < 8
  · have e : ¬ 8 ≤ i := by omega
    simp [h, e]
  · have e : 8 ≤ i := by omega
    have e2 : i - 8 + 8 = i := by omega
    simp [h, e, e2]
/-- A step by the table: the table's entry at the lowest byte, and the rest. -/
theorem crcByte_table (x v : Nat) : crcByte ((x % 256) ^^^ v) ^^^ x / 256 = crcByte (x ^^^ v) := by
  have e : x ^^^ v = (x % 256 ^^^ v) ^^^ 256 * (x / 256) := by
    conv => lhs; rw [split_byte x]
    rw [Nat.xor_assoc, Nat.xor_comm _ v, ← Nat.xor_assoc]
  rw [e, crcByte_xor (x % 256 ^^^ v), crcByte_shift]
theorem byte_lt (v : UInt8) : v.toNat < 256 := v.toNat_lt
theorem xor_lt32 {x y : Nat} (hx : x < 4294967296) (hy : y < 4294967296) : x ^^^ y < 4294967296 := Nat.xor_lt_two_pow (n := 32) hx hy
theorem crcRun_lt (l : List UInt8) : ∀ s, s < 4294967296 → crcRun s l < 4294967296 := by
  induction l with
  | nil => intro s h; exact h
  | cons v l ih => intro s h; exact ih _ (crcByte_lt _ (xor_lt32 h (by have := byte_lt v; omega)))
theorem crcFrom_lt (c : Nat) (l : List UInt8) (h : c < 4294967296) : crcFrom c l < 4294967296 :=
  xor_lt32 (by omega) (crcRun_lt l _ (xor_lt32 (by omega) h))
theorem crcOf_lt (l : List UInt8) : crcOf l < 4294967296 := crcFrom_lt 0 l (by omega)
theorem crcRun_snoc (s : Nat) (l : List UInt8) (v : UInt8) : crcRun s (l ++ [v]) = crcByte (crcRun s l ^^^ v.toNat) := by simp [crcRun]
theorem crcRun_append (s : Nat) (l m : List UInt8) : crcRun s (l ++ m) = crcRun (crcRun s l) m := by simp [crcRun]
theorem crcFrom_append (c : Nat) (l m : List UInt8) : crcFrom (crcFrom c l) m = crcFrom c (l ++ m) := by
  unfold crcFrom; rw [crcRun_append, ← Nat.xor_assoc, Nat.xor_self, Nat.zero_xor]
/-- Three texts, bit by bit without carrying. -/
def mix3 : List UInt8 → List UInt8 → List UInt8 → List UInt8
  | a :: as, b :: bs, c :: cs => (a ^^^ b ^^^ c) :: mix3 as bs cs
  | _, _, _ => []
theorem mix3_length : ∀ (a b c : List UInt8), a.length = b.length → a.length = c.length → (mix3 a b c).length = a.length
  | [], _, _, _, _ => by simp [mix3]
  | _ :: _, [], _, h, _ => by simp at h
  | _ :: _, _ :: _, [], _, h => by simp at h
  | _ :: as, _ :: bs, _ :: cs, h, k => by
    simp only [mix3, List.length_cons] at h k ⊢
    rw [mix3_length as bs cs (by omega) (by omega)]
theorem mix3_at : ∀ (a b c : List UInt8) (k : Nat) (x y z : UInt8), a[k]? = some x → b[k]? = some y → c[k]? = some z → (mix3 a b c)[k]? = some (x ^^^ y ^^^ z)
  | [], _, _, _, _, _, _, h, _, _ => by simp at h
  | _ :: _, [], _, _, _, _, _, _, h, _ => by simp at h
  | _ :: _, _ :: _, [], _, _, _, _, _, _, h => by simp at h
  | _ :: as, _ :: bs, _ :: cs, 0, x, y, z, h1, h2, h3 => by
    simp at h1 h2 h3
    subst h1 h2 h3
    rfl
  | _ :: as, _ :: bs, _ :: cs, k + 1, x, y, z, h1, h2, h3 => by
    simp at h1 h2 h3
    simp only [mix3, List.getElem?_cons_succ]
    exact mix3_at as bs cs k x y z h1 h2 h3
theorem xor6 (a b c x y z : Nat) : a ^^^ b ^^^ c ^^^ (x ^^^ y ^^^ z) = (a ^^^ x) ^^^ (b ^^^ y) ^^^ (c ^^^ z) := by
  apply Nat.eq_of_testBit_eq
  intro i
  simp only [Nat.testBit_xor]
  cases a.testBit i <;> cases b.testBit i <;> cases c.testBit i <;> cases x.testBit i <;> cases y.testBit i <;> cases z.testBit i <;> rfl
theorem crcRun_mix : ∀ (a b c : List UInt8) (r s t : Nat), a.length = b.length → a.length = c.length → crcRun (r ^^^ s ^^^ t) (mix3 a b c) = crcRun r a ^^^ crcRun s b ^^^ crcRun t c
  | [], [], [], _, _, _, _, _ => rfl
  | [], _ :: _, _, _, _, _, h, _ => by simp at h
  | [], [], _ :: _, _, _, _, _, h => by simp at h
  | _ :: _, [], _, _, _, _, h, _ => by simp at h
  | _ :: _, _ :: _, [], _, _, _, _, h => by simp at h
  | x :: as, y :: bs, z :: cs, r, s, t, h, k => by
    have e : crcByte (r ^^^ s ^^^ t ^^^ (x ^^^ y ^^^ z).toNat) = crcByte (r ^^^ x.toNat) ^^^ crcByte (s ^^^ y.toNat) ^^^ crcByte (t ^^^ z.toNat) := by
      rw [UInt8.toNat_xor, UInt8.toNat_xor, xor6, crcByte_xor, crcByte_xor]
    show crcRun (crcByte (r ^^^ s ^^^ t ^^^ (x ^^^ y ^^^ z).toNat)) (mix3 as bs cs) = _
    rw [e]
    exact crcRun_mix as bs cs _ _ _ (by simpa using h) (by simpa using k)
theorem crcOf_mix (a b c : List UInt8) (h : a.length = b.length) (k : a.length = c.length) : crcOf (mix3 a b c) = crcOf a ^^^ crcOf b ^^^ crcOf c := by
  have e := crcRun_mix a b c 4294967295 4294967295 4294967295 h k
  have e0 : (4294967295 ^^^ 4294967295 ^^^ 4294967295 : Nat) = 4294967295 := rfl
  rw [e0] at e
  unfold crcOf crcFrom
  show 4294967295 ^^^ crcRun 4294967295 _ = (4294967295 ^^^ crcRun 4294967295 a) ^^^ (4294967295 ^^^ crcRun 4294967295 b) ^^^ (4294967295 ^^^ crcRun 4294967295 c)
  rw [e, ← xor6, e0]
/-- Two texts of one length have one sum exactly where the states agree. -/
theorem crcOf_eq_iff (a b : List UInt8) : crcOf a = crcOf b ↔ crcRun 4294967295 a = crcRun 4294967295 b := by
  unfold crcOf crcFrom
  constructor
  · intro h
    have := congrArg (fun n => 4294967295 ^^^ n) h
    simpa [← Nat.xor_assoc] using this
  · intro h; rw [show (4294967295 ^^^ 0 : Nat) = 4294967295 from rfl, h]
end Go.Proofs.YtiiipmcjbibgoaaDoor
