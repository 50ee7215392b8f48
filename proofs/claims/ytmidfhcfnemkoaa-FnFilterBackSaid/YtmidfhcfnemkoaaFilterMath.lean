/- Plain mathematics of the five filters of a row: what a filter takes from a byte; the row under a filter; the one row that stands under a filter. No program in sight. -/
import Derived.Test.YtmidfhcfnemkoaaMath
namespace Go.Proofs.Ytmidfhcfnemkoaa
/-- The byte so many places ahead; nought ahead of the row. -/
def aval (l : List UInt8) (step i : Nat) : UInt8 := if step ≤ i then l.getD (i - step) 0 else 0
/-- What a filter takes: a ahead, b above, c above a. -/
def predI (k : Nat) (a b c : Int) : Int := if k = 1 then a else if k = 2 then b else if k = 3 then (a + b) / 2 else if k = 4 then paethI a b c else 0
def predZ (k : Nat) (row above : List UInt8) (step i : Nat) : Int := predI k ((aval row step i).toNat : Int) ((above.getD i 0).toNat : Int) ((aval above step i).toNat : Int)
def predB (k : Nat) (row above : List UInt8) (step i : Nat) : UInt8 := UInt8.ofNat (predZ k row above step i).toNat
theorem ofByte (v : UInt8) : 0 ≤ (v.toNat : Int) ∧ (v.toNat : Int) ≤ 255 := by have := v.toNat_lt; omega
theorem predI_range (k : Nat) (a b c : Int) (ha : 0 ≤ a ∧ a ≤ 255) (hb : 0 ≤ b ∧ b ≤ 255) (hc : 0 ≤ c ∧ c ≤ 255) : 0 ≤ predI k a b c ∧ predI k a b c ≤ 255 := by
  have := paethI_range a b c ha hb hc
  unfold predI
  repeat' split
  all_goals omega
theorem predZ_range (k : Nat) (row above : List UInt8) (step i : Nat) : 0 ≤ predZ k row above step i ∧ predZ k row above step i ≤ 255 := predI_range _ _ _ _ (ofByte _) (ofByte _) (ofByte _)
theorem predB_val (k : Nat) (row above : List UInt8) (step i : Nat) : ((predB k row above step i).toNat : Int) = predZ k row above step i := by
  have := predZ_range k row above step i
  unfold predB
  simp
  omega
/-- What a filter takes hangs on the bytes ahead of the place alone. -/
theorem predB_congr {k : Nat} {r1 r2 above : List UInt8} {step i : Nat} (h : step ≤ i → r1.getD (i - step) 0 = r2.getD (i - step) 0) : predB k r1 above step i = predB k r2 above step i := by
  unfold predB predZ
  have e : aval r1 step i = aval r2 step i := by
    unfold aval
    split
    · rename_i h1; exact h h1
    · rfl
  rw [e]
/-- The row under a filter. -/
def filtered (k : Nat) (row above : List UInt8) (step : Nat) : List UInt8 := (List.range row.length).map fun i => row.getD i 0 - predB k row above step i
theorem filtered_length (k : Nat) (row above : List UInt8) (step : Nat) : (filtered k row above step).length = row.length := by simp [filtered]
theorem filtered_at (k : Nat) (row above : List UInt8) (step i : Nat) (h : i < row.length) : (filtered k row above step)[i]? = some (row.getD i 0 - predB k row above step i) := by
  simp [filtered, h]
/-- The row that stands under a filter. -/
structure IsUnf (k : Nat) (row above : List UInt8) (step : Nat) (out : List UInt8) : Prop where
  len : out.length = row.length
  val : ∀ i, i < row.length → out.getD i 0 = row.getD i 0 + predB k out above step i
theorem ext_getD {l m : List UInt8} (h : l.length = m.length) (h2 : ∀ i, i < l.length → l.getD i 0 = m.getD i 0) : l = m := by
  apply List.ext_getElem h
  intro i h3 h4
  have := h2 i h3
  simpa [List.getD, List.getElem?_eq_getElem h3, List.getElem?_eq_getElem h4] using this
theorem IsUnf.unique {k : Nat} {row above o1 o2 : List UInt8} {step : Nat} (hs : 1 ≤ step) (h1 : IsUnf k row above step o1) (h2 : IsUnf k row above step o2) : o1 = o2 := by
  refine ext_getD (h1.len.trans h2.len.symm) ?_
  have key : ∀ n i, i < n → i < row.length → o1.getD i 0 = o2.getD i 0 := by
    intro n
    induction n with
    | zero => intro i hi; omega
    | succ n ih =>
      intro i hi hr
      rw [h1.val i hr, h2.val i hr, predB_congr (r1 := o1) (r2 := o2) (fun hle => ih _ (by omega) (by omega))]
  intro i hi
  exact key (i + 1) i (by omega) (by rw [← h1.len]; exact hi)
theorem filtered_back (k : Nat) (row above : List UInt8) (step : Nat) : IsUnf k (filtered k row above step) above step row := by
  refine ⟨(filtered_length _ _ _ _).symm, fun i hi => ?_⟩
  rw [filtered_length] at hi
  have := filtered_at k row above step i hi
  simp only [List.getD, this, Option.getD_some]
  rw [UInt8.sub_add_cancel]
/-- The first m bytes of the row that stands under a filter. -/
def unfTo (k : Nat) (row above : List UInt8) (step : Nat) : Nat → List UInt8
  | 0 => []
  | m + 1 => unfTo k row above step m ++ [row.getD m 0 + predB k (unfTo k row above step m) above step m]
theorem unfTo_length (k : Nat) (row above : List UInt8) (step m : Nat) : (unfTo k row above step m).length = m := by
  induction m with
  | zero => rfl
  | succ m ih => simp [unfTo, ih]
theorem unfTo_at (k : Nat) (row above : List UInt8) (step : Nat) : ∀ (m i : Nat), i < m → (unfTo k row above step m).getD i 0 = row.getD i 0 + predB k (unfTo k row above step i) above step i := by
  intro m
  induction m with
  | zero => intro i h; omega
  | succ m ih =>
    intro i h
    rcases Nat.lt_or_ge i m with h1 | h1
    · rw [← ih i h1]
      simp only [unfTo, List.getD]
      rw [List.getElem?_append_left (by rw [unfTo_length]; exact h1)]
    · obtain rfl : i = m := by omega
      simp only [unfTo, List.getD]
      rw [List.getElem?_append_right (by rw [unfTo_length]; omega), unfTo_length]
      simp
theorem unf_exists (k : Nat) (row above : List UInt8) (step : Nat) (hs : 1 ≤ step) : ∃ out, IsUnf k row above step out := by
  refine ⟨unfTo k row above step row.length, unfTo_length _ _ _ _ _, fun i hi => ?_⟩
  rw [unfTo_at k row above step _ i hi]
  congr 1
  refine predB_congr fun hle => ?_
  rw [unfTo_at k row above step _ _ (by omega), unfTo_at k row above step _ _ (by omega)]
/-- A row of which some places hold one list's bytes, the others another's. -/
def mixL (d : Nat → Bool) (out row : List UInt8) (n : Nat) : List UInt8 := (List.range n).map fun p => if d p then out.getD p 0 else row.getD p 0
theorem mixL_length (d : Nat → Bool) (out row : List UInt8) (n : Nat) : (mixL d out row n).length = n := by simp [mixL]
theorem mixL_at {d : Nat → Bool} {out row : List UInt8} {n p : Nat} (h : p < n) : (mixL d out row n)[p]? = some (if d p then out.getD p 0 else row.getD p 0) := by simp [mixL, h]
theorem mixL_set {d d' : Nat → Bool} {out row : List UInt8} {n j : Nat} (h : ∀ p, p < n → d' p = (d p || decide (p = j))) : (mixL d out row n).set j (out.getD j 0) = mixL d' out row n := by
  apply List.ext_getElem?
  intro p
  rcases Nat.lt_or_ge p n with hp | hp
  · rw [mixL_at hp, List.getElem?_set, mixL_length, h p hp]
    by_cases e : j = p
    · subst e; simp [hp]
    · have e' : ¬ p = j := fun h => e h.symm
      rw [if_neg e, mixL_at hp]
      simp [e']
  · rw [List.getElem?_eq_none (by rw [List.length_set, mixL_length]; exact hp), List.getElem?_eq_none (by rw [mixL_length]; exact hp)]
theorem mixL_congr {d d' : Nat → Bool} {out row : List UInt8} {n : Nat} (h : ∀ p, p < n → d' p = d p) : mixL d out row n = mixL d' out row n := by
  unfold mixL
  apply List.map_congr_left
  intro p hp
  rw [h p (by simpa using hp)]
theorem mixL_all {d : Nat → Bool} {out row : List UInt8} {n : Nat} (hn : out.length = n) (h : ∀ p, p < n → d p = true) : mixL d out row n = out := by
  refine ext_getD (by rw [mixL_length, hn]) ?_
  intro i hi
  rw [mixL_length] at hi
  simp only [List.getD, mixL_at hi, Option.getD_some]
  rw [h i hi]
  simp
theorem mixL_none {d : Nat → Bool} {out row : List UInt8} {n : Nat} (hn : row.length = n) (h : ∀ p, p < n → d p = false) : mixL d out row n = row := by
  refine ext_getD (by rw [mixL_length, hn]) ?_
  intro i hi
  rw [mixL_length] at hi
  simp only [List.getD, mixL_at hi, Option.getD_some]
  rw [h i hi]
  simp
/-- The places that the Paeth loop has passed: columns ahead of i, and column i up to j. -/
def passed (step i j p : Nat) : Bool := decide (p % step < i) || (decide (p % step = i) && decide (p < j))
theorem step_cases {step : Nat} (h1 : 1 ≤ step) (h2 : step ≤ 8) : step = 1 ∨ step = 2 ∨ step = 3 ∨ step = 4 ∨ step = 5 ∨ step = 6 ∨ step = 7 ∨ step = 8 := by omega
theorem passed_step {step i j p : Nat} (h1 : 1 ≤ step) (h2 : step ≤ 8) (hj : j % step = i) : passed step i (j + step) p = (passed step i j p || decide (p = j)) := by
  unfold passed
  rw [Bool.eq_iff_iff]
  simp only [Bool.or_eq_true, Bool.and_eq_true, decide_eq_true_eq]
  rcases step_cases h1 h2 with rfl | rfl | rfl | rfl | rfl | rfl | rfl | rfl <;> omega
theorem passed_not {step i j : Nat} (hj : j % step = i) : passed step i j j = false := by
  unfold passed; rw [hj]; simp
theorem passed_start {step i p : Nat} (h1 : 1 ≤ step) (h2 : step ≤ 8) (hi : i < step) : passed step i 0 p = passed step i i p := by
  unfold passed
  rw [Bool.eq_iff_iff]
  simp only [Bool.or_eq_true, Bool.and_eq_true, decide_eq_true_eq]
  rcases step_cases h1 h2 with rfl | rfl | rfl | rfl | rfl | rfl | rfl | rfl <;> omega
theorem passed_end {step i j n p : Nat} (hp : p < n) (hj : n ≤ j) : passed step (i + 1) 0 p = passed step i j p := by
  unfold passed
  rw [Bool.eq_iff_iff]
  simp only [Bool.or_eq_true, Bool.and_eq_true, decide_eq_true_eq]
  omega
theorem passed_all {step p : Nat} (h1 : 1 ≤ step) : passed step step 0 p = true := by
  unfold passed
  have := Nat.mod_lt p (show step > 0 by omega)
  simp [this]
theorem passed_none (step p : Nat) : passed step 0 0 p = false := by
  unfold passed; simp
theorem mod_step {step i j : Nat} (hj : j % step = i) : (j + step) % step = i := by rw [Nat.add_mod_right]; exact hj
/-- A byte as a number with a sign, without it. -/
def absB (v : UInt8) : Nat := min v.toNat (256 - v.toNat)
def weight (l : List UInt8) : Nat := (l.map absB).sum
theorem weight_snoc (l : List UInt8) (v : UInt8) : weight (l ++ [v]) = weight l + absB v := by simp [weight]
theorem absB_le (v : UInt8) : absB v ≤ 128 := by unfold absB; omega
theorem weight_le (l : List UInt8) : weight l ≤ 128 * l.length := by
  induction l with
  | nil => simp [weight]
  | cons v l ih => have := absB_le v; simp [weight] at ih ⊢; omega
theorem weight_append (l m : List UInt8) : weight (l ++ m) = weight l + weight m := by simp [weight]
theorem weight_take_le (l : List UInt8) (k : Nat) : weight (l.take k) ≤ weight l := by
  have h := weight_append (l.take k) (l.drop k)
  rw [List.take_append_drop] at h
  omega
end Go.Proofs.Ytmidfhcfnemkoaa
