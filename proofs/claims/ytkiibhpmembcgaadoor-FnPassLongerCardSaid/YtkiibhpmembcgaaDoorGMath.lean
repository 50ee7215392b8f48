/- Plain mathematics of the five filters of a row: what a filter takes from a byte; the row under a filter; the one row that stands under a filter. No program in sight. What the bytes of a part of an image stand for: rows, samples, pixels. No function of the program in sight. The pixels of a picture that is read are those that the samples stand for. No function of the program in sight. The pixels of a pass laid into the whole: a fold of splices. No function of the program in sight. 'copy' of bytes into a row of the call's own, as one step of a region that draws: nothing but that row's block turns. -/
import Derived.Test.YtkiibhpmembcgaaDoorGBase
import Derived.Laws.CopyOwn
import Derived.Deep.RegionLaw
namespace Go.Proofs.YtkiibhpmembcgaaDoor
/-- The byte so many places ahead; nought ahead of the row. -/
def aval (l : List UInt8) (step i : Nat) : UInt8 := if step ≤ i then l.getD (i - step) 0 else 0
/-- What a filter takes: a ahead, b above, c above a. -/
def predI (k : Nat) (a b c : Int) : Int := if k = 1 then a else if k = 2 then b else if k = 3 then (a + b) / 2 else if k = 4 then paethI a b c else 0
def predZ (k : Nat) (row above : List UInt8) (step i : Nat) : Int := predI k ((aval row step i).toNat : Int) ((above.getD i 0).toNat : Int) ((aval above step i).toNat : Int)
def predB (k : Nat) (row above : List UInt8) (step i : Nat) : UInt8 := UInt8.ofNat (predZ k row above step i).toNat
theorem ofByte (v : UInt8) : 0 ≤ (v.toNat : Int) ∧ (v.toNat : Int) ≤ 255 := by have := v.toNat_lt; omega
theorem predI_range (k : Nat) (a b c : Int) (ha : 0 ≤ a ∧ a ≤ 255) (hb : 0 ≤ b ∧ b ≤ 255) (hc : 0 ≤ c ∧ c ≤ 255) : 0 ≤ predI k a b c ∧ predI k a b c ≤ 255 := by
  have := paethI_range a b c ha hb hc
  unfold predI
  repeat' split
  all_goals omega
theorem predZ_range (k : Nat) (row above : List UInt8) (step i : Nat) : 0 ≤ predZ k row above step i ∧ predZ k row above step i ≤ 255 := predI_range _ _ _ _ (ofByte _) (ofByte _) (ofByte _)
theorem predB_val (k : Nat) (row above : List UInt8) (step i : Nat) : ((predB k row above step i).toNat : Int) = predZ k row above step i := by
  have := predZ_range k row above step i
  unfold predB
  simp
  omega
/-- What a filter takes hangs on the bytes ahead of the place alone. -/
theorem predB_congr {k : Nat} {r1 r2 above : List UInt8} {step i : Nat} (h : step ≤ i → r1.getD (i - step) 0 = r2.getD (i - step) 0) : predB k r1 above step i = predB k r2 above step i := by
  unfold predB predZ
  have e : aval r1 step i = aval r2 step i := by
    unfold aval
    split
    · rename_i h1; exact h h1
    · rfl
  rw [e]
/-- The row under a filter. -/
def filtered (k : Nat) (row above : List UInt8) (step : Nat) : List UInt8 := (List.range row.length).map fun i => row.getD i 0 - predB k row above step i
theorem filtered_length (k : Nat) (row above : List UInt8) (step : Nat) : (filtered k row above step).length = row.length := by simp [filtered]
theorem filtered_at (k : Nat) (row above : List UInt8) (step i : Nat) (h : i < row.length) : (filtered k row above step)[i]? = some (row.getD i 0 - predB k row above step i) := by
  simp [filtered, h]
/-- The row that stands under a filter. -/
structure IsUnf (k : Nat) (row above : List UInt8) (step : Nat) (out : List UInt8) : Prop where
  len : out.length = row.length
  val : ∀ i, i < row.length → out.getD i 0 = row.getD i 0 + predB k out above step i
theorem ext_getD {l m : List UInt8} (h : l.length = m.length) (h2 : ∀ i, i < l.length → l.getD i 0 = m.getD i 0) : l = m := by
  apply List.ext_getElem h
  intro i h3 h4
  have := h2 i h3
  simpa [List.getD, List.getElem?_eq_getElem h3, List.getElem?_eq_getElem h4] using this
theorem IsUnf.unique {k : Nat} {row above o1 o2 : List UInt8} {step : Nat} (hs : 1 ≤ step) (h1 : IsUnf k row above step o1) (h2 : IsUnf k row above step o2) : o1 = o2 := by
  refine ext_getD (h1.len.trans h2.len.symm) ?_
  have key : ∀ n i, i < n → i < row.length → o1.getD i 0 = o2.getD i 0 := by
    intro n
    induction n with
    | zero => intro i hi; omega
    | succ n ih =>
      intro i hi hr
      rw [h1.val i hr, h2.val i hr, predB_congr (r1 := o1) (r2 := o2) (fun hle => ih _ (by omega) (by omega))]
  intro i hi
  exact key (i + 1) i (by omega) (by rw [← h1.len]; exact hi)
theorem filtered_back (k : Nat) (row above : List UInt8) (step : Nat) : IsUnf k (filtered k row above step) above step row := by
  refine ⟨(filtered_length _ _ _ _).symm, fun i hi => ?_⟩
  rw [filtered_length] at hi
  have := filtered_at k row above step i hi
  simp only [List.getD, this, Option.getD_some]
  rw [UInt8.sub_add_cancel]
/-- The first m bytes of the row that stands under a filter. -/
def unfTo (k : Nat) (row above : List UInt8) (step : Nat) : Nat → List UInt8
  | 0 => []
  | m + 1 => unfTo k row above step m ++ [row.getD m 0 + predB k (unfTo k row above step m) above step m]
theorem unfTo_length (k : Nat) (row above : List UInt8) (step m : Nat) : (unfTo k row above step m).length = m := by
  induction m with
  | zero => rfl
  | succ m ih => simp [unfTo, ih]
theorem unfTo_at (k : Nat) (row above : List UInt8) (step : Nat) : ∀ (m i : Nat), i < m → (unfTo k row above step m).getD i 0 = row.getD i 0 + predB k (unfTo k row above step i) above step i := by
  intro m
  induction m with
  | zero => intro i h; omega
  | succ m ih =>
    intro i h
    rcases Nat.lt_or_ge i m with h1 | h1
    · rw [← ih i h1]
      simp only [unfTo, List.getD]
      rw [List.getElem?_append_left (by rw [unfTo_length]; exact h1)]
    · obtain rfl : i = m := by omega
      simp only [unfTo, List.getD]
      rw [List.getElem?_append_right (by rw [unfTo_length]; omega), unfTo_length]
      simp
theorem unf_exists (k : Nat) (row above : List UInt8) (step : Nat) (hs : 1 ≤ step) : ∃ out, IsUnf k row above step out := by
  refine ⟨unfTo k row above step row.length, unfTo_length _ _ _ _ _, fun i hi => ?_⟩
  rw [unfTo_at k row above step _ i hi]
  congr 1
  refine predB_congr fun hle => ?_
  rw [unfTo_at k row above step _ _ (by omega), unfTo_at k row above step _ _ (by omega)]
/-- A row of which some places hold one list's bytes, the others another's. -/
def mixL (d : Nat → Bool) (out row : List UInt8) (n : Nat) : List UInt8 := (List.range n).map fun p => if d p then out.getD p 0 else row.getD p 0
theorem mixL_length (d : Nat → Bool) (out row : List UInt8) (n : Nat) : (mixL d out row n).length = n := by simp [mixL]
theorem mixL_at {d : Nat → Bool} {out row : List UInt8} {n p : Nat} (h : p < n) : (mixL d out row n)[p]? = some (if d p then out.getD p 0 else row.getD p 0) := by simp [mixL, h]
theorem mixL_set {d d' : Nat → Bool} {out row : List UInt8} {n j : Nat} (h : ∀ p, p < n → d' p = (d p || decide (p = j))) : (mixL d out row n).set j (out.getD j 0) = mixL d' out row n := by
  apply List.ext_getElem?
  intro p
  rcases Nat.lt_or_ge p n with hp | hp
  · rw [mixL_at hp, List.getElem?_set, mixL_length, h p hp]
    by_cases e : j = p
    · subst e; simp [hp]
    · have e' : ¬ p = j := fun h => e h.symm
      rw [if_neg e, mixL_at hp]
      simp [e']
  · rw [List.getElem?_eq_none (by rw [List.length_set, mixL_length]; exact hp), List.getElem?_eq_none (by rw [mixL_length]; exact hp)]
theorem mixL_congr {d d' : Nat → Bool} {out row : List UInt8} {n : Nat} (h : ∀ p, p < n → d' p = d p) : mixL d out row n = mixL d' out row n := by
  unfold mixL
  apply List.map_congr_left
  intro p hp
  rw [h p (by simpa using hp)]
theorem mixL_all {d : Nat → Bool} {out row : List UInt8} {n : Nat} (hn : out.length = n) (h : ∀ p, p < n → d p = true) : mixL d out row n = out := by
  refine ext_getD (by rw [mixL_length, hn]) ?_
  intro i hi
  rw [mixL_length] at hi
  simp only [List.getD, mixL_at hi, Option.getD_some]
  rw [h i hi]
  simp
theorem mixL_none {d : Nat → Bool} {out row : List UInt8} {n : Nat} (hn : row.length = n) (h : ∀ p, p < n → d p = false) : mixL d out row n = row := by
  refine ext_getD (by rw [mixL_length, hn]) ?_
  intro i hi
  rw [mixL_length] at hi
  simp only [List.getD, mixL_at hi, Option.getD_some]
  rw [h i hi]
  simp
/-- The places that the Paeth loop has passed: columns ahead of i, and column i up to j. -/
def passed (step i j p : Nat) : Bool := decide (p % step < i) || (decide (p % step = i) && decide (p < j))
theorem step_cases {step : Nat} (h1 : 1 ≤ step) (h2 : step ≤ 8) : step = 1 ∨ step = 2 ∨ step = 3 ∨ step = 4 ∨ step = 5 ∨ step = 6 ∨ step = 7 ∨ step = 8 := by omega
theorem passed_step {step i j p : Nat} (h1 : 1 ≤ step) (h2 : step ≤ 8) (hj : j % step = i) : passed step i (j + step) p = (passed step i j p || decide (p = j)) := by
  unfold passed
  rw [Bool.eq_iff_iff]
  simp only [Bool.or_eq_true, Bool.and_eq_true, decide_eq_true_eq]
  rcases step_cases h1 h2 with rfl | rfl | rfl | rfl | rfl | rfl | rfl | rfl <;> omega
theorem passed_not {step i j : Nat} (hj : j % step = i) : passed step i j j = false := by
  unfold passed; rw [hj]; simp
theorem passed_start {step i p : Nat} (h1 : 1 ≤ step) (h2 : step ≤ 8) (hi : i < step) : passed step i 0 p = passed step i i p := by
  unfold passed
  rw [Bool.eq_iff_iff]
  simp only [Bool.or_eq_true, Bool.and_eq_true, decide_eq_true_eq]
  rcases step_cases h1 h2 with rfl | rfl | rfl | rfl | rfl | rfl | rfl | rfl <;> omega
theorem passed_end {step i j n p : Nat} (hp : p < n) (hj : n ≤ j) : passed step (i + 1) 0 p = passed step i j p := by
  unfold passed
  rw [Bool.eq_iff_iff]
  simp only [Bool.or_eq_true, Bool.and_eq_true, decide_eq_true_eq]
  omega
theorem passed_all {step p : Nat} (h1 : 1 ≤ step) : passed step step 0 p = true := by
  unfold passed
  have := Nat.mod_lt p (show step > 0 by omega)
  simp [this]
theorem passed_none (step p : Nat) : passed step 0 0 p = false := by
  unfold passed; simp
theorem mod_step {step i j : Nat} (hj : j % step = i) : (j + step) % step = i := by rw [Nat.add_mod_right]; exact hj
/-- A byte as a number with a sign, without it. -/
def absB (v : UInt8) : Nat := min v.toNat (256 - v.toNat)
def weight (l : List UInt8) : Nat := (l.map absB).sum
theorem weight_snoc (l : List UInt8) (v : UInt8) : weight (l ++ [v]) = weight l + absB v := by simp [weight]
theorem absB_le (v : UInt8) : absB v ≤ 128 := by unfold absB; omega
theorem weight_le (l : List UInt8) : weight l ≤ 128 * l.length := by
  induction l with
  | nil => simp [weight]
  | cons v l ih => have := absB_le v; simp [weight] at ih ⊢; omega
theorem weight_append (l m : List UInt8) : weight (l ++ m) = weight l + weight m := by simp [weight]
theorem weight_take_le (l : List UInt8) (k : Nat) : weight (l.take k) ≤ weight l := by
  have h := weight_append (l.take k) (l.drop k)
  rw [List.take_append_drop] at h
  omega
end Go.Proofs.YtkiibhpmembcgaaDoor
namespace Go.Proofs.YtkiibhpmembcgaaDoor

/-- How many columns (or rows) of a part lie in so many. -/
def cntP (X D W : Nat) : Nat := (W + D - 1 - X) / D
theorem cntP_of {X D W t : Nat} (hX : X < D) (hlo : ∀ s, s < t → X + s * D < W) (hhi : W ≤ X + t * D) (hW : 1 ≤ W) : t = cntP X D W := by
  unfold cntP
  refine (Nat.div_eq_of_lt_le ?_ ?_).symm
  · rcases Nat.eq_zero_or_pos t with h0 | h0
    · subst h0; simp
    · have h1 := hlo (t - 1) (by omega)
      have h2 : t * D = (t - 1) * D + D := by
        have : t = t - 1 + 1 := by omega
        conv => lhs; rw [this, Nat.add_mul, Nat.one_mul]
      omega
  · rw [Nat.add_mul, Nat.one_mul]
    omega
theorem cntP_le {X D W : Nat} (hD : 1 ≤ D) (hW : W ≤ 40) (hX : X < D) : cntP X D W ≤ 40 := by
  unfold cntP
  refine Nat.le_of_lt_succ (Nat.div_lt_of_lt_mul ?_)
  have : D * 41 = D * 40 + D := by omega
  have h2 : 40 ≤ D * 40 := by omega
  omega
theorem cntP_one (W : Nat) (hW : 1 ≤ W) : cntP 0 1 W = W := by
  unfold cntP
  omega
/-- How many samples a pixel has, by its colour type. -/
def chN (c : Nat) : Nat := if c = 2 then 3 else if c = 4 then 2 else if c = 6 then 4 else 1
/-- How many bytes a row has. -/
def rbN (c d w : Nat) : Nat := (w * chN c * d + 7) / 8
/-- How many bytes stand between a byte of a pixel and that of the next one. -/
def stN (c d : Nat) : Nat := max 1 (chN c * d / 8)
/-- The fifteen kinds. -/
def OkCD (c d : Nat) : Prop := (c = 0 ∧ (d = 1 ∨ d = 2 ∨ d = 4 ∨ d = 8 ∨ d = 16)) ∨ (c = 3 ∧ (d = 1 ∨ d = 2 ∨ d = 4 ∨ d = 8)) ∨ ((c = 2 ∨ c = 4 ∨ c = 6) ∧ (d = 8 ∨ d = 16))
theorem OkCD.ch {c d : Nat} (_h : OkCD c d) : 1 ≤ chN c ∧ chN c ≤ 4 := by
  unfold chN
  repeat' split
  all_goals omega
theorem OkCD.d {c d : Nat} (h : OkCD c d) : d = 1 ∨ d = 2 ∨ d = 4 ∨ d = 8 ∨ d = 16 := by
  unfold OkCD at h; omega
theorem OkCD.st {c d : Nat} (h : OkCD c d) : 1 ≤ stN c d ∧ stN c d ≤ 8 := by
  have h1 := h.ch
  have h2 := h.d
  have h3 : chN c * d ≤ 4 * 16 := Nat.mul_le_mul h1.2 (by omega)
  unfold stN
  omega
theorem OkCD.rb {c d w : Nat} (h : OkCD c d) (hw : w ≤ 40) : rbN c d w ≤ 320 := by
  have h1 := h.ch
  have h2 := h.d
  have h3 : w * chN c * d ≤ 40 * 4 * 16 := Nat.mul_le_mul (Nat.mul_le_mul hw h1.2) (by omega)
  unfold rbN
  omega
theorem OkCD.rb_pos {c d w : Nat} (h : OkCD c d) (hw : 1 ≤ w) : 1 ≤ rbN c d w := by
  have h1 := h.ch
  have h2 := h.d
  have h3 : 1 * 1 * 1 ≤ w * chN c * d := Nat.mul_le_mul (Nat.mul_le_mul hw h1.1) (by omega)
  unfold rbN
  omega

/-- The row that stands under a filter. -/
def unf (k : Nat) (row above : List UInt8) (st : Nat) : List UInt8 := unfTo k row above st row.length
theorem unf_is (k : Nat) (row above : List UInt8) (st : Nat) (hs : 1 ≤ st) : IsUnf k row above st (unf k row above st) := by
  refine ⟨unfTo_length _ _ _ _ _, fun i hi => ?_⟩
  unfold unf
  rw [unfTo_at k row above st _ i hi]
  congr 1
  refine predB_congr fun hle => ?_
  rw [unfTo_at k row above st _ _ (by omega), unfTo_at k row above st _ _ (by omega)]
theorem unf_len (k : Nat) (row above : List UInt8) (st : Nat) : (unf k row above st).length = row.length := unfTo_length _ _ _ _ _
/-- The last of the rows; noughts ahead of the first one. -/
def lastR (R : List (List UInt8)) (n : Nat) : List UInt8 := R.getLastD (List.replicate n 0)
/-- The byte of row y's filter, and the row's bytes under it. -/
def fltB (l : List UInt8) (n y : Nat) : UInt8 := l.getD (y * (n + 1)) 0
def rowB (l : List UInt8) (n y : Nat) : List UInt8 := (l.drop (y * (n + 1) + 1)).take n
/-- The first y rows; none where there are too few bytes, or a filter that there is not. -/
def upR (l : List UInt8) (n st : Nat) : Nat → Option (List (List UInt8))
  | 0 => some []
  | y + 1 => match upR l n st y with
    | none => none
    | some R => if (y + 1) * (n + 1) ≤ l.length ∧ (fltB l n y).toNat ≤ 4 then some (R ++ [unf (fltB l n y).toNat (rowB l n y) (lastR R n) st]) else none
theorem rowB_len {l : List UInt8} {n y : Nat} (h : (y + 1) * (n + 1) ≤ l.length) : (rowB l n y).length = n := by
  unfold rowB
  rw [List.length_take, List.length_drop]
  rw [Nat.add_mul, Nat.one_mul] at h
  omega
structure Rows (n y : Nat) (R : List (List UInt8)) : Prop where
  len : R.length = y
  all : ∀ r ∈ R, r.length = n
theorem Rows.last {n y : Nat} {R : List (List UInt8)} (h : Rows n y R) : (lastR R n).length = n := by
  unfold lastR
  rcases R.eq_nil_or_concat with rfl | ⟨A, b, rfl⟩
  · simp
  · rw [List.concat_eq_append]
    simp only [List.getLastD_concat]
    exact h.all b (by simp)
theorem upR_rows {l : List UInt8} {n st : Nat} : ∀ {y : Nat} {R : List (List UInt8)}, upR l n st y = some R → Rows n y R
  | 0, R, h => by
    obtain rfl : [] = R := Option.some.inj h
    exact ⟨rfl, fun r hr => by simp at hr⟩
  | y + 1, R, h => by
    unfold upR at h
    cases hy : upR l n st y with
    | none => rw [hy] at h; simp at h
    | some R0 =>
      rw [hy] at h
      simp only at h
      by_cases hc : (y + 1) * (n + 1) ≤ l.length ∧ (fltB l n y).toNat ≤ 4
      · rw [if_pos hc] at h
        obtain rfl := Option.some.inj h
        have ih := upR_rows hy
        refine ⟨by rw [List.length_append, ih.len]; rfl, fun r hr => ?_⟩
        rcases List.mem_append.1 hr with hr | hr
        · exact ih.all r hr
        · rw [List.mem_singleton.1 hr, unf_len, rowB_len hc.1]
      · rw [if_neg hc] at h
        simp at h
theorem upR_next {l : List UInt8} {n st y : Nat} {R : List (List UInt8)} (h : upR l n st y = some R) (hl : (y + 1) * (n + 1) ≤ l.length) (hf : (fltB l n y).toNat ≤ 4) :
    upR l n st (y + 1) = some (R ++ [unf (fltB l n y).toNat (rowB l n y) (lastR R n) st]) := by
  rw [upR, h]
  simp only
  rw [if_pos ⟨hl, hf⟩]
theorem upR_stop {l : List UInt8} {n st y : Nat} {R : List (List UInt8)} (h : upR l n st y = some R) (hc : ¬ ((y + 1) * (n + 1) ≤ l.length ∧ (fltB l n y).toNat ≤ 4)) : upR l n st (y + 1) = none := by
  rw [upR, h]
  simp only
  rw [if_neg hc]
theorem upR_none {l : List UInt8} {n st y : Nat} (h : upR l n st y = none) : ∀ k, upR l n st (y + k) = none
  | 0 => h
  | k + 1 => by
    rw [← Nat.add_assoc, upR, upR_none h k]
theorem upR_none_le {l : List UInt8} {n st y z : Nat} (h : upR l n st y = none) (hz : y ≤ z) : upR l n st z = none := by
  have := upR_none h (z - y)
  rwa [Nat.add_sub_cancel' hz] at this

/-- A sample of a row. -/
def sampA (d : Nat) (row : List UInt8) (k : Nat) : Nat :=
  if d = 8 then (row.getD k 0).toNat else if d = 16 then (row.getD (2 * k) 0).toNat * 256 + (row.getD (2 * k + 1) 0).toNat
  else (row.getD (k * d / 8) 0).toNat / 2 ^ (8 - d - k * d % 8) % 2 ^ d
def sampR (d m : Nat) (row : List UInt8) : List Nat := (List.range m).map (sampA d row)
theorem sampR_len (d m : Nat) (row : List UInt8) : (sampR d m row).length = m := by simp [sampR]
theorem sampR_next (d m : Nat) (row : List UInt8) : sampR d (m + 1) row = sampR d m row ++ [sampA d row m] := by simp [sampR, List.range_succ]
def sampsOf (d m : Nat) (R : List (List UInt8)) : List Nat := R.flatMap (sampR d m)
theorem sampsOf_next (d m : Nat) (R : List (List UInt8)) (r : List UInt8) : sampsOf d m (R ++ [r]) = sampsOf d m R ++ sampR d m r := by simp [sampsOf]
theorem sampA_lt {c d : Nat} (h : OkCD c d) (row : List UInt8) (k : Nat) : sampA d row k < 2 ^ d := by
  unfold sampA
  have h1 := (row.getD k 0).toNat_lt
  have h2 := (row.getD (2 * k) 0).toNat_lt
  have h3 := (row.getD (2 * k + 1) 0).toNat_lt
  split
  · rename_i h8; subst h8; omega
  · split
    · rename_i h16; subst h16; omega
    · exact Nat.mod_lt _ (Nat.pow_pos (by omega))
theorem flatMap_len {α β : Type} (f : α → List β) (m : Nat) (h : ∀ a, (f a).length = m) (R : List α) : (R.flatMap f).length = R.length * m := by
  induction R with
  | nil => simp
  | cons a R ih => rw [List.flatMap_cons, List.length_append, h, ih, List.length_cons, Nat.add_mul, Nat.one_mul, Nat.add_comm]
theorem flatMap_at {α β : Type} (f : α → List β) (m : Nat) (h : ∀ a, (f a).length = m) : ∀ (R : List α) (y j : Nat) (a : α), R[y]? = some a → j < m → (R.flatMap f)[y * m + j]? = (f a)[j]?
  | [], y, j, a, ha, _ => by simp at ha
  | b :: R, 0, j, a, ha, hj => by
    have e : b = a := by simpa using ha
    rw [List.flatMap_cons, Nat.zero_mul, Nat.zero_add, List.getElem?_append_left (by rw [h]; exact hj), e]
  | b :: R, y + 1, j, a, ha, hj => by
    rw [List.flatMap_cons, List.getElem?_append_right (by rw [h, Nat.add_mul, Nat.one_mul]; omega), h, ← flatMap_at f m h R y j a (by simpa using ha) hj]
    congr 1
    rw [Nat.add_mul, Nat.one_mul]
    omega

/-- A pixel: red, green, blue and alpha of 16 bits each. -/
structure Dt where
  r : Nat
  g : Nat
  b : Nat
  a : Nat
/-- A pixel by its samples. -/
def dotS (c d : Nat) (P : List Dt) (clear : List Nat) (s : Nat → Nat) : Dt :=
  let v := fun j => s j * 65535 / (2 ^ d - 1)
  let base : Dt := if c = 0 then ⟨v 0, v 0, v 0, 65535⟩ else if c = 2 then ⟨v 0, v 1, v 2, 65535⟩ else if c = 3 then P.getD (s 0) ⟨0, 0, 0, 0⟩ else if c = 4 then ⟨v 0, v 0, v 0, v 1⟩ else ⟨v 0, v 1, v 2, v 3⟩
  if clear ≠ [] ∧ (∀ j, j < chN c → clear.getD j 0 = s j) ∧ (c = 0 ∨ c = 2) then { base with a := 0 } else base
/-- A pixel by its bytes in a picture of a kind. -/
def dotP (k : Nat) (P : List Dt) (b : Nat → UInt8) : Dt :=
  if k = 1 then ⟨257 * (b 0).toNat, 257 * (b 0).toNat, 257 * (b 0).toNat, 65535⟩
  else if k = 2 then ⟨(b 0).toNat * 256 + (b 1).toNat, (b 0).toNat * 256 + (b 1).toNat, (b 0).toNat * 256 + (b 1).toNat, 65535⟩
  else if k = 3 ∨ k = 5 then ⟨257 * (b 0).toNat, 257 * (b 1).toNat, 257 * (b 2).toNat, 257 * (b 3).toNat⟩
  else if k = 4 ∨ k = 6 then ⟨(b 0).toNat * 256 + (b 1).toNat, (b 2).toNat * 256 + (b 3).toNat, (b 4).toNat * 256 + (b 5).toNat, (b 6).toNat * 256 + (b 7).toNat⟩
  else P.getD (b 0).toNat ⟨0, 0, 0, 0⟩
/-- The kind of picture that a colour type with so many bits is read as; clear: some samples are. -/
def kindN (c d : Nat) (clear : Bool) : Nat :=
  if c = 3 then 7 else if c = 0 ∧ clear = false then (if d = 16 then 2 else 1) else if c = 2 ∧ clear = false then (if d = 16 then 4 else 3) else (if d = 16 then 6 else 5)
/-- Bytes a pixel of a kind. -/
def nK (k : Nat) : Nat := if k = 1 ∨ k = 7 then 1 else if k = 2 then 2 else if k = 3 ∨ k = 5 then 4 else 8
/-- The number by which a sample of few bits is widened to a byte. -/
def mulD (d : Nat) : Nat := if d = 1 then 255 else if d = 2 then 85 else if d = 4 then 17 else 1
/-- The bytes of a pixel in the picture that is read. -/
def pixA (c d : Nat) (clear : List Nat) (row : List UInt8) (x : Nat) : List UInt8 :=
  let b := fun i => row.getD i 0
  if c = 3 then [UInt8.ofNat (sampA d row x)]
  else if c = 0 then
    if d = 16 then
      if clear = [] then [b (2 * x), b (2 * x + 1)]
      else let a : UInt8 := if sampA d row x = clear.getD 0 0 then 0 else 255
        [b (2 * x), b (2 * x + 1), b (2 * x), b (2 * x + 1), b (2 * x), b (2 * x + 1), a, a]
    else
      if clear = [] then [UInt8.ofNat (sampA d row x * mulD d)]
      else let y := UInt8.ofNat (sampA d row x * mulD d)
        [y, y, y, if sampA d row x = clear.getD 0 0 then 0 else 255]
  else if c = 2 then
    if d = 16 then
      let a : UInt8 := if clear ≠ [] ∧ sampA d row (x * 3) = clear.getD 0 0 ∧ sampA d row (x * 3 + 1) = clear.getD 1 0 ∧ sampA d row (x * 3 + 2) = clear.getD 2 0 then 0 else 255
      [b (6 * x), b (6 * x + 1), b (6 * x + 2), b (6 * x + 3), b (6 * x + 4), b (6 * x + 5), a, a]
    else
      let a : UInt8 := if clear ≠ [] ∧ sampA d row (x * 3) = clear.getD 0 0 ∧ sampA d row (x * 3 + 1) = clear.getD 1 0 ∧ sampA d row (x * 3 + 2) = clear.getD 2 0 then 0 else 255
      [b (3 * x), b (3 * x + 1), b (3 * x + 2), a]
  else if c = 4 then
    if d = 16 then [b (4 * x), b (4 * x + 1), b (4 * x), b (4 * x + 1), b (4 * x), b (4 * x + 1), b (4 * x + 2), b (4 * x + 3)]
    else [b (2 * x), b (2 * x), b (2 * x), b (2 * x + 1)]
  else
    if d = 16 then [b (8 * x), b (8 * x + 1), b (8 * x + 2), b (8 * x + 3), b (8 * x + 4), b (8 * x + 5), b (8 * x + 6), b (8 * x + 7)]
    else [b (4 * x), b (4 * x + 1), b (4 * x + 2), b (4 * x + 3)]
/-- Clear samples are told of gray of 8 and 16 bits and of red, green and blue alone, as many as a pixel has, each in its range. -/
structure OkClear (c d : Nat) (clear : List Nat) : Prop where
  len : clear = [] ∨ (clear.length = chN c ∧ (c = 0 ∧ 8 ≤ d ∨ c = 2))
  lt : ∀ v ∈ clear, v < 2 ^ d
theorem pixA_len {c d : Nat} (h : OkCD c d) {clear : List Nat} (row : List UInt8) (x : Nat) : (pixA c d clear row x).length = nK (kindN c d (!clear.isEmpty)) := by
  rcases h with ⟨rfl, rfl | rfl | rfl | rfl | rfl⟩ | ⟨rfl, rfl | rfl | rfl | rfl⟩ | ⟨rfl | rfl | rfl, rfl | rfl⟩
  all_goals
    cases clear
    all_goals simp [pixA, kindN, nK]
theorem few_bits {d v : Nat} (hd : d = 1 ∨ d = 2 ∨ d = 4) (h : v < 2 ^ d) : 257 * (UInt8.ofNat (v * mulD d)).toNat = v * 65535 / (2 ^ d - 1) := by
  rcases hd with rfl | rfl | rfl
  · have : v < 2 := h
    rcases (by omega : v = 0 ∨ v = 1) with rfl | rfl <;> decide
  · have : v < 4 := h
    rcases (by omega : v = 0 ∨ v = 1 ∨ v = 2 ∨ v = 3) with rfl | rfl | rfl | rfl <;> decide
  · have : v < 16 := h
    rcases (by omega : v = 0 ∨ v = 1 ∨ v = 2 ∨ v = 3 ∨ v = 4 ∨ v = 5 ∨ v = 6 ∨ v = 7 ∨ v = 8 ∨ v = 9 ∨ v = 10 ∨ v = 11 ∨ v = 12 ∨ v = 13 ∨ v = 14 ∨ v = 15) with rfl | rfl | rfl | rfl | rfl | rfl | rfl | rfl | rfl | rfl | rfl | rfl | rfl | rfl | rfl | rfl <;> decide
end Go.Proofs.YtkiibhpmembcgaaDoor
namespace Go.Proofs.YtkiibhpmembcgaaDoor

/-- The pixel at a place of a picture of a kind: n bytes a pixel, W columns, rows S apart. -/
def dotAt (k : Nat) (P : List Dt) (n W S : Nat) (pix : List UInt8) (t : Nat) : Dt := dotP k P fun i => pix.getD (t / W * S + t % W * n + i) 0
/-- The pixel that the t-th samples stand for. -/
def dotOf (c d : Nat) (P : List Dt) (clear samps : List Nat) (t : Nat) : Dt := dotS c d P clear fun j => samps.getD (t * chN c + j) 0
/-- The bytes of a picture, of the rows that have been read. -/
def picOf (c d : Nat) (clear : List Nat) (W : Nat) (R : List (List UInt8)) : List UInt8 := R.flatMap fun r => (List.range W).flatMap (pixA c d clear r)

theorem dotP_congr {k : Nat} {P : List Dt} {b b' : Nat → UInt8} (h : ∀ i, i < nK k → b i = b' i) : dotP k P b = dotP k P b' := by
  unfold dotP
  unfold nK at h
  split
  · rename_i h1; subst h1; rw [h 0 (by simp)]
  · split
    · rename_i h1; subst h1; rw [h 0 (by simp), h 1 (by simp)]
    · split
      · rename_i h1 h2 h3
        have e : (if k = 1 ∨ k = 7 then 1 else if k = 2 then 2 else if k = 3 ∨ k = 5 then 4 else 8) = 4 := by rw [if_neg (by omega), if_neg (by omega), if_pos h3]
        rw [e] at h
        rw [h 0 (by omega), h 1 (by omega), h 2 (by omega), h 3 (by omega)]
      · split
        · rename_i h1 h2 h3 h4
          have e : (if k = 1 ∨ k = 7 then 1 else if k = 2 then 2 else if k = 3 ∨ k = 5 then 4 else 8) = 8 := by rw [if_neg (by omega), if_neg (by omega), if_neg h3]
          rw [e] at h
          rw [h 0 (by omega), h 1 (by omega), h 2 (by omega), h 3 (by omega), h 4 (by omega), h 5 (by omega), h 6 (by omega), h 7 (by omega)]
        · have : 0 < (if k = 1 ∨ k = 7 then 1 else if k = 2 then 2 else if k = 3 ∨ k = 5 then 4 else 8) := by
            repeat' split
            all_goals omega
          rw [h 0 this]
theorem dotS_congr {c d : Nat} {P : List Dt} {clear : List Nat} {s s' : Nat → Nat} (hc : c = 0 ∨ c = 2 ∨ c = 3 ∨ c = 4 ∨ c = 6) (h : ∀ j, j < chN c → s j = s' j) : dotS c d P clear s = dotS c d P clear s' := by
  have hcl : (∀ j, j < chN c → clear.getD j 0 = s j) ↔ (∀ j, j < chN c → clear.getD j 0 = s' j) := by
    constructor
    · intro g j hj; rw [← h j hj]; exact g j hj
    · intro g j hj; rw [h j hj]; exact g j hj
  unfold dotS
  simp only [hcl]
  rcases hc with rfl | rfl | rfl | rfl | rfl
  · have e0 := h 0 (by decide)
    simp [e0]
  · have e0 := h 0 (by decide)
    have e1 := h 1 (by decide)
    have e2 := h 2 (by decide)
    simp [e0, e1, e2]
  · have e0 := h 0 (by decide)
    simp [e0]
  · have e0 := h 0 (by decide)
    have e1 := h 1 (by decide)
    simp [e0, e1]
  · have e0 := h 0 (by decide)
    have e1 := h 1 (by decide)
    have e2 := h 2 (by decide)
    have e3 := h 3 (by decide)
    simp [e0, e1, e2, e3]
theorem samp8 (row : List UInt8) (k : Nat) : sampA 8 row k = (row.getD k 0).toNat := by simp [sampA]
theorem samp16 (row : List UInt8) (k : Nat) : sampA 16 row k = (row.getD (2 * k) 0).toNat * 256 + (row.getD (2 * k + 1) 0).toNat := by simp [sampA]
theorem ofNat_toNat8 (x : UInt8) : UInt8.ofNat x.toNat = x := by apply UInt8.toNat_inj.1; simp
theorem w8 (x : Nat) : x * 65535 / (2 ^ 8 - 1) = 257 * x := by
  rw [show (2 : Nat) ^ 8 - 1 = 255 by rfl]
  omega
theorem w16 (x : Nat) : x * 65535 / (2 ^ 16 - 1) = x := by
  rw [show (2 : Nat) ^ 16 - 1 = 65535 by rfl]
  omega
theorem all1 {p : Nat → Prop} : (∀ j, j < 1 → p j) ↔ p 0 := ⟨fun h => h 0 (by omega), fun h j hj => (show j = 0 by omega) ▸ h⟩
theorem all3 {p : Nat → Prop} : (∀ j, j < 3 → p j) ↔ (p 0 ∧ p 1 ∧ p 2) :=
  ⟨fun h => ⟨h 0 (by omega), h 1 (by omega), h 2 (by omega)⟩, fun ⟨a, b, c⟩ j hj => by
    rcases (by omega : j = 0 ∨ j = 1 ∨ j = 2) with rfl | rfl | rfl
    · exact a
    · exact b
    · exact c⟩
theorem dotS_g (d : Nat) (P : List Dt) (clear : List Nat) (s : Nat → Nat) :
    dotS 0 d P clear s = ⟨s 0 * 65535 / (2 ^ d - 1), s 0 * 65535 / (2 ^ d - 1), s 0 * 65535 / (2 ^ d - 1), if clear ≠ [] ∧ s 0 = clear.getD 0 0 then 0 else 65535⟩ := by
  have hh : (clear ≠ [] ∧ (∀ j, j < chN 0 → clear.getD j 0 = s j) ∧ (0 = 0 ∨ 0 = 2)) ↔ (clear ≠ [] ∧ s 0 = clear.getD 0 0) := by
    rw [show chN 0 = 1 from rfl, all1]
    exact ⟨fun q => ⟨q.1, q.2.1.symm⟩, fun q => ⟨q.1, q.2.symm, .inl rfl⟩⟩
  unfold dotS
  by_cases e : clear ≠ [] ∧ s 0 = clear.getD 0 0
  · rw [if_pos (hh.2 e), if_pos e]; rfl
  · rw [if_neg (fun q => e (hh.1 q)), if_neg e]; rfl
theorem dotS_t (d : Nat) (P : List Dt) (clear : List Nat) (s : Nat → Nat) :
    dotS 2 d P clear s = ⟨s 0 * 65535 / (2 ^ d - 1), s 1 * 65535 / (2 ^ d - 1), s 2 * 65535 / (2 ^ d - 1), if clear ≠ [] ∧ s 0 = clear.getD 0 0 ∧ s 1 = clear.getD 1 0 ∧ s 2 = clear.getD 2 0 then 0 else 65535⟩ := by
  have hh : (clear ≠ [] ∧ (∀ j, j < chN 2 → clear.getD j 0 = s j) ∧ (2 = 0 ∨ 2 = 2)) ↔ (clear ≠ [] ∧ s 0 = clear.getD 0 0 ∧ s 1 = clear.getD 1 0 ∧ s 2 = clear.getD 2 0) := by
    rw [show chN 2 = 3 from rfl, all3]
    exact ⟨fun q => ⟨q.1, q.2.1.1.symm, q.2.1.2.1.symm, q.2.1.2.2.symm⟩, fun q => ⟨q.1, ⟨q.2.1.symm, q.2.2.1.symm, q.2.2.2.symm⟩, .inr rfl⟩⟩
  unfold dotS
  by_cases e : clear ≠ [] ∧ s 0 = clear.getD 0 0 ∧ s 1 = clear.getD 1 0 ∧ s 2 = clear.getD 2 0
  · rw [if_pos (hh.2 e), if_pos e]; rfl
  · rw [if_neg (fun q => e (hh.1 q)), if_neg e]; rfl
theorem alpha8 (p : Prop) [Decidable p] : 257 * (if p then (0 : UInt8) else 255).toNat = if p then 0 else 65535 := by split <;> rfl
theorem alpha16 (p : Prop) [Decidable p] : (if p then (0 : UInt8) else 255).toNat * 256 + (if p then (0 : UInt8) else 255).toNat = if p then 0 else 65535 := by split <;> rfl
theorem dotP5 (P : List Dt) (b : Nat → UInt8) : dotP 5 P b = ⟨257 * (b 0).toNat, 257 * (b 1).toNat, 257 * (b 2).toNat, 257 * (b 3).toNat⟩ := rfl
theorem dotP6 (P : List Dt) (b : Nat → UInt8) : dotP 6 P b = ⟨(b 0).toNat * 256 + (b 1).toNat, (b 2).toNat * 256 + (b 3).toNat, (b 4).toNat * 256 + (b 5).toNat, (b 6).toNat * 256 + (b 7).toNat⟩ := rfl
/-- A pixel's bytes in the picture read as its samples do. -/
theorem dot_same {c d : Nat} (h : OkCD c d) {clear : List Nat} (hc : OkClear c d clear) (P : List Dt) (row : List UInt8) (x : Nat) :
    dotP (kindN c d (!clear.isEmpty)) P (fun i => (pixA c d clear row x).getD i 0) = dotS c d P clear (fun j => sampA d row (x * chN c + j)) := by
  have hlt := sampA_lt h row x
  rcases hc.len with rfl | ⟨hl, hk⟩
  · rcases h with ⟨rfl, rfl | rfl | rfl | rfl | rfl⟩ | ⟨rfl, rfl | rfl | rfl | rfl⟩ | ⟨rfl | rfl | rfl, rfl | rfl⟩
    · have := few_bits (.inl rfl) hlt
      simpa [dotP, kindN, pixA, dotS, chN] using this
    · have := few_bits (.inr (.inl rfl)) hlt
      simpa [dotP, kindN, pixA, dotS, chN] using this
    · have := few_bits (.inr (.inr rfl)) hlt
      simpa [dotP, kindN, pixA, dotS, chN] using this
    · simp [dotP, kindN, pixA, dotS, chN, samp8, mulD]
      omega
    · simp [dotP, kindN, pixA, dotS, chN, samp16]
    · simp [dotP, kindN, pixA, dotS, chN]
      rw [Nat.mod_eq_of_lt (by omega)]
    · simp [dotP, kindN, pixA, dotS, chN]
      rw [Nat.mod_eq_of_lt (by omega)]
    · simp [dotP, kindN, pixA, dotS, chN]
      rw [Nat.mod_eq_of_lt (by omega)]
    · simp [dotP, kindN, pixA, dotS, chN]
      rw [Nat.mod_eq_of_lt (by omega)]
    · simp [dotP, kindN, pixA, dotS, chN, samp8, Nat.mul_comm x 3]
      omega
    · simp [dotP, kindN, pixA, dotS, chN, samp16, (by omega : 2 * (x * 3) = 6 * x), (by omega : 2 * (x * 3 + 1) = 6 * x + 2), (by omega : 2 * (x * 3 + 2) = 6 * x + 4)]
    · simp [dotP, kindN, pixA, dotS, chN, samp8, Nat.mul_comm x 2]
      omega
    · simp [dotP, kindN, pixA, dotS, chN, samp16, (by omega : 2 * (x * 2) = 4 * x), (by omega : 2 * (x * 2 + 1) = 4 * x + 2)]
    · simp [dotP, kindN, pixA, dotS, chN, samp8, Nat.mul_comm x 4]
      omega
    · simp [dotP, kindN, pixA, dotS, chN, samp16, (by omega : 2 * (x * 4) = 8 * x), (by omega : 2 * (x * 4 + 1) = 8 * x + 2), (by omega : 2 * (x * 4 + 2) = 8 * x + 4), (by omega : 2 * (x * 4 + 3) = 8 * x + 6)]
  · have hne : clear ≠ [] := by intro e; rw [e] at hl; have := h.ch; simp at hl; omega
    have hie : clear.isEmpty = false := by simpa using hne
    rcases hk with ⟨rfl, hd⟩ | rfl
    · rcases (by unfold OkCD at h; omega : d = 8 ∨ d = 16) with rfl | rfl
      · rw [dotS_g, show kindN 0 8 (!clear.isEmpty) = 5 by rw [hie]; rfl, dotP5]
        have e : pixA 0 8 clear row x = [UInt8.ofNat (sampA 8 row x * 1), UInt8.ofNat (sampA 8 row x * 1), UInt8.ofNat (sampA 8 row x * 1), if sampA 8 row x = clear.getD 0 0 then 0 else 255] := by
          unfold pixA
          rw [if_neg hne]; rfl
        rw [e, show x * chN 0 + 0 = x by rw [show chN 0 = 1 from rfl]; omega, w8, samp8, Nat.mul_one, ofNat_toNat8]
        simp only [hne, ne_eq, not_false_eq_true, true_and, List.getD_cons_zero, List.getD_cons_succ, alpha8]
      · rw [dotS_g, show kindN 0 16 (!clear.isEmpty) = 6 by rw [hie]; rfl, dotP6]
        have e : pixA 0 16 clear row x = [row.getD (2 * x) 0, row.getD (2 * x + 1) 0, row.getD (2 * x) 0, row.getD (2 * x + 1) 0, row.getD (2 * x) 0, row.getD (2 * x + 1) 0, if sampA 16 row x = clear.getD 0 0 then 0 else 255, if sampA 16 row x = clear.getD 0 0 then 0 else 255] := by
          simp [pixA, hne]
        rw [e, show x * chN 0 + 0 = x by rw [show chN 0 = 1 from rfl]; omega, w16, samp16]
        simp only [hne, ne_eq, not_false_eq_true, true_and, List.getD_cons_zero, List.getD_cons_succ, alpha16]
    · rcases (by unfold OkCD at h; omega : d = 8 ∨ d = 16) with rfl | rfl
      · rw [dotS_t, show kindN 2 8 (!clear.isEmpty) = 5 by rw [hie]; rfl, dotP5]
        have e : pixA 2 8 clear row x = [row.getD (3 * x) 0, row.getD (3 * x + 1) 0, row.getD (3 * x + 2) 0, if clear ≠ [] ∧ sampA 8 row (x * 3) = clear.getD 0 0 ∧ sampA 8 row (x * 3 + 1) = clear.getD 1 0 ∧ sampA 8 row (x * 3 + 2) = clear.getD 2 0 then 0 else 255] := rfl
        rw [e]
        simp only [show chN 2 = 3 from rfl, Nat.add_zero, w8, samp8, List.getD_cons_zero, List.getD_cons_succ, alpha8, Nat.mul_comm x 3]
      · rw [dotS_t, show kindN 2 16 (!clear.isEmpty) = 6 by rw [hie]; rfl, dotP6]
        have e : pixA 2 16 clear row x = [row.getD (6 * x) 0, row.getD (6 * x + 1) 0, row.getD (6 * x + 2) 0, row.getD (6 * x + 3) 0, row.getD (6 * x + 4) 0, row.getD (6 * x + 5) 0,
            if clear ≠ [] ∧ sampA 16 row (x * 3) = clear.getD 0 0 ∧ sampA 16 row (x * 3 + 1) = clear.getD 1 0 ∧ sampA 16 row (x * 3 + 2) = clear.getD 2 0 then 0 else 255,
            if clear ≠ [] ∧ sampA 16 row (x * 3) = clear.getD 0 0 ∧ sampA 16 row (x * 3 + 1) = clear.getD 1 0 ∧ sampA 16 row (x * 3 + 2) = clear.getD 2 0 then 0 else 255] := rfl
        rw [e]
        simp only [show chN 2 = 3 from rfl, Nat.add_zero, w16, samp16, List.getD_cons_zero, List.getD_cons_succ, alpha16, show 2 * (x * 3) = 6 * x by omega, show 2 * (x * 3 + 1) = 6 * x + 2 by omega, show 2 * (x * 3 + 2) = 6 * x + 4 by omega]
theorem picOf_len {c d : Nat} (h : OkCD c d) (clear : List Nat) (W : Nat) (R : List (List UInt8)) : (picOf c d clear W R).length = R.length * (W * nK (kindN c d (!clear.isEmpty))) := by
  unfold picOf
  rw [flatMap_len _ (W * nK (kindN c d (!clear.isEmpty))) (fun r => by rw [flatMap_len _ _ (fun x => pixA_len h r x), List.length_range])]
theorem div_mul_add {y W x : Nat} (hx : x < W) : (y * W + x) / W = y ∧ (y * W + x) % W = x := by
  have hW : 0 < W := by omega
  rw [Nat.mul_comm y W]
  refine ⟨?_, ?_⟩
  · rw [Nat.mul_add_div hW, Nat.div_eq_of_lt hx, Nat.add_zero]
  · rw [Nat.mul_add_mod, Nat.mod_eq_of_lt hx]
theorem dotAt_same {c d : Nat} (h : OkCD c d) {clear : List Nat} (hc : OkClear c d clear) (P : List Dt) {W : Nat} {R : List (List UInt8)} {t : Nat} (ht : t < R.length * W) :
    dotAt (kindN c d (!clear.isEmpty)) P (nK (kindN c d (!clear.isEmpty))) W (W * nK (kindN c d (!clear.isEmpty))) (picOf c d clear W R) t = dotOf c d P clear (sampsOf d (W * chN c) R) t := by
  have hW : 0 < W := by
    rcases Nat.eq_zero_or_pos W with e | e
    · subst e; simp at ht
    · exact e
  obtain ⟨y, x, rfl, hx, hy⟩ : ∃ y x, t = y * W + x ∧ x < W ∧ y < R.length := ⟨t / W, t % W, by rw [Nat.mul_comm]; exact (Nat.div_add_mod t W).symm, Nat.mod_lt _ hW, Nat.div_lt_of_lt_mul (by rw [Nat.mul_comm]; exact ht)⟩
  obtain ⟨r, hr⟩ : ∃ r, R[y]? = some r := ⟨_, List.getElem?_eq_getElem hy⟩
  obtain ⟨n, hn⟩ : ∃ n, n = nK (kindN c d (!clear.isEmpty)) := ⟨_, rfl⟩
  have hrow : ∀ r, ((List.range W).flatMap (pixA c d clear r)).length = W * n := fun r => by rw [hn, flatMap_len _ _ (fun x => pixA_len h r x), List.length_range]
  unfold dotAt dotOf
  obtain ⟨e1, e2⟩ := div_mul_add (y := y) hx
  rw [e1, e2]
  have hp : dotP (kindN c d (!clear.isEmpty)) P (fun i => (picOf c d clear W R).getD (y * (W * nK (kindN c d (!clear.isEmpty))) + x * nK (kindN c d (!clear.isEmpty)) + i) 0) = dotP (kindN c d (!clear.isEmpty)) P (fun i => (pixA c d clear r x).getD i 0) := by
    refine dotP_congr fun i hi => ?_
    rw [← hn] at hi ⊢
    have hlt : x * n + i < W * n := by
      have : (x + 1) * n ≤ W * n := Nat.mul_le_mul_right _ hx
      rw [Nat.add_mul, Nat.one_mul] at this
      omega
    have h1 := flatMap_at (fun r => (List.range W).flatMap (pixA c d clear r)) (W * n) hrow R y (x * n + i) r hr hlt
    have h2 := flatMap_at (pixA c d clear r) n (fun x => by rw [hn]; exact pixA_len h r x) (List.range W) x i x (by simp [hx]) hi
    simp only [List.getD, picOf]
    rw [Nat.add_assoc, h1, h2]
  rw [hp, dot_same h hc]
  refine dotS_congr (by unfold OkCD at h; omega) fun j hj => ?_
  have hlt : x * chN c + j < W * chN c := by
    have : (x + 1) * chN c ≤ W * chN c := Nat.mul_le_mul_right _ hx
    rw [Nat.add_mul, Nat.one_mul] at this
    omega
  have h1 := flatMap_at (sampR d (W * chN c)) (W * chN c) (sampR_len d _) R y (x * chN c + j) r hr hlt
  simp only [List.getD, sampsOf]
  rw [show (y * W + x) * chN c + j = y * (W * chN c) + (x * chN c + j) by rw [Nat.add_mul, Nat.mul_assoc, Nat.add_assoc], h1]
  simp [sampR, hlt]
theorem upR_len {l : List UInt8} {n st : Nat} : ∀ {y : Nat} {R : List (List UInt8)}, upR l n st y = some R → y * (n + 1) ≤ l.length
  | 0, _, _ => by simp
  | y + 1, R, h => by
    unfold upR at h
    cases hy : upR l n st y with
    | none => rw [hy] at h; simp at h
    | some R0 =>
      rw [hy] at h
      simp only at h
      by_cases hc : (y + 1) * (n + 1) ≤ l.length ∧ (fltB l n y).toNat ≤ 4
      · exact hc.1
      · rw [if_neg hc] at h
        simp at h
theorem sampsOf_len (d m : Nat) (R : List (List UInt8)) : (sampsOf d m R).length = R.length * m := flatMap_len _ _ (sampR_len d m) R
/-- The two lists of pixels are one. -/
theorem dots_same {c d : Nat} (h : OkCD c d) {clear : List Nat} (hc : OkClear c d clear) (P : List Dt) {W H : Nat} {R : List (List UInt8)} (hR : R.length = H) :
    (List.range (H * W)).map (dotAt (kindN c d (!clear.isEmpty)) P (nK (kindN c d (!clear.isEmpty))) W (W * nK (kindN c d (!clear.isEmpty))) (picOf c d clear W R)) = (List.range (H * W)).map (dotOf c d P clear (sampsOf d (W * chN c) R)) := by
  apply List.map_congr_left
  intro t ht
  exact dotAt_same h hc P (by rw [hR]; exact List.mem_range.1 ht)
end Go.Proofs.YtkiibhpmembcgaaDoor
namespace Go.Proofs.YtkiibhpmembcgaaDoor
open Go.ChangeShapes Go.WideShapes Go.ChangeAt Go.RowKit

/-- Bytes a pixel. -/
def nB (k : Nat) : Nat := if k = 1 ∨ k = 7 then 1 else if k = 2 then 2 else if k = 3 ∨ k = 5 then 4 else 8
theorem nB_pos (k : Nat) : 1 ≤ nB k := by
  unfold nB
  repeat' split
  all_goals omega
theorem nB_le (k : Nat) : nB k ≤ 8 := by
  unfold nB
  repeat' split
  all_goals omega
/-- Where a pass lies: its first column and row, and how far its columns and rows lie apart. -/
structure Pt where
  X : Nat
  Y : Nat
  DX : Nat
  DY : Nat
def ptOf (p : Nat) : Pt := match p with
  | 0 => ⟨0, 0, 8, 8⟩
  | 1 => ⟨4, 0, 8, 8⟩
  | 2 => ⟨0, 4, 4, 8⟩
  | 3 => ⟨2, 0, 4, 4⟩
  | 4 => ⟨0, 2, 2, 4⟩
  | 5 => ⟨1, 0, 2, 2⟩
  | _ => ⟨0, 1, 1, 2⟩
structure PtOk (q : Pt) : Prop where
  x : q.X ≤ 4
  y : q.Y ≤ 4
  dx0 : 1 ≤ q.DX
  dx : q.DX ≤ 8
  dy0 : 1 ≤ q.DY
  dy : q.DY ≤ 8
theorem ptOf_ok (p : Nat) : PtOk (ptOf p) := by
  unfold ptOf
  split <;> (constructor <;> decide)
def dstAt (q : Pt) (w n y x : Nat) : Nat := ((q.Y + y * q.DY) * w + q.X + x * q.DX) * n
def srcAt (pw n y x : Nat) : Nat := (y * pw + x) * n
def pix (src : List UInt8) (pw n y x : Nat) : List UInt8 := (src.drop (srcAt pw n y x)).take n
/-- The first x pixels of row y are laid. -/
def rowM (q : Pt) (w n pw : Nat) (src : List UInt8) (y : Nat) : Nat → List UInt8 → List UInt8
  | 0, B => B
  | x + 1, B => splice (rowM q w n pw src y x B) (dstAt q w n y x) (pix src pw n y x)
/-- The first y rows are laid. -/
def allM (q : Pt) (w n pw : Nat) (src : List UInt8) : Nat → List UInt8 → List UInt8
  | 0, B => B
  | y + 1, B => rowM q w n pw src y pw (allM q w n pw src y B)
/-- So many columns and rows has the pass. -/
structure Fits (q : Pt) (w h n pw ph : Nat) : Prop where
  ok : PtOk q
  x : ∀ x, x < pw → q.X + x * q.DX < w
  y : ∀ y, y < ph → q.Y + y * q.DY < h
  w : w ≤ 40
  h : h ≤ 40
  n0 : 1 ≤ n
  n : n ≤ 8
  pw : pw ≤ 40
  ph : ph ≤ 40
theorem mul_next {a b c : Nat} (h : a < b) : (a + 1) * c ≤ b * c := Nat.mul_le_mul_right c h
theorem Fits.dst {q : Pt} {w h n pw ph : Nat} (F : Fits q w h n pw ph) {y x : Nat} (hy : y < ph) (hx : x < pw) : dstAt q w n y x + n ≤ w * h * n := by
  have h1 := F.x x hx
  have h2 := F.y y hy
  have h3 : (q.Y + y * q.DY + 1) * w ≤ h * w := mul_next h2
  have h4 : ((q.Y + y * q.DY) * w + q.X + x * q.DX + 1) * n ≤ (w * h) * n := by
    refine Nat.mul_le_mul_right n ?_
    rw [Nat.add_mul, Nat.one_mul] at h3
    rw [Nat.mul_comm w h]
    omega
  rw [Nat.add_mul, Nat.one_mul] at h4
  exact h4
theorem Fits.src {q : Pt} {w h n pw ph : Nat} (_F : Fits q w h n pw ph) {y x : Nat} (hy : y < ph) (hx : x < pw) : srcAt pw n y x + n ≤ pw * ph * n := by
  have h3 : (y + 1) * pw ≤ ph * pw := mul_next hy
  have h4 : (y * pw + x + 1) * n ≤ (pw * ph) * n := by
    refine Nat.mul_le_mul_right n ?_
    rw [Nat.add_mul, Nat.one_mul] at h3
    rw [Nat.mul_comm pw ph]
    omega
  rw [Nat.add_mul, Nat.one_mul] at h4
  exact h4
theorem Fits.pix_len {q : Pt} {w h n pw ph : Nat} (F : Fits q w h n pw ph) {src : List UInt8} (hs : src.length = pw * ph * n) {y x : Nat} (hy : y < ph) (hx : x < pw) : (pix src pw n y x).length = n := by
  have := F.src hy hx
  unfold pix
  rw [List.length_take, List.length_drop, hs]
  omega
theorem Fits.row_len {q : Pt} {w h n pw ph : Nat} (F : Fits q w h n pw ph) {src : List UInt8} (hs : src.length = pw * ph * n) {y : Nat} (hy : y < ph) {B : List UInt8} (hB : B.length = w * h * n) :
    ∀ x, x ≤ pw → (rowM q w n pw src y x B).length = w * h * n
  | 0, _ => hB
  | x + 1, hx => by
    have ih := F.row_len hs hy hB x (by omega)
    have h1 := F.dst hy (show x < pw by omega)
    rw [rowM, length_splice]
    · exact ih
    · rw [F.pix_len hs hy (show x < pw by omega), ih]; exact h1
theorem Fits.all_len {q : Pt} {w h n pw ph : Nat} (F : Fits q w h n pw ph) {src : List UInt8} (hs : src.length = pw * ph * n) {B : List UInt8} (hB : B.length = w * h * n) :
    ∀ y, y ≤ ph → (allM q w n pw src y B).length = w * h * n
  | 0, _ => hB
  | y + 1, hy => F.row_len hs (show y < ph by omega) (F.all_len hs hB y (by omega)) pw (Nat.le_refl _)

/-- A splice over cells of bytes is one of the bytes. -/
theorem splice_cells (l seg : List UInt8) (post : List Value) (off : Nat) (h : off + seg.length ≤ l.length) :
    splice (l.map (fun v => Value.int .u8 (v.toNat : Int)) ++ post) off (seg.map fun v => Value.int .u8 (v.toNat : Int)) = (splice l off seg).map (fun v => Value.int .u8 (v.toNat : Int)) ++ post := by
  unfold splice
  rw [List.take_append_of_le_length (by rw [List.length_map]; omega), List.drop_append_of_le_length (by rw [List.length_map, List.length_map]; omega), List.length_map]
  simp only [List.map_append, List.map_take, List.map_drop, List.append_assoc]
theorem Seg.splice {w' : World} {b off : Nat} {post : List Value} {l seg : List UInt8} (hoff : off + seg.length ≤ l.length)
    (h : w'.heap[b]? = some (.cells (Go.splice (l.map (fun v => Value.int .u8 (v.toNat : Int)) ++ post) off (seg.map fun v => Value.int .u8 (v.toNat : Int))).toArray 5 (0, 0))) : Seg w' b [] post (Go.splice l off seg) := by
  rw [splice_cells _ _ _ _ hoff] at h
  simpa [Seg] using h
/-- A list of bytes of that length. -/
def fillAt (b : List UInt8) (i : Nat) : UInt8 := if b.length = 0 then UInt8.ofNat i else b.getD (i % b.length) 0
def fillL (b : List UInt8) (n : Nat) : List UInt8 := (List.range n).map (fillAt b)
theorem fillL_len (b : List UInt8) (n : Nat) : (fillL b n).length = n := by simp [fillL]
theorem fillL_next (b : List UInt8) (n : Nat) : fillL b (n + 1) = fillL b n ++ [fillAt b n] := by simp [fillL, List.range_succ]
end Go.Proofs.YtkiibhpmembcgaaDoor
namespace Go.Proofs.YtkiibhpmembcgaaDoor
open Go.ChangeShapes Go.WideShapes Go.ChangeAt Go.RowKit Go.IntWalk

theorem RB.drop {w : World} {c o : Nat} {l : List UInt8} (h : RB w (some ⟨c, o, none⟩) l) (i : Nat) : RB w (some ⟨c, o + i, none⟩) (l.drop i) := by
  intro hl
  obtain ⟨b', o', e, hc⟩ := h (by intro e; rw [e] at hl; simp at hl)
  simp only [Option.some.injEq, Addr.mk.injEq, and_true] at e
  obtain ⟨rfl, rfl⟩ := e
  refine ⟨c, o + i, rfl, fun j hj => ?_⟩
  have := hc (i + j) (by simp at hj; omega)
  rw [Nat.add_assoc, this]
  simp [List.getD]
theorem RB.take {w : World} {ad : Option Addr} {l : List UInt8} (h : RB w ad l) (n : Nat) : RB w ad (l.take n) := by
  intro hl
  obtain ⟨b, o, e, hc⟩ := h (by intro e; rw [e] at hl; simp at hl)
  refine ⟨b, o, e, fun j hj => ?_⟩
  have hj' : j < n ∧ j < l.length := by simp at hj; omega
  rw [hc j hj'.2]
  simp [List.getD, hj'.1]

/-- Bytes as cells. -/
def cellsB (l : List UInt8) : List Value := l.map fun v => Value.int .u8 (v.toNat : Int)
theorem cellsB_length (l : List UInt8) : (cellsB l).length = l.length := by simp [cellsB]
theorem cellsB_one (l : List UInt8) : ∀ v ∈ cellsB l, v.oneCell' = true := by
  intro v hv
  obtain ⟨u, -, rfl⟩ := List.mem_map.1 hv
  rfl
theorem src_of {w : World} {b o : Nat} {l : List UInt8} (h : RB w (some ⟨b, o, none⟩) l) : ∀ j v, (cellsB l)[j]? = some v → w.cell? ((⟨b, o, none⟩ : Addr).add j) = some v := by
  intro j v hj
  obtain ⟨hlt, e⟩ := List.getElem?_eq_some_iff.1 hj
  simp only [cellsB, List.length_map] at hlt
  obtain ⟨b', o', e2, hc⟩ := h (by intro e3; rw [e3] at hlt; simp at hlt)
  simp only [Option.some.injEq, Addr.mk.injEq, and_true] at e2
  obtain ⟨rfl, rfl⟩ := e2
  have h2 := hc j hlt
  rw [← e]
  unfold Addr.add
  split
  · rename_i h0
    subst h0
    simpa [cellsB, List.getD, hlt] using h2
  · simpa [cellsB, List.getD, hlt] using h2

theorem Seg.whole {w : World} {b : Nat} {post : List Value} {l : List UInt8} (h : Seg w b [] post l) : w.heap[b]? = some (.cells (cellsB l ++ post).toArray 5 (0, 0)) := h
theorem Seg.ofSplice {w' : World} {b off : Nat} {post : List Value} {l seg : List UInt8} (hoff : off + seg.length ≤ l.length)
    (h : w'.heap[b]? = some (.cells (Go.splice (cellsB l ++ post) off (cellsB seg)).toArray 5 (0, 0))) : Seg w' b [] post (Go.splice l off seg) := Seg.splice hoff h
theorem RB.pix {w : World} {b : Nat} {src : List UInt8} (h : RB w (some ⟨b, 0, none⟩) src) (pw n y x : Nat) : RB w (some ⟨b, srcAt pw n y x, none⟩) (pix src pw n y x) := by
  have := (h.drop (srcAt pw n y x)).take n
  rw [Nat.zero_add] at this
  exact this
theorem only_setRow (w : World) (g : Nat) (cs : Array Value) : Only g w (w.setRow g cs) :=
  ⟨rfl, rfl, rfl, by simp [World.setRow], fun k hk => setRow_other w g k cs hk⟩
theorem step_copy_only {P : Program} {ops : Array Oper} {o : Oper} {a : Act} {w : World} {K : Act → World → Prop} {Q : Exit → Act → World → Prop} {E : Prop} (hgd : o.guard = none) (d s : Operand) (dT sT : TypeId)
    (ho : o.op = .call { callee := .builtin .copy, args := #[d, s], argTypes := #[dT, sT] }) (elem : TypeId) (hu : P.underlying dT = some (.slice elem)) (hsz : (P.info? elem).map (·.size) = some 1)
    (g off dLen dCap : Nat) (ad : Addr) (sLen sCap : Nat) (hd : a.eval d = .slice (some ⟨g, off, none⟩) dLen dCap) (hs : a.eval s = .slice (some ad) sLen sCap)
    (cur : List Value) (t : TypeId) (hg : w.heap[g]? = some (.cells cur.toArray t (0, 0))) (cs : List Value) (hn : cs.length = Nat.min sLen dLen)
    (hsrc : ∀ j v, cs[j]? = some v → w.cell? (ad.add j) = some v) (hfit : off + cs.length ≤ cur.length) (h1 : ∀ v ∈ cs, v.oneCell' = true)
    (h : ∀ w', Hid (w'.heap[g]? = some (.cells (splice cur off cs).toArray t (0, 0))) → Only g w w' → K (a.put o.dst (goInt cs.length)) w') :
    if Region.wanted o (yielded ops a.tmps) = true then Oper.wp P o a w K Q else E := by
  have hw : Region.wanted o (yielded ops a.tmps) = true := by simp [Region.wanted, hgd]
  rw [if_pos hw]
  have hrun := run_copy_row (P := P) w dT sT o.type elem g off dLen dCap ad sLen sCap cur.toArray t cs hu hsz hg hn hsrc (by simpa using hfit) h1
  unfold Oper.wp
  simp [execOp, ho, resolve, invoke, builtin, hd, hs, hrun, Result.andThen]
  exact h _ (show _ = _ by simpa [splice] using setRow_heap w g _ _ t _ hg) (only_setRow w g _)
theorem src_next (pw n y x : Nat) : srcAt pw n y (x + 1) = srcAt pw n y x + n := by
  unfold srcAt
  rw [← Nat.add_assoc, Nat.add_mul, Nat.one_mul]
theorem src_row (pw n y : Nat) : srcAt pw n y pw = srcAt pw n (y + 1) 0 := by
  unfold srcAt
  rw [Nat.add_mul y 1, Nat.one_mul, Nat.add_zero]
theorem dst_eq (q : Pt) (w n y x r : Nat) (hr : r = q.Y + y * q.DY) : r * (w * n) + q.X * n + x * q.DX * n = dstAt q w n y x := by
  unfold dstAt
  rw [← hr, Nat.add_mul, Nat.add_mul, Nat.mul_assoc r w n]
/-- A rectangle's block is written. -/
def rectTo (w : World) (N W H : Nat) : World := (((w.setCell ⟨N, 0, none⟩ (.int .i64 0)).setCell ⟨N, 1, none⟩ (.int .i64 0)).setCell ⟨N, 2, none⟩ (.int .i64 (W : Int))).setCell ⟨N, 3, none⟩ (.int .i64 (H : Int))
theorem rectTo_only (w : World) (N W H : Nat) : Only N w (rectTo w N W H) := ((((Only.refl _ _).setCell _ _).setCell _ _).setCell _ _).setCell _ _
theorem rectTo_row (w : World) (N W H : Nat) (h : w.heap[N]? = some (.cells #[.int .i64 0, .int .i64 0, .int .i64 0, .int .i64 0] 88 (0, 0))) :
    (rectTo w N W H).heap[N]? = some (.cells #[.int .i64 0, .int .i64 0, .int .i64 (W : Int), .int .i64 (H : Int)] 88 (0, 0)) := by
  have h1 := heap_setCell_same w N 0 _ _ (.int .i64 0) h
  have h2 := heap_setCell_same _ N 1 _ _ (.int .i64 0) h1
  have h3 := heap_setCell_same _ N 2 _ _ (.int .i64 (W : Int)) h2
  have h4 := heap_setCell_same _ N 3 _ _ (.int .i64 (H : Int)) h3
  exact h4
theorem bel_drew {B : Nat} {a w : World} (h : Below B a w) : Below B a w.drew := ⟨h.os, h.tape, h.output, h.size, h.block⟩
/-- The program's own table of the passes. -/
def Inter (w : World) : Prop :=
  ∃ G o, w.cell? ⟨0, 0, none⟩ = some (.slice (some ⟨G, o, none⟩) 7 7) ∧ ∀ p, p < 7 →
    w.cell? ⟨G, o + p * 4, none⟩ = some (.int .i64 ((ptOf p).DX : Int)) ∧ w.cell? ⟨G, o + p * 4 + 1, none⟩ = some (.int .i64 ((ptOf p).DY : Int)) ∧
    w.cell? ⟨G, o + p * 4 + 2, none⟩ = some (.int .i64 ((ptOf p).X : Int)) ∧ w.cell? ⟨G, o + p * 4 + 3, none⟩ = some (.int .i64 ((ptOf p).Y : Int))
/-- The pass lies in the whole: new memory, and of the elder blocks p1 alone turned. -/
def MgEnd (q : Pt) (W n pw ph p1 : Nat) (post : List Value) (B src : List UInt8) (w : World) (e : Ending) (w' : World) : Prop :=
  e = .returned (.tuple #[]) ∧ ∃ wm, Below w.heap.size w wm ∧ Only p1 wm w' ∧ Seg w' p1 [] post (allM q W n pw src ph B)
end Go.Proofs.YtkiibhpmembcgaaDoor
