/- The encoder's own bytes behind a palette's loop: the reds, greens and blues at the head, the alphas behind 768 bytes. No program in sight. -/
import Derived.Test.YtiiipmcjbibgoaaDoorShades
namespace Go.Proofs.YtiiipmcjbibgoaaDoor
open Go.ChangeShapes Go.WideShapes Go.ChangeAt Go.RowKit Go.IntWalk

def rgbOf (s : Sh) : List UInt8 := [s.r, s.g, s.b]
def rgbs (S : List Sh) : List UInt8 := S.flatMap rgbOf
def als (S : List Sh) : List UInt8 := S.map (·.a)
theorem rgbs_len (S : List Sh) : (rgbs S).length = 3 * S.length := by
  induction S with
  | nil => rfl
  | cons s r ih => rw [rgbs, List.flatMap_cons, List.length_append, List.length_cons, ← rgbs, ih]; simp [rgbOf]; omega
theorem als_len (S : List Sh) : (als S).length = S.length := by simp [als]
theorem rgbs_next (S : List Sh) (t : Nat) (s : Sh) (h : S[t]? = some s) : rgbs (S.take (t + 1)) = rgbs (S.take t) ++ rgbOf s := by
  rw [List.take_add_one, h]
  simp [rgbs]
theorem als_next (S : List Sh) (t : Nat) (s : Sh) (h : S[t]? = some s) : als (S.take (t + 1)) = als (S.take t) ++ [s.a] := by
  rw [List.take_add_one, h]
  simp [als]
/-- The encoder's own bytes behind t rounds. -/
def tmpT (tmp : List UInt8) (S : List Sh) : Nat → List UInt8
  | 0 => tmp
  | t + 1 => ((((tmpT tmp S t).set (3 * t) (S.getD t Sh.no).r).set (3 * t + 1) (S.getD t Sh.no).g).set (3 * t + 2) (S.getD t Sh.no).b).set (768 + t) (S.getD t Sh.no).a
theorem tmpT_len (tmp : List UInt8) (S : List Sh) : ∀ t, (tmpT tmp S t).length = tmp.length
  | 0 => rfl
  | t + 1 => by simp [tmpT, tmpT_len tmp S t]
theorem tmpT_far (tmp : List UInt8) (S : List Sh) (hl : tmp.length = 1024) : ∀ t, t ≤ 256 → ∀ i, (3 * t ≤ i ∧ i < 768) ∨ (768 + t ≤ i) → (tmpT tmp S t)[i]? = tmp[i]?
  | 0, _, _, _ => rfl
  | t + 1, ht, i, hi => by
    have ih := tmpT_far tmp S hl t (by omega) i (by omega)
    rw [tmpT, List.getElem?_set_ne (by omega), List.getElem?_set_ne (by omega), List.getElem?_set_ne (by omega), List.getElem?_set_ne (by omega), ih]
theorem tmpT_rgb (tmp : List UInt8) (S : List Sh) (hl : tmp.length = 1024) : ∀ t, t ≤ 256 → t ≤ S.length → ∀ i, i < 3 * t → (tmpT tmp S t)[i]? = (rgbs (S.take t))[i]?
  | 0, _, _, i, hi => by omega
  | t + 1, ht, hS, i, hi => by
    have hs : S[t]? = some (S.getD t Sh.no) := by simp [List.getD, show t < S.length by omega]
    have hlt : (rgbs (S.take t)).length = 3 * t := by rw [rgbs_len, List.length_take]; omega
    rw [rgbs_next S t _ hs, tmpT, List.getElem?_set_ne (by omega)]
    by_cases h2 : i = 3 * t + 2
    · subst h2
      rw [List.getElem?_set_self (by simp [tmpT_len, hl]; omega), List.getElem?_append_right (by omega), hlt]
      simp [rgbOf]
    rw [List.getElem?_set_ne (by omega)]
    by_cases h1 : i = 3 * t + 1
    · subst h1
      rw [List.getElem?_set_self (by simp [tmpT_len, hl]; omega), List.getElem?_append_right (by omega), hlt]
      simp [rgbOf]
    rw [List.getElem?_set_ne (by omega)]
    by_cases h0 : i = 3 * t
    · subst h0
      rw [List.getElem?_set_self (by simp [tmpT_len, hl]; omega), List.getElem?_append_right (by omega), hlt]
      simp [rgbOf]
    rw [List.getElem?_set_ne (by omega), List.getElem?_append_left (by omega)]
    exact tmpT_rgb tmp S hl t (by omega) (by omega) i (by omega)
theorem tmpT_al (tmp : List UInt8) (S : List Sh) (hl : tmp.length = 1024) : ∀ t, t ≤ 256 → t ≤ S.length → ∀ i, i < t → (tmpT tmp S t)[768 + i]? = (als (S.take t))[i]?
  | 0, _, _, i, hi => by omega
  | t + 1, ht, hS, i, hi => by
    have hs : S[t]? = some (S.getD t Sh.no) := by simp [List.getD, show t < S.length by omega]
    have hlt : (als (S.take t)).length = t := by rw [als_len, List.length_take]; omega
    rw [als_next S t _ hs, tmpT]
    by_cases h0 : i = t
    · subst h0
      rw [List.getElem?_set_self (by simp [tmpT_len, hl]; omega), List.getElem?_append_right (by omega), hlt]
      simp
    rw [List.getElem?_set_ne (by omega), List.getElem?_set_ne (by omega), List.getElem?_set_ne (by omega), List.getElem?_set_ne (by omega), List.getElem?_append_left (by omega)]
    exact tmpT_al tmp S hl t (by omega) (by omega) i (by omega)
/-- Behind the loop. -/
theorem tmpT_head (tmp : List UInt8) (S : List Sh) (hl : tmp.length = 1024) (m : Nat) (hm : m ≤ 256) (hS : S.length = m) : rgbs S = ((tmpT tmp S m).drop 0).take (rgbs S).length := by
  apply List.ext_getElem?
  intro i
  rw [List.drop_zero, List.getElem?_take, rgbs_len, hS]
  by_cases hi : i < 3 * m
  · rw [if_pos hi, tmpT_rgb tmp S hl m hm (by omega) i hi, List.take_of_length_le (by omega)]
  · rw [if_neg hi, List.getElem?_eq_none (by rw [rgbs_len, hS]; omega)]
theorem tmpT_tail (tmp : List UInt8) (S : List Sh) (hl : tmp.length = 1024) (m n : Nat) (hm : m ≤ 256) (hS : S.length = m) (hn : n ≤ m) : (als S).take n = ((tmpT tmp S m).drop 768).take ((als S).take n).length := by
  have hln : ((als S).take n).length = n := by rw [List.length_take, als_len, hS]; omega
  rw [hln]
  apply List.ext_getElem?
  intro i
  rw [List.getElem?_take, List.getElem?_take, List.getElem?_drop]
  by_cases hi : i < n
  · rw [if_pos hi, if_pos hi, tmpT_al tmp S hl m hm (by omega) i (by omega), List.take_of_length_le (by omega)]
  · rw [if_neg hi, if_neg hi]
/-- Up to where a color is not opaque: the place behind the last one of the first t, 0 where there is none. -/
def laN (S : List Sh) : Nat → Nat
  | 0 => 0
  | t + 1 => if (S.getD t Sh.no).a = 255 then laN S t else t + 1
theorem laN_le (S : List Sh) : ∀ t, laN S t ≤ t
  | 0 => Nat.le_refl _
  | t + 1 => by
    have := laN_le S t
    unfold laN
    split <;> omega
theorem laN_opaque (S : List Sh) : ∀ t j, laN S t ≤ j → j < t → (S.getD j Sh.no).a = 255
  | 0, j, _, h => by omega
  | t + 1, j, h1, h2 => by
    unfold laN at h1
    by_cases he : (S.getD t Sh.no).a = 255
    · rw [if_pos he] at h1
      by_cases hj : j = t
      · rw [hj]; exact he
      · exact laN_opaque S t j h1 (by omega)
    · rw [if_neg he] at h1
      omega
/-- Whether one of the first t is not opaque. -/
def anyN (S : List Sh) : Nat → Bool
  | 0 => false
  | t + 1 => anyN S t || decide ((S.getD t Sh.no).a ≠ 255)
theorem anyN_la (S : List Sh) : ∀ t, anyN S t = true ↔ laN S t ≠ 0
  | 0 => by simp [anyN, laN]
  | t + 1 => by
    have ih := anyN_la S t
    unfold anyN laN
    generalize (S.getD t Sh.no).a = x
    by_cases he : x = 255
    · rw [if_pos he]
      simp [he, ih]
    · rw [if_neg he]
      simp [he]
end Go.Proofs.YtiiipmcjbibgoaaDoor
