/- Bytes put into a row; a row as its pixels, where they are the same bytes. No program in sight. -/
import Derived.Test.YtkiibhpmembcgaaGreatDoorRipConvA
namespace Go.Proofs.YtkiibhpmembcgaaGreatDoor

theorem putAt_splice : ∀ (B l : List UInt8) (o : Nat), o + B.length ≤ l.length → putAt l o B = l.take o ++ B ++ l.drop (o + B.length)
  | [], l, o, _ => by simp [putAt]
  | b :: B, l, o, h => by
    simp only [List.length_cons] at h
    rw [putAt, putAt_splice B _ _ (by simp; omega)]
    have e1 : (l.set o b).take (o + 1) = l.take o ++ [b] := by
      rw [List.take_add_one, List.take_set_of_le (Nat.le_refl _)]
      simp [show o < l.length by omega]
    have e2 : (l.set o b).drop (o + 1 + B.length) = l.drop (o + (B.length + 1)) := by
      rw [List.drop_set_of_lt (by omega), show o + 1 + B.length = o + (B.length + 1) by omega]
    rw [e1, e2]
    simp
/-- Four bytes a pixel, as they are. -/
theorem rowTo_quads (row : List UInt8) : ∀ t, 4 * t ≤ row.length → rowTo 6 8 [] row t = row.take (4 * t)
  | 0, _ => by simp [rowTo]
  | t + 1, h => by
    have hk : ∀ i, i < row.length → row.take (i + 1) = row.take i ++ [row.getD i 0] := by
      intro i hi
      rw [List.take_add_one]
      simp [List.getD, hi]
    rw [rowTo_next, rowTo_quads row t (by omega), show 4 * (t + 1) = 4 * t + 1 + 1 + 1 + 1 by omega, hk _ (by omega), hk _ (by omega), hk _ (by omega), hk _ (by omega)]
    simp only [List.append_assoc]
    rfl
end Go.Proofs.YtkiibhpmembcgaaGreatDoor
