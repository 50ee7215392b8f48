/- The contract of slices.Clone at bytes: a new slice of the same bytes. -/
import Derived.Test.YtcfafomnoejemaaDoorBytes
namespace Go.Proofs.YtcfafomnoejemaaDoor
open Go.ChangeShapes Go.WideShapes Go.ChangeAt Go.RowKit Go.IntWalk

set_option maxHeartbeats 400000 in
theorem clone_any (ad : Option Addr) (len cap : Nat) (l : List UInt8) (hl : Hid (l.length = len)) (w : World)
    (hm : len ≤ 140737488355328) (hr : RB w ad l) (hn : ad = none → len = 0 ∧ cap = 0) :
    Calls Tryd.prog 12 #[.slice ad len cap] w fun e w' => ∃ v, e = .returned v ∧ OwnB w' w.heap.size v l ∧ Below w.heap.size w w' ∧ (v = .slice none 0 0 ↔ ad = none) := by
  cases ad with
  | none =>
    obtain ⟨rfl, rfl⟩ := hn rfl
    have e : l = [] := List.eq_nil_of_length_eq_zero hl.out
    subst e
    have h1 := Lib.run_eql_slice_nil (P := Tryd.prog) w 22 5 none 0 0 0 0 Tryd.underlying22
    go_enter Tryd.func12, Tryd.ntmps12
    go_wp2
    go_ret
    exact ⟨_, rfl, OwnB.nil _ _, Below.refl _ _, by simp⟩
  | some p =>
    have h1 := Lib.run_eql_slice_nil (P := Tryd.prog) w 22 5 (some p) len cap 0 0 Tryd.underlying22
    go_enter Tryd.func12, Tryd.ntmps12
    go_wp2_with (at_builtin; refine wpList_append_bytes rfl (.tmp 5) (.tmp 6) rfl w.heap.size (.slice (some ⟨w.heap.size, 0, none⟩) 0 0) [] l rfl (OwnB.empty w w.heap.size (Nat.le_refl _)) (some p) len cap rfl hl.out (hr.below ((Below.refl _ _).alloc (Nat.le_refl _) _)) (by intro h; cases h) (by simpa using hm) (by simp) ?_; intro v' w' ho hg hb hnil)
    go_ret
    exact ⟨_, rfl, ho, ((Below.refl _ _).alloc (Nat.le_refl _) _).trans hb, by simp [hnil]⟩
end Go.Proofs.YtcfafomnoejemaaDoor
