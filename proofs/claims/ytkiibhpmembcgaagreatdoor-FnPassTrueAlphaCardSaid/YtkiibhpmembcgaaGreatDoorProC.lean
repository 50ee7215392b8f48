/- The picture's making in readImagePass, kind by kind. Printed by gen/pro13.py. -/
import Derived.Test.YtkiibhpmembcgaaGreatDoorProA
namespace Go.Proofs.YtkiibhpmembcgaaGreatDoor
open Go.ChangeShapes Go.WideShapes Go.ChangeAt Go.RowKit Go.IntWalk

/-- A picture has been made: its head g, its bytes bx, all nought. -/
structure Made (T : TypeId) (m W H L : Nat) (w : World) (g bx : Nat) (w' : World) : Prop where
  hg : w.heap.size ≤ g
  hbx : w.heap.size ≤ bx
  ne : g ≠ bx
  row : w'.heap[g]? = some (.cells #[.slice (some ⟨bx, 0, none⟩) L L, .int .i64 ((m * W : Nat) : Int), .int .i64 0, .int .i64 0, .int .i64 (W : Int), .int .i64 (H : Int)] T (0, 0))
  seg : Seg w' bx [] [] (List.replicate L 0)
  chg : Chg (fun _ => False) w w'
set_option maxRecDepth 1000000 in
set_option maxHeartbeats 6400000 in
theorem p13_GA8 (b W H L st n : Nat) (r : Value) (ps : Int) (a : Act) (w : World) (Q : Exit → Act → World → Prop) (h : Pre1 b r ps W H a) (c7 : w.cell? ⟨b, 7, none⟩ = some (.int .i64 5)) (hw : W ≤ 1000) (hh : H ≤ 1000) (hL : Hid (L = 4 * W * H))
    (hQ : ∀ a' w' g bx, Made 111 4 W H L w g bx w' → Pre2 ⟨b, r, .pointer none, .pointer none, .pointer none, .pointer (some ⟨g, 0, none⟩), .pointer none, .pointer none, .pointer none, .iface 110 (.pointer (some ⟨g, 0, none⟩)), W, H, st, n⟩ 16 a' → Q .normal a' w') : (pc 13).wp Tryz.prog Q a w := by
  obtain ⟨gg, rfl⟩ := h.lit
  have HQ := Lib.hid hQ
  clear h hQ
  conv => arg 2; whnf
  go_wp2_with (first | (go_at_call 40; refine (rect_any W H _).mono ?_; rintro e w2 ⟨rfl, hc2⟩) | (go_at_call 39; refine (new_NRGBA W H L _ hw hh hL).mono ?_; rintro e w3 ⟨g, bx, rfl, hg, hbx, hne, hrow, hseg, hc3⟩))
  have hs := hc2.size
  exact HQ.out _ _ g bx ⟨by omega, by omega, hne, hrow, hseg, hc2.trans hc3⟩ ⟨rfl, rfl, rfl, rfl, rfl, rfl, rfl, rfl, rfl, rfl, rfl, rfl, rfl, rfl, rfl, rfl, rfl⟩
set_option maxRecDepth 1000000 in
set_option maxHeartbeats 6400000 in
theorem p13_TCA8 (b W H L st n : Nat) (r : Value) (ps : Int) (a : Act) (w : World) (Q : Exit → Act → World → Prop) (h : Pre1 b r ps W H a) (c7 : w.cell? ⟨b, 7, none⟩ = some (.int .i64 11)) (hw : W ≤ 1000) (hh : H ≤ 1000) (hL : Hid (L = 4 * W * H))
    (hQ : ∀ a' w' g bx, Made 111 4 W H L w g bx w' → Pre2 ⟨b, r, .pointer none, .pointer none, .pointer none, .pointer (some ⟨g, 0, none⟩), .pointer none, .pointer none, .pointer none, .iface 110 (.pointer (some ⟨g, 0, none⟩)), W, H, st, n⟩ 32 a' → Q .normal a' w') : (pc 13).wp Tryz.prog Q a w := by
  obtain ⟨gg, rfl⟩ := h.lit
  have HQ := Lib.hid hQ
  clear h hQ
  conv => arg 2; whnf
  go_wp2_with (first | (go_at_call 40; refine (rect_any W H _).mono ?_; rintro e w2 ⟨rfl, hc2⟩) | (go_at_call 39; refine (new_NRGBA W H L _ hw hh hL).mono ?_; rintro e w3 ⟨g, bx, rfl, hg, hbx, hne, hrow, hseg, hc3⟩))
  have hs := hc2.size
  exact HQ.out _ _ g bx ⟨by omega, by omega, hne, hrow, hseg, hc2.trans hc3⟩ ⟨rfl, rfl, rfl, rfl, rfl, rfl, rfl, rfl, rfl, rfl, rfl, rfl, rfl, rfl, rfl, rfl, rfl⟩
set_option maxRecDepth 1000000 in
set_option maxHeartbeats 6400000 in
theorem p13_GA16 (b W H L st n : Nat) (r : Value) (ps : Int) (a : Act) (w : World) (Q : Exit → Act → World → Prop) (h : Pre1 b r ps W H a) (c7 : w.cell? ⟨b, 7, none⟩ = some (.int .i64 13)) (hw : W ≤ 1000) (hh : H ≤ 1000) (hL : Hid (L = 8 * W * H))
    (hQ : ∀ a' w' g bx, Made 113 8 W H L w g bx w' → Pre2 ⟨b, r, .pointer none, .pointer none, .pointer none, .pointer none, .pointer none, .pointer none, .pointer (some ⟨g, 0, none⟩), .iface 112 (.pointer (some ⟨g, 0, none⟩)), W, H, st, n⟩ 32 a' → Q .normal a' w') : (pc 13).wp Tryz.prog Q a w := by
  obtain ⟨gg, rfl⟩ := h.lit
  have HQ := Lib.hid hQ
  clear h hQ
  conv => arg 2; whnf
  go_wp2_with (first | (go_at_call 40; refine (rect_any W H _).mono ?_; rintro e w2 ⟨rfl, hc2⟩) | (go_at_call 44; refine (new_NRGBA64 W H L _ hw hh hL).mono ?_; rintro e w3 ⟨g, bx, rfl, hg, hbx, hne, hrow, hseg, hc3⟩))
  have hs := hc2.size
  exact HQ.out _ _ g bx ⟨by omega, by omega, hne, hrow, hseg, hc2.trans hc3⟩ ⟨rfl, rfl, rfl, rfl, rfl, rfl, rfl, rfl, rfl, rfl, rfl, rfl, rfl, rfl, rfl, rfl, rfl⟩
set_option maxRecDepth 1000000 in
set_option maxHeartbeats 6400000 in
theorem p13_TCA16 (b W H L st n : Nat) (r : Value) (ps : Int) (a : Act) (w : World) (Q : Exit → Act → World → Prop) (h : Pre1 b r ps W H a) (c7 : w.cell? ⟨b, 7, none⟩ = some (.int .i64 15)) (hw : W ≤ 1000) (hh : H ≤ 1000) (hL : Hid (L = 8 * W * H))
    (hQ : ∀ a' w' g bx, Made 113 8 W H L w g bx w' → Pre2 ⟨b, r, .pointer none, .pointer none, .pointer none, .pointer none, .pointer none, .pointer none, .pointer (some ⟨g, 0, none⟩), .iface 112 (.pointer (some ⟨g, 0, none⟩)), W, H, st, n⟩ 64 a' → Q .normal a' w') : (pc 13).wp Tryz.prog Q a w := by
  obtain ⟨gg, rfl⟩ := h.lit
  have HQ := Lib.hid hQ
  clear h hQ
  conv => arg 2; whnf
  go_wp2_with (first | (go_at_call 40; refine (rect_any W H _).mono ?_; rintro e w2 ⟨rfl, hc2⟩) | (go_at_call 44; refine (new_NRGBA64 W H L _ hw hh hL).mono ?_; rintro e w3 ⟨g, bx, rfl, hg, hbx, hne, hrow, hseg, hc3⟩))
  have hs := hc2.size
  exact HQ.out _ _ g bx ⟨by omega, by omega, hne, hrow, hseg, hc2.trans hc3⟩ ⟨rfl, rfl, rfl, rfl, rfl, rfl, rfl, rfl, rfl, rfl, rfl, rfl, rfl, rfl, rfl, rfl, rfl⟩
end Go.Proofs.YtkiibhpmembcgaaGreatDoor
