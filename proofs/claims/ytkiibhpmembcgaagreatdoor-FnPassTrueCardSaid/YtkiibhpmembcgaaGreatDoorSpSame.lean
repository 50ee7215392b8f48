/- The contracts of the reference's Same, at two lists of the same pixels. -/
import Derived.Test.YtkiibhpmembcgaaGreatDoorPicDots5
import Derived.Test.YtkiibhpmembcgaaGreatDoorSpA
namespace Go.Proofs.YtkiibhpmembcgaaGreatDoor
open Go.ChangeShapes Go.WideShapes Go.ChangeAt Go.RowKit Go.IntWalk

set_option maxRecDepth 20000 in
theorem eqFields_dot (a b c d : Int) (w : World) : ∀ fs : List Field, (fs.all fun f => f.type == 3 && decide (f.offset < 4)) = true →
    (Op.eqFields 9999 #[.int .i64 a, .int .i64 b, .int .i64 c, .int .i64 d] #[.int .i64 a, .int .i64 b, .int .i64 c, .int .i64 d] fs).run Tryz.prog w = .ok true w
  | [], _ => by simp [Op.eqFields]
  | f :: fs, h => by
    simp only [List.all_cons, Bool.and_eq_true, beq_iff_eq, decide_eq_true_eq] at h
    have ih := eqFields_dot a b c d w fs h.2
    have e : ∀ (x : Int) (w : World), (Op.equalIn 9999 3 (.int .i64 x) (.int .i64 x)).run Tryz.prog w = .ok true w := fun x w => by
      have := run_equalIn_int (P := Tryz.prog) w 9998 3 .i64 .i64 x x Tryz.underlying3
      rw [this]; simp
    have ho : f.offset = 0 ∨ f.offset = 1 ∨ f.offset = 2 ∨ f.offset = 3 := by omega
    rcases ho with ho | ho | ho | ho <;> simp [Op.eqFields, go_sem, e, h.1.1, ho, ih]
set_option maxRecDepth 20000 in
theorem neq_dot (a b c d : Int) (w : World) : (binOp .neq 61 (.agg #[.int .i64 a, .int .i64 b, .int .i64 c, .int .i64 d]) (.agg #[.int .i64 a, .int .i64 b, .int .i64 c, .int .i64 d])).run Tryz.prog w = .ok (.bool false) w := by
  rw [run_neq_struct, run_equalIn_agg (P := Tryz.prog) w 9999 61 _ _ (by kernel_rfl) (by kernel_rfl), eqFields_dot a b c d w _ (by kernel_rfl)]
  rfl
theorem PalD.four {w : World} {pa : Option Addr} {P : List Dt} (h : PalD w pa P) {t : Nat} {s : Dt} (hs : P[t]? = some s) : ∃ g, pa = some ⟨g, 0, none⟩ ∧ g < w.heap.size ∧ w.cell? ⟨g, t * 4, none⟩ = some (.int .i64 (s.r : Int)) ∧ w.cell? ⟨g, t * 4 + 1, none⟩ = some (.int .i64 (s.g : Int)) ∧ w.cell? ⟨g, t * 4 + 2, none⟩ = some (.int .i64 (s.b : Int)) ∧ w.cell? ⟨g, t * 4 + 3, none⟩ = some (.int .i64 (s.a : Int)) := by
  obtain ⟨g, e, h0⟩ := h t s hs 0 _ rfl
  have hg : ∀ j u, (dtC s)[j]? = some u → w.cell? ⟨g, t * 4 + j, none⟩ = some u := fun j u hj => by
    obtain ⟨g', e', h'⟩ := h t s hs j u hj
    rw [e] at e'
    simp only [Option.some.injEq, Addr.mk.injEq, and_true] at e'
    subst e'
    exact h'
  exact ⟨g, e, World.block_lt_of_cell? w _ h0, hg 0 _ rfl, hg 1 _ rfl, hg 2 _ rfl, hg 3 _ rfl⟩
set_option maxHeartbeats 1600000 in
set_option maxRecDepth 100000 in
theorem same_any (n ca cb : Nat) (aa ab : Option Addr) (L : List Dt) (w : World) (hL : Hid (L.length = n)) (h1 : PalD w aa L) (h2 : PalD w ab L) (hn : n ≤ 1000000) :
    Calls Tryz.prog 19 #[.slice aa n ca, .slice ab n cb] w fun e w' => e = .returned (.bool true) ∧ ∃ q, w' = w.drewN q := by
  have hne := neq_dot
  have H1 := Lib.hid h1
  have H2 := Lib.hid h2
  clear h1 h2
  go_enter Tryz.func19, Tryz.ntmps19
  go_upto_region 4 with fail
  go_loopw [13] (fun i wr => ∃ t : Nat, t ≤ n ∧ i = .int .i64 (t : Int) ∧ ∃ q, w.drewN q = wr) (fun i _ => n - (intOf i).toNat)
  case atStart => exact ⟨0, Nat.zero_le _, rfl, 0, rfl⟩
  case round =>
    obtain ⟨t, ht, rfl, q, rfl⟩ := hrel
    by_cases hlt : t < n
    · have i0 : (0 : Int) ≤ (t : Int) := by omega
      have i1 : (t : Int) < (n : Int) := by omega
      obtain ⟨⟨r, g, b, a⟩, hs⟩ : ∃ s, L[t]? = some s := ⟨_, List.getElem?_eq_getElem (by rw [hL.out]; exact hlt)⟩
      obtain ⟨g1, rfl, l1, x0, x1, x2, x3⟩ := H1.out.four hs
      obtain ⟨g2, rfl, l2, y0, y1, y2, y3⟩ := H2.out.four hs
      simp only at x0 x1 x2 x3 y0 y1 y2 y3
      have X0 : (w.drewN q).cell? ⟨g1, t * 4, none⟩ = _ := x0
      have X1 : (w.drewN q).cell? ⟨g1, t * 4 + 1, none⟩ = _ := x1
      have X2 : (w.drewN q).cell? ⟨g1, t * 4 + 2, none⟩ = _ := x2
      have X3 : (w.drewN q).cell? ⟨g1, t * 4 + 3, none⟩ = _ := x3
      have Y0 : (w.drewN q).cell? ⟨g2, t * 4, none⟩ = _ := y0
      have Y1 : (w.drewN q).cell? ⟨g2, t * 4 + 1, none⟩ = _ := y1
      have Y2 : (w.drewN q).cell? ⟨g2, t * 4 + 2, none⟩ = _ := y2
      have Y3 : (w.drewN q).cell? ⟨g2, t * 4 + 3, none⟩ = _ := y3
      clear hs
      go_upto_region 6 with fail
      go_quiet (fail)
      go_wp2_with fail
      go_roundw
      case rel => exact ⟨t + 1, by omega, by go_num, _, rfl⟩
      case measure => simp [intOf]; omega
    · obtain rfl : n = t := by omega
      go_wp2_with fail
      go_ret
      exact ⟨rfl, q, rfl⟩
end Go.Proofs.YtkiibhpmembcgaaGreatDoor
