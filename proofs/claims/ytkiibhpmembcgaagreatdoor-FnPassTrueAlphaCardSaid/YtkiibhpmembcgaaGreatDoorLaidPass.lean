/- What the listed variables of the laws on passes hold when the call begins: the table of the passes, package io's two errors. -/
import Derived.Test.YtkiibhpmembcgaaGreatDoorZPass
import Derived.Test.YtkiibhpmembcgaaGreatDoorInter
import Derived.Stop.LaidErr
import Derived.LaidSub
namespace Go.Proofs.YtkiibhpmembcgaaGreatDoor
open Go.ChangeShapes Go.WideShapes Go.ChangeAt Go.RowKit Go.IntWalk Go.Deep

theorem starErr : "*errors.errorString" = "*" ++ "errors.errorString" := by decide
theorem rowErr (u : TypeId) (h : Tryz.prog.typeName? 3 u = some "*errors.errorString") : u = 159 :=
  typeName_ptr_named (nm := "errors.errorString") (by rw [starErr.symm]; kernel_rfl) (by kernel_rfl) (by decide) u (by rw [starErr.symm]; exact h)
set_option maxRecDepth 100000 in
theorem err_row {W : World} {n : String} {g : Nat} {text : List UInt8} (h : laidMet Tryz.prog [(n, .iface "*errors.errorString" (.ptr (.agg [.lit (.string text)])))] W) (hg : Tryz.prog.globalNamed n = some g) (ht : (Tryz.prog.globals[g]?).map (·.type) = some 69) :
    ∃ p ca ta, W.cell? ⟨g, 0, none⟩ = some (.iface 159 (.pointer (some p))) ∧ W.heap[p.block]? = some (.cells ca ta (0, 0)) ∧ p.block < W.heap.size ∧ g < W.heap.size := by
  obtain ⟨fs, hfs⟩ : ∃ f, Tryz.prog.underlying 185 = some (.struct #[f]) := ⟨_, Tryz.underlying185⟩
  have hff : fs.type = 9 ∧ fs.offset = 0 := by
    have e : some (TypeDesc.struct #[fs]) = _ := hfs.symm.trans Tryz.underlying185
    cases e
    exact ⟨rfl, rfl⟩
  obtain ⟨ps, ⟨g0, t0, cs0, f0, p0, q0, hg0, ht0, hv0, hd0, _, e0⟩, _, hrows⟩ := h
  obtain rfl := Option.some.inj (hg.symm.trans hg0)
  obtain rfl := Option.some.inj (ht.symm.trans ht0)
  subst e0
  obtain ⟨l0⟩ := cs0
  have ok0 : ∀ u v, l0 = [.iface u v] → Value.okWide Tryz.prog W .any 0 u v := fun u v e => by
    subst e
    exact (hrows g 0 (by simp [MemPlace.row])).2 u v (by simpa using World.var?_cell hg0 hv0 0)
  obtain ⟨a0, s0, rfl, hc0, hs0, hz0, hp0⟩ := errorString_of_trod Tryz.underlying69 rowErr Tryz.underlying159 hfs hff.1 hff.2 Tryz.underlying9 (by kernel_rfl) (by kernel_rfl) hd0 ok0
  obtain ⟨⟨c, t, hrow⟩, -⟩ := hrows a0.block a0.off (by rw [hp0]; simp [MemPlace.row])
  have hcell : W.cell? ⟨g, 0, none⟩ = some (.iface 159 (.pointer (some a0))) := by
    have := World.var?_cell hg0 hv0 0
    simpa using this
  exact ⟨a0, c, t, hcell, hrow, lt_of_row hrow, World.block_lt_of_cell? W _ hcell⟩
set_option maxRecDepth 100000 in
theorem passLaid {W : World} (h : laidMetH Tryz.prog [("io.ErrShortBuffer", Rows.laid_io_ErrShortBuffer), ("io.EOF", Rows.laid_io_EOF), ("io.ErrUnexpectedEOF", Rows.laid_io_ErrUnexpectedEOF), ("loop.example/pub-g03424/pub/pngparts.interlacing", Rows.laid_loop_example_pub_g03424_pub_pngparts_interlacing)] W) :
    Inter W ∧ Eofs W.heap.size W := by
  have h1 : laidMetH Tryz.prog [("io.EOF", Rows.laid_io_EOF)] W := by
    have e : (([("io.ErrShortBuffer", Rows.laid_io_ErrShortBuffer), ("io.EOF", Rows.laid_io_EOF), ("io.ErrUnexpectedEOF", Rows.laid_io_ErrUnexpectedEOF), ("loop.example/pub-g03424/pub/pngparts.interlacing", Rows.laid_loop_example_pub_g03424_pub_pngparts_interlacing)] : List (String × DataW Unit)).filter fun x => x.1 == "io.EOF") = [("io.EOF", Rows.laid_io_EOF)] := by kernel_rfl
    rw [← e]
    exact h.filter _
  have h2 : laidMetH Tryz.prog [("io.ErrUnexpectedEOF", Rows.laid_io_ErrUnexpectedEOF)] W := by
    have e : (([("io.ErrShortBuffer", Rows.laid_io_ErrShortBuffer), ("io.EOF", Rows.laid_io_EOF), ("io.ErrUnexpectedEOF", Rows.laid_io_ErrUnexpectedEOF), ("loop.example/pub-g03424/pub/pngparts.interlacing", Rows.laid_loop_example_pub_g03424_pub_pngparts_interlacing)] : List (String × DataW Unit)).filter fun x => x.1 == "io.ErrUnexpectedEOF") = [("io.ErrUnexpectedEOF", Rows.laid_io_ErrUnexpectedEOF)] := by kernel_rfl
    rw [← e]
    exact h.filter _
  have h3 : laidMetH Tryz.prog [("loop.example/pub-g03424/pub/pngparts.interlacing", Rows.laid_loop_example_pub_g03424_pub_pngparts_interlacing)] W := by
    have e : (([("io.ErrShortBuffer", Rows.laid_io_ErrShortBuffer), ("io.EOF", Rows.laid_io_EOF), ("io.ErrUnexpectedEOF", Rows.laid_io_ErrUnexpectedEOF), ("loop.example/pub-g03424/pub/pngparts.interlacing", Rows.laid_loop_example_pub_g03424_pub_pngparts_interlacing)] : List (String × DataW Unit)).filter fun x => x.1 == "loop.example/pub-g03424/pub/pngparts.interlacing") = [("loop.example/pub-g03424/pub/pngparts.interlacing", Rows.laid_loop_example_pub_g03424_pub_pngparts_interlacing)] := by kernel_rfl
    rw [← e]
    exact h.filter _
  obtain ⟨p1, ca1, ta1, e1⟩ := err_row (g := 1) h1 (by kernel_rfl) (by kernel_rfl)
  obtain ⟨p2, ca2, ta2, e2⟩ := err_row (g := 2) h2 (by kernel_rfl) (by kernel_rfl)
  exact ⟨inter_of h3, ⟨p1, ca1, ta1, e1⟩, p2, ca2, ta2, e2⟩
end Go.Proofs.YtkiibhpmembcgaaGreatDoor
