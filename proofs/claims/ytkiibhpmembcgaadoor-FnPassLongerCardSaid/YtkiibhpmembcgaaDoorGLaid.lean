/- Slices of structs of four one-cell fields that came in: how they read. The program's own table of the passes, as its variable reads when the call begins. What the listed variables of the laws on passes hold when the call begins: the table of the passes, package io's two errors. -/
import Derived.Test.YtkiibhpmembcgaaDoorSh
import Derived.Test.YtkiibhpmembcgaaDoorGBase
import Derived.Deep.Slices
import Derived.Deep.Fields
import Derived.Test.YtkiibhpmembcgaaDoorGMath
import Derived.Lib.LaidTab
import Derived.Test.YtkiibhpmembcgaaDoorZPass
import Derived.Stop.LaidErr
import Derived.LaidSub
namespace Go.Proofs.YtkiibhpmembcgaaDoor
open Go.ChangeShapes Go.WideShapes Go.ChangeAt Go.RowKit Go.IntWalk Go.Deep

theorem open_slice_fields {H : Type} {enc : TypeId × Value → H} {P : Program} {w : World} {base : Nat} {spare : Nat → Bool} {held : Bool} {t e : TypeId} {fs : Array Field} {fuel : Nat} {cs : List Value} {x : DataW H × List MemPlace} (ht : P.underlying t = some (.slice e)) (he : P.underlying e = some (.struct fs))
    (hone : oneCellFields P fs = true) (hC : P.cellsOf e = fs.size) (h : DataW.trod enc P w base spare held fuel t cs = some x) :
    (cs = [.slice none 0 0] ∧ x = (.nil, [])) ∨
    ∃ (a : Addr) (len cap m : Nat) (D : Nat → DataW H) (Pl : Nat → List MemPlace), cs = [.slice (some a) len cap] ∧ base ≤ a.block ∧ len ≤ cap ∧ cap ≤ maxLen ∧ m = (if spare a.block then cap else len) ∧
      x = (.slice ((List.range len).map D) ((List.range (m - len)).map fun j => D (len + j)), MemPlace.row a (m * fs.size) ++ (List.range m).flatMap Pl) ∧
      ∀ i, i < m → ∃ (ys : List (DataW H × List MemPlace)) (n : Nat), D i = .agg (ys.map (·.1)) ∧ Pl i = ys.flatMap (·.2) ∧ ys.length = fs.size ∧
        ∀ (j : Nat) (f : Field), fs[j]? = some f → ∃ (v : Value) (y : DataW H × List MemPlace), w.cell? (a.add (i * fs.size + j)) = some v ∧ ys[j]? = some y ∧ DataW.trod enc P w base spare held n f.type [v] = some y := by
  rcases open_slice ht h with h0 | ⟨a, len, cap, m, n, D, Pl, hcs, hb, hl, hm, hmm, hx, hi⟩
  · exact .inl h0
  · refine .inr ⟨a, len, cap, m, D, Pl, hcs, hb, hl, hm, hmm, by rw [hC] at hx; exact hx, fun i him => ?_⟩
    obtain ⟨cs', hc, ht'⟩ := hi i him
    rw [hC] at hc
    obtain ⟨ys, n', hn', hy, hlen, hyl, hf⟩ := DataW.trod_struct he ht'
    obtain ⟨_, hcl, hat⟩ := World.cells?_some hc
    simp only [Prod.mk.injEq] at hy
    refine ⟨ys, n', hy.1, hy.2, hyl, fun j f hj => ?_⟩
    obtain ⟨ho, hk⟩ := hone_of hone j f hj
    have hjl : j < fs.size := (Array.getElem?_eq_some_iff.1 hj).1
    have hcell := hat j hjl
    have hv : cs'[j]? = some (cs'[j]'(by omega)) := List.getElem?_eq_getElem (by omega)
    have h1 := hf j f hj
    rw [ho, hk] at h1
    have hone' : (cs'.drop j).take 1 = [cs'[j]'(by omega)] := by
      rw [List.drop_eq_getElem_cons (by omega)]
      rfl
    rw [hone'] at h1
    have hys : ys[j]? = some (ys[j]'(by omega)) := List.getElem?_eq_getElem (by omega)
    refine ⟨_, _, ?_, hys, h1.trans hys⟩
    rw [← Go.Deep.add_add, hcell, hv]
theorem shC_of {w : World} {f : Nat → Addr} {z0 z1 z2 z3 : Int} (h0 : w.cell? (f 0) = some (.int .u8 z0)) (h1 : w.cell? (f 1) = some (.int .u8 z1)) (h2 : w.cell? (f 2) = some (.int .u8 z2)) (h3 : w.cell? (f 3) = some (.int .u8 z3))
    (k0 : (Lit.int .u8 z0).wf = true) (k1 : (Lit.int .u8 z1).wf = true) (k2 : (Lit.int .u8 z2).wf = true) (k3 : (Lit.int .u8 z3).wf = true) : ∃ s : Sh, ∀ j u, (shC s)[j]? = some u → w.cell? (f j) = some u := by
  refine ⟨⟨UInt8.ofNat z0.toNat, UInt8.ofNat z1.toNat, UInt8.ofNat z2.toNat, UInt8.ofNat z3.toNat⟩, fun j u hu => ?_⟩
  have e0 := toNat_ofInts k0
  have e1 := toNat_ofInts k1
  have e2 := toNat_ofInts k2
  have e3 := toNat_ofInts k3
  unfold shC at hu
  simp only [e0, e1, e2, e3] at hu
  match j, hu with
  | 0, hu => rw [h0]; exact hu
  | 1, hu => rw [h1]; exact hu
  | 2, hu => rw [h2]; exact hu
  | 3, hu => rw [h3]; exact hu
  | n + 4, hu => simp at hu
theorem shades_of {w : World} {f : Nat → Nat → Addr} : ∀ {n : Nat}, (∀ i, i < n → ∃ s : Sh, ∀ j u, (shC s)[j]? = some u → w.cell? (f i j) = some u) → ∃ l : List Sh, l.length = n ∧ ∀ i s, l[i]? = some s → ∀ j u, (shC s)[j]? = some u → w.cell? (f i j) = some u
  | 0, _ => ⟨[], rfl, fun i s h => by simp at h⟩
  | n + 1, h => by
    obtain ⟨l, hl, hc⟩ := shades_of (n := n) (f := f) fun i hi => h i (by omega)
    obtain ⟨s, hs⟩ := h n (by omega)
    refine ⟨l ++ [s], by simp [hl], fun i s' hi => ?_⟩
    by_cases hin : i < n
    · rw [List.getElem?_append_left (by omega)] at hi
      exact hc i s' hi
    · have : i = n := by
        have := (List.getElem?_eq_some_iff.1 hi).1
        simp [hl] at this
        omega
      subst this
      rw [List.getElem?_append_right (by omega), hl, Nat.sub_self] at hi
      cases hi
      exact hs
theorem shAll_get (l : List Sh) (j : Nat) (u : Value) (h : (shAll l)[j]? = some u) : ∃ s, l[j / 4]? = some s ∧ (shC s)[j % 4]? = some u := by
  have hj := (List.getElem?_eq_some_iff.1 h).1
  rw [shAll_len] at hj
  have hl : j / 4 < l.length := by omega
  refine ⟨l[j / 4], List.getElem?_eq_getElem hl, ?_⟩
  have := shAll_at l (j / 4) _ (List.getElem?_eq_getElem hl) (j % 4) (by omega)
  rw [show 4 * (j / 4) + j % 4 = j by omega] at this
  rw [← this]
  exact h
theorem inS_of {H : Type} {enc : TypeId × Value → H} {W : World} {base : Nat} {held : Bool} {a : Option Addr} {len cap : Nat} {d : DataW H} {ps : List MemPlace}
    (h : DataW.Trod enc Tryd.prog W base (fun _ => true) held 22 (.slice a len cap) d ps) : ∃ l, InS W a len cap l := by
  obtain ⟨fuel, hf⟩ := h
  obtain ⟨fs, hfs⟩ : ∃ fs, Tryd.prog.underlying 64 = some (.struct fs) := ⟨_, Tryd.underlying64⟩
  have hfz : fs.size = 4 ∧ oneCellFields Tryd.prog fs = true ∧ fs.toList.map (fun f => f.type) = [5, 5, 5, 5] := by
    have e : some (TypeDesc.struct fs) = _ := hfs.symm.trans Tryd.underlying64
    cases e
    exact ⟨by kernel_rfl, by kernel_rfl, by kernel_rfl⟩
  obtain ⟨z4, zone, zt⟩ := hfz
  rcases open_slice_fields Tryd.underlying22 hfs zone (by rw [z4]; kernel_rfl) hf with ⟨hcs, _⟩ | ⟨x, l, c, m, D, Pl, hcs, _, hl, hm, hmm, _, hcell⟩
  · simp [Value.cells] at hcs
    obtain ⟨rfl, rfl, rfl⟩ := hcs
    exact ⟨[], Lib.hid rfl, fun h => absurd rfl h, fun _ => ⟨rfl, rfl⟩, Nat.le_refl _, by omega⟩
  · simp [Value.cells] at hcs
    obtain ⟨rfl, rfl, rfl⟩ := hcs
    simp only [if_true] at hmm
    subst hmm
    have hi : ∀ i, i < len → ∃ s : Sh, ∀ j u, (shC s)[j]? = some u → W.cell? (x.add (i * 4 + j)) = some u := by
      intro i hlt
      obtain ⟨ys, n, -, -, -, hf⟩ := hcell i (by omega)
      have hty : ∀ j, j < 4 → ∃ f : Field, fs[j]? = some f ∧ f.type = 5 := by
        intro j hj
        have hs : j < fs.size := by omega
        refine ⟨fs[j], Array.getElem?_eq_getElem hs, ?_⟩
        have : (fs.toList.map (fun f => f.type))[j]? = some 5 := by
          rw [zt]
          match j, hj with
          | 0, _ => rfl
          | 1, _ => rfl
          | 2, _ => rfl
          | 3, _ => rfl
        simpa [hs] using this
      have hz : ∀ j, j < 4 → ∃ z : Int, W.cell? (x.add (i * 4 + j)) = some (.int .u8 z) ∧ (Lit.int .u8 z).wf = true := by
        intro j hj
        obtain ⟨f, hfj, hft⟩ := hty j hj
        obtain ⟨v, y, hc, -, ht⟩ := hf j f hfj
        rw [hft] at ht
        obtain ⟨z, hv, -, hz⟩ := DataW.trod_int Tryd.underlying5 ht
        simp only [List.cons.injEq, and_true] at hv
        subst hv
        rw [z4] at hc
        exact ⟨z, hc, hz⟩
      obtain ⟨z0, c0, k0⟩ := hz 0 (by omega)
      obtain ⟨z1, c1, k1⟩ := hz 1 (by omega)
      obtain ⟨z2, c2, k2⟩ := hz 2 (by omega)
      obtain ⟨z3, c3, k3⟩ := hz 3 (by omega)
      exact shC_of (f := fun j => x.add (i * 4 + j)) c0 c1 c2 c3 k0 k1 k2 k3
    obtain ⟨S, hS, hSc⟩ := shades_of (f := fun i j => x.add (i * 4 + j)) hi
    refine ⟨S, Lib.hid hS, fun hne => ?_, (fun h => by cases h), hl, by simpa [maxLen] using hm⟩
    obtain ⟨b, off, spot⟩ := x
    obtain ⟨s0, hs0⟩ : ∃ s, S[0]? = some s := ⟨_, List.getElem?_eq_getElem (List.length_pos_iff.2 hne)⟩
    have hc0 := hSc 0 s0 hs0 0 _ rfl
    have hspot : spot = none := by simpa [Addr.add] using World.cell?_spot hc0
    subst hspot
    refine ⟨b, off, rfl, fun j u hj => ?_⟩
    obtain ⟨s, hs, hu⟩ := shAll_get S j u hj
    have := hSc _ s hs _ u hu
    rw [show j / 4 * 4 + j % 4 = j by omega, Addr.add_lit] at this
    exact this
end Go.Proofs.YtkiibhpmembcgaaDoor
namespace Go.Proofs.YtkiibhpmembcgaaDoor
open Go.ChangeShapes Go.WideShapes Go.ChangeAt Go.RowKit Go.IntWalk Go.Deep

theorem gInter : Tryd.prog.globalNamed "loop.example/pub-g03424/pub/pngparts.interlacing" = some 0 := by kernel_rfl
theorem gInterType : (Tryd.prog.globals[0]?).map (·.type) = some 108 := by kernel_rfl
def interD : List (DataW Unit) := (List.range 7).map fun p => .agg [.lit (.int .i64 ((ptOf p).DX : Int)), .lit (.int .i64 ((ptOf p).DY : Int)), .lit (.int .i64 ((ptOf p).X : Int)), .lit (.int .i64 ((ptOf p).Y : Int))]
theorem interD_eq : (Rows.laid_loop_example_pub_g03424_pub_pngparts_interlacing : DataW Unit) = .slice interD [] := by kernel_rfl
theorem inter_of {W : World} (h : laidMet Tryd.prog [("loop.example/pub-g03424/pub/pngparts.interlacing", Rows.laid_loop_example_pub_g03424_pub_pngparts_interlacing)] W) : Inter W := by
  obtain ⟨ps, ⟨g', t', cs, fuel, p, q, hg', ht', hvar, hd, _, _⟩, _⟩ := h
  obtain rfl := Option.some.inj (gInter.symm.trans hg')
  obtain rfl := Option.some.inj (gInterType.symm.trans ht')
  rw [interD_eq] at hd
  obtain ⟨fs, hfs⟩ : ∃ fs, Tryd.prog.underlying 107 = some (.struct fs) := ⟨_, Tryd.underlying107⟩
  have hfz : fs.size = 4 ∧ oneCellFields Tryd.prog fs = true ∧ fs.toList.map (fun f => f.type) = [3, 3, 3, 3] := by
    have e : some (TypeDesc.struct fs) = _ := hfs.symm.trans Tryd.underlying107
    cases e
    exact ⟨by kernel_rfl, by kernel_rfl, by kernel_rfl⟩
  obtain ⟨z4, zone, zt⟩ := hfz
  rcases open_slice_fields Tryd.underlying108 hfs zone (by rw [z4]; kernel_rfl) hd with ⟨_, hx⟩ | ⟨x, l, c, m, D, Pl, hcs, _, hl, hm, hmm, hx, hcell⟩
  · cases hx
  · simp only [Prod.mk.injEq, DataW.slice.injEq] at hx
    obtain ⟨⟨hD, hsp⟩, -⟩ := hx
    have hl7 : 7 = l := by have := congrArg List.length hD; simpa [interD] using this
    subst hl7
    have hmc : m = c := by simpa using hmm
    have hm7 : m = 7 := by
      have := congrArg List.length hsp
      simp at this
      omega
    subst hmc hm7
    have hat : ∀ i, i < 7 → D i = .agg [.lit (.int .i64 ((ptOf i).DX : Int)), .lit (.int .i64 ((ptOf i).DY : Int)), .lit (.int .i64 ((ptOf i).X : Int)), .lit (.int .i64 ((ptOf i).Y : Int))] := by
      intro i hi
      have := congrArg (fun l => l[i]?) hD
      simp [interD, hi] at this
      exact this.symm
    have hv : ∀ i, i < 7 → ∀ j (z : Int), ([.lit (.int .i64 ((ptOf i).DX : Int)), .lit (.int .i64 ((ptOf i).DY : Int)), .lit (.int .i64 ((ptOf i).X : Int)), .lit (.int .i64 ((ptOf i).Y : Int))] : List (DataW Unit))[j]? = some (.lit (.int .i64 z)) → W.cell? (x.add (i * 4 + j)) = some (.int .i64 z) := by
      intro i hi j z hz
      obtain ⟨ys, n, hDy, -, hlen, hf⟩ := hcell i hi
      rw [hat i hi] at hDy
      simp only [DataW.agg.injEq] at hDy
      have hj : j < 4 := by have := (List.getElem?_eq_some_iff.1 hz).1; simpa using this
      have hs : j < fs.size := by omega
      have hft : (fs[j]'hs).type = 3 := by
        have : (fs.toList.map (fun f => f.type))[j]? = some 3 := by
          rw [zt]
          match j, hj with
          | 0, _ => rfl
          | 1, _ => rfl
          | 2, _ => rfl
          | 3, _ => rfl
        simpa [hs] using this
      obtain ⟨v, y, hc, hy, ht⟩ := hf j _ (Array.getElem?_eq_getElem hs)
      rw [hft] at ht
      obtain ⟨z', hv', hy', -⟩ := DataW.trod_int Tryd.underlying3 ht
      simp only [List.cons.injEq, and_true] at hv'
      subst hv'
      rw [hDy, List.getElem?_map, hy, hy'] at hz
      simp only [Option.map_some, Option.some.injEq, DataW.lit.injEq, Lit.int.injEq, true_and] at hz
      subst hz
      rw [z4] at hc
      exact hc
    obtain ⟨b, off, spot⟩ := x
    have h00 := hv 0 (by omega) 0 _ rfl
    have hspot : spot = none := by simpa [Addr.add] using World.cell?_spot h00
    subst hspot
    have hk : ∀ i, i < 7 → ∀ j (z : Int), ([.lit (.int .i64 ((ptOf i).DX : Int)), .lit (.int .i64 ((ptOf i).DY : Int)), .lit (.int .i64 ((ptOf i).X : Int)), .lit (.int .i64 ((ptOf i).Y : Int))] : List (DataW Unit))[j]? = some (.lit (.int .i64 z)) → W.cell? ⟨b, off + i * 4 + j, none⟩ = some (.int .i64 z) := by
      intro i hi j z hz
      have := hv i hi j z hz
      rw [Addr.add_lit] at this
      rw [Nat.add_assoc]
      exact this
    refine ⟨b, off, ?_, fun i hi => ⟨hk i hi 0 _ rfl, hk i hi 1 _ rfl, hk i hi 2 _ rfl, hk i hi 3 _ rfl⟩⟩
    have := World.var?_cell gInter hvar 0
    rw [this, ← Array.getElem?_toList, hcs]
    rfl
end Go.Proofs.YtkiibhpmembcgaaDoor
namespace Go.Proofs.YtkiibhpmembcgaaDoor
open Go.ChangeShapes Go.WideShapes Go.ChangeAt Go.RowKit Go.IntWalk Go.Deep

theorem starErr : "*errors.errorString" = "*" ++ "errors.errorString" := by decide
theorem rowErr (u : TypeId) (h : Tryd.prog.typeName? 3 u = some "*errors.errorString") : u = 147 :=
  typeName_ptr_named (nm := "errors.errorString") (by rw [starErr.symm]; kernel_rfl) (by kernel_rfl) (by decide) u (by rw [starErr.symm]; exact h)
set_option maxRecDepth 100000 in
theorem err_row {W : World} {n : String} {g : Nat} {text : List UInt8} (h : laidMet Tryd.prog [(n, .iface "*errors.errorString" (.ptr (.agg [.lit (.string text)])))] W) (hg : Tryd.prog.globalNamed n = some g) (ht : (Tryd.prog.globals[g]?).map (·.type) = some 54) :
    ∃ p ca ta, W.cell? ⟨g, 0, none⟩ = some (.iface 147 (.pointer (some p))) ∧ W.heap[p.block]? = some (.cells ca ta (0, 0)) ∧ p.block < W.heap.size ∧ g < W.heap.size := by
  obtain ⟨fs, hfs⟩ : ∃ f, Tryd.prog.underlying 173 = some (.struct #[f]) := ⟨_, Tryd.underlying173⟩
  have hff : fs.type = 9 ∧ fs.offset = 0 := by
    have e : some (TypeDesc.struct #[fs]) = _ := hfs.symm.trans Tryd.underlying173
    cases e
    exact ⟨rfl, rfl⟩
  obtain ⟨ps, ⟨g0, t0, cs0, f0, p0, q0, hg0, ht0, hv0, hd0, _, e0⟩, _, hrows⟩ := h
  obtain rfl := Option.some.inj (hg.symm.trans hg0)
  obtain rfl := Option.some.inj (ht.symm.trans ht0)
  subst e0
  obtain ⟨l0⟩ := cs0
  have ok0 : ∀ u v, l0 = [.iface u v] → Value.okWide Tryd.prog W .any 0 u v := fun u v e => by
    subst e
    exact (hrows g 0 (by simp [MemPlace.row])).2 u v (by simpa using World.var?_cell hg0 hv0 0)
  obtain ⟨a0, s0, rfl, hc0, hs0, hz0, hp0⟩ := errorString_of_trod Tryd.underlying54 rowErr Tryd.underlying147 hfs hff.1 hff.2 Tryd.underlying9 (by kernel_rfl) (by kernel_rfl) hd0 ok0
  obtain ⟨⟨c, t, hrow⟩, -⟩ := hrows a0.block a0.off (by rw [hp0]; simp [MemPlace.row])
  have hcell : W.cell? ⟨g, 0, none⟩ = some (.iface 147 (.pointer (some a0))) := by
    have := World.var?_cell hg0 hv0 0
    simpa using this
  exact ⟨a0, c, t, hcell, hrow, lt_of_row hrow, World.block_lt_of_cell? W _ hcell⟩
set_option maxRecDepth 100000 in
theorem passLaid {W : World} (h : laidMetH Tryd.prog [("io.ErrShortBuffer", Rows.laid_io_ErrShortBuffer), ("io.EOF", Rows.laid_io_EOF), ("io.ErrUnexpectedEOF", Rows.laid_io_ErrUnexpectedEOF), ("loop.example/pub-g03424/pub/pngparts.interlacing", Rows.laid_loop_example_pub_g03424_pub_pngparts_interlacing)] W) :
    Inter W ∧ Eofs W.heap.size W := by
  have h1 : laidMetH Tryd.prog [("io.EOF", Rows.laid_io_EOF)] W := by
    have e : (([("io.ErrShortBuffer", Rows.laid_io_ErrShortBuffer), ("io.EOF", Rows.laid_io_EOF), ("io.ErrUnexpectedEOF", Rows.laid_io_ErrUnexpectedEOF), ("loop.example/pub-g03424/pub/pngparts.interlacing", Rows.laid_loop_example_pub_g03424_pub_pngparts_interlacing)] : List (String × DataW Unit)).filter fun x => x.1 == "io.EOF") = [("io.EOF", Rows.laid_io_EOF)] := by kernel_rfl
    rw [← e]
    exact h.filter _
  have h2 : laidMetH Tryd.prog [("io.ErrUnexpectedEOF", Rows.laid_io_ErrUnexpectedEOF)] W := by
    have e : (([("io.ErrShortBuffer", Rows.laid_io_ErrShortBuffer), ("io.EOF", Rows.laid_io_EOF), ("io.ErrUnexpectedEOF", Rows.laid_io_ErrUnexpectedEOF), ("loop.example/pub-g03424/pub/pngparts.interlacing", Rows.laid_loop_example_pub_g03424_pub_pngparts_interlacing)] : List (String × DataW Unit)).filter fun x => x.1 == "io.ErrUnexpectedEOF") = [("io.ErrUnexpectedEOF", Rows.laid_io_ErrUnexpectedEOF)] := by kernel_rfl
    rw [← e]
    exact h.filter _
  have h3 : laidMetH Tryd.prog [("loop.example/pub-g03424/pub/pngparts.interlacing", Rows.laid_loop_example_pub_g03424_pub_pngparts_interlacing)] W := by
    have e : (([("io.ErrShortBuffer", Rows.laid_io_ErrShortBuffer), ("io.EOF", Rows.laid_io_EOF), ("io.ErrUnexpectedEOF", Rows.laid_io_ErrUnexpectedEOF), ("loop.example/pub-g03424/pub/pngparts.interlacing", Rows.laid_loop_example_pub_g03424_pub_pngparts_interlacing)] : List (String × DataW Unit)).filter fun x => x.1 == "loop.example/pub-g03424/pub/pngparts.interlacing") = [("loop.example/pub-g03424/pub/pngparts.interlacing", Rows.laid_loop_example_pub_g03424_pub_pngparts_interlacing)] := by kernel_rfl
    rw [← e]
    exact h.filter _
  obtain ⟨p1, ca1, ta1, e1⟩ := err_row (g := 1) h1 (by kernel_rfl) (by kernel_rfl)
  obtain ⟨p2, ca2, ta2, e2⟩ := err_row (g := 2) h2 (by kernel_rfl) (by kernel_rfl)
  exact ⟨inter_of h3, ⟨p1, ca1, ta1, e1⟩, p2, ca2, ta2, e2⟩
end Go.Proofs.YtkiibhpmembcgaaDoor
