/- The program's own table of the passes, as its variable reads when the call begins. -/
import Derived.Test.YtkiibhpmembcgaaGreatDoorSlf
import Derived.Test.YtkiibhpmembcgaaGreatDoorGMath
import Derived.Lib.LaidTab
namespace Go.Proofs.YtkiibhpmembcgaaGreatDoor
open Go.ChangeShapes Go.WideShapes Go.ChangeAt Go.RowKit Go.IntWalk Go.Deep

theorem gInter : Tryz.prog.globalNamed "loop.example/pub-g03424/pub/pngparts.interlacing" = some 0 := by kernel_rfl
theorem gInterType : (Tryz.prog.globals[0]?).map (·.type) = some 121 := by kernel_rfl
def interD : List (DataW Unit) := (List.range 7).map fun p => .agg [.lit (.int .i64 ((ptOf p).DX : Int)), .lit (.int .i64 ((ptOf p).DY : Int)), .lit (.int .i64 ((ptOf p).X : Int)), .lit (.int .i64 ((ptOf p).Y : Int))]
theorem interD_eq : (Rows.laid_loop_example_pub_g03424_pub_pngparts_interlacing : DataW Unit) = .slice interD [] := by kernel_rfl
theorem inter_of {W : World} (h : laidMet Tryz.prog [("loop.example/pub-g03424/pub/pngparts.interlacing", Rows.laid_loop_example_pub_g03424_pub_pngparts_interlacing)] W) : Inter W := by
  obtain ⟨ps, ⟨g', t', cs, fuel, p, q, hg', ht', hvar, hd, _, _⟩, _⟩ := h
  obtain rfl := Option.some.inj (gInter.symm.trans hg')
  obtain rfl := Option.some.inj (gInterType.symm.trans ht')
  rw [interD_eq] at hd
  obtain ⟨fs, hfs⟩ : ∃ fs, Tryz.prog.underlying 120 = some (.struct fs) := ⟨_, Tryz.underlying120⟩
  have hfz : fs.size = 4 ∧ oneCellFields Tryz.prog fs = true ∧ fs.toList.map (fun f => f.type) = [3, 3, 3, 3] := by
    have e : some (TypeDesc.struct fs) = _ := hfs.symm.trans Tryz.underlying120
    cases e
    exact ⟨by kernel_rfl, by kernel_rfl, by kernel_rfl⟩
  obtain ⟨z4, zone, zt⟩ := hfz
  rcases open_slice_fields Tryz.underlying121 hfs zone (by rw [z4]; kernel_rfl) hd with ⟨_, hx⟩ | ⟨x, l, c, m, D, Pl, hcs, _, hl, hm, hmm, hx, hcell⟩
  · cases hx
  · simp only [Prod.mk.injEq, DataW.slice.injEq] at hx
    obtain ⟨⟨hD, hsp⟩, -⟩ := hx
    have hl7 : 7 = l := by have := congrArg List.length hD; simpa [interD] using this
    subst hl7
    have hmc : m = c := by simpa using hmm
    have hm7 : m = 7 := by
      have := congrArg List.length hsp
      simp at this
      omega
    subst hmc hm7
    have hat : ∀ i, i < 7 → D i = .agg [.lit (.int .i64 ((ptOf i).DX : Int)), .lit (.int .i64 ((ptOf i).DY : Int)), .lit (.int .i64 ((ptOf i).X : Int)), .lit (.int .i64 ((ptOf i).Y : Int))] := by
      intro i hi
      have := congrArg (fun l => l[i]?) hD
      simp [interD, hi] at this
      exact this.symm
    have hv : ∀ i, i < 7 → ∀ j (z : Int), ([.lit (.int .i64 ((ptOf i).DX : Int)), .lit (.int .i64 ((ptOf i).DY : Int)), .lit (.int .i64 ((ptOf i).X : Int)), .lit (.int .i64 ((ptOf i).Y : Int))] : List (DataW Unit))[j]? = some (.lit (.int .i64 z)) → W.cell? (x.add (i * 4 + j)) = some (.int .i64 z) := by
      intro i hi j z hz
      obtain ⟨ys, n, hDy, -, hlen, hf⟩ := hcell i hi
      rw [hat i hi] at hDy
      simp only [DataW.agg.injEq] at hDy
      have hj : j < 4 := by have := (List.getElem?_eq_some_iff.1 hz).1; simpa using this
      have hs : j < fs.size := by omega
      have hft : (fs[j]'hs).type = 3 := by
        have : (fs.toList.map (fun f => f.type))[j]? = some 3 := by
          rw [zt]
          match j, hj with
          | 0, _ => rfl
          | 1, _ => rfl
          | 2, _ => rfl
          | 3, _ => rfl
        simpa [hs] using this
      obtain ⟨v, y, hc, hy, ht⟩ := hf j _ (Array.getElem?_eq_getElem hs)
      rw [hft] at ht
      obtain ⟨z', hv', hy', -⟩ := DataW.trod_int Tryz.underlying3 ht
      simp only [List.cons.injEq, and_true] at hv'
      subst hv'
      rw [hDy, List.getElem?_map, hy, hy'] at hz
      simp only [Option.map_some, Option.some.injEq, DataW.lit.injEq, Lit.int.injEq, true_and] at hz
      subst hz
      rw [z4] at hc
      exact hc
    obtain ⟨b, off, spot⟩ := x
    have h00 := hv 0 (by omega) 0 _ rfl
    have hspot : spot = none := by simpa [Addr.add] using World.cell?_spot h00
    subst hspot
    have hk : ∀ i, i < 7 → ∀ j (z : Int), ([.lit (.int .i64 ((ptOf i).DX : Int)), .lit (.int .i64 ((ptOf i).DY : Int)), .lit (.int .i64 ((ptOf i).X : Int)), .lit (.int .i64 ((ptOf i).Y : Int))] : List (DataW Unit))[j]? = some (.lit (.int .i64 z)) → W.cell? ⟨b, off + i * 4 + j, none⟩ = some (.int .i64 z) := by
      intro i hi j z hz
      have := hv i hi j z hz
      rw [Addr.add_lit] at this
      rw [Nat.add_assoc]
      exact this
    refine ⟨b, off, ?_, fun i hi => ⟨hk i hi 0 _ rfl, hk i hi 1 _ rfl, hk i hi 2 _ rfl, hk i hi 3 _ rfl⟩⟩
    have := World.var?_cell gInter hvar 0
    rw [this, ← Array.getElem?_toList, hcs]
    rfl
end Go.Proofs.YtkiibhpmembcgaaGreatDoor
