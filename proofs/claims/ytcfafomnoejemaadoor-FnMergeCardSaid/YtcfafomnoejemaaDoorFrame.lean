/- What every law's frame uses: the named variables read again where old memory stands; a slice of bytes that came in reads as a list of bytes. -/
import Derived.Test.YtcfafomnoejemaaDoorBytes
import Derived.ChangeBears2
import Derived.ChangeOld
import Derived.Carry
namespace Go.Proofs.YtcfafomnoejemaaDoor
open Go.ChangeShapes Go.WideShapes Go.ChangeAt Go.RowKit

theorem own : ownKnob Tryd.prog.godebug = none := by kernel_rfl
theorem laidOut : laidOutB Tryd.prog = true := by kernel_rfl

/-- Each named variable's type reads as data. -/
def varsReadable (P : Program) (ns : List String) : Bool := ns.all fun n => match P.globalNamed n with
  | some g => match (P.globals[g]?).map (·.type) with
    | some t => P.readableRec t
    | none => false
  | none => false
theorem var_lt {P : Program} {w : World} {n : String} {g : Nat} {cs : Array Value} (hg : P.globalNamed n = some g) (h : w.var? P n = some cs) : g < w.heap.size := by
  unfold World.var? at h
  rw [hg] at h
  simp only [Option.bind_some] at h
  rcases Nat.lt_or_ge g w.heap.size with h' | h'
  · exact h'
  · simp [Array.getElem?_eq_none h'] at h
theorem vars_below {H : Type} {enc : TypeId × Value → H} {P : Program} (hl : laidOutB P = true) {W W' : World} (hb : Below W.heap.size W W') :
    ∀ {ns : List String} {gs : List (DataW H)} {ps : List MemPlace}, varsReadable P ns = true → DataW.TrodVars enc P W (fun _ => true) ns gs ps → DataW.TrodVars enc P W' (fun b => decide (b < W.heap.size)) ns gs ps
  | [], [], _, _, h => h
  | [], _ :: _, _, _, h => h
  | _ :: _, [], _, _, h => h
  | n :: ns, d :: ds, ps, hr, h => by
    obtain ⟨g, t, cs, fuel, p, q, h1, h2, h3, h4, hs, e⟩ := h
    simp only [varsReadable, List.all_cons, Bool.and_eq_true] at hr
    rw [h1] at hr
    simp only [h2] at hr
    have hp : ∀ x ∈ p, x.block < W.heap.size := DataW.trod_lt fuel _ _ _ h4
    refine ⟨g, t, cs, fuel, p, q, h1, h2, var?_below hb h1 (var_lt h1 h3) h3, ?_, vars_below hl hb hr.2 hs, e⟩
    exact DataW.trod_stays (kids_book hl hr.1) (book_sized hr.1) (fun h => by cases h) ⟨global_row hl h2, book_self t⟩ h4 (fun x hx => hb.same (hp x hx)) (fun x hx => by simpa using hp x hx)

theorem trodVars_len {H : Type} {enc : TypeId × Value → H} {P : Program} {W : World} {sp : Nat → Bool} : ∀ {ns : List String} {gs : List (DataW H)} {ps : List MemPlace}, DataW.TrodVars enc P W sp ns gs ps → gs.length = ns.length
  | [], [], _, _ => rfl
  | [], _ :: _, _, h => by simp [DataW.TrodVars] at h
  | _ :: _, [], _, h => by simp [DataW.TrodVars] at h
  | _ :: _, _ :: _, _, h => by
    obtain ⟨_, _, _, _, _, _, _, _, _, _, hs, _⟩ := h
    simp [trodVars_len hs]
/-- What the walk is told of a slice of bytes that came in: nil, or it leads to a row of 'cap' cells; its first 'len' are the bytes l. -/
structure InB (w : World) (a : Option Addr) (len cap : Nat) (l : List UInt8) : Prop where
  hlen : Hid (l.length = len)
  rb : RB w a l
  hnil : a = none → len = 0 ∧ cap = 0
  hcap : len ≤ cap
  most : cap ≤ 9223372036854775807

theorem inB_of_rows {W : World} {a : Option Addr} {len cap : Nat} {zs : List Int}
    (h : (a = none ∧ len = 0 ∧ cap = 0 ∧ zs = []) ∨ ∃ x, a = some x ∧ len ≤ cap ∧ cap ≤ maxLen ∧ zs.length = cap ∧ (∀ i, i < zs.length → W.cell? (x.add i) = some (.int .u8 (zs.getD i 0))) ∧ ∀ n ∈ zs, (Lit.int .u8 n).wf = true) : ∃ l, InB W a len cap l := by
  rcases h with ⟨rfl, rfl, rfl, rfl⟩ | ⟨x, rfl, hl, hm, hz', hcell, hwz⟩
  · exact ⟨[], Lib.hid rfl, RB.nil _ _, fun _ => ⟨rfl, rfl⟩, Nat.le_refl _, by omega⟩
  · refine ⟨(zs.take len).map (fun z => UInt8.ofNat z.toNat), Lib.hid (by simp; omega), fun hne => ?_, (fun h => by cases h), hl, by simpa [maxLen] using hm⟩
    have hpos : 0 < len := by
      rcases Nat.eq_zero_or_pos len with h0 | h0
      · subst h0; simp at hne
      · exact h0
    obtain ⟨b, off, spot⟩ := x
    have hc := hcell 0 (by omega)
    have hspot : spot = none := by simpa [Addr.add] using World.cell?_spot hc
    subst hspot
    refine ⟨b, off, rfl, fun j hj => ?_⟩
    have hj' : j < len := by simp at hj; omega
    have := hcell j (by omega)
    have e : (⟨b, off, none⟩ : Addr).add j = ⟨b, off + j, none⟩ := by
      unfold Addr.add
      split
      · rename_i h; subst h; rfl
      · rfl
    rw [e] at this
    rw [this]
    have hjz : j < zs.length := by omega
    have hw := hwz (zs.getD j 0) (by simp [List.getD, List.getElem?_eq_getElem hjz])
    congr 2
    rw [← toNat_ofInts hw]
    simp [List.getD, List.getElem?_eq_getElem hjz, hj']
theorem inB_of {H : Type} {enc : TypeId × Value → H} {W : World} {base : Nat} {held : Bool} {a : Option Addr} {len cap : Nat} {d : DataW H} {ps : List MemPlace}
    (h : DataW.Trod enc Tryd.prog W base (fun _ => true) held 22 (.slice a len cap) d ps) : ∃ l, InB W a len cap l := by
  obtain ⟨fuel, hf⟩ := h
  rcases open_ints Tryd.underlying22 Tryd.underlying5 (by kernel_rfl) hf with ⟨hcs, _⟩ | ⟨x, l, c, zs, hcs, _, hl, hm, hz, _, hcell, hwz⟩
  · simp [Value.cells] at hcs
    obtain ⟨rfl, rfl, rfl⟩ := hcs
    exact inB_of_rows (zs := []) (.inl ⟨rfl, rfl, rfl, rfl⟩)
  · simp [Value.cells] at hcs
    obtain ⟨rfl, rfl, rfl⟩ := hcs
    exact inB_of_rows (.inr ⟨x, rfl, hl, hm, by simpa using hz, hcell, hwz⟩)
end Go.Proofs.YtcfafomnoejemaaDoor
