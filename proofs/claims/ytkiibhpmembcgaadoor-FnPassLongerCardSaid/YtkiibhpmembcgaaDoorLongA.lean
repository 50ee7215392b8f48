/- For the law FnPassLonger: bytes appended at a step of a region; what one call of Pass gives, told by the rows. -/
import Derived.Test.YtkiibhpmembcgaaDoorImpL
import Derived.Test.YtkiibhpmembcgaaDoorLSame
import Derived.Test.YtkiibhpmembcgaaDoorNeed
import Derived.Laws.OwnMore
namespace Go.Proofs.YtkiibhpmembcgaaDoor
open Go.ChangeShapes Go.WideShapes Go.ChangeAt Go.RowKit Go.IntWalk

theorem insNil (w : World) : InS w none 0 0 [] := ⟨Lib.hid rfl, fun h => absurd rfl h, fun _ => ⟨rfl, rfl⟩, Nat.le_refl _, by omega⟩
theorem passNo (laced : Bool) (z : Nat) : (if laced then z % 7 else 0) < 7 := by
  cases laced
  · exact (by decide : 0 < 7)
  · exact Nat.mod_lt _ (by decide)
def TrueEnd (w : World) (e : Ending) (w' : World) : Prop := e = .returned (.bool true) ∧ Below w.heap.size w w'
/-- 'append(out, x...)' of bytes at a step of a region that draws its order. -/
theorem step_append_bytes {w : World} {ops : Array Oper} {o : Oper} {a : Act} {K : Act → World → Prop} {Q : Exit → Act → World → Prop} {E : Prop} (hgd : o.guard = none) (s x : Operand)
    (ho : o.op = .call { callee := .builtin .append, args := #[s, x], argTypes := #[23, 23] })
    (base : Nat) (v : Value) (l news : List UInt8) (hs : a.eval s = v) (hown : OwnB w base v l) (ad : Option Addr) (m c : Nat) (hx : a.eval x = .slice ad m c)
    (hm : news.length = m) (hr : RB w ad news) (hn : ad = none → m = 0 ∧ c = 0) (hb : l.length + m ≤ 140737488355328) (hbase : base ≤ w.heap.size)
    (h : ∀ v' w', OwnB w' base v' (l ++ news) → w.grownBy w' v.ownBlock → Below base w w' → K (a.put o.dst v') w') : if Region.wanted o (yielded ops a.tmps) = true then Oper.wp Tryd.prog o a w K Q else E := by
  have hw : Region.wanted o (yielded ops a.tmps) = true := by simp [Region.wanted, hgd]
  rw [if_pos hw]
  obtain ⟨i0, hi, hz0, hz1, hz2⟩ := info_parts info_byte
  cases ad with
  | none =>
    obtain ⟨rfl, rfl⟩ := hn rfl
    obtain rfl : news = [] := List.eq_nil_of_length_eq_zero hm
    have hrun := run_append_owned_none (P := Tryd.prog) (w := w) base 23 o.type 5 i0 1 Tryd.underlying23 hi v _ _ hown
    unfold Oper.wp
    simp [execOp, ho, resolve, invoke, builtin, hs, hx, hrun, Result.andThen]
    simp only [Oper.upon]
    exact h v w (by simpa using hown) (World.grownBy.refl _ _) (Below.refl _ _)
  | some p =>
    refine wp_append_own w s x 23 ho base 5 i0 (.int .u8 0) 1 1 Tryd.underlying23 hi hz0 hz1 hz2 rfl (by decide) v _ _ hs hown p m c (news.map fun b => .int .u8 (b.toNat : Int)) hx (by simp [hm]) ?_ (oneCell_bytes _) (by unfold maxLen; omega) (by omega) hbase ?_
    · intro j u hj
      have hjl : j < news.length := by
        rcases Nat.lt_or_ge j news.length with h' | h'
        · exact h'
        · simp [List.getElem?_eq_none h'] at hj
      obtain ⟨b, off, e, hc⟩ := hr (by intro e; simp [e] at hjl)
      simp only [Option.some.injEq] at e
      subst e
      have := hc j hjl
      simp [List.getElem?_eq_getElem hjl] at hj this
      rw [← hj, ← this]
      unfold Addr.add
      split
      · rename_i h0; subst h0; rfl
      · rfl
    · intro v' w' ho' hg hnil
      refine h v' w' ?_ hg ((Below.refl _ _).grown hg hbase (ownBlock_ge hown))
      unfold OwnB
      rw [List.length_append, List.map_append, hm]
      exact ho'
/-- A slice of bytes of the call's own does not lie in a picture's block. -/
theorem own_ne {w : World} {base M : Nat} {v : Value} {l : List UInt8} {cs : Array Value} (h : OwnB w base v l) (hr : w.heap[M]? = some (.cells cs 35 (0, 0))) : v.ownBlock ≠ some M := by
  intro e
  rcases h.2 with ⟨rfl, -⟩ | ⟨g, cap, cur, rfl, hb, hg, -⟩
  · cases e
  · obtain rfl : g = M := by simpa [Value.ownBlock] using e
    rw [hr] at hg
    simp at hg
theorem pic_cell {w : World} {M : Nat} {T : TypeId} (row : w.heap[M]? = some (.cells #[.int .i64 0, .int .i64 0, .int .i64 0, .int .i64 0, .int .i64 0, .int .i64 0, .slice none 0 0, .slice none 0 0] T (0, 0))) (i : Nat) (k : Int) : w.cell? ⟨M, i, none⟩ ≠ some (.int .u8 k) := by
  rw [cell_of_row w M i _ _ _ row]
  match i with
  | 0 => simp
  | 1 => simp
  | 2 => simp
  | 3 => simp
  | 4 => simp
  | 5 => simp
  | 6 => simp
  | 7 => simp
  | n + 8 => simp
theorem rb_only {w w' : World} {ad : Option Addr} {l : List UInt8} {M : Nat} {T : TypeId} (h : RB w ad l) (row : w.heap[M]? = some (.cells #[.int .i64 0, .int .i64 0, .int .i64 0, .int .i64 0, .int .i64 0, .int .i64 0, .slice none 0 0, .slice none 0 0] T (0, 0))) (on : Only M w w') : RB w' ad l := by
  intro hl
  obtain ⟨b, o, e, hc⟩ := h hl
  refine ⟨b, o, e, fun j hj => ?_⟩
  have h0 := hc j hj
  have hne : b ≠ M := by
    rintro rfl
    exact pic_cell row _ _ h0
  exact (on.cell (p := ⟨b, o + j, none⟩) hne).trans h0
theorem shAll_u8 : ∀ (S : List Sh) (u : Value), u ∈ shAll S → ∃ k : Int, u = .int .u8 k := by
  intro S u hu
  obtain ⟨s, -, h⟩ := List.mem_flatMap.1 hu
  simp only [shC, List.mem_cons, List.not_mem_nil, or_false] at h
  rcases h with rfl | rfl | rfl | rfl <;> exact ⟨_, rfl⟩
theorem inS_only {w w' : World} {a : Option Addr} {len cap : Nat} {S : List Sh} {M : Nat} {T : TypeId} (h : InS w a len cap S) (row : w.heap[M]? = some (.cells #[.int .i64 0, .int .i64 0, .int .i64 0, .int .i64 0, .int .i64 0, .int .i64 0, .slice none 0 0, .slice none 0 0] T (0, 0))) (on : Only M w w') : InS w' a len cap S := by
  refine ⟨h.hlen, fun hne => ?_, h.hnil, h.hcap, h.most⟩
  obtain ⟨b, o, e, hc⟩ := h.rd hne
  refine ⟨b, o, e, fun j u hj => ?_⟩
  have h0 := hc j u hj
  have hne : b ≠ M := by
    rintro rfl
    obtain ⟨k, rfl⟩ := shAll_u8 S u (List.mem_of_getElem? hj)
    exact pic_cell row _ _ h0
  exact (on.cell (p := ⟨b, o + j, none⟩) hne).trans h0
/-- One call of Pass: the picture's numbers, its bytes, its shades, the code. -/
def PrOut (kd Wx Hx Sx : Nat) (lp : List UInt8) (SS : List Sh) (code : Nat) (w : World) (e : Ending) (w' : World) : Prop :=
  ∃ (a7 aa : Option Addr) (n7 k7 an ac : Nat), e = .returned (.tuple #[pcV kd Wx Hx Sx (.slice a7 n7 k7) (.slice aa an ac), .int .i64 (code : Int)]) ∧ Hid (lp.length = n7) ∧ Hid (RB w' a7 lp) ∧ Hid (InS w' aa an ac SS) ∧ Below w.heap.size w w'
theorem pass_out (W0 H0 c d : Nat) (laced : Bool) (p : Nat) (S : List Sh) (hSl : c = 3 → S.length ≤ 1000) (ro : Option (List (List UInt8))) :
    ∃ (kd Wx Hx Sx : Nat) (lp : List UInt8) (SS : List Sh) (code : Nat), code = (if ro.isSome then 0 else 1) ∧ (code = 0 → (szP (ptL laced p) W0 H0).1 = 0 ∨ kd = kindN c d false) ∧ SS.length ≤ 1000 ∧
      ∀ (l : List UInt8) (w : World) (e : Ending) (w' : World), rowsOf W0 H0 c d laced p l = ro → IpEnd (kindN c d false) W0 H0 c d [] laced p l (avAny c S) w e w' → PrOut kd Wx Hx Sx lp SS code w e w' := by
  by_cases hW : (szP (ptL laced p) W0 H0).1 = 0
  · have hH := (szP_zero (q := ptL laced p) (wd := W0) (h := H0) hW).1
    refine ⟨0, 0, 0, 0, [], [], _, rfl, fun _ => .inl hW, by simp, fun l w e w' hro hend => ?_⟩
    have e1 : rowsOf W0 H0 c d laced p l = some [] := by
      unfold rowsOf
      rw [hH]
      rfl
    rw [e1] at hro
    subst hro
    refine ⟨none, none, 0, 0, 0, 0, hend.none_ hW, Lib.hid rfl, Lib.hid (RB.nil _ _), Lib.hid (insNil w'), hend.bel⟩
  · cases ro with
    | none =>
      refine ⟨0, 0, 0, 0, [], [], 1, rfl, fun h => by simp at h, by simp, fun l w e w' hro hend => ?_⟩
      exact ⟨none, none, 0, 0, 0, 0, hend.bad hW hro, Lib.hid rfl, Lib.hid (RB.nil _ _), Lib.hid (insNil w'), hend.bel⟩
    | some R =>
      refine ⟨kindN c d false, (szP (ptL laced p) W0 H0).1, (szP (ptL laced p) W0 H0).2, (szP (ptL laced p) W0 H0).1 * nK (kindN c d (!([] : List Nat).isEmpty)), picOf c d [] (szP (ptL laced p) W0 H0).1 R, (if c = 3 then S else []), 0, rfl, fun _ => .inr rfl, by split <;> simp_all, fun l w e w' hro hend => ?_⟩
      obtain ⟨v, av, he, ho, ha⟩ := hend.good hW R hro
      obtain ⟨a7, n7, k7, rfl, hl, hr, -⟩ := ho.shapeN
      unfold avAny at ha
      by_cases h3 : c = 3
      · rw [if_pos h3] at ha ⊢
        obtain ⟨aa, an, ac, rfl, hin⟩ := inS_own ha
        exact ⟨a7, aa, n7, k7, an, ac, he, hl, Lib.hid hr, Lib.hid hin, hend.bel⟩
      · rw [if_neg h3] at ha ⊢
        obtain rfl : av = .slice none 0 0 := ha
        exact ⟨a7, none, n7, k7, 0, 0, he, hl, Lib.hid hr, Lib.hid (insNil w'), hend.bel⟩
end Go.Proofs.YtkiibhpmembcgaaDoor
