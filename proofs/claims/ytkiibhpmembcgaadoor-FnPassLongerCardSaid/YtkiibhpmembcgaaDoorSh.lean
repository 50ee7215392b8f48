/- Slices of colors in memory; the contracts of the thin package's shadesOf and paletteOf. -/
import Derived.Test.YtkiibhpmembcgaaDoorGBase
import Derived.Deep.DeepCutAuto
import Derived.Deep.CutBlock
import Derived.LoopTactic
import Derived.Outline
namespace Go.Proofs.YtkiibhpmembcgaaDoor
open Go.ChangeShapes Go.WideShapes Go.ChangeAt Go.RowKit Go.IntWalk

/-- A color: red, green, blue, alpha. -/
structure Sh where
  r : UInt8
  g : UInt8
  b : UInt8
  a : UInt8
def Sh.no : Sh := ⟨0, 0, 0, 0⟩
def shC (s : Sh) : List Value := [.int .u8 (s.r.toNat : Int), .int .u8 (s.g.toNat : Int), .int .u8 (s.b.toNat : Int), .int .u8 (s.a.toNat : Int)]
def shAll (S : List Sh) : List Value := S.flatMap shC
theorem shC_len (s : Sh) : (shC s).length = 4 := rfl
theorem shAll_len (S : List Sh) : (shAll S).length = S.length * 4 := by
  induction S with
  | nil => rfl
  | cons s r ih => rw [shAll, List.flatMap_cons, List.length_append, shC_len, List.length_cons, ← shAll, ih]; omega
theorem shAll_next (S : List Sh) (t : Nat) (s : Sh) (h : S[t]? = some s) : shAll (S.take (t + 1)) = shAll (S.take t) ++ shC s := by
  rw [List.take_add_one, h]
  simp [shAll]
theorem oneCell_shade (s : Sh) : ∀ u ∈ shC s, u.oneCell' = true := by
  intro u hu
  simp only [shC, List.mem_cons, List.not_mem_nil, or_false] at hu
  rcases hu with rfl | rfl | rfl | rfl <;> rfl
theorem ownsRow_below {w w' : World} {base : Nat} {e : TypeId} {size n : Nat} {v : Value} {xs : List Value} (h : w.ownsRow base e size v n xs) (hb : Below w.heap.size w w') : w'.ownsRow base e size v n xs := by
  refine ⟨h.1, ?_⟩
  rcases h.2 with h2 | ⟨g, cap, cur, hv, hg, hh, r⟩
  · exact Or.inl h2
  · refine Or.inr ⟨g, cap, cur, hv, hg, ?_, r⟩
    rw [hb.block g ?_]
    · exact hh
    · rcases Nat.lt_or_ge g w.heap.size with h' | h'
      · exact h'
      · simp [Array.getElem?_eq_none h'] at hh
theorem info_shade : (Tryd.prog.info? 64).map (fun i => (i.zero, i.size, i.bytes)) = some (some (.agg #[.int .u8 0, .int .u8 0, .int .u8 0, .int .u8 0]), 4, 4) := by kernel_rfl
/-- A color is appended to a call's own ones. -/
theorem wpList_append_shade {w : World} {ops : Array Oper} {rest : List Oper} {o : Oper} {a : Act} {Q : Exit → Act → World → Prop} (hgd : o.guard = none) (s x : Operand)
    (ho : o.op = .call { callee := .builtin .append, args := #[s, x], argTypes := #[22, 22] })
    (base : Nat) (v : Value) (n : Nat) (xs : List Value) (sh : Sh) (hs : a.eval s = v) (hown : w.ownsRow base 64 4 v n xs) (ad : Addr) (c : Nat) (hx : a.eval x = .slice (some ad) 1 c)
    (hr : ∀ j u, (shC sh)[j]? = some u → w.cell? (ad.add j) = some u) (hb : n ≤ 100000) (hbase : base ≤ w.heap.size)
    (h : ∀ v' w', w'.ownsRow base 64 4 v' (n + 1) (xs ++ shC sh) → Below base w w' → wpList Tryd.prog ops Q rest (a.put o.dst v') w') : wpList Tryd.prog ops Q (o :: rest) a w := by
  obtain ⟨i0, hi, hz0, hz1, hz2⟩ := info_parts info_shade
  refine wpList_append_own w hgd s x 22 ho base 64 i0 (.agg #[.int .u8 0, .int .u8 0, .int .u8 0, .int .u8 0]) 4 4 Tryd.underlying22 hi hz0 hz1 hz2 rfl (by decide) v n xs hs hown ad 1 c (shC sh) hx (by rw [shC_len]) hr (oneCell_shade sh) (by unfold maxLen; omega) (by omega) hbase ?_
  intro v' w' ho' hg hnil
  exact h v' w' ho' ((Below.refl _ _).grown hg hbase (fun k hk => (World.ownsRow.lt hown k hk).1))
def agg4 (s : Sh) : Value := .agg #[.int .u8 (s.r.toNat : Int), .int .u8 (s.g.toNat : Int), .int .u8 (s.b.toNat : Int), .int .u8 (s.a.toNat : Int)]
theorem assert_n (x : Array Value) (w : World) : (Instr.typeAssert (.iface 79 (.agg x)) 137 79 true).run Tryd.prog w = .ok (.tuple #[.agg x, .bool true]) w := by kernel_rfl
theorem assert_no (x : Array Value) (w : World) : (Instr.typeAssert (.iface 138 (.agg x)) 137 79 true).run Tryd.prog w = .ok (.tuple #[.agg #[.int .u8 0, .int .u8 0, .int .u8 0, .int .u8 0], .bool false]) w := by kernel_rfl
theorem assert_r (x : Array Value) (w : World) : (Instr.typeAssert (.iface 138 (.agg x)) 137 138 true).run Tryd.prog w = .ok (.tuple #[.agg x, .bool true]) w := by kernel_rfl
/-- A palette's colors in memory, each in one of the two forms. -/
def PalAt (w : World) (ad : Option Addr) (S : List Sh) : Prop :=
  S ≠ [] → ∃ P, ad = some ⟨P, 0, none⟩ ∧ ∀ j s, S[j]? = some s → ∃ T, (T = 138 ∨ T = 79) ∧ w.cell? ⟨P, j, none⟩ = some (.iface T (agg4 s))
theorem shade_at (w : World) (s : Sh) (T : TypeId) (g : Nat) (hg : g = w.heap.size) : ∀ j u, (shC s)[j]? = some u → (w.alloc (.cells #[.int .u8 (s.r.toNat : Int), .int .u8 (s.g.toNat : Int), .int .u8 (s.b.toNat : Int), .int .u8 (s.a.toNat : Int)] T)).cell? ((⟨g, 0, none⟩ : Addr).add j) = some u := by
  intro j u hj
  subst hg
  have e : ((⟨w.heap.size, 0, none⟩ : Addr).add j) = ⟨w.heap.size, j, none⟩ := by
    unfold Addr.add
    split
    · rename_i h0; subst h0; rfl
    · simp
  rw [e, cell_of_row _ _ _ _ _ _ (heap_alloc_new w _), ← hj]
  simp [shC]
def ShEnd (S : List Sh) (w : World) (e : Ending) (w' : World) : Prop :=
  ∃ v, e = .returned v ∧ w'.ownsRow w.heap.size 64 4 v S.length (shAll S) ∧ Below w.heap.size w w'

set_option maxHeartbeats 3200000 in
set_option maxRecDepth 100000 in
theorem shadesOf_any (ad : Option Addr) (cap : Nat) (S : List Sh) (n : Nat) (w : World) (hn : Hid (S.length = n)) (hr : PalAt w ad S) (hm : n ≤ 1000) :
    Calls Tryd.prog 29 #[.slice ad n cap] w (ShEnd S w) := by
  have a1 := assert_n
  have a2 := assert_no
  have a3 := assert_r
  have hsz : Hid (∀ k, (∃ s, S[k]? = some s) → k < n) := Lib.hid (fun k ⟨s, hs⟩ => by rw [← hn.out]; exact (List.getElem?_eq_some_iff.1 hs).1)
  go_enter Tryd.func29, Tryd.ntmps29
  go_upto_region 3 with fail
  go_loopw [3, 11] (fun v i wr => ∃ t : Nat, t ≤ n ∧ i = .int .i64 (t : Int) ∧ wr.ownsRow w.heap.size 64 4 v t (shAll (S.take t)) ∧ Below w.heap.size w wr) (fun _ i _ => n - (intOf i).toNat)
  case atStart => exact ⟨0, Nat.zero_le _, rfl, World.ownsRow_nil _ _ _ _, Below.refl _ _⟩
  case round =>
    obtain ⟨t, ht, rfl, hown, hbel⟩ := hrel
    by_cases hlt : t < n
    · have i0 : (0 : Int) ≤ (t : Int) := by omega
      have i1 : (t : Int) < (n : Int) := by omega
      have w3 : IntKind.i64.wrap (t : Int) = (t : Int) := i64_in _ ⟨by omega, by omega⟩
      obtain ⟨sh, hsh⟩ : ∃ s, S[t]? = some s := ⟨_, List.getElem?_eq_getElem (by rw [hn.out]; exact hlt)⟩
      obtain ⟨P, rfl, hc⟩ := hr (by intro e; rw [e] at hsh; simp at hsh)
      obtain ⟨T, hT, hc1⟩ := hc t sh hsh
      have hP : P < w.heap.size := World.block_lt_of_cell? w _ hc1
      have hc2 : wr.cell? ⟨P, t, none⟩ = some (.iface T (agg4 sh)) := (World.cell?_of_block (w := w) (hbel.block P hP)).trans hc1
      unfold agg4 at hc2
      have NX := Lib.hid (shAll_next S t sh hsh)
      clear hc1 hc hsh
      have HO := Lib.hid hown
      have HBEL := Lib.hid hbel
      have ARM : ∀ T' : TypeId, ∃ W, W = (wr.alloc (.cells #[.int .u8 (sh.r.toNat : Int), .int .u8 (sh.g.toNat : Int), .int .u8 (sh.b.toNat : Int), .int .u8 (sh.a.toNat : Int)] T')).alloc (.cells #[.int .u8 (sh.r.toNat : Int), .int .u8 (sh.g.toNat : Int), .int .u8 (sh.b.toNat : Int), .int .u8 (sh.a.toNat : Int)] 64) ∧ Below wr.heap.size wr W := fun T' => ⟨_, rfl, ((Below.refl _ _).alloc (Nat.le_refl _) _).alloc (by rw [size_alloc]; omega) _⟩
      have HARM := Lib.hid ARM
      clear ARM hown
      rcases hT with rfl | rfl
      · go_wp2_with (at_builtin; refine wpList_append_shade rfl (.tmp 38) (.tmp 48) rfl w.heap.size _ t (shAll (S.take t)) sh rfl (ownsRow_below HO.out (by obtain ⟨W, rfl, hW⟩ := HARM.out 138; exact hW)) _ 1 rfl (shade_at (wr.alloc _) sh _ _ (by simp)) (by omega) (by rw [size_alloc, size_alloc]; have := HBEL.out.size; omega) ?_; intro v2 w2 ho2 hb2)
        go_round
        case rel =>
          refine ⟨t + 1, by omega, by go_num, by rw [NX.out]; exact ho2, ?_⟩
          obtain ⟨W, rfl, hW⟩ := HARM.out 138
          exact (HBEL.out.trans (hW.mono HBEL.out.size)).trans hb2
        case measure => simp [intOf]; omega
      · go_wp2_with (at_builtin; refine wpList_append_shade rfl (.tmp 23) (.tmp 33) rfl w.heap.size _ t (shAll (S.take t)) sh rfl (ownsRow_below HO.out (by obtain ⟨W, rfl, hW⟩ := HARM.out 79; exact hW)) _ 1 rfl (shade_at (wr.alloc _) sh _ _ (by simp)) (by omega) (by rw [size_alloc, size_alloc]; have := HBEL.out.size; omega) ?_; intro v2 w2 ho2 hb2)
        go_round
        case rel =>
          refine ⟨t + 1, by omega, by go_num, by rw [NX.out]; exact ho2, ?_⟩
          obtain ⟨W, rfl, hW⟩ := HARM.out 79
          exact (HBEL.out.trans (hW.mono HBEL.out.size)).trans hb2
        case measure => simp [intOf]; omega
    · obtain rfl : n = t := by omega
      go_wp2_with fail
      go_ret
      rw [List.take_of_length_le (Nat.le_of_eq hn.out)] at hown
      exact ⟨_, rfl, by rw [hn.out]; exact hown, hbel⟩
/-- What the walk is told of a slice of colors that came in. -/
structure InS (w : World) (a : Option Addr) (len cap : Nat) (l : List Sh) : Prop where
  hlen : Hid (l.length = len)
  rd : l ≠ [] → ∃ b o, a = some ⟨b, o, none⟩ ∧ ∀ j u, (shAll l)[j]? = some u → w.cell? ⟨b, o + j, none⟩ = some u
  hnil : a = none → len = 0 ∧ cap = 0
  hcap : len ≤ cap
  most : cap ≤ 9223372036854775807
theorem InS.below {w w' : World} {a : Option Addr} {len cap : Nat} {l : List Sh} (h : InS w a len cap l) (hb : Below w.heap.size w w') : InS w' a len cap l := by
  refine ⟨h.hlen, fun hne => ?_, h.hnil, h.hcap, h.most⟩
  obtain ⟨b, o, e, hc⟩ := h.rd hne
  exact ⟨b, o, e, fun j u hj => by rw [hb.cell (p := ⟨b, o + j, none⟩) (World.block_lt_of_cell? w _ (hc j u hj))]; exact hc j u hj⟩
theorem shAll_at (SS : List Sh) (t : Nat) (s : Sh) (h : SS[t]? = some s) (j : Nat) (hj : j < 4) : (shAll SS)[4 * t + j]? = (shC s)[j]? := by
  have e : SS = SS.take t ++ s :: SS.drop (t + 1) := by
    obtain ⟨h1, h2⟩ := List.getElem?_eq_some_iff.1 h
    rw [← h2, List.getElem_cons_drop, List.take_append_drop]
  have hl : (shAll (SS.take t)).length = 4 * t := by
    rw [shAll_len, List.length_take]
    have := (List.getElem?_eq_some_iff.1 h).1
    omega
  have e2 : shAll SS = shAll (SS.take t) ++ (shC s ++ shAll (SS.drop (t + 1))) := by
    rw [congrArg shAll e]
    simp [shAll]
  rw [e2, List.getElem?_append_right (by omega), hl, Nat.add_sub_cancel_left, List.getElem?_append_left (by rw [shC_len]; exact hj)]
theorem info_color : (Tryd.prog.info? 137).map (fun i => (i.zero, i.size, i.bytes)) = some (some .nilIface, 1, 16) := by kernel_rfl
/-- Colors are appended to a call's own ones. -/
theorem wpList_append_colors {w : World} {ops : Array Oper} {rest : List Oper} {o : Oper} {a : Act} {Q : Exit → Act → World → Prop} (hgd : o.guard = none) (s x : Operand)
    (ho : o.op = .call { callee := .builtin .append, args := #[s, x], argTypes := #[58, 58] })
    (base : Nat) (v : Value) (n : Nat) (xs news : List Value) (hs : a.eval s = v) (hown : w.ownsRow base 137 1 v n xs) (ad : Addr) (m c : Nat) (hx : a.eval x = .slice (some ad) m c)
    (hl : news.length = m) (hr : ∀ j u, news[j]? = some u → w.cell? (ad.add j) = some u) (h1 : ∀ u ∈ news, u.oneCell' = true) (hb : n + m ≤ 100000) (hbase : base ≤ w.heap.size)
    (h : ∀ v' w', w'.ownsRow base 137 1 v' (n + m) (xs ++ news) → Below base w w' → wpList Tryd.prog ops Q rest (a.put o.dst v') w') : wpList Tryd.prog ops Q (o :: rest) a w := by
  obtain ⟨i0, hi, hz0, hz1, hz2⟩ := info_parts info_color
  refine wpList_append_own w hgd s x 58 ho base 137 i0 .nilIface 1 16 Tryd.underlying58 hi hz0 hz1 hz2 rfl (by decide) v n xs hs hown ad m c news hx (by rw [hl, Nat.mul_one]) hr h1 (by unfold maxLen; omega) (by omega) hbase ?_
  intro v' w' ho' hg hnil
  exact h v' w' ho' ((Below.refl _ _).grown hg hbase (fun k hk => (World.ownsRow.lt hown k hk).1))
theorem one_at (w : World) (v : Value) (T : TypeId) (g : Nat) (hg : g = w.heap.size) : ∀ j u, [v][j]? = some u → (w.alloc (.cells #[v] T)).cell? ((⟨g, 0, none⟩ : Addr).add j) = some u := by
  intro j u hj
  subst hg
  rw [Addr.add_lit, Nat.zero_add, cell_of_row _ _ _ _ _ _ (heap_alloc_new w _), ← hj]
  simp
/-- A color as paletteOf makes it. -/
def ngV (s : Sh) : Value := .iface 79 (agg4 s)
theorem ng_next (S : List Sh) (t : Nat) (s : Sh) (h : S[t]? = some s) : (S.take (t + 1)).map ngV = (S.take t).map ngV ++ [ngV s] := by
  rw [List.take_add_one, h]
  simp
def PofEnd (S : List Sh) (m : Nat) (w : World) (e : Ending) (w' : World) : Prop :=
  ∃ v, e = .returned v ∧ w'.ownsRow w.heap.size 137 1 v m (S.map ngV) ∧ Below w.heap.size w w'

set_option maxHeartbeats 3200000 in
set_option maxRecDepth 100000 in
theorem paletteOf_any (ap : Option Addr) (m pcap : Nat) (S : List Sh) (w : World) (hS : Hid (InS w ap m pcap S)) (hm : m ≤ 1000) :
    Calls Tryd.prog 22 #[.slice ap m pcap] w (PofEnd S m w) := by
  have hSl : Hid (S.length = m) := hS.out.hlen
  go_enter Tryd.func22, Tryd.ntmps22
  go_upto_region 3 with fail
  go_loopw [3, 8] (fun v i wr => ∃ t : Nat, t ≤ m ∧ i = .int .i64 (t : Int) ∧ wr.ownsRow w.heap.size 137 1 v t ((S.take t).map ngV) ∧ Below w.heap.size w wr) (fun _ i _ => m - (intOf i).toNat)
  case atStart => exact ⟨0, Nat.zero_le _, rfl, World.ownsRow_nil _ _ _ _, Below.refl _ _⟩
  case round =>
    obtain ⟨t, ht, rfl, hown, hbel⟩ := hrel
    by_cases hlt : t < m
    · have i0 : (0 : Int) ≤ (t : Int) := by omega
      have i1 : (t : Int) < (m : Int) := by omega
      have w3 : IntKind.i64.wrap (t : Int) = (t : Int) := i64_in _ ⟨by omega, by omega⟩
      obtain ⟨sh, hsh⟩ : ∃ s, S[t]? = some s := ⟨_, List.getElem?_eq_getElem (by rw [hSl.out]; exact hlt)⟩
      obtain ⟨pb, po, rfl, hpc⟩ := hS.out.rd (by intro e; rw [e] at hsh; simp at hsh)
      have hpb : pb < w.heap.size := by
        have e : (shAll S)[0]? = some ((shAll S)[0]'(by rw [shAll_len, hSl.out]; omega)) := List.getElem?_eq_getElem _
        exact World.block_lt_of_cell? w _ (hpc 0 _ e)
      have hC : ∀ j u, j < 4 → (shC sh)[j]? = some u → wr.cell? ⟨pb, po + t * 4 + j, none⟩ = some u := fun j u hj hu => by
        refine (World.cell?_of_block (w := w) (hbel.block pb hpb)).trans ?_
        rw [Nat.mul_comm, Nat.add_assoc]
        exact hpc _ _ ((shAll_at _ t _ hsh j hj).trans hu)
      have g0 := hC 0 _ (by omega) rfl
      have g1 := hC 1 _ (by omega) rfl
      have g2 := hC 2 _ (by omega) rfl
      have g3 := hC 3 _ (by omega) rfl
      rw [Nat.add_zero] at g0
      have NX := Lib.hid (ng_next S t sh hsh)
      have HO := Lib.hid hown
      have HBEL := Lib.hid hbel
      have hbw : Below wr.heap.size wr ((wr.alloc (.cells #[.int .u8 (sh.r.toNat : Int), .int .u8 (sh.g.toNat : Int), .int .u8 (sh.b.toNat : Int), .int .u8 (sh.a.toNat : Int)] 64)).alloc (.cells #[ngV sh] 137)) := ((Below.refl _ _).alloc (Nat.le_refl _) _).alloc (by rw [size_alloc]; omega) _
      have HBW := Lib.hid hbw
      clear hC hsh hown hbel hbw hpc hpb
      go_wp2_with (at_builtin; refine wpList_append_colors rfl (.tmp 12) (.tmp 23) rfl w.heap.size _ t ((S.take t).map ngV) [ngV sh] rfl (ownsRow_below HO.out HBW.out) _ 1 1 rfl rfl (one_at (wr.alloc _) (ngV sh) _ _ (by simp)) (by intro u hu; rcases List.mem_singleton.1 hu with rfl; rfl) (by omega) (by rw [size_alloc, size_alloc]; have := HBEL.out.size; omega) ?_; intro v2 w2 ho2 hb2)
      go_round
      case rel => exact ⟨t + 1, by omega, by go_num, by rw [NX.out]; exact ho2, (HBEL.out.trans (HBW.out.mono HBEL.out.size)).trans hb2⟩
      case measure => simp [intOf]; omega
    · obtain rfl : m = t := by omega
      rw [List.take_of_length_le (Nat.le_of_eq hSl.out)] at hown
      have HO := Lib.hid hown
      have HB := Lib.hid hbel
      clear hown hbel
      go_wp2_with fail
      go_ret
      exact ⟨_, rfl, HO.out, HB.out⟩
end Go.Proofs.YtkiibhpmembcgaaDoor
