/- The contract of the thin package's paletteOf, at palettes of any length. -/
import Derived.Test.YtkiibhpmembcgaaDoorSh
namespace Go.Proofs.YtkiibhpmembcgaaDoor
open Go.ChangeShapes Go.WideShapes Go.ChangeAt Go.RowKit Go.IntWalk

/-- Colors are appended to a call's own ones. -/
theorem wpList_append_colorsL {w : World} {ops : Array Oper} {rest : List Oper} {o : Oper} {a : Act} {Q : Exit → Act → World → Prop} (hgd : o.guard = none) (s x : Operand)
    (ho : o.op = .call { callee := .builtin .append, args := #[s, x], argTypes := #[58, 58] })
    (base : Nat) (v : Value) (n : Nat) (xs news : List Value) (hs : a.eval s = v) (hown : w.ownsRow base 137 1 v n xs) (ad : Addr) (m c : Nat) (hx : a.eval x = .slice (some ad) m c)
    (hl : news.length = m) (hr : ∀ j u, news[j]? = some u → w.cell? (ad.add j) = some u) (h1 : ∀ u ∈ news, u.oneCell' = true) (hb : n + m ≤ 4294967296) (hbase : base ≤ w.heap.size)
    (h : ∀ v' w', w'.ownsRow base 137 1 v' (n + m) (xs ++ news) → Below base w w' → wpList Tryd.prog ops Q rest (a.put o.dst v') w') : wpList Tryd.prog ops Q (o :: rest) a w := by
  obtain ⟨i0, hi, hz0, hz1, hz2⟩ := info_parts info_color
  refine wpList_append_own w hgd s x 58 ho base 137 i0 .nilIface 1 16 Tryd.underlying58 hi hz0 hz1 hz2 rfl (by decide) v n xs hs hown ad m c news hx (by rw [hl, Nat.mul_one]) hr h1 (by unfold maxLen; omega) (by omega) hbase ?_
  intro v' w' ho' hg hnil
  exact h v' w' ho' ((Below.refl _ _).grown hg hbase (fun k hk => (World.ownsRow.lt hown k hk).1))
set_option maxHeartbeats 3200000 in
set_option maxRecDepth 100000 in
theorem paletteOf_big (ap : Option Addr) (m pcap : Nat) (S : List Sh) (w : World) (hS : Hid (InS w ap m pcap S)) (hm : Hid (m ≤ 2147483647)) :
    Calls Tryd.prog 22 #[.slice ap m pcap] w (PofEnd S m w) := by
  have hSl : Hid (S.length = m) := hS.out.hlen
  go_enter Tryd.func22, Tryd.ntmps22
  go_upto_region 3 with fail
  go_loopw [3, 8] (fun v i wr => ∃ t : Nat, t ≤ m ∧ i = .int .i64 (t : Int) ∧ wr.ownsRow w.heap.size 137 1 v t ((S.take t).map ngV) ∧ Below w.heap.size w wr) (fun _ i _ => m - (intOf i).toNat)
  case atStart => exact ⟨0, Nat.zero_le _, rfl, World.ownsRow_nil _ _ _ _, Below.refl _ _⟩
  case round =>
    obtain ⟨t, ht, rfl, hown, hbel⟩ := hrel
    by_cases hlt : t < m
    · have i0 : (0 : Int) ≤ (t : Int) := by omega
      have i1 : (t : Int) < (m : Int) := by omega
      have w3 : IntKind.i64.wrap (t : Int) = (t : Int) := i64_in _ ⟨by omega, by have := hm.out; omega⟩
      have w4 : IntKind.i64.wrap ((t : Int) + 1) = (t : Int) + 1 := i64_in _ ⟨by omega, by have := hm.out; omega⟩
      obtain ⟨sh, hsh⟩ : ∃ s, S[t]? = some s := ⟨_, List.getElem?_eq_getElem (by rw [hSl.out]; exact hlt)⟩
      obtain ⟨pb, po, rfl, hpc⟩ := hS.out.rd (by intro e; rw [e] at hsh; simp at hsh)
      have hpb : pb < w.heap.size := by
        have e : (shAll S)[0]? = some ((shAll S)[0]'(by rw [shAll_len, hSl.out]; omega)) := List.getElem?_eq_getElem _
        exact World.block_lt_of_cell? w _ (hpc 0 _ e)
      have hC : ∀ j u, j < 4 → (shC sh)[j]? = some u → wr.cell? ⟨pb, po + t * 4 + j, none⟩ = some u := fun j u hj hu => by
        refine (World.cell?_of_block (w := w) (hbel.block pb hpb)).trans ?_
        rw [Nat.mul_comm, Nat.add_assoc]
        exact hpc _ _ ((shAll_at _ t _ hsh j hj).trans hu)
      have g0 := hC 0 _ (by omega) rfl
      have g1 := hC 1 _ (by omega) rfl
      have g2 := hC 2 _ (by omega) rfl
      have g3 := hC 3 _ (by omega) rfl
      rw [Nat.add_zero] at g0
      have NX := Lib.hid (ng_next S t sh hsh)
      have HO := Lib.hid hown
      have HBEL := Lib.hid hbel
      have hbw : Below wr.heap.size wr ((wr.alloc (.cells #[.int .u8 (sh.r.toNat : Int), .int .u8 (sh.g.toNat : Int), .int .u8 (sh.b.toNat : Int), .int .u8 (sh.a.toNat : Int)] 64)).alloc (.cells #[ngV sh] 137)) := ((Below.refl _ _).alloc (Nat.le_refl _) _).alloc (by rw [size_alloc]; omega) _
      have HBW := Lib.hid hbw
      clear hC hsh hown hbel hbw hpc hpb
      go_wp2_with (at_builtin; refine wpList_append_colorsL rfl (.tmp 12) (.tmp 23) rfl w.heap.size _ t ((S.take t).map ngV) [ngV sh] rfl (ownsRow_below HO.out HBW.out) _ 1 1 rfl rfl (one_at (wr.alloc _) (ngV sh) _ _ (by simp)) (by intro u hu; rcases List.mem_singleton.1 hu with rfl; rfl) (by have := hm.out; omega) (by rw [size_alloc, size_alloc]; have := HBEL.out.size; omega) ?_; intro v2 w2 ho2 hb2)
      go_round
      case rel => exact ⟨t + 1, by omega, by go_num, by rw [NX.out]; exact ho2, (HBEL.out.trans (HBW.out.mono HBEL.out.size)).trans hb2⟩
      case measure => simp [intOf]; omega
    · obtain rfl : m = t := by omega
      rw [List.take_of_length_le (Nat.le_of_eq hSl.out)] at hown
      have HO := Lib.hid hown
      have HB := Lib.hid hbel
      clear hown hbel
      go_wp2_with fail
      go_ret
      exact ⟨_, rfl, HO.out, HB.out⟩
end Go.Proofs.YtkiibhpmembcgaaDoor
