/- The contracts of paletteOf and of nrgbaOf at the colors that it makes. -/
import Derived.Test.YtiiipmcjbibgoaaDoorImplClear2
import Derived.Test.YtiiipmcjbibgoaaDoorWClear
namespace Go.Proofs.YtiiipmcjbibgoaaDoor
open Go.ChangeShapes Go.WideShapes Go.ChangeAt Go.RowKit Go.IntWalk

/-- A color as paletteOf makes it. -/
def ngV (s : Sh) : Value := .iface 98 (agg4 s)
theorem ng_next (S : List Sh) (t : Nat) (s : Sh) (h : S[t]? = some s) : (S.take (t + 1)).map ngV = (S.take t).map ngV ++ [ngV s] := by
  rw [List.take_add_one, h]
  simp
def PofEnd (S : List Sh) (m : Nat) (w : World) (e : Ending) (w' : World) : Prop :=
  ∃ v, e = .returned v ∧ w'.ownsRow w.heap.size 97 1 v m (S.map ngV) ∧ Below w.heap.size w w'

set_option maxHeartbeats 3200000 in
set_option maxRecDepth 100000 in
theorem paletteOf_any (ap : Option Addr) (m pcap : Nat) (S : List Sh) (w : World) (hS : Hid (InS w ap m pcap S)) (hm : m ≤ 1000) :
    Calls Tryd.prog 35 #[.slice ap m pcap] w (PofEnd S m w) := by
  have hSl : Hid (S.length = m) := hS.out.hlen
  go_enter Tryd.func35, Tryd.ntmps35
  go_upto_region 3 with fail
  go_loopw [3, 8] (fun v i wr => ∃ t : Nat, t ≤ m ∧ i = .int .i64 (t : Int) ∧ wr.ownsRow w.heap.size 97 1 v t ((S.take t).map ngV) ∧ Below w.heap.size w wr) (fun _ i _ => m - (intOf i).toNat)
  case atStart => exact ⟨0, Nat.zero_le _, rfl, World.ownsRow_nil _ _ _ _, Below.refl _ _⟩
  case round =>
    obtain ⟨t, ht, rfl, hown, hbel⟩ := hrel
    by_cases hlt : t < m
    · have i0 : (0 : Int) ≤ (t : Int) := by omega
      have i1 : (t : Int) < (m : Int) := by omega
      have w3 : IntKind.i64.wrap (t : Int) = (t : Int) := i64_in _ ⟨by omega, by omega⟩
      obtain ⟨sh, hsh⟩ : ∃ s, S[t]? = some s := ⟨_, List.getElem?_eq_getElem (by rw [hSl.out]; exact hlt)⟩
      obtain ⟨pb, po, rfl, hpc⟩ := hS.out.rd (by intro e; rw [e] at hsh; simp at hsh)
      have hpb : pb < w.heap.size := by
        have e : (shAll S)[0]? = some ((shAll S)[0]'(by rw [shAll_len, hSl.out]; omega)) := List.getElem?_eq_getElem _
        exact World.block_lt_of_cell? w _ (hpc 0 _ e)
      have hC : ∀ j u, j < 4 → (shC sh)[j]? = some u → wr.cell? ⟨pb, po + t * 4 + j, none⟩ = some u := fun j u hj hu => by
        refine (World.cell?_of_block (w := w) (hbel.block pb hpb)).trans ?_
        rw [Nat.mul_comm, Nat.add_assoc]
        exact hpc _ _ ((shAll_at _ t _ hsh j hj).trans hu)
      have g0 := hC 0 _ (by omega) rfl
      have g1 := hC 1 _ (by omega) rfl
      have g2 := hC 2 _ (by omega) rfl
      have g3 := hC 3 _ (by omega) rfl
      rw [Nat.add_zero] at g0
      have NX := Lib.hid (ng_next S t sh hsh)
      have HO := Lib.hid hown
      have HBEL := Lib.hid hbel
      have hbw : Below wr.heap.size wr ((wr.alloc (.cells #[.int .u8 (sh.r.toNat : Int), .int .u8 (sh.g.toNat : Int), .int .u8 (sh.b.toNat : Int), .int .u8 (sh.a.toNat : Int)] 29)).alloc (.cells #[ngV sh] 97)) := ((Below.refl _ _).alloc (Nat.le_refl _) _).alloc (by rw [size_alloc]; omega) _
      have HBW := Lib.hid hbw
      clear hC hsh hown hbel hbw hpc hpb
      go_wp2_with (at_builtin; refine wpList_append_colors rfl (.tmp 12) (.tmp 23) rfl w.heap.size _ t ((S.take t).map ngV) [ngV sh] rfl (ownsRow_below HO.out HBW.out) _ 1 1 rfl rfl (one_at (wr.alloc _) (ngV sh) _ _ (by simp)) (by intro u hu; rcases List.mem_singleton.1 hu with rfl; rfl) (by omega) (by rw [size_alloc, size_alloc]; have := HBEL.out.size; omega) ?_; intro v2 w2 ho2 hb2)
      go_round
      case rel => exact ⟨t + 1, by omega, by go_num, by rw [NX.out]; exact ho2, (HBEL.out.trans (HBW.out.mono HBEL.out.size)).trans hb2⟩
      case measure => simp [intOf]; omega
    · obtain rfl : m = t := by omega
      rw [List.take_of_length_le (Nat.le_of_eq hSl.out)] at hown
      have HO := Lib.hid hown
      have HB := Lib.hid hbel
      clear hown hbel
      go_wp2_with fail
      go_ret
      exact ⟨_, rfl, HO.out, HB.out⟩
theorem assert_ng (x : Array Value) (w : World) : (Instr.typeAssert (.iface 98 (.agg x)) 97 98 true).run Tryd.prog w = .ok (.tuple #[.agg x, .bool true]) w := by kernel_rfl
theorem nrgbaOf_any (a b c d : Int) (w : World) :
    Calls Tryd.prog 53 #[.iface 98 (.agg #[.int .u8 a, .int .u8 b, .int .u8 c, .int .u8 d])] w fun e w' => e = .returned (.agg #[.int .u8 a, .int .u8 b, .int .u8 c, .int .u8 d]) ∧ Below w.heap.size w w' := by
  have a1 := assert_ng
  go_enter Tryd.func53, Tryd.ntmps53
  go_wp2_with fail
  exact bodyPost_ret (v := .agg #[.int .u8 a, .int .u8 b, .int .u8 c, .int .u8 d]) (by simp [results, Tryd.results53, go_sem]) rfl ⟨rfl, ((Below.refl _ _).alloc (Nat.le_refl _) _).alloc (by rw [size_alloc]; omega) _⟩
end Go.Proofs.YtiiipmcjbibgoaaDoor
