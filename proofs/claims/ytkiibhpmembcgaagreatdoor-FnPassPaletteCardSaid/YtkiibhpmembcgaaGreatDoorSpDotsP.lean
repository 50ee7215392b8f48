/- The contract of the laws' dots: a palette's colors, of 16 bits each. Printed by gen/spdots.py. -/
import Derived.Test.YtkiibhpmembcgaaGreatDoorSpSam
import Derived.Deep.DeepCutAuto
import Derived.Deep.CutBlock
import Derived.LoopTactic
import Derived.Outline
namespace Go.Proofs.YtkiibhpmembcgaaGreatDoor
open Go.ChangeShapes Go.WideShapes Go.ChangeAt Go.RowKit Go.IntWalk

/-- A color of 16 bits each. -/
def dtS (s : Sh) : Dt := ⟨257 * s.r.toNat, 257 * s.g.toNat, 257 * s.b.toNat, 257 * s.a.toNat⟩
def DsEnd (S : List Sh) (w : World) (e : Ending) (w' : World) : Prop := ∃ v, e = .returned v ∧ OwnD w' w.heap.size v (S.map dtS) ∧ Below w.heap.size w w'
theorem dtS_next (S : List Sh) (t : Nat) (s : Sh) (h : S[t]? = some s) : (S.take (t + 1)).map dtS = (S.take t).map dtS ++ [dtS s] := by
  rw [List.take_add_one, h]
  simp
set_option maxHeartbeats 3200000 in
set_option maxRecDepth 100000 in
theorem dots_any (ap : Option Addr) (m pcap : Nat) (S : List Sh) (w : World) (hS : Hid (InS w ap m pcap S)) (hm : m ≤ 1000) :
    Calls Tryz.prog 13 #[.slice ap m pcap] w (DsEnd S w) := by
  have hSl : Hid (S.length = m) := hS.out.hlen
  go_enter Tryz.func13, Tryz.ntmps13
  go_upto_region 3 with fail
  go_loopw [3, 9] (fun v i wr => ∃ t : Nat, t ≤ m ∧ i = .int .i64 (t : Int) ∧ OwnD wr w.heap.size v ((S.take t).map dtS) ∧ Below w.heap.size w wr) (fun _ i _ => m - (intOf i).toNat)
  case atStart => exact ⟨0, Nat.zero_le _, rfl, OwnD.empty w w.heap.size (Nat.le_refl _), (Below.refl _ _).alloc (Nat.le_refl _) _⟩
  case round =>
    obtain ⟨t, ht, rfl, hown, hbel⟩ := hrel
    by_cases hlt : t < m
    · have i0 : (0 : Int) ≤ (t : Int) := by omega
      have i1 : (t : Int) < (m : Int) := by omega
      obtain ⟨sh, hsh⟩ : ∃ s, S[t]? = some s := ⟨_, List.getElem?_eq_getElem (by rw [hSl.out]; exact hlt)⟩
      obtain ⟨pb, po, rfl, hpc⟩ := hS.out.rd (by intro e; rw [e] at hsh; simp at hsh)
      have hpb : pb < w.heap.size := by
        have e : (shAll S)[0]? = some ((shAll S)[0]'(by rw [shAll_len, hSl.out]; omega)) := List.getElem?_eq_getElem _
        exact World.block_lt_of_cell? w _ (hpc 0 _ e)
      have hC : ∀ j u, j < 4 → (shC sh)[j]? = some u → wr.cell? ⟨pb, po + t * 4 + j, none⟩ = some u := fun j u hj hu => by
        refine (World.cell?_of_block (w := w) (hbel.block pb hpb)).trans ?_
        rw [Nat.mul_comm, Nat.add_assoc]
        exact hpc _ _ ((shAll_at _ t _ hsh j hj).trans hu)
      have g0 := hC 0 _ (by omega) rfl
      have g1 := hC 1 _ (by omega) rfl
      have g2 := hC 2 _ (by omega) rfl
      have g3 := hC 3 _ (by omega) rfl
      rw [Nat.add_zero] at g0
      have rx0 := u8lt sh.r
      obtain ⟨d0, hd0⟩ : ∃ q, q = 257 * sh.r.toNat := ⟨_, rfl⟩
      have k0 : 257 * (sh.r.toNat : Int) = (d0 : Int) := by omega
      have e0 : IntKind.i64.wrap (sh.r.toNat : Int) = (sh.r.toNat : Int) := i64_in _ ⟨by omega, by omega⟩
      have v0 : IntKind.i64.wrap (d0 : Int) = (d0 : Int) := i64_in _ ⟨by omega, by omega⟩
      have rx1 := u8lt sh.g
      obtain ⟨d1, hd1⟩ : ∃ q, q = 257 * sh.g.toNat := ⟨_, rfl⟩
      have k1 : 257 * (sh.g.toNat : Int) = (d1 : Int) := by omega
      have e1 : IntKind.i64.wrap (sh.g.toNat : Int) = (sh.g.toNat : Int) := i64_in _ ⟨by omega, by omega⟩
      have v1 : IntKind.i64.wrap (d1 : Int) = (d1 : Int) := i64_in _ ⟨by omega, by omega⟩
      have rx2 := u8lt sh.b
      obtain ⟨d2, hd2⟩ : ∃ q, q = 257 * sh.b.toNat := ⟨_, rfl⟩
      have k2 : 257 * (sh.b.toNat : Int) = (d2 : Int) := by omega
      have e2 : IntKind.i64.wrap (sh.b.toNat : Int) = (sh.b.toNat : Int) := i64_in _ ⟨by omega, by omega⟩
      have v2 : IntKind.i64.wrap (d2 : Int) = (d2 : Int) := i64_in _ ⟨by omega, by omega⟩
      have rx3 := u8lt sh.a
      obtain ⟨d3, hd3⟩ : ∃ q, q = 257 * sh.a.toNat := ⟨_, rfl⟩
      have k3 : 257 * (sh.a.toNat : Int) = (d3 : Int) := by omega
      have e3 : IntKind.i64.wrap (sh.a.toNat : Int) = (sh.a.toNat : Int) := i64_in _ ⟨by omega, by omega⟩
      have v3 : IntKind.i64.wrap (d3 : Int) = (d3 : Int) := i64_in _ ⟨by omega, by omega⟩
      have NX : Hid ((S.take (t + 1)).map dtS = (S.take t).map dtS ++ [⟨d0, d1, d2, d3⟩]) := Lib.hid (by rw [dtS_next S t sh hsh, dtS, hd0, hd1, hd2, hd3])
      obtain ⟨DD, hDD⟩ : ∃ q, q = (S.take t).map dtS := ⟨_, rfl⟩
      rw [← hDD] at hown NX
      have hdl : DD.length ≤ 1000000 := by rw [hDD, List.length_map, List.length_take]; omega
      have hbw : Below w.heap.size w ((wr.alloc (.cells #[.int .u8 (sh.r.toNat : Int), .int .u8 (sh.g.toNat : Int), .int .u8 (sh.b.toNat : Int), .int .u8 (sh.a.toNat : Int)] 63)).alloc (.cells #[.int .i64 (d0 : Int), .int .i64 (d1 : Int), .int .i64 (d2 : Int), .int .i64 (d3 : Int)] 61)) := (hbel.alloc hbel.size _).alloc (by rw [size_alloc]; exact Nat.le_succ_of_le hbel.size) _
      have hsz : w.heap.size ≤ wr.heap.size := hbel.size
      have HO := Lib.hid hown
      have HBW := Lib.hid hbw
      clear hC hsh hown hbel hbw hpc hpb hd0 hd1 hd2 hd3 hDD
      go_wp2_with (at_builtin; refine wpList_append_dot rfl (.tmp 13) (.tmp 31) rfl w.heap.size _ DD ⟨d0, d1, d2, d3⟩ rfl ((HO.out.alloc _).alloc _) _ 1 rfl (dot_at (wr.alloc _) ⟨d0, d1, d2, d3⟩ _ _ (by simp)) hdl HBW.out.size ?_; intro v2 w2 ho2 hb2 hg2; clear hg2)
      rw [← NX.out] at ho2
      have HO2 := Lib.hid ho2
      have HB2 := Lib.hid (HBW.out.trans hb2)
      clear ho2 hb2
      go_roundw
      case rel => exact ⟨t + 1, by omega, by go_num, HO2.out, HB2.out⟩
      case measure => simp [intOf]; omega
    · obtain rfl : m = t := by omega
      rw [List.take_of_length_le (Nat.le_of_eq hSl.out)] at hown
      have HO := Lib.hid hown
      have HB := Lib.hid hbel
      clear hown hbel
      go_wp2_with fail
      go_ret
      exact ⟨_, rfl, HO.out, HB.out⟩
end Go.Proofs.YtkiibhpmembcgaaGreatDoor
