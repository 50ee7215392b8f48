/- What the laws of the first chunk need: the bytes of a head, a name ahead of some bytes, the kinds of the reference. -/
import Derived.Test.YtiiipmcjbibgoaaDoorImplHead
import Derived.Test.YtiiipmcjbibgoaaDoorFour
import Derived.ArgAppend
namespace Go.Proofs.YtiiipmcjbibgoaaDoor
open Go.ChangeShapes Go.WideShapes Go.ChangeAt Go.RowKit Go.IntWalk

/-- 'append([]byte(".."), x...)' of a name of four bytes and some more. -/
theorem wpList_append_named {w : World} {ops : Array Oper} {rest : List Oper} {o : Oper} {a : Act} {Q : Exit → Act → World → Prop} (hgd : o.guard = none) (s x : Operand)
    (ho : o.op = .call { callee := .builtin .append, args := #[s, x], argTypes := #[22, 22] }) (g : Nat) (name l : List UInt8) (hs : a.eval s = .slice (some ⟨g, 0, none⟩) 4 4)
    (hname : name.length = 4) (hrn : RB w (some ⟨g, 0, none⟩) name) (ad : Option Addr) (m c : Nat) (hx : a.eval x = .slice ad m c) (hm : l.length = m) (hr : RB w ad l) (hpos : 0 < m) (hb : m ≤ 1000000)
    (h : ∀ v' w', OwnB w' w.heap.size v' (name ++ l) → Below w.heap.size w w' → wpList Tryd.prog ops Q rest (a.put o.dst v') w') : wpList Tryd.prog ops Q (o :: rest) a w := by
  obtain ⟨i0, hi, hz0, hz1, hz2⟩ := info_parts info_byte
  obtain ⟨b, off, rfl, -⟩ := hr (by intro e; rw [e] at hm; simp at hm; omega)
  refine wpList_append_grows w hgd s x 22 ho 5 i0 (.int .u8 0) 1 1 Tryd.underlying22 hi hz0 hz1 hz2 rfl (by decide) (some ⟨g, 0, none⟩) 4 4 (cellsB name) hs (by intro h; cases h) (by rw [cellsB_length, hname]) (fun b e => by cases e; exact src_of hrn) ⟨b, off, none⟩ m c (cellsB l) hx (by rw [cellsB_length, hm, Nat.mul_one]) (src_of hr) (cellsB_one _) (by omega) (by unfold maxLen; omega) (by omega) ?_
  intro v' w' ho' hg
  refine h v' w' ?_ ((Below.refl _ _).grown hg (Nat.le_refl _) (fun k hk => by cases hk))
  unfold OwnB
  rw [List.length_append, List.map_append, hname, hm]
  exact ho'

/-- The data of a first chunk. -/
def headBytes (wide high : Nat) (d c p f il : UInt8) : List UInt8 := (four wide ++ four high) ++ [d, c, p, f, il]
set_option maxHeartbeats 800000 in
theorem headOf_any (wide high : Nat) (hw : wide < 4294967296) (hh : high < 4294967296) (d c p f il : UInt8) (w : World) :
    Calls Tryd.prog 17 #[.int .u32 (wide : Int), .int .u32 (high : Int), .int .u8 (d.toNat : Int), .int .u8 (c.toNat : Int), .int .u8 (p.toNat : Int), .int .u8 (f.toNat : Int), .int .u8 (il.toNat : Int)] w fun e w' =>
      ∃ v, e = .returned v ∧ OwnB w' w.heap.size v (headBytes wide high d c p f il) ∧ Below w.heap.size w w' := by
  go_enter Tryd.func17, Tryd.ntmps17
  go_wp2_with fail
  refine (four_any wide hw w).mono ?_
  rintro e w1 ⟨rfl, ho1, hb1⟩
  go_wp2_with fail
  refine (four_any high hh w1).mono ?_
  rintro e w2 ⟨rfl, ho2, hb2⟩
  obtain ⟨a2, n2, c2, e2, hm2, hr2, -, -, hnil2, -⟩ := ho2.shapeN
  obtain ⟨rfl, rfl, rfl⟩ : a2 = some ⟨w1.heap.size, 0, none⟩ ∧ n2 = 4 ∧ c2 = 4 := by injection e2 with h1 h2 h3; exact ⟨h1.symm, h2.symm, h3.symm⟩
  have B2 : Below w.heap.size w w2 := hb1.trans (hb2.mono hb1.size)
  have ho1' := ho1.below hb2
  go_wp2_with (at_builtin; first
    | (refine wpList_append_bytes rfl (.tmp 16) (.tmp 18) rfl w.heap.size _ (four wide) (four high) rfl ho1' (some ⟨w1.heap.size, 0, none⟩) 4 4 rfl rfl hr2 (by intro h; cases h) (by simp [four_len]) B2.size ?_; intro v3 w3 ho3 hg3 hb3 hnl3; clear hg3 hnl3)
    | (refine wpList_append_bytes rfl (.tmp 19) (.tmp 25) rfl w.heap.size _ (four wide ++ four high) [d, c, p, f, il] rfl (ho3.alloc _) (some ⟨w3.heap.size, 0, none⟩) 5 5 rfl rfl (RB.lit w3 [d, c, p, f, il] 5) (by intro h; cases h) (by simp [four_len]) (by rw [size_alloc]; have := hb3.size; have := B2.size; omega) ?_; intro v4 w4 ho4 hg4 hb4 hnl4; clear hg4 hnl4))
  go_ret
  have B3 : Below w.heap.size w w3 := B2.trans hb3
  exact ⟨_, rfl, ho4, (B3.alloc B3.size _).trans hb4⟩

/-- Whether a colour type may have so many bits a sample. -/
def isKindB (c d : Nat) : Bool := decide (cbOf d c ≠ 0)
set_option maxHeartbeats 3200000 in
theorem isKind_any (c d : Nat) (w : World) : Calls Tryd.prog 20 #[.int .i64 (c : Int), .int .i64 (d : Int)] w fun e w' => e = .returned (.bool (isKindB c d)) ∧ w = w' := by
  by_cases z0 : c = 0
  · obtain rfl := z0
    by_cases x1 : d = 1
    · obtain rfl := x1
      go_enter Tryd.func20, Tryd.ntmps20
      go_wp2_with fail
      go_ret
      exact ⟨rfl, rfl⟩
    by_cases x2 : d = 2
    · obtain rfl := x2
      go_enter Tryd.func20, Tryd.ntmps20
      go_wp2_with fail
      go_ret
      exact ⟨rfl, rfl⟩
    by_cases x4 : d = 4
    · obtain rfl := x4
      go_enter Tryd.func20, Tryd.ntmps20
      go_wp2_with fail
      go_ret
      exact ⟨rfl, rfl⟩
    by_cases x8 : d = 8
    · obtain rfl := x8
      go_enter Tryd.func20, Tryd.ntmps20
      go_wp2_with fail
      go_ret
      exact ⟨rfl, rfl⟩
    by_cases x16 : d = 16
    · obtain rfl := x16
      go_enter Tryd.func20, Tryd.ntmps20
      go_wp2_with fail
      go_ret
      exact ⟨rfl, rfl⟩
    have v1 : ((d : Int) == 1) = false := by simp; omega
    have v2 : ((d : Int) == 2) = false := by simp; omega
    have v4 : ((d : Int) == 4) = false := by simp; omega
    have v8 : ((d : Int) == 8) = false := by simp; omega
    have v16 : ((d : Int) == 16) = false := by simp; omega
    go_enter Tryd.func20, Tryd.ntmps20
    go_wp2_with fail
    go_ret
    exact ⟨by simp [isKindB, cbOf, x1, x2, x4, x8, x16], rfl⟩
  by_cases z3 : c = 3
  · obtain rfl := z3
    by_cases x1 : d = 1
    · obtain rfl := x1
      go_enter Tryd.func20, Tryd.ntmps20
      go_wp2_with fail
      go_ret
      exact ⟨rfl, rfl⟩
    by_cases x2 : d = 2
    · obtain rfl := x2
      go_enter Tryd.func20, Tryd.ntmps20
      go_wp2_with fail
      go_ret
      exact ⟨rfl, rfl⟩
    by_cases x4 : d = 4
    · obtain rfl := x4
      go_enter Tryd.func20, Tryd.ntmps20
      go_wp2_with fail
      go_ret
      exact ⟨rfl, rfl⟩
    by_cases x8 : d = 8
    · obtain rfl := x8
      go_enter Tryd.func20, Tryd.ntmps20
      go_wp2_with fail
      go_ret
      exact ⟨rfl, rfl⟩
    have v1 : ((d : Int) == 1) = false := by simp; omega
    have v2 : ((d : Int) == 2) = false := by simp; omega
    have v4 : ((d : Int) == 4) = false := by simp; omega
    have v8 : ((d : Int) == 8) = false := by simp; omega
    go_enter Tryd.func20, Tryd.ntmps20
    go_wp2_with fail
    go_ret
    exact ⟨by simp [isKindB, cbOf, x1, x2, x4, x8], rfl⟩
  by_cases z2 : c = 2
  · obtain rfl := z2
    by_cases x8 : d = 8
    · obtain rfl := x8
      go_enter Tryd.func20, Tryd.ntmps20
      go_wp2_with fail
      go_ret
      exact ⟨rfl, rfl⟩
    by_cases x16 : d = 16
    · obtain rfl := x16
      go_enter Tryd.func20, Tryd.ntmps20
      go_wp2_with fail
      go_ret
      exact ⟨rfl, rfl⟩
    have v8 : ((d : Int) == 8) = false := by simp; omega
    have v16 : ((d : Int) == 16) = false := by simp; omega
    go_enter Tryd.func20, Tryd.ntmps20
    go_wp2_with fail
    go_ret
    exact ⟨by simp [isKindB, cbOf, x8, x16], rfl⟩
  by_cases z4 : c = 4
  · obtain rfl := z4
    by_cases x8 : d = 8
    · obtain rfl := x8
      go_enter Tryd.func20, Tryd.ntmps20
      go_wp2_with fail
      go_ret
      exact ⟨rfl, rfl⟩
    by_cases x16 : d = 16
    · obtain rfl := x16
      go_enter Tryd.func20, Tryd.ntmps20
      go_wp2_with fail
      go_ret
      exact ⟨rfl, rfl⟩
    have v8 : ((d : Int) == 8) = false := by simp; omega
    have v16 : ((d : Int) == 16) = false := by simp; omega
    go_enter Tryd.func20, Tryd.ntmps20
    go_wp2_with fail
    go_ret
    exact ⟨by simp [isKindB, cbOf, x8, x16], rfl⟩
  by_cases z6 : c = 6
  · obtain rfl := z6
    by_cases x8 : d = 8
    · obtain rfl := x8
      go_enter Tryd.func20, Tryd.ntmps20
      go_wp2_with fail
      go_ret
      exact ⟨rfl, rfl⟩
    by_cases x16 : d = 16
    · obtain rfl := x16
      go_enter Tryd.func20, Tryd.ntmps20
      go_wp2_with fail
      go_ret
      exact ⟨rfl, rfl⟩
    have v8 : ((d : Int) == 8) = false := by simp; omega
    have v16 : ((d : Int) == 16) = false := by simp; omega
    go_enter Tryd.func20, Tryd.ntmps20
    go_wp2_with fail
    go_ret
    exact ⟨by simp [isKindB, cbOf, x8, x16], rfl⟩
  have v0 : ((c : Int) == 0) = false := by simp; omega
  have v3 : ((c : Int) == 3) = false := by simp; omega
  have v2 : ((c : Int) == 2) = false := by simp; omega
  have v4 : ((c : Int) == 4) = false := by simp; omega
  have v6 : ((c : Int) == 6) = false := by simp; omega
  go_enter Tryd.func20, Tryd.ntmps20
  go_wp2_with fail
  go_ret
  exact ⟨by simp [isKindB, cbOf, z0, z2, z3, z4, z6], rfl⟩
end Go.Proofs.YtiiipmcjbibgoaaDoor
