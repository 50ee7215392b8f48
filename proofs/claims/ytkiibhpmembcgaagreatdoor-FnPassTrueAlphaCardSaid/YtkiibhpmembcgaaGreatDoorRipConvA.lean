/- From bytes to colors: one row of readImagePass. Printed by gen/ripconv.py. -/
import Derived.Test.YtkiibhpmembcgaaGreatDoorRipCode
import Derived.Test.YtkiibhpmembcgaaGreatDoorGMath
import Derived.Test.YtkiibhpmembcgaaGreatDoorSetPix
import Derived.StillTailTactics
import Derived.Deep.QuietTactic
import Derived.BigQuiet
import Derived.Deep.DeepCutAuto
import Derived.Deep.CutBlock
import Derived.LoopTactic
import Derived.Outline
namespace Go.Proofs.YtkiibhpmembcgaaGreatDoor
open Go.ChangeShapes Go.WideShapes Go.ChangeAt Go.RowKit Go.IntWalk

theorem putAt_append : ∀ (A B l : List UInt8) (o : Nat), putAt (putAt l o A) (o + A.length) B = putAt l o (A ++ B)
  | [], _, _, _ => rfl
  | a :: A, B, l, o => by
    rw [putAt, List.cons_append, putAt, List.length_cons, ← putAt_append A B, show o + (A.length + 1) = o + 1 + A.length by omega]
/-- The bytes of the first t pixels of a row. -/
def rowTo (c d : Nat) (clear : List Nat) (row : List UInt8) (t : Nat) : List UInt8 := (List.range t).flatMap (pixA c d clear row)
theorem rowTo_next (c d : Nat) (clear : List Nat) (row : List UInt8) (t : Nat) : rowTo c d clear row (t + 1) = rowTo c d clear row t ++ pixA c d clear row t := by
  unfold rowTo
  rw [List.range_succ, List.flatMap_append]
  simp
theorem rowTo_len {c d : Nat} (h : OkCD c d) (clear : List Nat) (row : List UInt8) (t : Nat) : (rowTo c d clear row t).length = t * nK (kindN c d (!clear.isEmpty)) := by
  unfold rowTo
  rw [flatMap_len _ _ (fun x => pixA_len h row x), List.length_range]
theorem put_next {c d : Nat} (h : OkCD c d) (clear : List Nat) (row l : List UInt8) (o t : Nat) :
    putAt (putAt l o (rowTo c d clear row t)) (o + t * nK (kindN c d (!clear.isEmpty))) (pixA c d clear row t) = putAt l o (rowTo c d clear row (t + 1)) := by
  have := putAt_append (rowTo c d clear row t) (pixA c d clear row t) l o
  rw [rowTo_len h] at this
  rw [this, rowTo_next]
/-- What the walk over a row is told: kind c, d; the clear samples; the row's bytes; the picture g, its bytes in block bx. -/
structure CIn (V : LV) (bc bp y po : Nat) (c d : Nat) (clear : List Nat) (row : List UInt8) (g bx L S : Nat) (p : List UInt8) (pre : Value) (a : Act) (w0 : World) : Prop where
  live : Live V bc bp y po (.slice (some ⟨bc, 1, none⟩) V.n V.n) (.slice (some ⟨bp, 1, none⟩) V.n V.n) a
  seg : Seg w0 bc [pre] [] row
  len : row.length = V.n
  im : ImAt g bx L L S V.W V.H w0
  pix : Seg w0 bx [] [] p
  plen : p.length = L
  nb : bx ≠ bc
  ng : bx ≠ g
  nd : bx ≠ V.b
  dlt : V.b < w0.heap.size
  hy : y < V.H
  hW : V.W ≤ 40
  hW1 : 1 ≤ V.W
  hH : V.H ≤ 40
  hS : S = V.W * nK (kindN c d (!clear.isEmpty))
  hL : L = V.H * S
  hn : V.n = rbN c d V.W
def COut (V : LV) (bc bp y po : Nat) (c d : Nat) (clear : List Nat) (row : List UInt8) (bx S : Nat) (p : List UInt8) (w0 : World) (a' : Act) (w' : World) : Prop :=
  Live V bc bp y po (.slice (some ⟨bc, 1, none⟩) V.n V.n) (.slice (some ⟨bp, 1, none⟩) V.n V.n) a' ∧ Chg (· = bx) w0 w' ∧ Seg w' bx [] [] (putAt p (y * S) (rowTo c d clear row V.W))
theorem or16 (h l : UInt8) : bits .or .u16 ((h.toNat : Int) * 256) (l.toNat : Int) = (h.toNat : Int) * 256 + (l.toNat : Int) := by
  have h1 := h.toNat_lt
  have h2 := l.toNat_lt
  have := u16_or_nat (h.toNat * 256) l.toNat (by omega) (by omega)
  rw [Int.natCast_mul] at this
  rw [show ((256 : Nat) : Int) = 256 by rfl] at this
  rw [this, show h.toNat * 256 = 2 ^ 8 * h.toNat by omega, ← Nat.two_pow_add_eq_or_of_lt (by omega : l.toNat < 2 ^ 8)]
  omega
set_option maxRecDepth 1000000 in
set_option maxHeartbeats 6400000 in
theorem conv_GA8 (V : LV) (bc bp y po g bx L S : Nat) (row p : List UInt8) (pre : Value) (a : Act) (w0 : World) (Q : Exit → Act → World → Prop) (hk : a.tmps.getD 452 undef = .int .i64 5) (hi : V.i15 = .pointer (some ⟨g, 0, none⟩))
    (h : CIn V bc bp y po 4 8 [] row g bx L S p pre a w0)
    (hQ : ∀ a' w', COut V bc bp y po 4 8 [] row bx S p w0 a' w' → Q .normal a' w') : convB.wp Tryz.prog Q a w0 := by
  obtain ⟨hlive, hseg, hlen, him, hpix, hplen, hnb, hng, hnd, hdlt, hy, hW, hW1, hH, hS, hL, hn⟩ := h
  obtain ⟨b, r, i12, i13, i14, i15, i16, i17, i18, img, W, H, st, n⟩ := V
  simp only at hlen hy hW hW1 hH hS hL hn hi him hnd hdlt
  subst hi
  obtain ⟨gg, rfl⟩ := hlive.lit452 hk
  clear hlive hk
  have hok : OkCD 4 8 := by unfold OkCD; omega
  have hn2 : n = 2 * W := by rw [hn]; simp [rbN, chN]; omega
  have hS2 : S = 4 * W := by rw [hS]; simp [kindN, nK]; omega
  have hyS : y * S + S ≤ L := by rw [hL, ← Nat.succ_mul]; exact Nat.mul_le_mul_right _ hy
  have hyS2 : y * S ≤ 40 * 320 := Nat.mul_le_mul (by omega) (by omega)
  have hL2 : L ≤ 40 * 320 := by rw [hL]; exact Nat.mul_le_mul hH (by omega)
  have HSEG := Lib.hid hseg
  have HIM := Lib.hid him
  have HL := Lib.hid hlen
  have HPL := Lib.hid hplen
  have HOK := Lib.hid hok
  have HS2 := Lib.hid hS2
  have HN2 := Lib.hid hn2
  have HYS := Lib.hid hyS
  have HYS2 := Lib.hid hyS2
  have HL2 := Lib.hid hL2
  clear hseg him hlen hplen hok hS2 hn2 hyS hyS2 hL2 hS hL hn
  conv => arg 2; whnf
  go_upto_region 207 with fail
  go_loopw [68] (fun iv wr' => ∃ t : Nat, t ≤ W ∧ iv = .int .i64 (t : Int) ∧ Chg (· = bx) w0 wr' ∧ Seg wr' bx [] [] (putAt p (y * S) (rowTo 4 8 [] row t))) (fun iv _ => W - (intOf iv).toNat)
  case atStart => exact ⟨0, Nat.zero_le _, rfl, Chg.refl _ _, hpix⟩
  case round =>
  obtain ⟨t, ht, rfl, hch, hsg⟩ := hrel
  by_cases hlt : t < W
  · have hn2 := HN2.out
    have hS2 := HS2.out
    have hyS := HYS.out
    have hyS2 := HYS2.out
    have hL2 := HL2.out
    have hrow := HSEG.out.chg hch (fun e => hnb e.symm)
    have him := HIM.out.chg hch (fun e => hng e.symm)
    have hll := HL.out
    have hpl : Hid ((putAt p (y * S) (rowTo 4 8 [] row t)).length = L) := Lib.hid (by rw [putAt_len, HPL.out])
    obtain ⟨o, ho⟩ : ∃ o, o = y * S + 4 * t := ⟨_, rfl⟩
    have HO := Lib.hid ho
    have i0 : (0 : Int) ≤ (t : Int) := by omega
    have i1 : (t : Int) < (W : Int) := by omega
    obtain ⟨q0, hq0⟩ : ∃ q, q = 2 * t + 0 := ⟨_, rfl⟩
    obtain ⟨x0, hx0, hc0⟩ := seg_at (o := 1) hrow rfl q0 (by omega)
    have j0 : (q0 : Int) < (n : Int) := by omega
    have l0 : (0 : Int) ≤ (q0 : Int) := by omega
    have rx0 := u8lt x0
    have vq0 : IntKind.i64.wrap (q0 : Int) = (q0 : Int) := i64_in _ ⟨by omega, by omega⟩
    obtain ⟨q1, hq1⟩ : ∃ q, q = 2 * t + 1 := ⟨_, rfl⟩
    obtain ⟨x1, hx1, hc1⟩ := seg_at (o := 1) hrow rfl q1 (by omega)
    have j1 : (q1 : Int) < (n : Int) := by omega
    have l1 : (0 : Int) ≤ (q1 : Int) := by omega
    have rx1 := u8lt x1
    have vq1 : IntKind.i64.wrap (q1 : Int) = (q1 : Int) := i64_in _ ⟨by omega, by omega⟩
    have mq0 : 2 * (t : Int) = (q0 : Int) := by omega
    have mq1 : (q0 : Int) + 1 = (q1 : Int) := by omega
    have hpx : pixA 4 8 [] row t = [x0, x0, x0, x1] := by
      simp only [pixA]
      simp [hx0, hq0, hx1, hq1]
    have HPX := Lib.hid hpx
    have ho3 : o + 4 ≤ L := by omega
    have ho4 : o = y * S + t * nK (kindN 4 8 (!([] : List Nat).isEmpty)) := by rw [ho]; simp [kindN, nK]; omega
    have HO4 := Lib.hid ho4
    clear ho ho4 hpx hrow hyS hyS2 hS2 hll hn2 hx0 hq0 hx1 hq1
    have HSG := Lib.hid hsg
    have HIMW := Lib.hid him
    have HCH := Lib.hid hch
    have hy2 : y < H := hy
    clear hsg him hch
    go_wp2_with (go_at_call 49; refine (set_NRGBA g bx L L S W H t y o x0 x0 x0 x1 _ wr HIMW.out HSG.out hpl HO hlt hy2 (by omega) (by omega) (by have := HS2.out; omega) ho3 (Nat.le_refl _) (by omega)).mono ?_; rintro e w' ⟨rfl, hch2, hsg2⟩)
    rw [HO4.out, ← HPX.out, put_next HOK.out] at hsg2
    go_roundw
    case rel => exact ⟨t + 1, by omega, by go_num, HCH.out.trans hch2, hsg2⟩
    case measure => simp [intOf]; omega
  · obtain rfl : W = t := by omega
    go_wp2_with fail
    exact ⟨⟨rfl, rfl, rfl, rfl, rfl, rfl, rfl, rfl, rfl, rfl, rfl, rfl, rfl, rfl, rfl, rfl, rfl, rfl, rfl, rfl, rfl⟩, hch, hsg⟩
end Go.Proofs.YtkiibhpmembcgaaGreatDoor
