/- From bytes to colors: one row of readImagePass. Printed by gen/ripconv.py. Bytes put into a row; a row as its pixels, where they are the same bytes. No program in sight. From bytes to colors: one row of readImagePass. Printed by gen/ripconv.py. The bytes of one pixel by the row's bytes: kinds of 16 bits, true colour, clear samples. No function of the program in sight. Samples of one, two and four bits: how a byte gives them up, one by one. No function of the program in sight. -/
import Derived.Test.YtkiibhpmembcgaaDoorRipCode
import Derived.Test.YtkiibhpmembcgaaDoorGMath
import Derived.Test.YtkiibhpmembcgaaDoorSetPix
import Derived.StillTailTactics
import Derived.Deep.QuietTactic
import Derived.BigQuiet
import Derived.Deep.DeepCutAuto
import Derived.Deep.CutBlock
import Derived.LoopTactic
import Derived.Outline
namespace Go.Proofs.YtkiibhpmembcgaaDoor
open Go.ChangeShapes Go.WideShapes Go.ChangeAt Go.RowKit Go.IntWalk

theorem putAt_append : ∀ (A B l : List UInt8) (o : Nat), putAt (putAt l o A) (o + A.length) B = putAt l o (A ++ B)
  | [], _, _, _ => rfl
  | a :: A, B, l, o => by
    rw [putAt, List.cons_append, putAt, List.length_cons, ← putAt_append A B, show o + (A.length + 1) = o + 1 + A.length by omega]
/-- The bytes of the first t pixels of a row. -/
def rowTo (c d : Nat) (clear : List Nat) (row : List UInt8) (t : Nat) : List UInt8 := (List.range t).flatMap (pixA c d clear row)
theorem rowTo_next (c d : Nat) (clear : List Nat) (row : List UInt8) (t : Nat) : rowTo c d clear row (t + 1) = rowTo c d clear row t ++ pixA c d clear row t := by
  unfold rowTo
  rw [List.range_succ, List.flatMap_append]
  simp
theorem rowTo_len {c d : Nat} (h : OkCD c d) (clear : List Nat) (row : List UInt8) (t : Nat) : (rowTo c d clear row t).length = t * nK (kindN c d (!clear.isEmpty)) := by
  unfold rowTo
  rw [flatMap_len _ _ (fun x => pixA_len h row x), List.length_range]
theorem put_next {c d : Nat} (h : OkCD c d) (clear : List Nat) (row l : List UInt8) (o t : Nat) :
    putAt (putAt l o (rowTo c d clear row t)) (o + t * nK (kindN c d (!clear.isEmpty))) (pixA c d clear row t) = putAt l o (rowTo c d clear row (t + 1)) := by
  have := putAt_append (rowTo c d clear row t) (pixA c d clear row t) l o
  rw [rowTo_len h] at this
  rw [this, rowTo_next]
/-- What the walk over a row is told: kind c, d; the clear samples; the row's bytes; the picture g, its bytes in block bx. -/
structure CIn (V : LV) (bc bp y po : Nat) (c d : Nat) (clear : List Nat) (row : List UInt8) (g bx L S : Nat) (p : List UInt8) (pre : Value) (a : Act) (w0 : World) : Prop where
  live : Live V bc bp y po (.slice (some ⟨bc, 1, none⟩) V.n V.n) (.slice (some ⟨bp, 1, none⟩) V.n V.n) a
  seg : Seg w0 bc [pre] [] row
  len : row.length = V.n
  im : ImAt g bx L L S V.W V.H w0
  pix : Seg w0 bx [] [] p
  plen : p.length = L
  nb : bx ≠ bc
  ng : bx ≠ g
  nd : bx ≠ V.b
  dlt : V.b < w0.heap.size
  hy : y < V.H
  hW : V.W ≤ 40
  hW1 : 1 ≤ V.W
  hH : V.H ≤ 40
  hS : S = V.W * nK (kindN c d (!clear.isEmpty))
  hL : L = V.H * S
  hn : V.n = rbN c d V.W
def COut (V : LV) (bc bp y po : Nat) (c d : Nat) (clear : List Nat) (row : List UInt8) (bx S : Nat) (p : List UInt8) (w0 : World) (a' : Act) (w' : World) : Prop :=
  Live V bc bp y po (.slice (some ⟨bc, 1, none⟩) V.n V.n) (.slice (some ⟨bp, 1, none⟩) V.n V.n) a' ∧ Chg (· = bx) w0 w' ∧ Seg w' bx [] [] (putAt p (y * S) (rowTo c d clear row V.W))
theorem or16 (h l : UInt8) : bits .or .u16 ((h.toNat : Int) * 256) (l.toNat : Int) = (h.toNat : Int) * 256 + (l.toNat : Int) := by
  have h1 := h.toNat_lt
  have h2 := l.toNat_lt
  have := u16_or_nat (h.toNat * 256) l.toNat (by omega) (by omega)
  rw [Int.natCast_mul] at this
  rw [show ((256 : Nat) : Int) = 256 by rfl] at this
  rw [this, show h.toNat * 256 = 2 ^ 8 * h.toNat by omega, ← Nat.two_pow_add_eq_or_of_lt (by omega : l.toNat < 2 ^ 8)]
  omega
set_option maxRecDepth 1000000 in
set_option maxHeartbeats 6400000 in
theorem conv_GA8 (V : LV) (bc bp y po g bx L S : Nat) (row p : List UInt8) (pre : Value) (a : Act) (w0 : World) (Q : Exit → Act → World → Prop) (hk : a.tmps.getD 452 undef = .int .i64 5) (hi : V.i15 = .pointer (some ⟨g, 0, none⟩))
    (h : CIn V bc bp y po 4 8 [] row g bx L S p pre a w0)
    (hQ : ∀ a' w', COut V bc bp y po 4 8 [] row bx S p w0 a' w' → Q .normal a' w') : convB.wp Tryd.prog Q a w0 := by
  obtain ⟨hlive, hseg, hlen, him, hpix, hplen, hnb, hng, hnd, hdlt, hy, hW, hW1, hH, hS, hL, hn⟩ := h
  obtain ⟨b, r, i12, i13, i14, i15, i16, i17, i18, img, W, H, st, n⟩ := V
  simp only at hlen hy hW hW1 hH hS hL hn hi him hnd hdlt
  subst hi
  obtain ⟨gg, rfl⟩ := hlive.lit452 hk
  clear hlive hk
  have hok : OkCD 4 8 := by unfold OkCD; omega
  have hn2 : n = 2 * W := by rw [hn]; simp [rbN, chN]; omega
  have hS2 : S = 4 * W := by rw [hS]; simp [kindN, nK]; omega
  have hyS : y * S + S ≤ L := by rw [hL, ← Nat.succ_mul]; exact Nat.mul_le_mul_right _ hy
  have hyS2 : y * S ≤ 40 * 320 := Nat.mul_le_mul (by omega) (by omega)
  have hL2 : L ≤ 40 * 320 := by rw [hL]; exact Nat.mul_le_mul hH (by omega)
  have HSEG := Lib.hid hseg
  have HIM := Lib.hid him
  have HL := Lib.hid hlen
  have HPL := Lib.hid hplen
  have HOK := Lib.hid hok
  have HS2 := Lib.hid hS2
  have HN2 := Lib.hid hn2
  have HYS := Lib.hid hyS
  have HYS2 := Lib.hid hyS2
  have HL2 := Lib.hid hL2
  clear hseg him hlen hplen hok hS2 hn2 hyS hyS2 hL2 hS hL hn
  conv => arg 2; whnf
  go_upto_region 207 with fail
  go_loopw [68] (fun iv wr' => ∃ t : Nat, t ≤ W ∧ iv = .int .i64 (t : Int) ∧ Chg (· = bx) w0 wr' ∧ Seg wr' bx [] [] (putAt p (y * S) (rowTo 4 8 [] row t))) (fun iv _ => W - (intOf iv).toNat)
  case atStart => exact ⟨0, Nat.zero_le _, rfl, Chg.refl _ _, hpix⟩
  case round =>
  obtain ⟨t, ht, rfl, hch, hsg⟩ := hrel
  by_cases hlt : t < W
  · have hn2 := HN2.out
    have hS2 := HS2.out
    have hyS := HYS.out
    have hyS2 := HYS2.out
    have hL2 := HL2.out
    have hrow := HSEG.out.chg hch (fun e => hnb e.symm)
    have him := HIM.out.chg hch (fun e => hng e.symm)
    have hll := HL.out
    have hpl : Hid ((putAt p (y * S) (rowTo 4 8 [] row t)).length = L) := Lib.hid (by rw [putAt_len, HPL.out])
    obtain ⟨o, ho⟩ : ∃ o, o = y * S + 4 * t := ⟨_, rfl⟩
    have HO := Lib.hid ho
    have i0 : (0 : Int) ≤ (t : Int) := by omega
    have i1 : (t : Int) < (W : Int) := by omega
    obtain ⟨q0, hq0⟩ : ∃ q, q = 2 * t + 0 := ⟨_, rfl⟩
    obtain ⟨x0, hx0, hc0⟩ := seg_at (o := 1) hrow rfl q0 (by omega)
    have j0 : (q0 : Int) < (n : Int) := by omega
    have l0 : (0 : Int) ≤ (q0 : Int) := by omega
    have rx0 := u8lt x0
    have vq0 : IntKind.i64.wrap (q0 : Int) = (q0 : Int) := i64_in _ ⟨by omega, by omega⟩
    obtain ⟨q1, hq1⟩ : ∃ q, q = 2 * t + 1 := ⟨_, rfl⟩
    obtain ⟨x1, hx1, hc1⟩ := seg_at (o := 1) hrow rfl q1 (by omega)
    have j1 : (q1 : Int) < (n : Int) := by omega
    have l1 : (0 : Int) ≤ (q1 : Int) := by omega
    have rx1 := u8lt x1
    have vq1 : IntKind.i64.wrap (q1 : Int) = (q1 : Int) := i64_in _ ⟨by omega, by omega⟩
    have mq0 : 2 * (t : Int) = (q0 : Int) := by omega
    have mq1 : (q0 : Int) + 1 = (q1 : Int) := by omega
    have hpx : pixA 4 8 [] row t = [x0, x0, x0, x1] := by
      simp only [pixA]
      simp [hx0, hq0, hx1, hq1]
    have HPX := Lib.hid hpx
    have ho3 : o + 4 ≤ L := by omega
    have ho4 : o = y * S + t * nK (kindN 4 8 (!([] : List Nat).isEmpty)) := by rw [ho]; simp [kindN, nK]; omega
    have HO4 := Lib.hid ho4
    clear ho ho4 hpx hrow hyS hyS2 hS2 hll hn2 hx0 hq0 hx1 hq1
    have HSG := Lib.hid hsg
    have HIMW := Lib.hid him
    have HCH := Lib.hid hch
    have hy2 : y < H := hy
    clear hsg him hch
    go_wp2_with (go_at_call 41; refine (set_NRGBA g bx L L S W H t y o x0 x0 x0 x1 _ wr HIMW.out HSG.out hpl HO hlt hy2 (by omega) (by omega) (by have := HS2.out; omega) ho3 (Nat.le_refl _) (by omega)).mono ?_; rintro e w' ⟨rfl, hch2, hsg2⟩)
    rw [HO4.out, ← HPX.out, put_next HOK.out] at hsg2
    go_roundw
    case rel => exact ⟨t + 1, by omega, by go_num, HCH.out.trans hch2, hsg2⟩
    case measure => simp [intOf]; omega
  · obtain rfl : W = t := by omega
    go_wp2_with fail
    exact ⟨⟨rfl, rfl, rfl, rfl, rfl, rfl, rfl, rfl, rfl, rfl, rfl, rfl, rfl, rfl, rfl, rfl, rfl, rfl, rfl, rfl, rfl⟩, hch, hsg⟩
end Go.Proofs.YtkiibhpmembcgaaDoor
namespace Go.Proofs.YtkiibhpmembcgaaDoor

theorem putAt_splice : ∀ (B l : List UInt8) (o : Nat), o + B.length ≤ l.length → putAt l o B = l.take o ++ B ++ l.drop (o + B.length)
  | [], l, o, _ => by simp [putAt]
  | b :: B, l, o, h => by
    simp only [List.length_cons] at h
    rw [putAt, putAt_splice B _ _ (by simp; omega)]
    have e1 : (l.set o b).take (o + 1) = l.take o ++ [b] := by
      rw [List.take_add_one, List.take_set_of_le (Nat.le_refl _)]
      simp [show o < l.length by omega]
    have e2 : (l.set o b).drop (o + 1 + B.length) = l.drop (o + (B.length + 1)) := by
      rw [List.drop_set_of_lt (by omega), show o + 1 + B.length = o + (B.length + 1) by omega]
    rw [e1, e2]
    simp
/-- Four bytes a pixel, as they are. -/
theorem rowTo_quads (row : List UInt8) : ∀ t, 4 * t ≤ row.length → rowTo 6 8 [] row t = row.take (4 * t)
  | 0, _ => by simp [rowTo]
  | t + 1, h => by
    have hk : ∀ i, i < row.length → row.take (i + 1) = row.take i ++ [row.getD i 0] := by
      intro i hi
      rw [List.take_add_one]
      simp [List.getD, hi]
    rw [rowTo_next, rowTo_quads row t (by omega), show 4 * (t + 1) = 4 * t + 1 + 1 + 1 + 1 by omega, hk _ (by omega), hk _ (by omega), hk _ (by omega), hk _ (by omega)]
    simp only [List.append_assoc]
    rfl
end Go.Proofs.YtkiibhpmembcgaaDoor
namespace Go.Proofs.YtkiibhpmembcgaaDoor
open Go.ChangeShapes Go.WideShapes Go.ChangeAt Go.RowKit Go.IntWalk

theorem u16_255 : ((255 : UInt8).toNat : Int) * 256 + ((255 : UInt8).toNat : Int) = 65535 := rfl
theorem u16_0 : ((0 : UInt8).toNat : Int) * 256 + ((0 : UInt8).toNat : Int) = 0 := rfl
theorem u8_0 : ((0 : UInt8).toNat : Int) = 0 := rfl
theorem u8_255 : ((255 : UInt8).toNat : Int) = 255 := rfl
end Go.Proofs.YtkiibhpmembcgaaDoor
namespace Go.Proofs.YtkiibhpmembcgaaDoor

theorem pxTC16 {row : List UInt8} {t : Nat} {x0 x1 x2 x3 x4 x5 : UInt8} (e0 : x0 = row.getD (6 * t + 0) 0) (e1 : x1 = row.getD (6 * t + 1) 0) (e2 : x2 = row.getD (6 * t + 2) 0) (e3 : x3 = row.getD (6 * t + 3) 0) (e4 : x4 = row.getD (6 * t + 4) 0) (e5 : x5 = row.getD (6 * t + 5) 0) :
    pixA 2 16 [] row t = [x0, x1, x2, x3, x4, x5, 255, 255] := by
  subst e0 e1 e2 e3 e4 e5
  rfl
theorem pxTC16t {row : List UInt8} {t : Nat} {x0 x1 x2 x3 x4 x5 a : UInt8} {c0 c1 c2 : Nat} (e0 : x0 = row.getD (6 * t + 0) 0) (e1 : x1 = row.getD (6 * t + 1) 0) (e2 : x2 = row.getD (6 * t + 2) 0) (e3 : x3 = row.getD (6 * t + 3) 0) (e4 : x4 = row.getD (6 * t + 4) 0) (e5 : x5 = row.getD (6 * t + 5) 0)
    (h : a = if x0.toNat * 256 + x1.toNat = c0 ∧ x2.toNat * 256 + x3.toNat = c1 ∧ x4.toNat * 256 + x5.toNat = c2 then 0 else 255) :
    pixA 2 16 [c0, c1, c2] row t = [x0, x1, x2, x3, x4, x5, a, a] := by
  have s0 : sampA 16 row (t * 3) = x0.toNat * 256 + x1.toNat := by rw [samp16, e0, e1, show 2 * (t * 3) = 6 * t by omega]; rfl
  have s1 : sampA 16 row (t * 3 + 1) = x2.toNat * 256 + x3.toNat := by rw [samp16, e2, e3, show 2 * (t * 3 + 1) = 6 * t + 2 by omega]
  have s2 : sampA 16 row (t * 3 + 2) = x4.toNat * 256 + x5.toNat := by rw [samp16, e4, e5, show 2 * (t * 3 + 2) = 6 * t + 4 by omega]
  have hp : pixA 2 16 [c0, c1, c2] row t = [row.getD (6 * t + 0) 0, row.getD (6 * t + 1) 0, row.getD (6 * t + 2) 0, row.getD (6 * t + 3) 0, row.getD (6 * t + 4) 0, row.getD (6 * t + 5) 0, if [c0, c1, c2] ≠ [] ∧ sampA 16 row (t * 3) = c0 ∧ sampA 16 row (t * 3 + 1) = c1 ∧ sampA 16 row (t * 3 + 2) = c2 then 0 else 255, if [c0, c1, c2] ≠ [] ∧ sampA 16 row (t * 3) = c0 ∧ sampA 16 row (t * 3 + 1) = c1 ∧ sampA 16 row (t * 3 + 2) = c2 then 0 else 255] := rfl
  rw [hp, s0, s1, s2, ← e0, ← e1, ← e2, ← e3, ← e4, ← e5, h]
  simp
theorem pxG16t {row : List UInt8} {t : Nat} {x0 x1 a : UInt8} {c0 : Nat} (e0 : x0 = row.getD (2 * t + 0) 0) (e1 : x1 = row.getD (2 * t + 1) 0) (h : a = if x0.toNat * 256 + x1.toNat = c0 then 0 else 255) :
    pixA 0 16 [c0] row t = [x0, x1, x0, x1, x0, x1, a, a] := by
  have s0 : sampA 16 row t = x0.toNat * 256 + x1.toNat := by rw [samp16, e0, e1]; rfl
  have hp : pixA 0 16 [c0] row t = [row.getD (2 * t + 0) 0, row.getD (2 * t + 1) 0, row.getD (2 * t + 0) 0, row.getD (2 * t + 1) 0, row.getD (2 * t + 0) 0, row.getD (2 * t + 1) 0, if sampA 16 row t = c0 then 0 else 255, if sampA 16 row t = c0 then 0 else 255] := rfl
  rw [hp, s0, ← e0, ← e1, h]
theorem pxTC8 {row : List UInt8} {t : Nat} {x0 x1 x2 : UInt8} (e0 : x0 = row.getD (3 * t) 0) (e1 : x1 = row.getD (3 * t + 1) 0) (e2 : x2 = row.getD (3 * t + 2) 0) :
    pixA 2 8 [] row t = [x0, x1, x2, 255] := by
  subst e0 e1 e2
  rfl
theorem pxTC8t {row : List UInt8} {t : Nat} {x0 x1 x2 a : UInt8} {c0 c1 c2 : Nat} (e0 : x0 = row.getD (3 * t) 0) (e1 : x1 = row.getD (3 * t + 1) 0) (e2 : x2 = row.getD (3 * t + 2) 0) (h : a = if x0.toNat = c0 ∧ x1.toNat = c1 ∧ x2.toNat = c2 then 0 else 255) :
    pixA 2 8 [c0, c1, c2] row t = [x0, x1, x2, a] := by
  have s0 : sampA 8 row (t * 3) = x0.toNat := by rw [samp8, e0, Nat.mul_comm]
  have s1 : sampA 8 row (t * 3 + 1) = x1.toNat := by rw [samp8, e1, Nat.mul_comm]
  have s2 : sampA 8 row (t * 3 + 2) = x2.toNat := by rw [samp8, e2, Nat.mul_comm]
  have hp : pixA 2 8 [c0, c1, c2] row t = [row.getD (3 * t) 0, row.getD (3 * t + 1) 0, row.getD (3 * t + 2) 0, if [c0, c1, c2] ≠ [] ∧ sampA 8 row (t * 3) = c0 ∧ sampA 8 row (t * 3 + 1) = c1 ∧ sampA 8 row (t * 3 + 2) = c2 then 0 else 255] := rfl
  rw [hp, s0, s1, s2, ← e0, ← e1, ← e2, h]
  simp
end Go.Proofs.YtkiibhpmembcgaaDoor
namespace Go.Proofs.YtkiibhpmembcgaaDoor
open Go.ChangeShapes Go.WideShapes Go.ChangeAt Go.RowKit Go.IntWalk

/-- A byte moved up by t samples of d bits. -/
def shB (d : Nat) (x : UInt8) (t : Nat) : UInt8 := UInt8.ofNat (x.toNat * 2 ^ (d * t))
theorem shB_nat (d : Nat) (x : UInt8) (t : Nat) : (shB d x t).toNat = x.toNat * 2 ^ (d * t) % 256 := by simp [shB]
theorem shB_zero (d : Nat) (x : UInt8) : shB d x 0 = x := by
  apply UInt8.toNat_inj.1
  rw [shB_nat]
  have := x.toNat_lt
  simp
theorem shB_nextN (d : Nat) (x : UInt8) (t : Nat) : (shB d x t).toNat * 2 ^ d % 256 = (shB d x (t + 1)).toNat := by
  rw [shB_nat, shB_nat, Nat.mod_mul_mod, Nat.mul_assoc, ← Nat.pow_add, Nat.mul_add d t 1, Nat.mul_one]
theorem shB_next1 (x : UInt8) (t : Nat) : IntKind.u8.wrap (((shB 1 x t).toNat : Int) * 2) = ((shB 1 x (t + 1)).toNat : Int) := by
  rw [IntKind.wrap_u8', ← shB_nextN]; omega
theorem shB_next2 (x : UInt8) (t : Nat) : IntKind.u8.wrap (((shB 2 x t).toNat : Int) * 4) = ((shB 2 x (t + 1)).toNat : Int) := by
  rw [IntKind.wrap_u8', ← shB_nextN]; omega
theorem shB_next4 (x : UInt8) (t : Nat) : IntKind.u8.wrap (((shB 4 x t).toNat : Int) * 16) = ((shB 4 x (t + 1)).toNat : Int) := by
  rw [IntKind.wrap_u8', ← shB_nextN]; omega
theorem samp_few1 (row : List UInt8) (u t : Nat) (ht : t < 8) : sampA 1 row (8 * u + t) = (shB 1 (row.getD u 0) t).toNat / 128 := by
  rw [shB_nat]
  have hx := (row.getD u 0).toNat_lt
  unfold sampA
  rw [if_neg (by decide), if_neg (by decide), show (8 * u + t) * 1 / 8 = u by omega, show (8 * u + t) * 1 % 8 = t by omega]
  generalize (row.getD u 0).toNat = x at hx
  rcases (by omega : t = 0 ∨ t = 1 ∨ t = 2 ∨ t = 3 ∨ t = 4 ∨ t = 5 ∨ t = 6 ∨ t = 7) with rfl | rfl | rfl | rfl | rfl | rfl | rfl | rfl <;> simp <;> omega
theorem samp_few2 (row : List UInt8) (u t : Nat) (ht : t < 4) : sampA 2 row (4 * u + t) = (shB 2 (row.getD u 0) t).toNat / 64 := by
  rw [shB_nat]
  have hx := (row.getD u 0).toNat_lt
  unfold sampA
  rw [if_neg (by decide), if_neg (by decide), show (4 * u + t) * 2 / 8 = u by omega, show (4 * u + t) * 2 % 8 = 2 * t by omega]
  generalize (row.getD u 0).toNat = x at hx
  rcases (by omega : t = 0 ∨ t = 1 ∨ t = 2 ∨ t = 3) with rfl | rfl | rfl | rfl <;> simp <;> omega
theorem samp_few4 (row : List UInt8) (u t : Nat) (ht : t < 2) : sampA 4 row (2 * u + t) = (shB 4 (row.getD u 0) t).toNat / 16 := by
  rw [shB_nat]
  have hx := (row.getD u 0).toNat_lt
  unfold sampA
  rw [if_neg (by decide), if_neg (by decide), show (2 * u + t) * 4 / 8 = u by omega, show (2 * u + t) * 4 % 8 = 4 * t by omega]
  generalize (row.getD u 0).toNat = x at hx
  rcases (by omega : t = 0 ∨ t = 1) with rfl | rfl <;> simp <;> omega
theorem rowTo_min {c d : Nat} {clear : List Nat} {row : List UInt8} {x t W k : Nat} (h : x + t = W ∨ t = k) (hk : t ≤ k) (hx : x + t ≤ W) : rowTo c d clear row (min (x + k) W) = rowTo c d clear row (x + t) := by
  congr 1
  omega
end Go.Proofs.YtkiibhpmembcgaaDoor
