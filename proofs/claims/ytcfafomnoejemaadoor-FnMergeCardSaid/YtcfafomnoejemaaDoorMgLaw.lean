/- The walk through the law FnMerge. Printed by gen/mglaw.py. -/
import Derived.Test.YtcfafomnoejemaaDoorMgImpl1
import Derived.Test.YtcfafomnoejemaaDoorMgImpl2
import Derived.Test.YtcfafomnoejemaaDoorMgImpl3
import Derived.Test.YtcfafomnoejemaaDoorMgImpl4
import Derived.Test.YtcfafomnoejemaaDoorMgImpl5
import Derived.Test.YtcfafomnoejemaaDoorMgImpl6
import Derived.Test.YtcfafomnoejemaaDoorMgImpl7
import Derived.Test.YtcfafomnoejemaaDoorConv
import Derived.Test.YtcfafomnoejemaaDoorFrame
namespace Go.Proofs.YtcfafomnoejemaaDoor
open Go.ChangeShapes Go.WideShapes Go.ChangeAt Go.RowKit Go.IntWalk

def TrueEnd (w : World) (e : Ending) (w' : World) : Prop := e = .returned (.bool true) ∧ Below w.heap.size w w'
def MgrEnd (k W H S1 : Nat) (l : List UInt8) (w : World) (e : Ending) (w' : World) : Prop :=
  ∃ v a6 n6 c6, e = .returned (pcV k W H S1 v (.slice a6 n6 c6)) ∧ OwnB w' w.heap.size v l ∧ Below w.heap.size w w'
/-- A palette, where there is one, is of 256 colors. -/
def AvOk (k : Nat) (av : Value) (w : World) : Prop := k = 7 → ∃ aa ac SS, av = .slice aa 256 ac ∧ InS w aa 256 ac SS
theorem implMerge_any (k n p : Nat) (q : Pt) (W H pw ph L1 S1 S2 cap1 m2 cap2 : Nat) (ad1 ad2 : Option Addr) (av : Value) (B src : List UInt8) (w : World) (h1 : 1 ≤ k) (h7 : k ≤ 7) (hnb : Hid (n = nB k))
    (F : Hid (Fits q W H n pw ph)) (hp : p < 7) (hq : Hid (q = ptOf p)) (hI : Inter w) (hS1 : Hid (S1 = W * n)) (hL1 : Hid (L1 = W * H * n)) (hB : Hid (B.length = L1)) (hsl : Hid (src.length = pw * ph * n)) (hm2 : Hid (m2 = pw * ph * n))
    (hr1 : RB w ad1 B) (hr2 : RB w ad2 src) (hL : 0 < L1) (hn1 : ad1 ≠ none) (hn2 : ad2 ≠ none) (hav : AvOk k av w) :
    Calls Tryd.prog 8 #[pcV k W H S1 (.slice ad1 L1 cap1) av, pcV k pw ph S2 (.slice ad2 m2 cap2) av, .int .i64 (p : Int)] w (MgrEnd k W H S1 (allM q W n pw src ph B) w) := by
  have hnb' := hnb.out
  rcases seven h1 h7 with rfl | rfl | rfl | rfl | rfl | rfl | rfl
  · obtain rfl : n = 1 := hnb'
    exact implMerge_1 p q W H pw ph L1 S1 S2 cap1 m2 cap2 ad1 ad2 av av B src w F hp hq hI hS1 hL1 hB hsl hm2 hr1 hr2 hL hn1 hn2
  · obtain rfl : n = 2 := hnb'
    exact implMerge_2 p q W H pw ph L1 S1 S2 cap1 m2 cap2 ad1 ad2 av av B src w F hp hq hI hS1 hL1 hB hsl hm2 hr1 hr2 hL hn1 hn2
  · obtain rfl : n = 4 := hnb'
    exact implMerge_3 p q W H pw ph L1 S1 S2 cap1 m2 cap2 ad1 ad2 av av B src w F hp hq hI hS1 hL1 hB hsl hm2 hr1 hr2 hL hn1 hn2
  · obtain rfl : n = 8 := hnb'
    exact implMerge_4 p q W H pw ph L1 S1 S2 cap1 m2 cap2 ad1 ad2 av av B src w F hp hq hI hS1 hL1 hB hsl hm2 hr1 hr2 hL hn1 hn2
  · obtain rfl : n = 4 := hnb'
    exact implMerge_5 p q W H pw ph L1 S1 S2 cap1 m2 cap2 ad1 ad2 av av B src w F hp hq hI hS1 hL1 hB hsl hm2 hr1 hr2 hL hn1 hn2
  · obtain rfl : n = 8 := hnb'
    exact implMerge_6 p q W H pw ph L1 S1 S2 cap1 m2 cap2 ad1 ad2 av av B src w F hp hq hI hS1 hL1 hB hsl hm2 hr1 hr2 hL hn1 hn2
  · obtain rfl : n = 1 := hnb'
    obtain ⟨aa, ac, SS, rfl, hS⟩ := hav rfl
    exact implMerge_7 p q W H pw ph L1 S1 S2 cap1 m2 cap2 ad1 ad2 aa aa ac ac SS B src w F hp hq hI hS1 hL1 hB hsl hm2 hr1 hr2 hL hn1 hn2 (Lib.hid hS) (Lib.hid hS)

theorem inS_of_owns {w : World} {base n : Nat} {v : Value} {S : List Sh} (h : w.ownsRow base 31 4 v n (shAll S)) (hS : S.length = n) (hn : 0 < n) :
    ∃ P c, v = .slice (some ⟨P, 0, none⟩) n c ∧ base ≤ P ∧ InS w (some ⟨P, 0, none⟩) n c S := by
  rcases h.2 with ⟨rfl, h0⟩ | ⟨g, cap, cur, rfl, hb, hg, hnc, hcm, hcs, htake⟩
  · omega
  · refine ⟨g, cap, rfl, hb, Lib.hid hS, fun _ => ⟨g, 0, rfl, fun j u hj => ?_⟩, (fun e => by cases e), hnc, by unfold maxLen at hcm; omega⟩
    have hjl := (List.getElem?_eq_some_iff.1 hj).1
    rw [shAll_len] at hjl
    have hc := World.ownsRow.cellAt (w := w) h j (by omega)
    rw [Nat.zero_add, hc, hj]

set_option maxHeartbeats 12800000 in
set_option maxRecDepth 100000 in
theorem mergeLaw_plain (x0 x1 x2 x3 len4 cap4 len5 cap5 : Nat) (ad4 ad5 : Option Addr) (l4 l5 : List UInt8) (w : World) (b0 : x0 < 256) (b1 : x1 < 256) (b2 : x2 < 256) (b3 : x3 < 256)
    (h4 : Hid (InB w ad4 len4 cap4 l4)) (h5 : Hid (InB w ad5 len5 cap5 l5)) (c4 : len4 ≤ 2147483647) (c5 : len5 ≤ 2147483647) (hI : Hid (Inter w)) (hk7 : x0 % 7 ≠ 6) :
    Calls Tryd.prog 3 #[.int .u8 (x0 : Int), .int .u8 (x1 : Int), .int .u8 (x2 : Int), .int .u8 (x3 : Int), .slice ad4 len4 cap4, .slice ad5 len5 cap5] w (TrueEnd w) := by
  obtain ⟨k0, hk0⟩ : ∃ k0, k0 = x0 % 7 := ⟨_, rfl⟩
  obtain ⟨W0, hW0⟩ : ∃ W0, W0 = x1 % 40 := ⟨_, rfl⟩
  obtain ⟨H0, hH0⟩ : ∃ H0, H0 = x2 % 40 := ⟨_, rfl⟩
  obtain ⟨p, hp⟩ : ∃ p, p = x3 % 7 := ⟨_, rfl⟩
  have t0 : (x0 : Int).tmod 7 = (k0 : Int) := by rw [hk0]; rfl
  have t0' : (x0 : Int) % 7 = (k0 : Int) := by rw [hk0]; rfl
  have t1 : (x1 : Int).tmod 40 = (W0 : Int) := by rw [hW0]; rfl
  have t1' : (x1 : Int) % 40 = (W0 : Int) := by rw [hW0]; rfl
  have t2 : (x2 : Int).tmod 40 = (H0 : Int) := by rw [hH0]; rfl
  have t2' : (x2 : Int) % 40 = (H0 : Int) := by rw [hH0]; rfl
  have t3 : (x3 : Int).tmod 7 = (p : Int) := by rw [hp]; rfl
  have t3' : (x3 : Int) % 7 = (p : Int) := by rw [hp]; rfl
  have hk6 : k0 < 6 := by omega
  have hW6 : W0 < 40 := by omega
  have hH6 : H0 < 40 := by omega
  have hp6 : p < 7 := by omega
  clear hk0 hW0 hH0 hp hk7
  obtain ⟨k, hk⟩ : ∃ k, k = k0 + 1 := ⟨_, rfl⟩
  obtain ⟨W, hW⟩ : ∃ W, W = W0 + 1 := ⟨_, rfl⟩
  obtain ⟨H, hH⟩ : ∃ H, H = H0 + 1 := ⟨_, rfl⟩
  have s0 : (1 : Int) + (k0 : Int) = (k : Int) := by omega
  have s1 : (1 : Int) + (W0 : Int) = (W : Int) := by omega
  have s2 : (1 : Int) + (H0 : Int) = (H : Int) := by omega
  have v0 : IntKind.i64.wrap (x0 : Int) = (x0 : Int) := i64_in _ ⟨by omega, by omega⟩
  have v1 : IntKind.i64.wrap (x1 : Int) = (x1 : Int) := i64_in _ ⟨by omega, by omega⟩
  have v2 : IntKind.i64.wrap (x2 : Int) = (x2 : Int) := i64_in _ ⟨by omega, by omega⟩
  have v3 : IntKind.i64.wrap (x3 : Int) = (x3 : Int) := i64_in _ ⟨by omega, by omega⟩
  have v4 : IntKind.i64.wrap (k0 : Int) = (k0 : Int) := i64_in _ ⟨by omega, by omega⟩
  have v5 : IntKind.i64.wrap (W0 : Int) = (W0 : Int) := i64_in _ ⟨by omega, by omega⟩
  have v6 : IntKind.i64.wrap (H0 : Int) = (H0 : Int) := i64_in _ ⟨by omega, by omega⟩
  have v7 : IntKind.i64.wrap (p : Int) = (p : Int) := i64_in _ ⟨by omega, by omega⟩
  have v8 : IntKind.i64.wrap (k : Int) = (k : Int) := i64_in _ ⟨by omega, by omega⟩
  have v9 : IntKind.i64.wrap (W : Int) = (W : Int) := i64_in _ ⟨by omega, by omega⟩
  have v10 : IntKind.i64.wrap (H : Int) = (H : Int) := i64_in _ ⟨by omega, by omega⟩
  have q1 : decide ((2147483647 : Int) < (len4 : Int)) = false := decide_eq_false (by omega)
  have q2 : decide ((2147483647 : Int) < (len5 : Int)) = false := decide_eq_false (by omega)
  have k1 : 1 ≤ k := by omega
  have k6 : k ≤ 6 := by omega
  have W1 : 1 ≤ W := by omega
  have W40 : W ≤ 40 := by omega
  have H1 : 1 ≤ H := by omega
  have H40 : H ≤ 40 := by omega
  have e7 : ((k : Int) == 7) = false := by simp; omega
  clear hk hW hH
  go_enter Tryd.func3, Tryd.ntmps3
  go_upto_region 4 with fail
  clear s0 s1 s2 v0 v1 v2 t0 t0' t1 t1' t2 t2' q1 q2 v4 v5 v6
  go_upto_region 5 with (go_at_call 4; refine (pixelBytes_any k (by omega) (by omega) _).mono ?_; rintro e w1 ⟨rfl, rfl⟩)
  obtain ⟨n, hn⟩ : ∃ n, n = nB k := ⟨_, rfl⟩
  rw [← hn]
  have hn1 : 1 ≤ n := by rw [hn]; exact nB_pos k
  have hn8 : n ≤ 8 := by rw [hn]; exact nB_le k
  have HN := Lib.hid hn
  clear hn
  obtain ⟨⟨X, Y, DX, DY⟩, hq⟩ : ∃ q, q = ptOf p := ⟨_, rfl⟩
  have HQ := Lib.hid hq
  have hok := ptOf_ok p
  rw [← hq] at hok
  have HOK := Lib.hid hok
  have HPT : Hid (ptV (ptOf p) = .agg #[.int .i64 (X : Int), .int .i64 (Y : Int), .int .i64 (DX : Int), .int .i64 (DY : Int)]) := Lib.hid (by rw [← hq]; rfl)
  clear hq hok
  go_upto_region 6 with (go_at_call 5; refine (partOf_any p hp6 w).mono ?_; rintro e w2 ⟨he, hb2⟩; rw [HPT.out] at he; subst he)
  obtain ⟨NA, hNA⟩ : ∃ NA, NA = w2.heap.size := ⟨_, rfl⟩
  obtain ⟨w3, hw3⟩ : ∃ w3, w3 = w2.alloc (.cells #[.int .i64 (X : Int), .int .i64 (Y : Int), .int .i64 (DX : Int), .int .i64 (DY : Int)] 25) := ⟨_, rfl⟩
  rw [← hw3, ← hNA]
  have hb3 : Below w.heap.size w w3 := hw3 ▸ hb2.alloc hb2.size _
  have hrow3 : w3.heap[NA]? = some (.cells #[.int .i64 (X : Int), .int .i64 (Y : Int), .int .i64 (DX : Int), .int .i64 (DY : Int)] 25 (0, 0)) := by rw [hw3, hNA]; exact alloc_at _ _
  have lNA : NA < w3.heap.size := (Array.getElem?_eq_some_iff.1 hrow3).1
  have a0 : w3.cell? ⟨NA, 0, none⟩ = some (.int .i64 (X : Int)) := (cell_of_row w3 _ 0 _ _ _ hrow3).trans rfl
  have a1 : w3.cell? ⟨NA, 1, none⟩ = some (.int .i64 (Y : Int)) := (cell_of_row w3 _ 1 _ _ _ hrow3).trans rfl
  have a2 : w3.cell? ⟨NA, 2, none⟩ = some (.int .i64 (DX : Int)) := (cell_of_row w3 _ 2 _ _ _ hrow3).trans rfl
  have a3 : w3.cell? ⟨NA, 3, none⟩ = some (.int .i64 (DY : Int)) := (cell_of_row w3 _ 3 _ _ _ hrow3).trans rfl
  have HB3 := Lib.hid hb3
  have HR3 := Lib.hid hrow3
  clear hNA hw3 hb3 hrow3 hb2
  go_upto_region 7 with (go_at_call 6; refine (size_any ⟨X, Y, DX, DY⟩ HOK.out W H W40 H40 w3).mono ?_; rintro e w4 ⟨pw, ph, rfl, hfx, hfy, hpw, hph, hb4⟩)
  have HF : Hid (Fits ⟨X, Y, DX, DY⟩ W H n pw ph) := Lib.hid ⟨HOK.out, hfx, hfy, W40, H40, hn1, hn8, hpw, hph⟩
  obtain ⟨N5, hN5⟩ : ∃ N5, N5 = w4.heap.size := ⟨_, rfl⟩
  obtain ⟨w5, hw5⟩ : ∃ w5, w5 = w4.alloc (.cells #[] 31) := ⟨_, rfl⟩
  have hb45 : Below w4.heap.size w4 w5 := hw5 ▸ (Below.refl _ _).alloc (Nat.le_refl _) _
  have h35 : Below w3.heap.size w3 w5 := hb4.trans (hb45.mono hb4.size)
  have lN5 : N5 < w5.heap.size := by rw [hw5, hN5, size_alloc]; omega
  have HW5 := Lib.hid hw5
  have HN5 := Lib.hid hN5
  have H35 := Lib.hid h35
  have HB5 : Hid (Below w.heap.size w w5) := Lib.hid (HB3.out.trans (h35.mono HB3.out.size))
  clear a0 a1 a2 a3 hfx hfy hb4 hb45 h35 hw5 hN5
  go_upto_region 9 with fail
  rw [← HW5.out, ← HN5.out]
  clear HW5 HN5
  go_loopw [20, 62] (fun v i wr => ∃ t : Nat, t ≤ 256 ∧ i = .int .i64 (t : Int) ∧ v = .slice (some ⟨N5, 0, none⟩) 0 0 ∧ w5 = wr) (fun _ i _ => 256 - (intOf i).toNat)
  case atStart => exact ⟨0, Nat.zero_le _, rfl, rfl, rfl⟩
  case round =>
    obtain ⟨t, ht, rfl, rfl, rfl⟩ := hrel
    by_cases hlt : t < 256
    · go_wp2_with fail
      go_roundw
      case rel => exact ⟨t + 1, by omega, by go_num, rfl, by first | rfl | trivial⟩
      case measure => simp [intOf]; omega
    · obtain rfl : 256 = t := by omega
      clear hlt ht e7
      have hav : AvOk k (.slice (some ⟨N5, 0, none⟩) 0 0) w5 := fun h => by omega
      have HAV := Lib.hid hav
      clear hav
      obtain ⟨WH, hWH⟩ : ∃ WH, WH = W * H := ⟨_, rfl⟩
      obtain ⟨L1, hL1⟩ : ∃ L1, L1 = WH * n := ⟨_, rfl⟩
      obtain ⟨PP, hPP⟩ : ∃ PP, PP = pw * ph := ⟨_, rfl⟩
      obtain ⟨M2, hM2⟩ : ∃ M2, M2 = PP * n := ⟨_, rfl⟩
      obtain ⟨S1, hS1⟩ : ∃ S1, S1 = W * n := ⟨_, rfl⟩
      obtain ⟨S2, hS2⟩ : ∃ S2, S2 = pw * n := ⟨_, rfl⟩
      have hWHb : WH ≤ 40 * 40 := by rw [hWH]; exact Nat.mul_le_mul W40 H40
      have hWH1 : 1 * 1 ≤ WH := by rw [hWH]; exact Nat.mul_le_mul W1 H1
      have hL1b : L1 ≤ 40 * 40 * 8 := by rw [hL1]; exact Nat.mul_le_mul hWHb hn8
      have hL11 : 1 * 1 * 1 ≤ L1 := by rw [hL1]; exact Nat.mul_le_mul hWH1 hn1
      have hPPb : PP ≤ 40 * 40 := by rw [hPP]; exact Nat.mul_le_mul hpw hph
      have hM2b : M2 ≤ 40 * 40 * 8 := by rw [hM2]; exact Nat.mul_le_mul hPPb hn8
      have hS1b : S1 ≤ 40 * 8 := by rw [hS1]; exact Nat.mul_le_mul W40 hn8
      have hS2b : S2 ≤ 40 * 8 := by rw [hS2]; exact Nat.mul_le_mul hpw hn8
      have m1 : (W : Int) * (H : Int) = (WH : Int) := by rw [hWH]; rfl
      have m2 : (WH : Int) * (n : Int) = (L1 : Int) := by rw [hL1]; rfl
      have m3 : (pw : Int) * (ph : Int) = (PP : Int) := by rw [hPP]; rfl
      have m4 : (PP : Int) * (n : Int) = (M2 : Int) := by rw [hM2]; rfl
      have m5 : (W : Int) * (n : Int) = (S1 : Int) := by rw [hS1]; rfl
      have m6 : (pw : Int) * (n : Int) = (S2 : Int) := by rw [hS2]; rfl
      have u1 : IntKind.i64.wrap (WH : Int) = (WH : Int) := i64_in _ ⟨by omega, by omega⟩
      have u2 : IntKind.i64.wrap (L1 : Int) = (L1 : Int) := i64_in _ ⟨by omega, by omega⟩
      have u3 : IntKind.i64.wrap (PP : Int) = (PP : Int) := i64_in _ ⟨by omega, by omega⟩
      have u4 : IntKind.i64.wrap (M2 : Int) = (M2 : Int) := i64_in _ ⟨by omega, by omega⟩
      have u5 : IntKind.i64.wrap (S1 : Int) = (S1 : Int) := i64_in _ ⟨by omega, by omega⟩
      have u6 : IntKind.i64.wrap (S2 : Int) = (S2 : Int) := i64_in _ ⟨by omega, by omega⟩
      have HL1 : Hid (L1 = W * H * n) := Lib.hid (by rw [hL1, hWH])
      have HM2 : Hid (M2 = pw * ph * n) := Lib.hid (by rw [hM2, hPP])
      have HS1 := Lib.hid hS1
      clear hWH hL1 hPP hM2 hS1 hS2
      have HNE : Hid (fillL l4 L1 ≠ []) := Lib.hid (fun e => by have := fillL_len l4 L1; rw [e] at this; simp at this; omega)
      go_upto_region 15 with (go_at_call 7; refine (filled_any len4 cap4 L1 ad4 l4 w5 h4.out.hlen (h4.out.rb.below HB5.out) (by omega) c4).mono ?_; rintro e w6 ⟨v6, rfl, -, ho6, hb6⟩; obtain ⟨p1, n1, cap1, post, rfl, hl1, hp1, hnc1, hcm1, hseg6, -⟩ := ho6.seg HNE.out)
      obtain rfl : L1 = n1 := by have := hl1.out; rw [fillL_len] at this; exact this
      have HB6 : Hid (Below w.heap.size w w6) := Lib.hid (HB5.out.trans (hb6.mono HB5.out.size))
      have hs56 := hb6.size
      have hwp1 : w.heap.size ≤ p1 := by have := HB5.out.size; omega
      have hlp1 := hseg6.lt
      have HSEG6 := Lib.hid hseg6
      have H56 := Lib.hid hb6
      clear hseg6 ho6 hb6 hl1
      go_upto_region 16 with (go_at_call 7; refine (filled_any len5 cap5 M2 ad5 l5 w6 h5.out.hlen (h5.out.rb.below HB6.out) (by omega) c5).mono ?_; rintro e w7 ⟨v7, rfl, hnv7, ho7, hb7⟩; obtain ⟨ad7, n7, cap2, rfl, hl7, hr7, hnc7, hcm7, hnil7, hsome7⟩ := ho7.shapeN)
      obtain rfl : M2 = n7 := by have := hl7.out; rw [fillL_len] at this; exact this
      obtain ⟨⟨p2, o2, s2⟩, rfl⟩ : ∃ a, ad7 = some a := by
        cases ad7 with
        | none => exact absurd (by obtain ⟨e1, e2⟩ := hnil7 rfl; rw [e1, e2]) hnv7
        | some a => exact ⟨a, rfl⟩
      obtain ⟨hp2a, hp2b, hp2c, hp2d⟩ := hsome7 _ rfl
      simp only at hp2a hp2b hp2c hp2d
      subst hp2c hp2d
      have hs67 := hb7.size
      have HB7 : Hid (Below w.heap.size w w7) := Lib.hid (HB6.out.trans (hb7.mono HB6.out.size))
      have HSEG7 := Lib.hid (HSEG6.out.below hb7 hlp1)
      have HR7 := Lib.hid hr7
      have H57 : Hid (Below w5.heap.size w5 w7) := Lib.hid (H56.out.trans (hb7.mono hs56))
      obtain ⟨B, hB⟩ : ∃ B, B = fillL l4 L1 := ⟨_, rfl⟩
      obtain ⟨src, hsrc⟩ : ∃ src, src = fillL l5 M2 := ⟨_, rfl⟩
      have HBL : Hid (B.length = L1) := Lib.hid (by rw [hB, fillL_len])
      have HSL : Hid (src.length = pw * ph * n) := Lib.hid (by rw [hsrc, fillL_len, HM2.out])
      rw [← hB] at HSEG7
      rw [← hsrc] at HR7
      have HI7 := Lib.hid (inter_below hI.out HB7.out)
      have HAV7 : Hid (AvOk k (.slice (some ⟨N5, 0, none⟩) 0 0) w7) := Lib.hid (fun h => by obtain ⟨aa, ac, SS, e1, e2⟩ := HAV.out h; exact ⟨aa, ac, SS, e1, e2.below H57.out⟩)
      have HRB7 : Hid (RB w7 (some ⟨p1, 0, none⟩) B) := Lib.hid (HSEG7.out.rb (o := 0) rfl)
      clear hB hsrc hb7 ho7 hnv7 hr7 hnil7 hsome7 HSEG6 H56 hl7 HNE HAV HB6
      go_upto_region 17 with (go_at_call 8; refine (implMerge_any k n p ⟨X, Y, DX, DY⟩ W H pw ph L1 S1 S2 cap1 M2 cap2 (some ⟨p1, 0, none⟩) (some ⟨p2, 0, none⟩) (.slice (some ⟨N5, 0, none⟩) 0 0) B src w7 (by omega) (by omega) HN HF hp6 HQ HI7.out HS1 HL1 HBL HSL HM2 HRB7.out HR7.out (by omega) (fun e => by cases e) (fun e => by cases e) HAV7.out).mono ?_; rintro e w8 ⟨v8, a6, n6, c6, he, ho8, hb8⟩; obtain ⟨a8, n8, c8, rfl, hl8, hr8, -, -, -, hsome8⟩ := ho8.shapeN; unfold pcV at he; subst he)
      have hs78 := hb8.size
      obtain ⟨N9, hN9⟩ : ∃ N9, N9 = w8.heap.size := ⟨_, rfl⟩
      obtain ⟨w9, hw9⟩ : ∃ w9, w9 = w8.alloc (.cells #[.int .i64 (k : Int), .int .i64 0, .int .i64 0, .int .i64 (W : Int), .int .i64 (H : Int), .int .i64 (S1 : Int), .slice a8 n8 c8, .slice a6 n6 c6] 34) := ⟨_, rfl⟩
      rw [← hw9, ← hN9]
      have hb89 : Below w8.heap.size w8 w9 := hw9 ▸ (Below.refl _ _).alloc (Nat.le_refl _) _
      have hrow9 : w9.heap[N9]? = some (.cells #[.int .i64 (k : Int), .int .i64 0, .int .i64 0, .int .i64 (W : Int), .int .i64 (H : Int), .int .i64 (S1 : Int), .slice a8 n8 c8, .slice a6 n6 c6] 34 (0, 0)) := by rw [hw9, hN9]; exact alloc_at _ _
      have lN9 : N9 < w9.heap.size := (Array.getElem?_eq_some_iff.1 hrow9).1
      have hb79 : Below w7.heap.size w7 w9 := hb8.trans (hb89.mono hs78)
      have HSEG9 := Lib.hid (HSEG7.out.below hb79 (by omega))
      have HRS9 := Lib.hid (HR7.out.below hb79)
      have HR8 := Lib.hid (hr8.below hb89)
      have HROW9 := Lib.hid hrow9
      have HA9 := Lib.hid (((H35.out.trans (H57.out.mono H35.out.size)).trans (hb79.mono (by have := H35.out.size; omega))).block NA lNA |>.trans HR3.out)
      have HB9 : Hid (Below w.heap.size w w9) := Lib.hid (HB7.out.trans (hb79.mono HB7.out.size))
      have hs89 : w8.heap.size ≤ w9.heap.size := hb89.size
      have hn9a : N9 ≠ p1 := by omega
      have hs35 := H35.out.size
      have hn9b : NA ≠ p1 := by omega
      have hNA9 : NA < w9.heap.size := by omega
      have hp12 : p1 ≠ p2 := by omega
      have H8P : Hid (∀ a, a8 = some a → a.block ≠ p1 ∧ a.spot = none) := Lib.hid (fun a ha => ⟨by have := (hsome8 a ha).1; omega, (hsome8 a ha).2.2.2⟩)
      have HL8 := Lib.hid hl8.out
      clear hN9 hw9 hb89 hrow9 hb79 ho8 hb8 hr8 hsome8 hl8 HSEG7 HR7 HI7 HAV7 HRB7 H57 H35 HR3 HPT hI h4 h5 HB3 HB5 HB7
      clear m1 m2 m3 m4 m6 u1 u2 u3 u4 u6 t3 t3' v3 v7 v8
      go_upto_region 18 with fail
      go_loopw [114] (fun yv wr => ∃ y : Nat, y ≤ ph ∧ yv = .int .i64 (y : Int) ∧ Only p1 w9 wr ∧ Seg wr p1 [] post (allM ⟨X, Y, DX, DY⟩ W n pw src y B)) (fun yv _ => ph - (intOf yv).toNat)
      case atStart => exact ⟨0, Nat.zero_le _, rfl, Only.refl _ _, HSEG9.out⟩
      case round =>
        obtain ⟨y, hy, rfl, hon, hseg⟩ := hrel
        by_cases hlt : y < ph
        · have HON7 := Lib.hid hon
          have HSG := Lib.hid hseg
          clear hon hseg
          go_upto_region 21 with fail
          go_loopw [118] (fun xv wr => ∃ x : Nat, x ≤ pw ∧ xv = .int .i64 (x : Int) ∧ Only p1 w9 wr ∧ Seg wr p1 [] post (rowM ⟨X, Y, DX, DY⟩ W n pw src y x (allM ⟨X, Y, DX, DY⟩ W n pw src y B))) (fun xv _ => pw - (intOf xv).toNat)
          case atStart => exact ⟨0, Nat.zero_le _, rfl, HON7.out, HSG.out⟩
          case round =>
            obtain ⟨x, hx, rfl, hon, hseg⟩ := hrel
            by_cases hxl : x < pw
            · have a0 : wr.cell? ⟨NA, 0, none⟩ = some (.int .i64 (X : Int)) := by rw [hon.cell (p := ⟨NA, 0, none⟩) hn9b]; exact (cell_of_row w9 _ 0 _ _ _ HA9.out).trans rfl
              have a1 : wr.cell? ⟨NA, 1, none⟩ = some (.int .i64 (Y : Int)) := by rw [hon.cell (p := ⟨NA, 1, none⟩) hn9b]; exact (cell_of_row w9 _ 1 _ _ _ HA9.out).trans rfl
              have a2 : wr.cell? ⟨NA, 2, none⟩ = some (.int .i64 (DX : Int)) := by rw [hon.cell (p := ⟨NA, 2, none⟩) hn9b]; exact (cell_of_row w9 _ 2 _ _ _ HA9.out).trans rfl
              have a3 : wr.cell? ⟨NA, 3, none⟩ = some (.int .i64 (DY : Int)) := by rw [hon.cell (p := ⟨NA, 3, none⟩) hn9b]; exact (cell_of_row w9 _ 3 _ _ _ HA9.out).trans rfl
              obtain ⟨yd, hyd⟩ : ∃ yd, yd = y * DY := ⟨_, rfl⟩
              obtain ⟨r, hr⟩ : ∃ r, r = Y + yd := ⟨_, rfl⟩
              obtain ⟨rW, hrW⟩ : ∃ rW, rW = r * W := ⟨_, rfl⟩
              obtain ⟨rX, hrX⟩ : ∃ rX, rX = rW + X := ⟨_, rfl⟩
              obtain ⟨xd, hxd⟩ : ∃ xd, xd = x * DX := ⟨_, rfl⟩
              obtain ⟨z, hz⟩ : ∃ z, z = rX + xd := ⟨_, rfl⟩
              obtain ⟨e, he⟩ : ∃ e, e = z * n := ⟨_, rfl⟩
              obtain ⟨e2, he2⟩ : ∃ e2, e2 = e + n := ⟨_, rfl⟩
              obtain ⟨yp, hyp⟩ : ∃ yp, yp = y * pw := ⟨_, rfl⟩
              obtain ⟨s0, hs0⟩ : ∃ s0, s0 = yp + x := ⟨_, rfl⟩
              obtain ⟨i2, hi2⟩ : ∃ i2, i2 = s0 * n := ⟨_, rfl⟩
              have hE : Hid (e = dstAt ⟨X, Y, DX, DY⟩ W n y x) := Lib.hid (by rw [he, hz, hrX, hrW, hr, hyd, hxd]; rfl)
              have hI2 : Hid (i2 = srcAt pw n y x) := Lib.hid (by rw [hi2, hs0, hyp]; rfl)
              have hE2 : e + n ≤ L1 := by rw [hE.out, HL1.out]; exact HF.out.dst hlt hxl
              have hI3 : i2 + n ≤ M2 := by rw [hI2.out, HM2.out]; exact HF.out.src hlt hxl
              have hrH : r < H := by have := HF.out.y y hlt; simp only at this; omega
              have hxW : X + xd < W := by have := HF.out.x x hxl; simp only at this; omega
              have hrWb : rW ≤ 40 * 40 := by rw [hrW]; exact Nat.mul_le_mul (by omega) W40
              have hypb : yp ≤ 40 * 40 := by rw [hyp]; exact Nat.mul_le_mul (by omega) hpw
              have m1 : (y : Int) * (DY : Int) = (yd : Int) := by rw [hyd]; rfl
              have m2 : (Y : Int) + (yd : Int) = (r : Int) := by rw [hr]; rfl
              have m3 : (r : Int) * (W : Int) = (rW : Int) := by rw [hrW]; rfl
              have m4 : (rW : Int) + (X : Int) = (rX : Int) := by rw [hrX]; rfl
              have m7 : (x : Int) * (DX : Int) = (xd : Int) := by rw [hxd]; rfl
              have m6 : (rX : Int) + (xd : Int) = (z : Int) := by rw [hz]; rfl
              have m8 : (z : Int) * (n : Int) = (e : Int) := by rw [he]; rfl
              have m9 : (e : Int) + (n : Int) = (e2 : Int) := by rw [he2]; rfl
              have m10 : (y : Int) * (pw : Int) = (yp : Int) := by rw [hyp]; rfl
              have m11 : (yp : Int) + (x : Int) = (s0 : Int) := by rw [hs0]; rfl
              have m12 : (s0 : Int) * (n : Int) = (i2 : Int) := by rw [hi2]; rfl
              have v1 : IntKind.i64.wrap (yd : Int) = (yd : Int) := i64_in _ ⟨by omega, by omega⟩
              have v2 : IntKind.i64.wrap (r : Int) = (r : Int) := i64_in _ ⟨by omega, by omega⟩
              have v3 : IntKind.i64.wrap (rW : Int) = (rW : Int) := i64_in _ ⟨by omega, by omega⟩
              have v4 : IntKind.i64.wrap (rX : Int) = (rX : Int) := i64_in _ ⟨by omega, by omega⟩
              have v5 : IntKind.i64.wrap (xd : Int) = (xd : Int) := i64_in _ ⟨by omega, by omega⟩
              have v6 : IntKind.i64.wrap (z : Int) = (z : Int) := i64_in _ ⟨by omega, by omega⟩
              have v7 : IntKind.i64.wrap (e : Int) = (e : Int) := i64_in _ ⟨by omega, by omega⟩
              have v8 : IntKind.i64.wrap (e2 : Int) = (e2 : Int) := i64_in _ ⟨by omega, by omega⟩
              have v9 : IntKind.i64.wrap (yp : Int) = (yp : Int) := i64_in _ ⟨by omega, by omega⟩
              have v10 : IntKind.i64.wrap (s0 : Int) = (s0 : Int) := i64_in _ ⟨by omega, by omega⟩
              have v11 : IntKind.i64.wrap (i2 : Int) = (i2 : Int) := i64_in _ ⟨by omega, by omega⟩
              have o1 : (0 : Int) ≤ (e : Int) := by omega
              have o2 : (e : Int) ≤ (e2 : Int) := by omega
              have o2' : (e2 : Int) ≤ (cap1 : Int) := by omega
              have o3 : (0 : Int) ≤ (i2 : Int) := by omega
              have o4 : (i2 : Int) ≤ (M2 : Int) := by omega
              have ne3 : ¬ cap1 = e := by omega
              have ne4 : ¬ cap2 = i2 := by omega
              have HE2 := Lib.hid he2
              have HONX := Lib.hid hon
              have HSX := Lib.hid hseg
              have lNr : NA < wr.heap.size := by rw [hon.size]; exact hNA9
              clear hyd hr hrW hrX hxd hz he he2 hyp hs0 hi2 hon hseg
              obtain ⟨M, hM⟩ : ∃ M, M = rowM ⟨X, Y, DX, DY⟩ W n pw src y x (allM ⟨X, Y, DX, DY⟩ W n pw src y B) := ⟨_, rfl⟩
              obtain ⟨px, hpx⟩ : ∃ px, px = pix src pw n y x := ⟨_, rfl⟩
              have hpl : px.length = n := by rw [hpx]; exact HF.out.pix_len HSL.out hlt hxl
              have hMl : M.length = L1 := by rw [hM, HF.out.row_len HSL.out hlt (HF.out.all_len HSL.out (by rw [HBL.out, HL1.out]) y (by omega)) x hx, HL1.out]
              have HRW : Hid (wr.drew.heap[p1]? = some (.cells (cellsB M ++ post).toArray 5 (0, 0))) := Lib.hid (by rw [hM]; exact HSX.out.whole)
              have HSRC : Hid (∀ j v, (cellsB px)[j]? = some v → wr.drew.cell? ((⟨p2, i2, none⟩ : Addr).add j) = some v) := Lib.hid (by
                rw [hpx, hI2.out]
                exact src_of ((HRS9.out.only HONX.out (Ne.symm hp12)).pix pw n y x))
              have HCN : Hid ((cellsB px).length = Nat.min (M2 - i2) (e2 - e)) := Lib.hid (by rw [cellsB_length, hpl, HE2.out]; exact (by omega : n = min (M2 - i2) (e + n - e)))
              have HFIT : Hid (e + (cellsB px).length ≤ (cellsB M ++ post).length) := Lib.hid (by rw [List.length_append, cellsB_length, cellsB_length, hpl, hMl]; omega)
              have HNX : Hid (rowM ⟨X, Y, DX, DY⟩ W n pw src y (x + 1) (allM ⟨X, Y, DX, DY⟩ W n pw src y B) = splice M e px) := Lib.hid (by rw [rowM, ← hM, ← hpx, ← hE.out])
              have HOF : Hid (e + px.length ≤ M.length) := Lib.hid (by rw [hpl, hMl]; exact hE2)
              clear hM hpx hpl hMl
              go_upto_region 24 with fail
              go_region_law (refine step_copy_only rfl (.tmp 145) (.tmp 154) 22 22 rfl 5 (by kernel_rfl) (by kernel_rfl) p1 e (e2 - e) (cap1 - e) ⟨p2, i2, none⟩ (M2 - i2) (cap2 - i2) (by simp [Act.eval, Act.put]) (by simp [Act.eval, Act.put]) (cellsB M ++ post) 5 HRW.out (cellsB px) HCN.out HSRC.out HFIT.out (cellsB_one _) ?_; intro wn HG hon2)
              all_goals
                have hs9 : Hid (Seg wn p1 [] post (rowM ⟨X, Y, DX, DY⟩ W n pw src y (x + 1) (allM ⟨X, Y, DX, DY⟩ W n pw src y B))) := Lib.hid (by rw [HNX.out]; exact Seg.ofSplice HOF.out HG.out)
                have ho9 : Hid (Only p1 w9 wn) := Lib.hid (HONX.out.drew.trans hon2)
                clear HG hon2
                go_wp2_with fail
                go_roundw
                case rel => exact ⟨x + 1, by omega, by go_num, ho9.out, hs9.out⟩
                case measure => simp [intOf]; omega
            · obtain rfl : pw = x := by omega
              have HONX := Lib.hid hon
              have HSX := Lib.hid hseg
              clear hon hseg
              go_wp2_with fail
              go_roundw
              case rel => exact ⟨y + 1, by omega, by go_num, HONX.out, HSX.out⟩
              case measure => simp [intOf]; omega
        · obtain rfl : ph = y := by omega
          have g0 : wr.cell? ⟨N9, 0, none⟩ = some (.int .i64 (k : Int)) := by rw [hon.cell (p := ⟨N9, 0, none⟩) hn9a]; exact (cell_of_row w9 _ 0 _ _ _ HROW9.out).trans rfl
          have g1 : wr.cell? ⟨N9, 1, none⟩ = some (.int .i64 0) := by rw [hon.cell (p := ⟨N9, 1, none⟩) hn9a]; exact (cell_of_row w9 _ 1 _ _ _ HROW9.out).trans rfl
          have g2 : wr.cell? ⟨N9, 2, none⟩ = some (.int .i64 0) := by rw [hon.cell (p := ⟨N9, 2, none⟩) hn9a]; exact (cell_of_row w9 _ 2 _ _ _ HROW9.out).trans rfl
          have g3 : wr.cell? ⟨N9, 3, none⟩ = some (.int .i64 (W : Int)) := by rw [hon.cell (p := ⟨N9, 3, none⟩) hn9a]; exact (cell_of_row w9 _ 3 _ _ _ HROW9.out).trans rfl
          have g4 : wr.cell? ⟨N9, 4, none⟩ = some (.int .i64 (H : Int)) := by rw [hon.cell (p := ⟨N9, 4, none⟩) hn9a]; exact (cell_of_row w9 _ 4 _ _ _ HROW9.out).trans rfl
          have g5 : wr.cell? ⟨N9, 5, none⟩ = some (.int .i64 (S1 : Int)) := by rw [hon.cell (p := ⟨N9, 5, none⟩) hn9a]; exact (cell_of_row w9 _ 5 _ _ _ HROW9.out).trans rfl
          have g6 : wr.cell? ⟨N9, 6, none⟩ = some (.slice a8 n8 c8) := by rw [hon.cell (p := ⟨N9, 6, none⟩) hn9a]; exact (cell_of_row w9 _ 6 _ _ _ HROW9.out).trans rfl
          have hr8w : RB wr a8 (allM ⟨X, Y, DX, DY⟩ W n pw src ph B) := by
            intro hne
            obtain ⟨b, o, eb, hc⟩ := HR8.out hne
            refine ⟨b, o, eb, fun j hj => ?_⟩
            rw [hon.cell (p := ⟨b, o + j, none⟩) (H8P.out _ eb).1]
            exact hc j hj
          obtain ⟨M, hM⟩ : ∃ M, M = allM ⟨X, Y, DX, DY⟩ W n pw src ph B := ⟨_, rfl⟩
          rw [← hM] at hr8w hseg HL8
          have hMl : Hid (M.length = L1) := Lib.hid (by rw [hM, HF.out.all_len HSL.out (by rw [HBL.out, HL1.out]) ph (Nat.le_refl _), HL1.out])
          have cv1 := conv_bytes (cap := c8) hr8w (Lib.hid HL8.out)
          have cv2 := conv_bytes (cap := cap1) (hseg.rb (o := 0) rfl) hMl
          have HBN := Lib.hid (HB9.out.trans (hon.below hwp1))
          have lN9r : N9 < wr.heap.size := by rw [hon.size]; exact lN9
          clear hon hseg hM hr8w
          go_wp2_with fail
          go_ret
          exact ⟨rfl, HBN.out⟩
set_option maxHeartbeats 12800000 in
set_option maxRecDepth 100000 in
theorem mergeLaw_pal (x0 x1 x2 x3 len4 cap4 len5 cap5 : Nat) (ad4 ad5 : Option Addr) (l4 l5 : List UInt8) (w : World) (b0 : x0 < 256) (b1 : x1 < 256) (b2 : x2 < 256) (b3 : x3 < 256)
    (h4 : Hid (InB w ad4 len4 cap4 l4)) (h5 : Hid (InB w ad5 len5 cap5 l5)) (c4 : len4 ≤ 2147483647) (c5 : len5 ≤ 2147483647) (hI : Hid (Inter w)) (hk7 : x0 % 7 = 6) :
    Calls Tryd.prog 3 #[.int .u8 (x0 : Int), .int .u8 (x1 : Int), .int .u8 (x2 : Int), .int .u8 (x3 : Int), .slice ad4 len4 cap4, .slice ad5 len5 cap5] w (TrueEnd w) := by
  obtain ⟨k0, hk0⟩ : ∃ k0, k0 = x0 % 7 := ⟨_, rfl⟩
  obtain ⟨W0, hW0⟩ : ∃ W0, W0 = x1 % 40 := ⟨_, rfl⟩
  obtain ⟨H0, hH0⟩ : ∃ H0, H0 = x2 % 40 := ⟨_, rfl⟩
  obtain ⟨p, hp⟩ : ∃ p, p = x3 % 7 := ⟨_, rfl⟩
  have t0 : (x0 : Int).tmod 7 = (k0 : Int) := by rw [hk0]; rfl
  have t0' : (x0 : Int) % 7 = (k0 : Int) := by rw [hk0]; rfl
  have t1 : (x1 : Int).tmod 40 = (W0 : Int) := by rw [hW0]; rfl
  have t1' : (x1 : Int) % 40 = (W0 : Int) := by rw [hW0]; rfl
  have t2 : (x2 : Int).tmod 40 = (H0 : Int) := by rw [hH0]; rfl
  have t2' : (x2 : Int) % 40 = (H0 : Int) := by rw [hH0]; rfl
  have t3 : (x3 : Int).tmod 7 = (p : Int) := by rw [hp]; rfl
  have t3' : (x3 : Int) % 7 = (p : Int) := by rw [hp]; rfl
  have hk6 : k0 = 6 := by omega
  have hW6 : W0 < 40 := by omega
  have hH6 : H0 < 40 := by omega
  have hp6 : p < 7 := by omega
  clear hk0 hW0 hH0 hp hk7
  obtain ⟨k, hk⟩ : ∃ k, k = k0 + 1 := ⟨_, rfl⟩
  obtain ⟨W, hW⟩ : ∃ W, W = W0 + 1 := ⟨_, rfl⟩
  obtain ⟨H, hH⟩ : ∃ H, H = H0 + 1 := ⟨_, rfl⟩
  have s0 : (1 : Int) + (k0 : Int) = (k : Int) := by omega
  have s1 : (1 : Int) + (W0 : Int) = (W : Int) := by omega
  have s2 : (1 : Int) + (H0 : Int) = (H : Int) := by omega
  have v0 : IntKind.i64.wrap (x0 : Int) = (x0 : Int) := i64_in _ ⟨by omega, by omega⟩
  have v1 : IntKind.i64.wrap (x1 : Int) = (x1 : Int) := i64_in _ ⟨by omega, by omega⟩
  have v2 : IntKind.i64.wrap (x2 : Int) = (x2 : Int) := i64_in _ ⟨by omega, by omega⟩
  have v3 : IntKind.i64.wrap (x3 : Int) = (x3 : Int) := i64_in _ ⟨by omega, by omega⟩
  have v4 : IntKind.i64.wrap (k0 : Int) = (k0 : Int) := i64_in _ ⟨by omega, by omega⟩
  have v5 : IntKind.i64.wrap (W0 : Int) = (W0 : Int) := i64_in _ ⟨by omega, by omega⟩
  have v6 : IntKind.i64.wrap (H0 : Int) = (H0 : Int) := i64_in _ ⟨by omega, by omega⟩
  have v7 : IntKind.i64.wrap (p : Int) = (p : Int) := i64_in _ ⟨by omega, by omega⟩
  have v8 : IntKind.i64.wrap (k : Int) = (k : Int) := i64_in _ ⟨by omega, by omega⟩
  have v9 : IntKind.i64.wrap (W : Int) = (W : Int) := i64_in _ ⟨by omega, by omega⟩
  have v10 : IntKind.i64.wrap (H : Int) = (H : Int) := i64_in _ ⟨by omega, by omega⟩
  have q1 : decide ((2147483647 : Int) < (len4 : Int)) = false := decide_eq_false (by omega)
  have q2 : decide ((2147483647 : Int) < (len5 : Int)) = false := decide_eq_false (by omega)
  have k1 : 1 ≤ k := by omega
  have k6 : k ≤ 7 := by omega
  have k7 : 7 ≤ k := by omega
  have W1 : 1 ≤ W := by omega
  have W40 : W ≤ 40 := by omega
  have H1 : 1 ≤ H := by omega
  have H40 : H ≤ 40 := by omega
  have e7 : ((k : Int) == 7) = true := by simp; omega
  clear hk hW hH hk6
  go_enter Tryd.func3, Tryd.ntmps3
  go_upto_region 4 with fail
  clear s0 s1 s2 v0 v1 v2 t0 t0' t1 t1' t2 t2' q1 q2 v4 v5 v6
  go_upto_region 5 with (go_at_call 4; refine (pixelBytes_any k (by omega) (by omega) _).mono ?_; rintro e w1 ⟨rfl, rfl⟩)
  obtain ⟨n, hn⟩ : ∃ n, n = nB k := ⟨_, rfl⟩
  rw [← hn]
  have hn1 : 1 ≤ n := by rw [hn]; exact nB_pos k
  have hn8 : n ≤ 8 := by rw [hn]; exact nB_le k
  have HN := Lib.hid hn
  clear hn
  obtain ⟨⟨X, Y, DX, DY⟩, hq⟩ : ∃ q, q = ptOf p := ⟨_, rfl⟩
  have HQ := Lib.hid hq
  have hok := ptOf_ok p
  rw [← hq] at hok
  have HOK := Lib.hid hok
  have HPT : Hid (ptV (ptOf p) = .agg #[.int .i64 (X : Int), .int .i64 (Y : Int), .int .i64 (DX : Int), .int .i64 (DY : Int)]) := Lib.hid (by rw [← hq]; rfl)
  clear hq hok
  go_upto_region 6 with (go_at_call 5; refine (partOf_any p hp6 w).mono ?_; rintro e w2 ⟨he, hb2⟩; rw [HPT.out] at he; subst he)
  obtain ⟨NA, hNA⟩ : ∃ NA, NA = w2.heap.size := ⟨_, rfl⟩
  obtain ⟨w3, hw3⟩ : ∃ w3, w3 = w2.alloc (.cells #[.int .i64 (X : Int), .int .i64 (Y : Int), .int .i64 (DX : Int), .int .i64 (DY : Int)] 25) := ⟨_, rfl⟩
  rw [← hw3, ← hNA]
  have hb3 : Below w.heap.size w w3 := hw3 ▸ hb2.alloc hb2.size _
  have hrow3 : w3.heap[NA]? = some (.cells #[.int .i64 (X : Int), .int .i64 (Y : Int), .int .i64 (DX : Int), .int .i64 (DY : Int)] 25 (0, 0)) := by rw [hw3, hNA]; exact alloc_at _ _
  have lNA : NA < w3.heap.size := (Array.getElem?_eq_some_iff.1 hrow3).1
  have a0 : w3.cell? ⟨NA, 0, none⟩ = some (.int .i64 (X : Int)) := (cell_of_row w3 _ 0 _ _ _ hrow3).trans rfl
  have a1 : w3.cell? ⟨NA, 1, none⟩ = some (.int .i64 (Y : Int)) := (cell_of_row w3 _ 1 _ _ _ hrow3).trans rfl
  have a2 : w3.cell? ⟨NA, 2, none⟩ = some (.int .i64 (DX : Int)) := (cell_of_row w3 _ 2 _ _ _ hrow3).trans rfl
  have a3 : w3.cell? ⟨NA, 3, none⟩ = some (.int .i64 (DY : Int)) := (cell_of_row w3 _ 3 _ _ _ hrow3).trans rfl
  have HB3 := Lib.hid hb3
  have HR3 := Lib.hid hrow3
  clear hNA hw3 hb3 hrow3 hb2
  go_upto_region 7 with (go_at_call 6; refine (size_any ⟨X, Y, DX, DY⟩ HOK.out W H W40 H40 w3).mono ?_; rintro e w4 ⟨pw, ph, rfl, hfx, hfy, hpw, hph, hb4⟩)
  have HF : Hid (Fits ⟨X, Y, DX, DY⟩ W H n pw ph) := Lib.hid ⟨HOK.out, hfx, hfy, W40, H40, hn1, hn8, hpw, hph⟩
  obtain ⟨N5, hN5⟩ : ∃ N5, N5 = w4.heap.size := ⟨_, rfl⟩
  obtain ⟨w5, hw5⟩ : ∃ w5, w5 = w4.alloc (.cells #[] 31) := ⟨_, rfl⟩
  have hb45 : Below w4.heap.size w4 w5 := hw5 ▸ (Below.refl _ _).alloc (Nat.le_refl _) _
  have h35 : Below w3.heap.size w3 w5 := hb4.trans (hb45.mono hb4.size)
  have lN5 : N5 < w5.heap.size := by rw [hw5, hN5, size_alloc]; omega
  have HW5 := Lib.hid hw5
  have hN5w : w3.heap.size ≤ N5 := by rw [hN5]; exact hb4.size
  have HOWN0 : Hid (w5.ownsRow N5 31 4 (.slice (some ⟨N5, 0, none⟩) 0 0) 0 (shAll [])) := Lib.hid (by rw [hw5, hN5]; exact World.ownsRow_lit w4 #[] 0 (Nat.le_refl _) (by unfold maxLen; omega) rfl)
  have HN5 := Lib.hid hN5
  have H35 := Lib.hid h35
  have HB5 : Hid (Below w.heap.size w w5) := Lib.hid (HB3.out.trans (h35.mono HB3.out.size))
  clear a0 a1 a2 a3 hfx hfy hb4 hb45 h35 hw5 hN5
  go_upto_region 9 with fail
  rw [← HW5.out, ← HN5.out]
  clear HW5 HN5
  have hbN5 : w3.heap.size ≤ N5 := hN5w
  go_loopw [20, 62] (fun v i wr => ∃ (t : Nat) (SS : List Sh), t ≤ 256 ∧ i = .int .i64 (t : Int) ∧ Hid (SS.length = t) ∧ wr.ownsRow N5 31 4 v t (shAll SS) ∧ Below N5 w5 wr) (fun _ i _ => 256 - (intOf i).toNat)
  case atStart => exact ⟨0, [], Nat.zero_le _, rfl, Lib.hid rfl, HOWN0.out, Below.refl _ _⟩
  case round =>
    obtain ⟨t, SS, ht, rfl, HSS, hown, hbel⟩ := hrel
    by_cases hlt : t < 256
    · obtain ⟨sh, hsh⟩ : ∃ sh : Sh, sh = ⟨UInt8.ofNat t, UInt8.ofNat (255 - t), 7, 255⟩ := ⟨_, rfl⟩
      have r1 : sh.r.toNat = t := by rw [hsh]; simp; omega
      have r2 : sh.g.toNat = 255 - t := by rw [hsh]; simp; omega
      have r3 : sh.b.toNat = 7 := by rw [hsh]; rfl
      have r4 : sh.a.toNat = 255 := by rw [hsh]; rfl
      have x1 : IntKind.u8.wrap (t : Int) = (sh.r.toNat : Int) := by rw [r1]; exact u8_in _ ⟨by omega, by omega⟩
      have x3 : IntKind.i64.wrap (255 - (t : Int)) = 255 - (t : Int) := i64_in _ ⟨by omega, by omega⟩
      have x2 : IntKind.u8.wrap (255 - (t : Int)) = (sh.g.toNat : Int) := by rw [r2]; rw [u8_in (255 - (t : Int)) ⟨by omega, by omega⟩]; omega
      have hbw : Below wr.heap.size wr (wr.alloc (.cells #[.int .u8 (sh.r.toNat : Int), .int .u8 (sh.g.toNat : Int), .int .u8 7, .int .u8 255] 31)) := (Below.refl _ _).alloc (Nat.le_refl _) _
      have hAt := shade_at wr sh 31 wr.heap.size rfl
      rw [r3, r4] at hAt
      have HAT := Lib.hid hAt
      have HOW := Lib.hid hown
      have HBL2 := Lib.hid hbel
      have HBW := Lib.hid hbw
      have hN5r : N5 ≤ wr.heap.size := by have := hbel.size; omega
      have HNX : Hid (shAll (SS ++ [sh]) = shAll SS ++ shC sh) := Lib.hid (by simp [shAll])
      have HSN : Hid ((SS ++ [sh]).length = t + 1) := Lib.hid (by rw [List.length_append, HSS.out]; rfl)
      clear hsh r1 r2 r3 r4 hbw hAt hown hbel
      go_wp2_with (at_builtin; refine wpList_append_shade rfl (.tmp 67) (.tmp 74) rfl N5 _ t (shAll SS) sh rfl (ownsRow_below HOW.out HBW.out) ⟨wr.heap.size, 0, none⟩ 1 rfl HAT.out (by omega) (by rw [size_alloc]; omega) ?_; intro v2 w2' ho2 hb2')
      go_roundw
      case rel => exact ⟨t + 1, SS ++ [sh], by omega, by go_num, HSN, by rw [HNX.out]; exact ho2, (HBL2.out.trans (HBW.out.mono hN5r)).trans hb2'⟩
      case measure => simp [intOf]; omega
    · obtain rfl : 256 = t := by omega
      clear hlt ht e7
      obtain ⟨P, pc, rfl, hPb, hPS⟩ := inS_of_owns hown HSS.out (by omega)
      obtain ⟨wq, rfl⟩ : ∃ q, q = wr := ⟨_, rfl⟩
      have H35n : Hid (Below w3.heap.size w3 wq) := Lib.hid (H35.out.trans (hbel.mono hbN5))
      have HB5n : Hid (Below w.heap.size w wq) := Lib.hid (HB5.out.trans (hbel.mono (by have := HB3.out.size; omega)))
      have HAV : Hid (AvOk k (.slice (some ⟨P, 0, none⟩) 256 pc) wq) := Lib.hid (fun _ => ⟨_, _, SS, rfl, hPS⟩)
      clear H35 HB5 HOWN0 hown hbel hPS hPb HSS
      obtain ⟨H35, HB5⟩ := And.intro H35n HB5n
      clear H35n HB5n
      obtain ⟨WH, hWH⟩ : ∃ WH, WH = W * H := ⟨_, rfl⟩
      obtain ⟨L1, hL1⟩ : ∃ L1, L1 = WH * n := ⟨_, rfl⟩
      obtain ⟨PP, hPP⟩ : ∃ PP, PP = pw * ph := ⟨_, rfl⟩
      obtain ⟨M2, hM2⟩ : ∃ M2, M2 = PP * n := ⟨_, rfl⟩
      obtain ⟨S1, hS1⟩ : ∃ S1, S1 = W * n := ⟨_, rfl⟩
      obtain ⟨S2, hS2⟩ : ∃ S2, S2 = pw * n := ⟨_, rfl⟩
      have hWHb : WH ≤ 40 * 40 := by rw [hWH]; exact Nat.mul_le_mul W40 H40
      have hWH1 : 1 * 1 ≤ WH := by rw [hWH]; exact Nat.mul_le_mul W1 H1
      have hL1b : L1 ≤ 40 * 40 * 8 := by rw [hL1]; exact Nat.mul_le_mul hWHb hn8
      have hL11 : 1 * 1 * 1 ≤ L1 := by rw [hL1]; exact Nat.mul_le_mul hWH1 hn1
      have hPPb : PP ≤ 40 * 40 := by rw [hPP]; exact Nat.mul_le_mul hpw hph
      have hM2b : M2 ≤ 40 * 40 * 8 := by rw [hM2]; exact Nat.mul_le_mul hPPb hn8
      have hS1b : S1 ≤ 40 * 8 := by rw [hS1]; exact Nat.mul_le_mul W40 hn8
      have hS2b : S2 ≤ 40 * 8 := by rw [hS2]; exact Nat.mul_le_mul hpw hn8
      have m1 : (W : Int) * (H : Int) = (WH : Int) := by rw [hWH]; rfl
      have m2 : (WH : Int) * (n : Int) = (L1 : Int) := by rw [hL1]; rfl
      have m3 : (pw : Int) * (ph : Int) = (PP : Int) := by rw [hPP]; rfl
      have m4 : (PP : Int) * (n : Int) = (M2 : Int) := by rw [hM2]; rfl
      have m5 : (W : Int) * (n : Int) = (S1 : Int) := by rw [hS1]; rfl
      have m6 : (pw : Int) * (n : Int) = (S2 : Int) := by rw [hS2]; rfl
      have u1 : IntKind.i64.wrap (WH : Int) = (WH : Int) := i64_in _ ⟨by omega, by omega⟩
      have u2 : IntKind.i64.wrap (L1 : Int) = (L1 : Int) := i64_in _ ⟨by omega, by omega⟩
      have u3 : IntKind.i64.wrap (PP : Int) = (PP : Int) := i64_in _ ⟨by omega, by omega⟩
      have u4 : IntKind.i64.wrap (M2 : Int) = (M2 : Int) := i64_in _ ⟨by omega, by omega⟩
      have u5 : IntKind.i64.wrap (S1 : Int) = (S1 : Int) := i64_in _ ⟨by omega, by omega⟩
      have u6 : IntKind.i64.wrap (S2 : Int) = (S2 : Int) := i64_in _ ⟨by omega, by omega⟩
      have HL1 : Hid (L1 = W * H * n) := Lib.hid (by rw [hL1, hWH])
      have HM2 : Hid (M2 = pw * ph * n) := Lib.hid (by rw [hM2, hPP])
      have HS1 := Lib.hid hS1
      clear hWH hL1 hPP hM2 hS1 hS2
      have HNE : Hid (fillL l4 L1 ≠ []) := Lib.hid (fun e => by have := fillL_len l4 L1; rw [e] at this; simp at this; omega)
      go_upto_region 15 with (go_at_call 7; refine (filled_any len4 cap4 L1 ad4 l4 wq h4.out.hlen (h4.out.rb.below HB5.out) (by omega) c4).mono ?_; rintro e w6 ⟨v6, rfl, -, ho6, hb6⟩; obtain ⟨p1, n1, cap1, post, rfl, hl1, hp1, hnc1, hcm1, hseg6, -⟩ := ho6.seg HNE.out)
      obtain rfl : L1 = n1 := by have := hl1.out; rw [fillL_len] at this; exact this
      have HB6 : Hid (Below w.heap.size w w6) := Lib.hid (HB5.out.trans (hb6.mono HB5.out.size))
      have hs56 := hb6.size
      have hwp1 : w.heap.size ≤ p1 := by have := HB5.out.size; omega
      have hlp1 := hseg6.lt
      have HSEG6 := Lib.hid hseg6
      have H56 := Lib.hid hb6
      clear hseg6 ho6 hb6 hl1
      go_upto_region 16 with (go_at_call 7; refine (filled_any len5 cap5 M2 ad5 l5 w6 h5.out.hlen (h5.out.rb.below HB6.out) (by omega) c5).mono ?_; rintro e w7 ⟨v7, rfl, hnv7, ho7, hb7⟩; obtain ⟨ad7, n7, cap2, rfl, hl7, hr7, hnc7, hcm7, hnil7, hsome7⟩ := ho7.shapeN)
      obtain rfl : M2 = n7 := by have := hl7.out; rw [fillL_len] at this; exact this
      obtain ⟨⟨p2, o2, s2⟩, rfl⟩ : ∃ a, ad7 = some a := by
        cases ad7 with
        | none => exact absurd (by obtain ⟨e1, e2⟩ := hnil7 rfl; rw [e1, e2]) hnv7
        | some a => exact ⟨a, rfl⟩
      obtain ⟨hp2a, hp2b, hp2c, hp2d⟩ := hsome7 _ rfl
      simp only at hp2a hp2b hp2c hp2d
      subst hp2c hp2d
      have hs67 := hb7.size
      have HB7 : Hid (Below w.heap.size w w7) := Lib.hid (HB6.out.trans (hb7.mono HB6.out.size))
      have HSEG7 := Lib.hid (HSEG6.out.below hb7 hlp1)
      have HR7 := Lib.hid hr7
      have H57 : Hid (Below wq.heap.size wq w7) := Lib.hid (H56.out.trans (hb7.mono hs56))
      obtain ⟨B, hB⟩ : ∃ B, B = fillL l4 L1 := ⟨_, rfl⟩
      obtain ⟨src, hsrc⟩ : ∃ src, src = fillL l5 M2 := ⟨_, rfl⟩
      have HBL : Hid (B.length = L1) := Lib.hid (by rw [hB, fillL_len])
      have HSL : Hid (src.length = pw * ph * n) := Lib.hid (by rw [hsrc, fillL_len, HM2.out])
      rw [← hB] at HSEG7
      rw [← hsrc] at HR7
      have HI7 := Lib.hid (inter_below hI.out HB7.out)
      have HAV7 : Hid (AvOk k (.slice (some ⟨P, 0, none⟩) 256 pc) w7) := Lib.hid (fun h => by obtain ⟨aa, ac, SS, e1, e2⟩ := HAV.out h; exact ⟨aa, ac, SS, e1, e2.below H57.out⟩)
      have HRB7 : Hid (RB w7 (some ⟨p1, 0, none⟩) B) := Lib.hid (HSEG7.out.rb (o := 0) rfl)
      clear hB hsrc hb7 ho7 hnv7 hr7 hnil7 hsome7 HSEG6 H56 hl7 HNE HAV HB6
      go_upto_region 17 with (go_at_call 8; refine (implMerge_any k n p ⟨X, Y, DX, DY⟩ W H pw ph L1 S1 S2 cap1 M2 cap2 (some ⟨p1, 0, none⟩) (some ⟨p2, 0, none⟩) (.slice (some ⟨P, 0, none⟩) 256 pc) B src w7 (by omega) (by omega) HN HF hp6 HQ HI7.out HS1 HL1 HBL HSL HM2 HRB7.out HR7.out (by omega) (fun e => by cases e) (fun e => by cases e) HAV7.out).mono ?_; rintro e w8 ⟨v8, a6, n6, c6, he, ho8, hb8⟩; obtain ⟨a8, n8, c8, rfl, hl8, hr8, -, -, -, hsome8⟩ := ho8.shapeN; unfold pcV at he; subst he)
      have hs78 := hb8.size
      obtain ⟨N9, hN9⟩ : ∃ N9, N9 = w8.heap.size := ⟨_, rfl⟩
      obtain ⟨w9, hw9⟩ : ∃ w9, w9 = w8.alloc (.cells #[.int .i64 (k : Int), .int .i64 0, .int .i64 0, .int .i64 (W : Int), .int .i64 (H : Int), .int .i64 (S1 : Int), .slice a8 n8 c8, .slice a6 n6 c6] 34) := ⟨_, rfl⟩
      rw [← hw9, ← hN9]
      have hb89 : Below w8.heap.size w8 w9 := hw9 ▸ (Below.refl _ _).alloc (Nat.le_refl _) _
      have hrow9 : w9.heap[N9]? = some (.cells #[.int .i64 (k : Int), .int .i64 0, .int .i64 0, .int .i64 (W : Int), .int .i64 (H : Int), .int .i64 (S1 : Int), .slice a8 n8 c8, .slice a6 n6 c6] 34 (0, 0)) := by rw [hw9, hN9]; exact alloc_at _ _
      have lN9 : N9 < w9.heap.size := (Array.getElem?_eq_some_iff.1 hrow9).1
      have hb79 : Below w7.heap.size w7 w9 := hb8.trans (hb89.mono hs78)
      have HSEG9 := Lib.hid (HSEG7.out.below hb79 (by omega))
      have HRS9 := Lib.hid (HR7.out.below hb79)
      have HR8 := Lib.hid (hr8.below hb89)
      have HROW9 := Lib.hid hrow9
      have HA9 := Lib.hid (((H35.out.trans (H57.out.mono H35.out.size)).trans (hb79.mono (by have := H35.out.size; omega))).block NA lNA |>.trans HR3.out)
      have HB9 : Hid (Below w.heap.size w w9) := Lib.hid (HB7.out.trans (hb79.mono HB7.out.size))
      have hs89 : w8.heap.size ≤ w9.heap.size := hb89.size
      have hn9a : N9 ≠ p1 := by omega
      have hs35 := H35.out.size
      have hn9b : NA ≠ p1 := by omega
      have hNA9 : NA < w9.heap.size := by omega
      have hp12 : p1 ≠ p2 := by omega
      have H8P : Hid (∀ a, a8 = some a → a.block ≠ p1 ∧ a.spot = none) := Lib.hid (fun a ha => ⟨by have := (hsome8 a ha).1; omega, (hsome8 a ha).2.2.2⟩)
      have HL8 := Lib.hid hl8.out
      clear hN9 hw9 hb89 hrow9 hb79 ho8 hb8 hr8 hsome8 hl8 HSEG7 HR7 HI7 HAV7 HRB7 H57 H35 HR3 HPT hI h4 h5 HB3 HB5 HB7
      clear m1 m2 m3 m4 m6 u1 u2 u3 u4 u6 t3 t3' v3 v7 v8
      go_upto_region 18 with fail
      go_loopw [114] (fun yv wr => ∃ y : Nat, y ≤ ph ∧ yv = .int .i64 (y : Int) ∧ Only p1 w9 wr ∧ Seg wr p1 [] post (allM ⟨X, Y, DX, DY⟩ W n pw src y B)) (fun yv _ => ph - (intOf yv).toNat)
      case atStart => exact ⟨0, Nat.zero_le _, rfl, Only.refl _ _, HSEG9.out⟩
      case round =>
        obtain ⟨y, hy, rfl, hon, hseg⟩ := hrel
        by_cases hlt : y < ph
        · have HON7 := Lib.hid hon
          have HSG := Lib.hid hseg
          clear hon hseg
          go_upto_region 21 with fail
          go_loopw [118] (fun xv wr => ∃ x : Nat, x ≤ pw ∧ xv = .int .i64 (x : Int) ∧ Only p1 w9 wr ∧ Seg wr p1 [] post (rowM ⟨X, Y, DX, DY⟩ W n pw src y x (allM ⟨X, Y, DX, DY⟩ W n pw src y B))) (fun xv _ => pw - (intOf xv).toNat)
          case atStart => exact ⟨0, Nat.zero_le _, rfl, HON7.out, HSG.out⟩
          case round =>
            obtain ⟨x, hx, rfl, hon, hseg⟩ := hrel
            by_cases hxl : x < pw
            · have a0 : wr.cell? ⟨NA, 0, none⟩ = some (.int .i64 (X : Int)) := by rw [hon.cell (p := ⟨NA, 0, none⟩) hn9b]; exact (cell_of_row w9 _ 0 _ _ _ HA9.out).trans rfl
              have a1 : wr.cell? ⟨NA, 1, none⟩ = some (.int .i64 (Y : Int)) := by rw [hon.cell (p := ⟨NA, 1, none⟩) hn9b]; exact (cell_of_row w9 _ 1 _ _ _ HA9.out).trans rfl
              have a2 : wr.cell? ⟨NA, 2, none⟩ = some (.int .i64 (DX : Int)) := by rw [hon.cell (p := ⟨NA, 2, none⟩) hn9b]; exact (cell_of_row w9 _ 2 _ _ _ HA9.out).trans rfl
              have a3 : wr.cell? ⟨NA, 3, none⟩ = some (.int .i64 (DY : Int)) := by rw [hon.cell (p := ⟨NA, 3, none⟩) hn9b]; exact (cell_of_row w9 _ 3 _ _ _ HA9.out).trans rfl
              obtain ⟨yd, hyd⟩ : ∃ yd, yd = y * DY := ⟨_, rfl⟩
              obtain ⟨r, hr⟩ : ∃ r, r = Y + yd := ⟨_, rfl⟩
              obtain ⟨rW, hrW⟩ : ∃ rW, rW = r * W := ⟨_, rfl⟩
              obtain ⟨rX, hrX⟩ : ∃ rX, rX = rW + X := ⟨_, rfl⟩
              obtain ⟨xd, hxd⟩ : ∃ xd, xd = x * DX := ⟨_, rfl⟩
              obtain ⟨z, hz⟩ : ∃ z, z = rX + xd := ⟨_, rfl⟩
              obtain ⟨e, he⟩ : ∃ e, e = z * n := ⟨_, rfl⟩
              obtain ⟨e2, he2⟩ : ∃ e2, e2 = e + n := ⟨_, rfl⟩
              obtain ⟨yp, hyp⟩ : ∃ yp, yp = y * pw := ⟨_, rfl⟩
              obtain ⟨s0, hs0⟩ : ∃ s0, s0 = yp + x := ⟨_, rfl⟩
              obtain ⟨i2, hi2⟩ : ∃ i2, i2 = s0 * n := ⟨_, rfl⟩
              have hE : Hid (e = dstAt ⟨X, Y, DX, DY⟩ W n y x) := Lib.hid (by rw [he, hz, hrX, hrW, hr, hyd, hxd]; rfl)
              have hI2 : Hid (i2 = srcAt pw n y x) := Lib.hid (by rw [hi2, hs0, hyp]; rfl)
              have hE2 : e + n ≤ L1 := by rw [hE.out, HL1.out]; exact HF.out.dst hlt hxl
              have hI3 : i2 + n ≤ M2 := by rw [hI2.out, HM2.out]; exact HF.out.src hlt hxl
              have hrH : r < H := by have := HF.out.y y hlt; simp only at this; omega
              have hxW : X + xd < W := by have := HF.out.x x hxl; simp only at this; omega
              have hrWb : rW ≤ 40 * 40 := by rw [hrW]; exact Nat.mul_le_mul (by omega) W40
              have hypb : yp ≤ 40 * 40 := by rw [hyp]; exact Nat.mul_le_mul (by omega) hpw
              have m1 : (y : Int) * (DY : Int) = (yd : Int) := by rw [hyd]; rfl
              have m2 : (Y : Int) + (yd : Int) = (r : Int) := by rw [hr]; rfl
              have m3 : (r : Int) * (W : Int) = (rW : Int) := by rw [hrW]; rfl
              have m4 : (rW : Int) + (X : Int) = (rX : Int) := by rw [hrX]; rfl
              have m7 : (x : Int) * (DX : Int) = (xd : Int) := by rw [hxd]; rfl
              have m6 : (rX : Int) + (xd : Int) = (z : Int) := by rw [hz]; rfl
              have m8 : (z : Int) * (n : Int) = (e : Int) := by rw [he]; rfl
              have m9 : (e : Int) + (n : Int) = (e2 : Int) := by rw [he2]; rfl
              have m10 : (y : Int) * (pw : Int) = (yp : Int) := by rw [hyp]; rfl
              have m11 : (yp : Int) + (x : Int) = (s0 : Int) := by rw [hs0]; rfl
              have m12 : (s0 : Int) * (n : Int) = (i2 : Int) := by rw [hi2]; rfl
              have v1 : IntKind.i64.wrap (yd : Int) = (yd : Int) := i64_in _ ⟨by omega, by omega⟩
              have v2 : IntKind.i64.wrap (r : Int) = (r : Int) := i64_in _ ⟨by omega, by omega⟩
              have v3 : IntKind.i64.wrap (rW : Int) = (rW : Int) := i64_in _ ⟨by omega, by omega⟩
              have v4 : IntKind.i64.wrap (rX : Int) = (rX : Int) := i64_in _ ⟨by omega, by omega⟩
              have v5 : IntKind.i64.wrap (xd : Int) = (xd : Int) := i64_in _ ⟨by omega, by omega⟩
              have v6 : IntKind.i64.wrap (z : Int) = (z : Int) := i64_in _ ⟨by omega, by omega⟩
              have v7 : IntKind.i64.wrap (e : Int) = (e : Int) := i64_in _ ⟨by omega, by omega⟩
              have v8 : IntKind.i64.wrap (e2 : Int) = (e2 : Int) := i64_in _ ⟨by omega, by omega⟩
              have v9 : IntKind.i64.wrap (yp : Int) = (yp : Int) := i64_in _ ⟨by omega, by omega⟩
              have v10 : IntKind.i64.wrap (s0 : Int) = (s0 : Int) := i64_in _ ⟨by omega, by omega⟩
              have v11 : IntKind.i64.wrap (i2 : Int) = (i2 : Int) := i64_in _ ⟨by omega, by omega⟩
              have o1 : (0 : Int) ≤ (e : Int) := by omega
              have o2 : (e : Int) ≤ (e2 : Int) := by omega
              have o2' : (e2 : Int) ≤ (cap1 : Int) := by omega
              have o3 : (0 : Int) ≤ (i2 : Int) := by omega
              have o4 : (i2 : Int) ≤ (M2 : Int) := by omega
              have ne3 : ¬ cap1 = e := by omega
              have ne4 : ¬ cap2 = i2 := by omega
              have HE2 := Lib.hid he2
              have HONX := Lib.hid hon
              have HSX := Lib.hid hseg
              have lNr : NA < wr.heap.size := by rw [hon.size]; exact hNA9
              clear hyd hr hrW hrX hxd hz he he2 hyp hs0 hi2 hon hseg
              obtain ⟨M, hM⟩ : ∃ M, M = rowM ⟨X, Y, DX, DY⟩ W n pw src y x (allM ⟨X, Y, DX, DY⟩ W n pw src y B) := ⟨_, rfl⟩
              obtain ⟨px, hpx⟩ : ∃ px, px = pix src pw n y x := ⟨_, rfl⟩
              have hpl : px.length = n := by rw [hpx]; exact HF.out.pix_len HSL.out hlt hxl
              have hMl : M.length = L1 := by rw [hM, HF.out.row_len HSL.out hlt (HF.out.all_len HSL.out (by rw [HBL.out, HL1.out]) y (by omega)) x hx, HL1.out]
              have HRW : Hid (wr.drew.heap[p1]? = some (.cells (cellsB M ++ post).toArray 5 (0, 0))) := Lib.hid (by rw [hM]; exact HSX.out.whole)
              have HSRC : Hid (∀ j v, (cellsB px)[j]? = some v → wr.drew.cell? ((⟨p2, i2, none⟩ : Addr).add j) = some v) := Lib.hid (by
                rw [hpx, hI2.out]
                exact src_of ((HRS9.out.only HONX.out (Ne.symm hp12)).pix pw n y x))
              have HCN : Hid ((cellsB px).length = Nat.min (M2 - i2) (e2 - e)) := Lib.hid (by rw [cellsB_length, hpl, HE2.out]; exact (by omega : n = min (M2 - i2) (e + n - e)))
              have HFIT : Hid (e + (cellsB px).length ≤ (cellsB M ++ post).length) := Lib.hid (by rw [List.length_append, cellsB_length, cellsB_length, hpl, hMl]; omega)
              have HNX : Hid (rowM ⟨X, Y, DX, DY⟩ W n pw src y (x + 1) (allM ⟨X, Y, DX, DY⟩ W n pw src y B) = splice M e px) := Lib.hid (by rw [rowM, ← hM, ← hpx, ← hE.out])
              have HOF : Hid (e + px.length ≤ M.length) := Lib.hid (by rw [hpl, hMl]; exact hE2)
              clear hM hpx hpl hMl
              go_upto_region 24 with fail
              go_region_law (refine step_copy_only rfl (.tmp 145) (.tmp 154) 22 22 rfl 5 (by kernel_rfl) (by kernel_rfl) p1 e (e2 - e) (cap1 - e) ⟨p2, i2, none⟩ (M2 - i2) (cap2 - i2) (by simp [Act.eval, Act.put]) (by simp [Act.eval, Act.put]) (cellsB M ++ post) 5 HRW.out (cellsB px) HCN.out HSRC.out HFIT.out (cellsB_one _) ?_; intro wn HG hon2)
              all_goals
                have hs9 : Hid (Seg wn p1 [] post (rowM ⟨X, Y, DX, DY⟩ W n pw src y (x + 1) (allM ⟨X, Y, DX, DY⟩ W n pw src y B))) := Lib.hid (by rw [HNX.out]; exact Seg.ofSplice HOF.out HG.out)
                have ho9 : Hid (Only p1 w9 wn) := Lib.hid (HONX.out.drew.trans hon2)
                clear HG hon2
                go_wp2_with fail
                go_roundw
                case rel => exact ⟨x + 1, by omega, by go_num, ho9.out, hs9.out⟩
                case measure => simp [intOf]; omega
            · obtain rfl : pw = x := by omega
              have HONX := Lib.hid hon
              have HSX := Lib.hid hseg
              clear hon hseg
              go_wp2_with fail
              go_roundw
              case rel => exact ⟨y + 1, by omega, by go_num, HONX.out, HSX.out⟩
              case measure => simp [intOf]; omega
        · obtain rfl : ph = y := by omega
          have g0 : wr.cell? ⟨N9, 0, none⟩ = some (.int .i64 (k : Int)) := by rw [hon.cell (p := ⟨N9, 0, none⟩) hn9a]; exact (cell_of_row w9 _ 0 _ _ _ HROW9.out).trans rfl
          have g1 : wr.cell? ⟨N9, 1, none⟩ = some (.int .i64 0) := by rw [hon.cell (p := ⟨N9, 1, none⟩) hn9a]; exact (cell_of_row w9 _ 1 _ _ _ HROW9.out).trans rfl
          have g2 : wr.cell? ⟨N9, 2, none⟩ = some (.int .i64 0) := by rw [hon.cell (p := ⟨N9, 2, none⟩) hn9a]; exact (cell_of_row w9 _ 2 _ _ _ HROW9.out).trans rfl
          have g3 : wr.cell? ⟨N9, 3, none⟩ = some (.int .i64 (W : Int)) := by rw [hon.cell (p := ⟨N9, 3, none⟩) hn9a]; exact (cell_of_row w9 _ 3 _ _ _ HROW9.out).trans rfl
          have g4 : wr.cell? ⟨N9, 4, none⟩ = some (.int .i64 (H : Int)) := by rw [hon.cell (p := ⟨N9, 4, none⟩) hn9a]; exact (cell_of_row w9 _ 4 _ _ _ HROW9.out).trans rfl
          have g5 : wr.cell? ⟨N9, 5, none⟩ = some (.int .i64 (S1 : Int)) := by rw [hon.cell (p := ⟨N9, 5, none⟩) hn9a]; exact (cell_of_row w9 _ 5 _ _ _ HROW9.out).trans rfl
          have g6 : wr.cell? ⟨N9, 6, none⟩ = some (.slice a8 n8 c8) := by rw [hon.cell (p := ⟨N9, 6, none⟩) hn9a]; exact (cell_of_row w9 _ 6 _ _ _ HROW9.out).trans rfl
          have hr8w : RB wr a8 (allM ⟨X, Y, DX, DY⟩ W n pw src ph B) := by
            intro hne
            obtain ⟨b, o, eb, hc⟩ := HR8.out hne
            refine ⟨b, o, eb, fun j hj => ?_⟩
            rw [hon.cell (p := ⟨b, o + j, none⟩) (H8P.out _ eb).1]
            exact hc j hj
          obtain ⟨M, hM⟩ : ∃ M, M = allM ⟨X, Y, DX, DY⟩ W n pw src ph B := ⟨_, rfl⟩
          rw [← hM] at hr8w hseg HL8
          have hMl : Hid (M.length = L1) := Lib.hid (by rw [hM, HF.out.all_len HSL.out (by rw [HBL.out, HL1.out]) ph (Nat.le_refl _), HL1.out])
          have cv1 := conv_bytes (cap := c8) hr8w (Lib.hid HL8.out)
          have cv2 := conv_bytes (cap := cap1) (hseg.rb (o := 0) rfl) hMl
          have HBN := Lib.hid (HB9.out.trans (hon.below hwp1))
          have lN9r : N9 < wr.heap.size := by rw [hon.size]; exact lN9
          clear hon hseg hM hr8w
          go_wp2_with fail
          go_ret
          exact ⟨rfl, HBN.out⟩
end Go.Proofs.YtcfafomnoejemaaDoor
