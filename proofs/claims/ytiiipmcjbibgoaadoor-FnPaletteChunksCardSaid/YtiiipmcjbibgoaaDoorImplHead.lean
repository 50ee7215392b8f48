/- The contract of the thin package's ReadHeader. -/
import Derived.Test.YtiiipmcjbibgoaaDoorRdHead
namespace Go.Proofs.YtiiipmcjbibgoaaDoor
open Go.ChangeShapes Go.WideShapes Go.ChangeAt Go.RowKit Go.IntWalk

theorem kinds_all (k : Nat) (h1 : k ≤ 15) (h0 : k ≠ 0) : ∃ x ∈ kinds, rk x = k := by
  obtain rfl | rfl | rfl | rfl | rfl | rfl | rfl | rfl | rfl | rfl | rfl | rfl | rfl | rfl | rfl : k = 1 ∨ k = 2 ∨ k = 3 ∨ k = 4 ∨ k = 5 ∨ k = 6 ∨ k = 7 ∨ k = 8 ∨ k = 9 ∨ k = 10 ∨ k = 11 ∨ k = 12 ∨ k = 13 ∨ k = 14 ∨ k = 15 := by omega
  all_goals decide
/-- The table read back. -/
theorem cbOf_kind (dp ct : Nat) (h : cbOf dp ct ≠ 0) : 100 * ct + dp ∈ kinds ∧ rk (100 * ct + dp) = cbOf dp ct ∧ dp < 100 := by
  by_cases z1 : dp = 1
  · subst z1
    by_cases x0 : ct = 0
    · subst x0
      decide
    by_cases x3 : ct = 3
    · subst x3
      decide
    exact absurd (by simp [cbOf, x0, x3]) h
  by_cases z2 : dp = 2
  · subst z2
    by_cases x0 : ct = 0
    · subst x0
      decide
    by_cases x3 : ct = 3
    · subst x3
      decide
    exact absurd (by simp [cbOf, x0, x3]) h
  by_cases z4 : dp = 4
  · subst z4
    by_cases x0 : ct = 0
    · subst x0
      decide
    by_cases x3 : ct = 3
    · subst x3
      decide
    exact absurd (by simp [cbOf, x0, x3]) h
  by_cases z8 : dp = 8
  · subst z8
    by_cases x0 : ct = 0
    · subst x0
      decide
    by_cases x2 : ct = 2
    · subst x2
      decide
    by_cases x3 : ct = 3
    · subst x3
      decide
    by_cases x4 : ct = 4
    · subst x4
      decide
    by_cases x6 : ct = 6
    · subst x6
      decide
    exact absurd (by simp [cbOf, x0, x2, x3, x4, x6]) h
  by_cases z16 : dp = 16
  · subst z16
    by_cases x0 : ct = 0
    · subst x0
      decide
    by_cases x2 : ct = 2
    · subst x2
      decide
    by_cases x4 : ct = 4
    · subst x4
      decide
    by_cases x6 : ct = 6
    · subst x6
      decide
    exact absurd (by simp [cbOf, x0, x2, x4, x6]) h
  exact absurd (by simp [cbOf, z1, z2, z4, z8, z16]) h
theorem rk_inj : ∀ x ∈ kinds, ∀ y ∈ kinds, rk x = rk y → x = y := by decide
theorem cbOf_back (dp ct x : Nat) (hx : x ∈ kinds) (h : rk x = cbOf dp ct) (h0 : cbOf dp ct ≠ 0) : x / 100 = ct ∧ x % 100 = dp := by
  obtain ⟨h1, h2, h3⟩ := cbOf_kind dp ct h0
  have := rk_inj x hx _ h1 (by rw [h2, h])
  omega
/-- What is told of a first chunk by the thin package. -/
def HeadEnd (l : List UInt8) (w : World) (e : Ending) (w' : World) : Prop :=
  Below w.heap.size w w' ∧ ((GoodH l (crcOf ihdrName) ∧ e = .returned (.tuple #[.int .i64 (be4 l : Int), .int .i64 (be4 (l.drop 4) : Int), .int .i64 ((l.getD 9 0).toNat : Int), .int .i64 ((l.getD 8 0).toNat : Int), .int .i64 ((l.getD 12 0).toNat : Int), .int .i64 0])) ∨
    (¬ GoodH l (crcOf ihdrName) ∧ ∃ z : Nat, (z = 1 ∨ z = 2) ∧ e = .returned (.tuple #[.int .i64 0, .int .i64 0, .int .i64 0, .int .i64 0, .int .i64 0, .int .i64 (z : Int)])))

set_option maxHeartbeats 3200000 in
set_option maxRecDepth 100000 in
theorem implReadHeader_any (ad : Option Addr) (cap : Nat) (l : List UInt8) (w : World) (hl : Hid (l.length = 17)) (hr : RB w ad l) (ht : Tab w)
    (hbig : Hid (0 < be4 l → 0 < be4 (l.drop 4) → be4 l * be4 (l.drop 4) ≤ 1125899906842624)) :
    Calls Tryd.prog 18 #[.slice ad 17 cap] w (HeadEnd l w) := by
  go_enter Tryd.func18, Tryd.ntmps18
  go_wp2_with fail
  refine (clone_any ad 17 cap l hl w (by omega) hr (by intro e; subst e; obtain ⟨b, o, e, -⟩ := hr (by have := hl.out; intro e; rw [e] at this; simp at this); cases e)).mono ?_
  rintro e w1 ⟨v1, rfl, ho1, hb1, -⟩
  obtain ⟨a1, m1, c1, rfl, hm1, hr1, hmc, -, -, -⟩ := ho1.shapeN
  obtain rfl : m1 = 17 := by have h1 := hm1.out; have h2 := hl.out; omega
  obtain ⟨sb, so, rfl, -⟩ := hr1 (by have := hl.out; intro e; rw [e] at this; simp at this)
  have HB1 := Lib.hid hb1
  have ht1 := ht.below hb1
  clear ho1 hb1
  go_wp2_with fail
  refine (zzReadHeader_any sb so c1 l w1 hl hr1 hmc ht1 hbig).mono ?_
  rintro e w2 ⟨wd, hgt, k, dp, il, v, rfl, hk, hb2, hend⟩
  have HB2 : Hid (Below w.heap.size w w2) := Lib.hid (HB1.out.trans (hb2.mono HB1.out.size))
  clear hb2 HB1 ht1 hr1
  go_wp2_with fail
  refine (colourOf_any k w2).mono ?_
  rintro e w3 ⟨hb3, hcol⟩
  have HB3 : Hid (Below w.heap.size w w3) := Lib.hid (HB2.out.trans (hb3.mono HB2.out.size))
  clear hb3 HB2
  rcases hend with ⟨rfl, g, e1, e2, e3, e4, e5⟩ | ⟨⟨s, hv⟩, ng⟩
  · rcases hcol with ⟨x, hx, hrk, rfl⟩ | ⟨hno, rfl⟩
    · obtain ⟨b1, b2⟩ := cbOf_back _ _ x hx (hrk.trans e3) g.cb
      obtain ⟨ct, hct⟩ : ∃ ct, ct = x / 100 := ⟨_, rfl⟩
      have hd : dp = x % 100 := e4.trans b2.symm
      rw [← hd, ← hct]
      have D : ((dp : Int) != (dp : Int)) = false := by simp
      have F : Hid (wd = be4 l ∧ hgt = be4 (l.drop 4) ∧ ct = (l.getD 9 0).toNat ∧ dp = (l.getD 8 0).toNat ∧ il = (l.getD 12 0).toNat) := Lib.hid ⟨e1, e2, hct.trans b1, e4, e5⟩
      have G := Lib.hid g
      clear e1 e2 e3 e4 e5 b1 b2 hct hd hrk hx g
      go_wp2_with fail
      refine bodyPost_ret (v := .tuple #[.int .i64 (wd : Int), .int .i64 (hgt : Int), .int .i64 (ct : Int), .int .i64 (dp : Int), .int .i64 (il : Int), .int .i64 0]) (by simp [results, Tryd.results18, go_sem]) rfl ⟨HB3.out, .inl ⟨G.out, ?_⟩⟩
      obtain ⟨f1, f2, f3, f4, f5⟩ := F.out
      rw [f1, f2, f3, f4, f5]
    · exfalso
      obtain ⟨x, hx, hq⟩ := kinds_all k hk (by rw [e3]; exact g.cb)
      exact hno x hx hq
  · have NG := Lib.hid ng
    clear ng
    rcases hcol with ⟨x, hx, hrk, rfl⟩ | ⟨hno, rfl⟩
    all_goals
      first | clear hx hrk | clear hno
      rcases hv with rfl | rfl
      · go_wp2_with (go_at_call 28; refine (partCode_format s w3).mono ?_; rintro e w4 ⟨rfl, rfl⟩)
        exact bodyPost_ret (v := .tuple #[.int .i64 0, .int .i64 0, .int .i64 0, .int .i64 0, .int .i64 0, .int .i64 1]) (by simp [results, Tryd.results18, go_sem]) rfl ⟨HB3.out, .inr ⟨NG.out, 1, .inl rfl, rfl⟩⟩
      · go_wp2_with (go_at_call 28; refine (partCode_feature s w3).mono ?_; rintro e w4 ⟨rfl, rfl⟩)
        exact bodyPost_ret (v := .tuple #[.int .i64 0, .int .i64 0, .int .i64 0, .int .i64 0, .int .i64 0, .int .i64 2]) (by simp [results, Tryd.results18, go_sem]) rfl ⟨HB3.out, .inr ⟨NG.out, 2, .inr rfl, rfl⟩⟩
end Go.Proofs.YtiiipmcjbibgoaaDoor
