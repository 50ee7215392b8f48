/- The contracts of ZZHeader and of the thin package's Header. -/
import Derived.Test.YtiiipmcjbibgoaaDoorWIhdr
namespace Go.Proofs.YtiiipmcjbibgoaaDoor
open Go.ChangeShapes Go.WideShapes Go.ChangeAt Go.RowKit Go.IntWalk

theorem eC_walk3 (bb : Nat) (m cb : Value) : ((Tryd.zeroCells111.setIfInBounds 1 (.pointer (some ⟨bb, 0, none⟩))).setIfInBounds 2 m).setIfInBounds 3 cb = eC bb m cb := by kernel_rfl
def ZHdEnd (k wd ht : Nat) (w : World) (e : Ending) (w' : World) : Prop :=
  ∃ v, e = .returned (.tuple #[v, .nilIface]) ∧ OwnB w' w.heap.size v (chunk ihdrName (headBytes wd ht (UInt8.ofNat (kDp k)) (UInt8.ofNat (kCt k)) 0 0 0)) ∧ Below w.heap.size w w'

set_option maxHeartbeats 3200000 in
set_option maxRecDepth 100000 in
theorem zzHeader_any (k wd ht : Nat) (w : World) (hk : wKind k) (hw : wd < 2147483648) (hh : ht < 2147483648) (htab : Tab w) :
    Calls Tryd.prog 36 #[.int .i64 (k : Int), .int .i64 (wd : Int), .int .i64 (ht : Int)] w (ZHdEnd k wd ht w) := by
  obtain ⟨H, hb0⟩ := begun_wst w (.iface 118 (rectV wd ht)) (.int .i64 (k : Int)) none [] htab (.inl ⟨(fun _ h => by cases h), RB.nil _ _⟩)
  have HB0 := Lib.hid hb0
  clear hb0 htab
  go_enter Tryd.func36, Tryd.ntmps36
  go_upto_region 3 with fail
  rw [eC_walk3]
  change Code.wp _ _ _ _ (begunE w (.iface 118 (rectV wd ht)) (.int .i64 (k : Int)))
  obtain ⟨w1, hw1⟩ : ∃ q, q = begunE w (.iface 118 (rectV wd ht)) (.int .i64 (k : Int)) := ⟨_, rfl⟩
  rw [← hw1] at H HB0 ⊢
  clear hw1
  generalize hG : w.heap.size = G at H HB0 ⊢
  have HG := Lib.hid hG
  clear hG
  go_wp2_with fail
  refine (writeIHDR_any G (G + 1) G k wd ht [] _ w1 H (by simp) hk hw hh rfl rfl rfl rfl).mono ?_
  rintro e w2 ⟨rfl, d', hhd, henc, hbuf, htab, hbel⟩
  have HB2 : Hid (Below G w w2) := Lib.hid (HB0.out.trans hbel)
  have k4 := henc.hd_cell 4 (v := .nilIface) (by rw [hhd]; rfl)
  rw [List.nil_append] at hbuf
  obtain ⟨ch, hch⟩ : ∃ ch, ch = chunk ihdrName (headBytes wd ht (UInt8.ofNat (kDp k)) (UInt8.ofNat (kCt k)) 0 0 0) := ⟨_, rfl⟩
  rw [← hch] at hbuf
  have HCH := Lib.hid hch
  have HBF : Buf G G ch w2.drew := hbuf.drew
  clear H HB0 hbel hbuf htab henc hhd hch
  go_wp2_with fail
  go_region_with ((go_at_call 43; refine (Tryd.Buffer_Bytes G G _ w2.drew HBF).mono ?_; rintro e w3 ⟨v, rfl, hown, q, rfl⟩))
  all_goals
    have hown2 : OwnB (w2.drew.drewN q) w.heap.size v ch := by
      unfold OwnB
      rw [cellsB_length] at hown
      rw [HG.out]
      exact hown
    have hb3 : Below w.heap.size w (w2.drew.drewN q) := by
      have := HB2.out
      rw [HG.out]
      exact ⟨this.os, this.tape, this.output, this.size, this.block⟩
    have HO := Lib.hid hown2
    have HB3 := Lib.hid hb3
    clear hown hown2 hb3 HBF
    go_wp2_with fail
    go_ret2
    exact ⟨v, rfl, by rw [← HCH.out]; exact HO.out, ⟨HB3.out.os, HB3.out.tape, HB3.out.output, HB3.out.size, HB3.out.block⟩⟩

def IHdEnd (k wd ht : Nat) (w : World) (e : Ending) (w' : World) : Prop :=
  ∃ v, e = .returned (.tuple #[v, .bool true]) ∧ OwnB w' w.heap.size v (chunk ihdrName (headBytes wd ht (UInt8.ofNat (kDp k)) (UInt8.ofNat (kCt k)) 0 0 0)) ∧ Below w.heap.size w w'

set_option maxHeartbeats 1600000 in
set_option maxRecDepth 100000 in
theorem implHeader_any (c d k wd ht : Nat) (w : World) (hc : c ≤ 255) (hd : d ≤ 255) (hk : Hid (rk (100 * c + d) = k)) (hk2 : wKind k) (hw : wd < 2147483648) (hh : ht < 2147483648) (htab : Tab w) :
    Calls Tryd.prog 24 #[.int .i64 (c : Int), .int .i64 (d : Int), .int .i64 (wd : Int), .int .i64 (ht : Int)] w (IHdEnd k wd ht w) := by
  go_enter Tryd.func24, Tryd.ntmps24
  go_wp2_with (go_at_call 27; refine (rowKind_any c d hc (by omega) w).mono ?_; rw [hk.out]; rintro e w5 ⟨rfl, rfl⟩)
  refine (zzHeader_any k wd ht w hk2 hw hh htab).mono ?_
  rintro e w2 ⟨v2, rfl, ho2, hb2⟩
  obtain ⟨ch, hch⟩ : ∃ ch, ch = chunk ihdrName (headBytes wd ht (UInt8.ofNat (kDp k)) (UInt8.ofNat (kCt k)) 0 0 0) := ⟨_, rfl⟩
  have hcl : ch.length = 25 := by rw [hch, chunk_length _ _ rfl]; rfl
  rw [← hch] at ho2
  have HCH := Lib.hid hch
  have HB2 : Hid (Below w.heap.size w w2) := Lib.hid hb2
  obtain ⟨a2, n2, c2, rfl, hm2, hr2, -, -, hnl2, -⟩ := ho2.shapeN
  have hn2 : n2 = 25 := by have h1 := hm2.out; omega
  subst hn2
  clear hb2 ho2 hch hcl
  go_wp2_with fail
  refine (clone_any a2 25 c2 _ hm2 w2 (by omega) hr2 hnl2).mono ?_
  rintro e w3 ⟨v3, rfl, ho3, hb3, -⟩
  have HB3 : Hid (Below w.heap.size w w3) := Lib.hid (HB2.out.trans (hb3.mono HB2.out.size))
  have HO3 := Lib.hid (ho3.mono HB2.out.size)
  clear hb3 ho3 hr2 hnl2
  go_wp2_with fail
  go_ret2
  exact ⟨v3, rfl, by rw [← HCH.out]; exact HO3.out, HB3.out⟩
end Go.Proofs.YtiiipmcjbibgoaaDoor
