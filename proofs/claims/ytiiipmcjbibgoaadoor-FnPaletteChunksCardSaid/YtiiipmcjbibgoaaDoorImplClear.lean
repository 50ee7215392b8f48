/- The contract of the thin package's ReadClear at a sample: without a palette. -/
import Derived.Test.YtiiipmcjbibgoaaDoorRdTrns3
import Derived.Test.YtiiipmcjbibgoaaDoorImplPal
namespace Go.Proofs.YtiiipmcjbibgoaaDoor
open Go.ChangeShapes Go.WideShapes Go.ChangeAt Go.RowKit Go.IntWalk

/-- Whether the sample is taken. -/
def samOk (l : List UInt8) (n k S : Nat) : Prop := ¬ clearBad k n ∧ S = crcOf (trnsName ++ l)
theorem sum_cases (S c : Nat) (hS : S < 4294967296) : (S = c ∧ sumV c (four S) = .nilIface) ∨ (S ≠ c ∧ ∃ s, sumV c (four S) = .iface 94 (.string s)) := by
  unfold sumV
  rw [be4_four2 S hS]
  by_cases hc : S = c
  · exact .inl ⟨hc, by rw [if_pos hc]⟩
  · exact .inr ⟨hc, by rw [if_neg hc]; exact ⟨_, rfl⟩⟩
theorem sam_cases {l : List UInt8} {n k S : Nat} {v : Value} {tr : List UInt8} {ut : Bool} (hl : l.length = n) (hS : S < 4294967296) (h : SamTold (l ++ four S) n k (crcOf trnsName) v tr ut) :
    (samOk l n k S ∧ v = .nilIface ∧ ut = true ∧ tr.take n = l) ∨ (¬ samOk l n k S ∧ ∃ s, v = .iface 94 (.string s)) := by
  have h1 : (l ++ four S).take n = l := by rw [← hl]; simp
  have h2 : ((l ++ four S).drop n).take 4 = four S := by rw [← hl]; simp [four]
  have h4 : crcFrom (crcOf trnsName) l = crcOf (trnsName ++ l) := by unfold crcOf; rw [crcFrom_append]
  unfold SamTold at h
  rw [h1, h2, h4] at h
  rcases h with ⟨hb, ⟨s, rfl⟩, rfl⟩ | ⟨hb, rfl, rfl, htk⟩
  · exact .inr ⟨fun h => h.1 hb, s, rfl⟩
  · rcases sum_cases S (crcOf (trnsName ++ l)) hS with ⟨e, hs⟩ | ⟨e, s, hs⟩
    · exact .inl ⟨⟨hb, e⟩, hs, rfl, htk⟩
    · exact .inr ⟨fun h => e h.2, s, hs⟩
theorem six_lit {tr : List UInt8} (h : tr.length = 6) : ∃ x0 x1 x2 x3 x4 x5 : UInt8, tr = [x0, x1, x2, x3, x4, x5] ∧ six tr = .agg #[.int .u8 (x0.toNat : Int), .int .u8 (x1.toNat : Int), .int .u8 (x2.toNat : Int), .int .u8 (x3.toNat : Int), .int .u8 (x4.toNat : Int), .int .u8 (x5.toNat : Int)] := by
  match tr, h with
  | [a, b, c, d, e, f], _ => exact ⟨a, b, c, d, e, f, rfl, rfl⟩
theorem six_rb (w : World) (x0 x1 x2 x3 x4 x5 : UInt8) (T : TypeId) : RB (w.alloc (.cells #[.int .u8 (x0.toNat : Int), .int .u8 (x1.toNat : Int), .int .u8 (x2.toNat : Int), .int .u8 (x3.toNat : Int), .int .u8 (x4.toNat : Int), .int .u8 (x5.toNat : Int)] T)) (some ⟨w.heap.size, 0, none⟩) [x0, x1, x2, x3, x4, x5] :=
  RB.lit w [x0, x1, x2, x3, x4, x5] T
def ISamEnd (l : List UInt8) (n k S : Nat) (w : World) (e : Ending) (w' : World) : Prop :=
  Below w.heap.size w w' ∧
    ((samOk l n k S ∧ ∃ v0 v tr, e = .returned (.tuple #[v0, v, .bool true, .int .i64 0]) ∧ OwnB w' w.heap.size v tr ∧ tr.length = 6 ∧ tr.take n = l) ∨
     (¬ samOk l n k S ∧ e = .returned (.tuple #[.slice none 0 0, .slice none 0 0, .bool false, .int .i64 1])))

set_option maxHeartbeats 3200000 in
set_option maxRecDepth 100000 in
theorem implReadSam_any (ad : Option Addr) (cap c d n S k : Nat) (l : List UInt8) (w : World) (hl : Hid (l.length = n)) (hr : RB w ad l) (hn0 : ad = none → n = 0 ∧ cap = 0) (ht : Tab w) (hn : n ≤ 1000) (hS : S < 4294967296)
    (hd : d = 1 ∨ d = 2 ∨ d = 4 ∨ d = 8 ∨ d = 16) (hc : c ≤ 255) (hk : Hid (rk (100 * c + d) = k)) (hks : Hid (samKind k)) :
    Calls Tryd.prog 16 #[.int .i64 (c : Int), .int .i64 (d : Int), .slice none 0 0, .slice ad n cap, .int .u32 (S : Int)] w (ISamEnd l n k S w) := by
  have hu : IntKind.u32.signed = false := rfl
  have hd16 : d ≤ 16 := by omega
  have y0 : (0 : Int) ≤ (n : Int) := by omega
  have y1 : IntKind.u32.wrap (n : Int) = (n : Int) := by rw [IntKind.wrap_u32]; omega
  go_enter Tryd.func16, Tryd.ntmps16
  go_wp2_with fail
  refine (clone_any ad n cap l hl w (by omega) hr hn0).mono ?_
  rintro e w1 ⟨v1, rfl, ho1, hb1, -⟩
  have hb4 := four_at w1 S hS 5
  have HB1 := Lib.hid hb1
  clear hb1
  have hol : OwnB (w1.alloc (.cells #[.int .u8 ((S : Int) / 16777216), .int .u8 ((S : Int) / 65536 % 256), .int .u8 ((S : Int) / 256 % 256), .int .u8 ((S : Int) % 256)] 5)) w.heap.size v1 l := ho1.alloc _
  go_wp2_with (at_builtin; refine wpList_append_bytes rfl (.tmp 23) (.tmp 35) rfl w.heap.size _ l (four S) rfl hol (some ⟨w1.heap.size, 0, none⟩) 4 4 rfl rfl hb4 (by intro h; cases h) (by rw [hl.out]; omega) (by rw [size_alloc]; have := HB1.out.size; omega) ?_; intro v4 w4 ho4 hg4 hb5 hnl4; clear hg4 hnl4)
  have HB4 : Hid (Below w.heap.size w w4) := Lib.hid ((HB1.out.alloc HB1.out.size _).trans hb5)
  obtain ⟨m, hm⟩ : ∃ m, m = l ++ four S := ⟨_, rfl⟩
  rw [← hm] at ho4
  have HM := Lib.hid hm
  have hml : m.length = n + 4 := by rw [hm, List.length_append, hl.out, four_len]
  clear hm
  obtain ⟨a4, n4, c4, rfl, hm4, hr4, hmc4, -, -, -⟩ := ho4.shapeN
  obtain rfl : n4 = n + 4 := by have h1 := hm4.out; omega
  obtain ⟨sb, so, rfl, -⟩ := hr4 (by intro e; rw [e] at hml; simp at hml)
  have ht4 := ht.below HB4.out
  clear ho4 hb5 hb4 hol ho1 hr hml HB1
  go_loopw [15, 39] (fun v i wr => v = .slice none 0 0 ∧ i = .int .i64 0 ∧ wr = w4) (fun _ _ _ => 0)
  case atStart => exact ⟨rfl, rfl, rfl⟩
  case round =>
    obtain ⟨rfl, rfl, rfl⟩ := hrel
    go_wp2_with (go_at_call 27; refine (rowKind_any c d hc (by omega) wr).mono ?_; rw [hk.out]; rintro e w5 ⟨rfl, rfl⟩)
    refine (zzReadSample_any k n sb so c4 m wr hm4 hr4 hmc4 ht4 hks.out).mono ?_
    rintro e w5 ⟨v, tr, ut, rfl, htold, htl, hb5⟩
    rw [HM.out] at htold
    have hcase := sam_cases hl.out hS htold
    have HB5 : Hid (Below w.heap.size w w5) := Lib.hid (HB4.out.trans (hb5.mono HB4.out.size))
    obtain ⟨x0, x1, x2, x3, x4, x5, rfl, hsix⟩ := six_lit htl
    rw [hsix]
    clear htold hb5 HB4 hr4 ht4 hsix htl
    rcases hcase with ⟨hok, rfl, rfl, htk⟩ | ⟨hno, s, rfl⟩
    · have HOK := Lib.hid hok
      have HTK := Lib.hid htk
      clear hok htk
      go_upto_region 11 with fail
      have hb6 := HB5.out.alloc HB5.out.size (.cells #[.int .u8 (x0.toNat : Int), .int .u8 (x1.toNat : Int), .int .u8 (x2.toNat : Int), .int .u8 (x3.toNat : Int), .int .u8 (x4.toNat : Int), .int .u8 (x5.toNat : Int)] 66)
      have hr6 := six_rb w5 x0 x1 x2 x3 x4 x5 66
      obtain ⟨w6, hw6⟩ : ∃ w6, w6 = w5.alloc (.cells #[.int .u8 (x0.toNat : Int), .int .u8 (x1.toNat : Int), .int .u8 (x2.toNat : Int), .int .u8 (x3.toNat : Int), .int .u8 (x4.toNat : Int), .int .u8 (x5.toNat : Int)] 66) := ⟨_, rfl⟩
      rw [← hw6] at hb6 hr6 ⊢
      obtain ⟨G, hG⟩ : ∃ G, G = w5.heap.size := ⟨_, rfl⟩
      rw [← hG] at hr6 ⊢
      have hr7 : RB w6.drew (some ⟨G, 0, none⟩) [x0, x1, x2, x3, x4, x5] := hr6
      have HB6 := Lib.hid hb6
      have h66 : Hid (([x0, x1, x2, x3, x4, x5] : List UInt8).length = 6) := Lib.hid rfl
      have hss : Hid (([] : List Sh).length = 0) := Lib.hid rfl
      clear hw6 hG HB5 hr6 hb6
      go_region_with (first
        | (go_at_call 29; refine (shadesOf_any none 0 [] 0 w6.drew hss (fun h => absurd rfl h) (by omega)).mono ?_; rintro e w7 ⟨v7, rfl, ho7, hb7⟩)
        | (go_at_call 25; refine (clone_any (some ⟨G, 0, none⟩) 6 6 _ h66 w7 (by omega) (hr7.below hb7) (by intro h; cases h)).mono ?_; rintro e w8 ⟨v8, rfl, ho8, hb8, -⟩))
      all_goals
        have hb6d : Below w.heap.size w w6.drew := HB6.out.drew
        have HB7 : Hid (Below w.heap.size w w7) := Lib.hid (hb6d.trans (hb7.mono hb6d.size))
        have HB8 : Hid (Below w.heap.size w w8) := Lib.hid (HB7.out.trans (hb8.mono HB7.out.size))
        have HO8 := Lib.hid (ho8.mono HB7.out.size)
        clear hb7 hb8 ho7 ho8 hb6d
        go_wp2_with fail
        exact bodyPost_ret (v := .tuple #[v7, v8, .bool true, .int .i64 0]) (by simp [results, Tryd.results16, go_sem]) rfl ⟨HB8.out, .inl ⟨HOK.out, v7, v8, _, rfl, HO8.out, rfl, HTK.out⟩⟩
    · have HNO := Lib.hid hno
      clear hno
      go_wp2_with (go_at_call 28; refine (partCode_format s _).mono ?_; rintro e w6 ⟨rfl, rfl⟩)
      exact bodyPost_ret (v := .tuple #[.slice none 0 0, .slice none 0 0, .bool false, .int .i64 1]) (by simp [results, Tryd.results16, go_sem]) rfl ⟨HB5.out.alloc HB5.out.size _, .inr ⟨HNO.out, rfl⟩⟩
end Go.Proofs.YtiiipmcjbibgoaaDoor
