/- The contract of imageOf at the kinds without a palette. Printed by gen/mgimg.py. -/
import Derived.Test.YtcfafomnoejemaaDoorMgSpec
import Derived.Test.YtcfafomnoejemaaDoorClone
import Derived.Test.YtcfafomnoejemaaDoorPic
namespace Go.Proofs.YtcfafomnoejemaaDoor
open Go.ChangeShapes Go.WideShapes Go.ChangeAt Go.RowKit Go.IntWalk

def ImgEnd (TP T : TypeId) (ad : Option Addr) (W H S : Nat) (l : List UInt8) (w : World) (e : Ending) (w' : World) : Prop :=
  ∃ v g, e = .returned (.iface TP (.pointer (some ⟨g, 0, none⟩))) ∧ w'.heap[g]? = some (.cells (imgC v W H S).toArray T (0, 0)) ∧ OwnB w' w.heap.size v l ∧ v.ownBlock ≠ some g ∧ w.heap.size ≤ g ∧ (ad ≠ none → v ≠ .slice none 0 0) ∧ Below w.heap.size w w'

set_option maxHeartbeats 1600000 in
set_option maxRecDepth 100000 in
theorem imageOf_1 (W H S n cap : Nat) (ad : Option Addr) (av : Value) (l : List UInt8) (w : World) (hl : Hid (l.length = n)) (hr : RB w ad l) (hn : n ≤ 100000) (hnil : ad = none → n = 0 ∧ cap = 0) :
    Calls Tryd.prog 9 #[pcV 1 W H S (.slice ad n cap) av] w (ImgEnd 48 50 ad W H S l w) := by
  have E : pcV 1 W H S (.slice ad n cap) av = .agg #[.int .i64 1, .int .i64 0, .int .i64 0, .int .i64 (W : Int), .int .i64 (H : Int), .int .i64 (S : Int), .slice ad n cap, av] := rfl
  rw [E]
  clear E
  obtain ⟨w1, hw1⟩ : ∃ w1, w1 = w.alloc (.cells #[.int .i64 1, .int .i64 0, .int .i64 0, .int .i64 (W : Int), .int .i64 (H : Int), .int .i64 (S : Int), .slice ad n cap, av] 34) := ⟨_, rfl⟩
  have hb1 : Below w.heap.size w w1 := hw1 ▸ (Below.refl _ _).alloc (Nat.le_refl _) _
  have hs1 : w1.heap.size = w.heap.size + 1 := by rw [hw1, size_alloc]
  have hc : w1.heap[w.heap.size]? = some (.cells #[.int .i64 1, .int .i64 0, .int .i64 0, .int .i64 (W : Int), .int .i64 (H : Int), .int .i64 (S : Int), .slice ad n cap, av] 34 (0, 0)) := by
    rw [hw1]
    exact alloc_at _ _
  have k6 : w1.cell? ⟨w.heap.size, 6, none⟩ = some (.slice ad n cap) := by simp [World.cell?, hc]
  have HW1 := Lib.hid hw1
  have HC := Lib.hid hc
  have HB1 := Lib.hid hb1
  have HS1 := Lib.hid hs1
  have hr1 := hr.below hb1
  clear hw1 hc hb1 hs1 hr
  go_enter Tryd.func9, Tryd.ntmps9
  go_upto_region 1 with fail
  rw [← HW1.out]
  go_upto_region 2 with (go_at_call 12; refine (clone_any ad n cap l hl w1 (by omega) hr1 hnil).mono ?_; rintro e w2 ⟨v, rfl, ho, hb, hnl⟩)
  have HNL : Hid (ad ≠ none → v ≠ .slice none 0 0) := Lib.hid (fun h e => h (hnl.1 e))
  clear hnl
  obtain ⟨a2, n2, cap2, rfl, -⟩ := ho.shapeN
  have hlt : w.heap.size < w2.heap.size := by have := HS1.out; have := hb.size; omega
  have hc2 : w2.heap[w.heap.size]? = some (.cells #[.int .i64 1, .int .i64 0, .int .i64 0, .int .i64 (W : Int), .int .i64 (H : Int), .int .i64 (S : Int), .slice ad n cap, av] 34 (0, 0)) := (hb.block _ (by rw [HS1.out]; omega)).trans HC.out
  have c0 : w2.cell? ⟨w.heap.size, 0, none⟩ = some (.int .i64 1) := by simp [World.cell?, hc2]
  have c1 : w2.cell? ⟨w.heap.size, 1, none⟩ = some (.int .i64 0) := by simp [World.cell?, hc2]
  have c2 : w2.cell? ⟨w.heap.size, 2, none⟩ = some (.int .i64 0) := by simp [World.cell?, hc2]
  have c3 : w2.cell? ⟨w.heap.size, 3, none⟩ = some (.int .i64 (W : Int)) := by simp [World.cell?, hc2]
  have c4 : w2.cell? ⟨w.heap.size, 4, none⟩ = some (.int .i64 (H : Int)) := by simp [World.cell?, hc2]
  have c5 : w2.cell? ⟨w.heap.size, 5, none⟩ = some (.int .i64 (S : Int)) := by simp [World.cell?, hc2]
  have HO := Lib.hid (ho.mono (show w.heap.size ≤ w1.heap.size by rw [HS1.out]; omega))
  have HB : Hid (Below w.heap.size w w2) := Lib.hid (HB1.out.trans (hb.mono HB1.out.size))
  clear ho hb hc2 k6 hr1
  go_wp2_with fail
  go_ret
  refine ⟨_, w2.heap.size + 1, rfl, ?_, (HO.out.alloc _).alloc _, ?_, by omega, HNL.out, (HB.out.alloc HB.out.size _).alloc (by rw [size_alloc]; have := HB.out.size; omega) _⟩
  · rw [← size_alloc w2 (.cells #[.int .i64 0, .int .i64 0, .int .i64 (W : Int), .int .i64 (H : Int)] 47)]
    exact alloc_at _ _
  · intro e
    have := (World.ownsRow.lt HO.out _ e).2
    omega

set_option maxHeartbeats 1600000 in
set_option maxRecDepth 100000 in
theorem imageOf_2 (W H S n cap : Nat) (ad : Option Addr) (av : Value) (l : List UInt8) (w : World) (hl : Hid (l.length = n)) (hr : RB w ad l) (hn : n ≤ 100000) (hnil : ad = none → n = 0 ∧ cap = 0) :
    Calls Tryd.prog 9 #[pcV 2 W H S (.slice ad n cap) av] w (ImgEnd 51 52 ad W H S l w) := by
  have E : pcV 2 W H S (.slice ad n cap) av = .agg #[.int .i64 2, .int .i64 0, .int .i64 0, .int .i64 (W : Int), .int .i64 (H : Int), .int .i64 (S : Int), .slice ad n cap, av] := rfl
  rw [E]
  clear E
  obtain ⟨w1, hw1⟩ : ∃ w1, w1 = w.alloc (.cells #[.int .i64 2, .int .i64 0, .int .i64 0, .int .i64 (W : Int), .int .i64 (H : Int), .int .i64 (S : Int), .slice ad n cap, av] 34) := ⟨_, rfl⟩
  have hb1 : Below w.heap.size w w1 := hw1 ▸ (Below.refl _ _).alloc (Nat.le_refl _) _
  have hs1 : w1.heap.size = w.heap.size + 1 := by rw [hw1, size_alloc]
  have hc : w1.heap[w.heap.size]? = some (.cells #[.int .i64 2, .int .i64 0, .int .i64 0, .int .i64 (W : Int), .int .i64 (H : Int), .int .i64 (S : Int), .slice ad n cap, av] 34 (0, 0)) := by
    rw [hw1]
    exact alloc_at _ _
  have k6 : w1.cell? ⟨w.heap.size, 6, none⟩ = some (.slice ad n cap) := by simp [World.cell?, hc]
  have HW1 := Lib.hid hw1
  have HC := Lib.hid hc
  have HB1 := Lib.hid hb1
  have HS1 := Lib.hid hs1
  have hr1 := hr.below hb1
  clear hw1 hc hb1 hs1 hr
  go_enter Tryd.func9, Tryd.ntmps9
  go_upto_region 1 with fail
  rw [← HW1.out]
  go_upto_region 2 with (go_at_call 12; refine (clone_any ad n cap l hl w1 (by omega) hr1 hnil).mono ?_; rintro e w2 ⟨v, rfl, ho, hb, hnl⟩)
  have HNL : Hid (ad ≠ none → v ≠ .slice none 0 0) := Lib.hid (fun h e => h (hnl.1 e))
  clear hnl
  obtain ⟨a2, n2, cap2, rfl, -⟩ := ho.shapeN
  have hlt : w.heap.size < w2.heap.size := by have := HS1.out; have := hb.size; omega
  have hc2 : w2.heap[w.heap.size]? = some (.cells #[.int .i64 2, .int .i64 0, .int .i64 0, .int .i64 (W : Int), .int .i64 (H : Int), .int .i64 (S : Int), .slice ad n cap, av] 34 (0, 0)) := (hb.block _ (by rw [HS1.out]; omega)).trans HC.out
  have c0 : w2.cell? ⟨w.heap.size, 0, none⟩ = some (.int .i64 2) := by simp [World.cell?, hc2]
  have c1 : w2.cell? ⟨w.heap.size, 1, none⟩ = some (.int .i64 0) := by simp [World.cell?, hc2]
  have c2 : w2.cell? ⟨w.heap.size, 2, none⟩ = some (.int .i64 0) := by simp [World.cell?, hc2]
  have c3 : w2.cell? ⟨w.heap.size, 3, none⟩ = some (.int .i64 (W : Int)) := by simp [World.cell?, hc2]
  have c4 : w2.cell? ⟨w.heap.size, 4, none⟩ = some (.int .i64 (H : Int)) := by simp [World.cell?, hc2]
  have c5 : w2.cell? ⟨w.heap.size, 5, none⟩ = some (.int .i64 (S : Int)) := by simp [World.cell?, hc2]
  have HO := Lib.hid (ho.mono (show w.heap.size ≤ w1.heap.size by rw [HS1.out]; omega))
  have HB : Hid (Below w.heap.size w w2) := Lib.hid (HB1.out.trans (hb.mono HB1.out.size))
  clear ho hb hc2 k6 hr1
  go_wp2_with fail
  go_ret
  refine ⟨_, w2.heap.size + 1, rfl, ?_, (HO.out.alloc _).alloc _, ?_, by omega, HNL.out, (HB.out.alloc HB.out.size _).alloc (by rw [size_alloc]; have := HB.out.size; omega) _⟩
  · rw [← size_alloc w2 (.cells #[.int .i64 0, .int .i64 0, .int .i64 (W : Int), .int .i64 (H : Int)] 47)]
    exact alloc_at _ _
  · intro e
    have := (World.ownsRow.lt HO.out _ e).2
    omega

set_option maxHeartbeats 1600000 in
set_option maxRecDepth 100000 in
theorem imageOf_3 (W H S n cap : Nat) (ad : Option Addr) (av : Value) (l : List UInt8) (w : World) (hl : Hid (l.length = n)) (hr : RB w ad l) (hn : n ≤ 100000) (hnil : ad = none → n = 0 ∧ cap = 0) :
    Calls Tryd.prog 9 #[pcV 3 W H S (.slice ad n cap) av] w (ImgEnd 53 54 ad W H S l w) := by
  have E : pcV 3 W H S (.slice ad n cap) av = .agg #[.int .i64 3, .int .i64 0, .int .i64 0, .int .i64 (W : Int), .int .i64 (H : Int), .int .i64 (S : Int), .slice ad n cap, av] := rfl
  rw [E]
  clear E
  obtain ⟨w1, hw1⟩ : ∃ w1, w1 = w.alloc (.cells #[.int .i64 3, .int .i64 0, .int .i64 0, .int .i64 (W : Int), .int .i64 (H : Int), .int .i64 (S : Int), .slice ad n cap, av] 34) := ⟨_, rfl⟩
  have hb1 : Below w.heap.size w w1 := hw1 ▸ (Below.refl _ _).alloc (Nat.le_refl _) _
  have hs1 : w1.heap.size = w.heap.size + 1 := by rw [hw1, size_alloc]
  have hc : w1.heap[w.heap.size]? = some (.cells #[.int .i64 3, .int .i64 0, .int .i64 0, .int .i64 (W : Int), .int .i64 (H : Int), .int .i64 (S : Int), .slice ad n cap, av] 34 (0, 0)) := by
    rw [hw1]
    exact alloc_at _ _
  have k6 : w1.cell? ⟨w.heap.size, 6, none⟩ = some (.slice ad n cap) := by simp [World.cell?, hc]
  have HW1 := Lib.hid hw1
  have HC := Lib.hid hc
  have HB1 := Lib.hid hb1
  have HS1 := Lib.hid hs1
  have hr1 := hr.below hb1
  clear hw1 hc hb1 hs1 hr
  go_enter Tryd.func9, Tryd.ntmps9
  go_upto_region 1 with fail
  rw [← HW1.out]
  go_upto_region 2 with (go_at_call 12; refine (clone_any ad n cap l hl w1 (by omega) hr1 hnil).mono ?_; rintro e w2 ⟨v, rfl, ho, hb, hnl⟩)
  have HNL : Hid (ad ≠ none → v ≠ .slice none 0 0) := Lib.hid (fun h e => h (hnl.1 e))
  clear hnl
  obtain ⟨a2, n2, cap2, rfl, -⟩ := ho.shapeN
  have hlt : w.heap.size < w2.heap.size := by have := HS1.out; have := hb.size; omega
  have hc2 : w2.heap[w.heap.size]? = some (.cells #[.int .i64 3, .int .i64 0, .int .i64 0, .int .i64 (W : Int), .int .i64 (H : Int), .int .i64 (S : Int), .slice ad n cap, av] 34 (0, 0)) := (hb.block _ (by rw [HS1.out]; omega)).trans HC.out
  have c0 : w2.cell? ⟨w.heap.size, 0, none⟩ = some (.int .i64 3) := by simp [World.cell?, hc2]
  have c1 : w2.cell? ⟨w.heap.size, 1, none⟩ = some (.int .i64 0) := by simp [World.cell?, hc2]
  have c2 : w2.cell? ⟨w.heap.size, 2, none⟩ = some (.int .i64 0) := by simp [World.cell?, hc2]
  have c3 : w2.cell? ⟨w.heap.size, 3, none⟩ = some (.int .i64 (W : Int)) := by simp [World.cell?, hc2]
  have c4 : w2.cell? ⟨w.heap.size, 4, none⟩ = some (.int .i64 (H : Int)) := by simp [World.cell?, hc2]
  have c5 : w2.cell? ⟨w.heap.size, 5, none⟩ = some (.int .i64 (S : Int)) := by simp [World.cell?, hc2]
  have HO := Lib.hid (ho.mono (show w.heap.size ≤ w1.heap.size by rw [HS1.out]; omega))
  have HB : Hid (Below w.heap.size w w2) := Lib.hid (HB1.out.trans (hb.mono HB1.out.size))
  clear ho hb hc2 k6 hr1
  go_wp2_with fail
  go_ret
  refine ⟨_, w2.heap.size + 1, rfl, ?_, (HO.out.alloc _).alloc _, ?_, by omega, HNL.out, (HB.out.alloc HB.out.size _).alloc (by rw [size_alloc]; have := HB.out.size; omega) _⟩
  · rw [← size_alloc w2 (.cells #[.int .i64 0, .int .i64 0, .int .i64 (W : Int), .int .i64 (H : Int)] 47)]
    exact alloc_at _ _
  · intro e
    have := (World.ownsRow.lt HO.out _ e).2
    omega

set_option maxHeartbeats 1600000 in
set_option maxRecDepth 100000 in
theorem imageOf_4 (W H S n cap : Nat) (ad : Option Addr) (av : Value) (l : List UInt8) (w : World) (hl : Hid (l.length = n)) (hr : RB w ad l) (hn : n ≤ 100000) (hnil : ad = none → n = 0 ∧ cap = 0) :
    Calls Tryd.prog 9 #[pcV 4 W H S (.slice ad n cap) av] w (ImgEnd 55 56 ad W H S l w) := by
  have E : pcV 4 W H S (.slice ad n cap) av = .agg #[.int .i64 4, .int .i64 0, .int .i64 0, .int .i64 (W : Int), .int .i64 (H : Int), .int .i64 (S : Int), .slice ad n cap, av] := rfl
  rw [E]
  clear E
  obtain ⟨w1, hw1⟩ : ∃ w1, w1 = w.alloc (.cells #[.int .i64 4, .int .i64 0, .int .i64 0, .int .i64 (W : Int), .int .i64 (H : Int), .int .i64 (S : Int), .slice ad n cap, av] 34) := ⟨_, rfl⟩
  have hb1 : Below w.heap.size w w1 := hw1 ▸ (Below.refl _ _).alloc (Nat.le_refl _) _
  have hs1 : w1.heap.size = w.heap.size + 1 := by rw [hw1, size_alloc]
  have hc : w1.heap[w.heap.size]? = some (.cells #[.int .i64 4, .int .i64 0, .int .i64 0, .int .i64 (W : Int), .int .i64 (H : Int), .int .i64 (S : Int), .slice ad n cap, av] 34 (0, 0)) := by
    rw [hw1]
    exact alloc_at _ _
  have k6 : w1.cell? ⟨w.heap.size, 6, none⟩ = some (.slice ad n cap) := by simp [World.cell?, hc]
  have HW1 := Lib.hid hw1
  have HC := Lib.hid hc
  have HB1 := Lib.hid hb1
  have HS1 := Lib.hid hs1
  have hr1 := hr.below hb1
  clear hw1 hc hb1 hs1 hr
  go_enter Tryd.func9, Tryd.ntmps9
  go_upto_region 1 with fail
  rw [← HW1.out]
  go_upto_region 2 with (go_at_call 12; refine (clone_any ad n cap l hl w1 (by omega) hr1 hnil).mono ?_; rintro e w2 ⟨v, rfl, ho, hb, hnl⟩)
  have HNL : Hid (ad ≠ none → v ≠ .slice none 0 0) := Lib.hid (fun h e => h (hnl.1 e))
  clear hnl
  obtain ⟨a2, n2, cap2, rfl, -⟩ := ho.shapeN
  have hlt : w.heap.size < w2.heap.size := by have := HS1.out; have := hb.size; omega
  have hc2 : w2.heap[w.heap.size]? = some (.cells #[.int .i64 4, .int .i64 0, .int .i64 0, .int .i64 (W : Int), .int .i64 (H : Int), .int .i64 (S : Int), .slice ad n cap, av] 34 (0, 0)) := (hb.block _ (by rw [HS1.out]; omega)).trans HC.out
  have c0 : w2.cell? ⟨w.heap.size, 0, none⟩ = some (.int .i64 4) := by simp [World.cell?, hc2]
  have c1 : w2.cell? ⟨w.heap.size, 1, none⟩ = some (.int .i64 0) := by simp [World.cell?, hc2]
  have c2 : w2.cell? ⟨w.heap.size, 2, none⟩ = some (.int .i64 0) := by simp [World.cell?, hc2]
  have c3 : w2.cell? ⟨w.heap.size, 3, none⟩ = some (.int .i64 (W : Int)) := by simp [World.cell?, hc2]
  have c4 : w2.cell? ⟨w.heap.size, 4, none⟩ = some (.int .i64 (H : Int)) := by simp [World.cell?, hc2]
  have c5 : w2.cell? ⟨w.heap.size, 5, none⟩ = some (.int .i64 (S : Int)) := by simp [World.cell?, hc2]
  have HO := Lib.hid (ho.mono (show w.heap.size ≤ w1.heap.size by rw [HS1.out]; omega))
  have HB : Hid (Below w.heap.size w w2) := Lib.hid (HB1.out.trans (hb.mono HB1.out.size))
  clear ho hb hc2 k6 hr1
  go_wp2_with fail
  go_ret
  refine ⟨_, w2.heap.size + 1, rfl, ?_, (HO.out.alloc _).alloc _, ?_, by omega, HNL.out, (HB.out.alloc HB.out.size _).alloc (by rw [size_alloc]; have := HB.out.size; omega) _⟩
  · rw [← size_alloc w2 (.cells #[.int .i64 0, .int .i64 0, .int .i64 (W : Int), .int .i64 (H : Int)] 47)]
    exact alloc_at _ _
  · intro e
    have := (World.ownsRow.lt HO.out _ e).2
    omega

set_option maxHeartbeats 1600000 in
set_option maxRecDepth 100000 in
theorem imageOf_5 (W H S n cap : Nat) (ad : Option Addr) (av : Value) (l : List UInt8) (w : World) (hl : Hid (l.length = n)) (hr : RB w ad l) (hn : n ≤ 100000) (hnil : ad = none → n = 0 ∧ cap = 0) :
    Calls Tryd.prog 9 #[pcV 5 W H S (.slice ad n cap) av] w (ImgEnd 57 58 ad W H S l w) := by
  have E : pcV 5 W H S (.slice ad n cap) av = .agg #[.int .i64 5, .int .i64 0, .int .i64 0, .int .i64 (W : Int), .int .i64 (H : Int), .int .i64 (S : Int), .slice ad n cap, av] := rfl
  rw [E]
  clear E
  obtain ⟨w1, hw1⟩ : ∃ w1, w1 = w.alloc (.cells #[.int .i64 5, .int .i64 0, .int .i64 0, .int .i64 (W : Int), .int .i64 (H : Int), .int .i64 (S : Int), .slice ad n cap, av] 34) := ⟨_, rfl⟩
  have hb1 : Below w.heap.size w w1 := hw1 ▸ (Below.refl _ _).alloc (Nat.le_refl _) _
  have hs1 : w1.heap.size = w.heap.size + 1 := by rw [hw1, size_alloc]
  have hc : w1.heap[w.heap.size]? = some (.cells #[.int .i64 5, .int .i64 0, .int .i64 0, .int .i64 (W : Int), .int .i64 (H : Int), .int .i64 (S : Int), .slice ad n cap, av] 34 (0, 0)) := by
    rw [hw1]
    exact alloc_at _ _
  have k6 : w1.cell? ⟨w.heap.size, 6, none⟩ = some (.slice ad n cap) := by simp [World.cell?, hc]
  have HW1 := Lib.hid hw1
  have HC := Lib.hid hc
  have HB1 := Lib.hid hb1
  have HS1 := Lib.hid hs1
  have hr1 := hr.below hb1
  clear hw1 hc hb1 hs1 hr
  go_enter Tryd.func9, Tryd.ntmps9
  go_upto_region 1 with fail
  rw [← HW1.out]
  go_upto_region 2 with (go_at_call 12; refine (clone_any ad n cap l hl w1 (by omega) hr1 hnil).mono ?_; rintro e w2 ⟨v, rfl, ho, hb, hnl⟩)
  have HNL : Hid (ad ≠ none → v ≠ .slice none 0 0) := Lib.hid (fun h e => h (hnl.1 e))
  clear hnl
  obtain ⟨a2, n2, cap2, rfl, -⟩ := ho.shapeN
  have hlt : w.heap.size < w2.heap.size := by have := HS1.out; have := hb.size; omega
  have hc2 : w2.heap[w.heap.size]? = some (.cells #[.int .i64 5, .int .i64 0, .int .i64 0, .int .i64 (W : Int), .int .i64 (H : Int), .int .i64 (S : Int), .slice ad n cap, av] 34 (0, 0)) := (hb.block _ (by rw [HS1.out]; omega)).trans HC.out
  have c0 : w2.cell? ⟨w.heap.size, 0, none⟩ = some (.int .i64 5) := by simp [World.cell?, hc2]
  have c1 : w2.cell? ⟨w.heap.size, 1, none⟩ = some (.int .i64 0) := by simp [World.cell?, hc2]
  have c2 : w2.cell? ⟨w.heap.size, 2, none⟩ = some (.int .i64 0) := by simp [World.cell?, hc2]
  have c3 : w2.cell? ⟨w.heap.size, 3, none⟩ = some (.int .i64 (W : Int)) := by simp [World.cell?, hc2]
  have c4 : w2.cell? ⟨w.heap.size, 4, none⟩ = some (.int .i64 (H : Int)) := by simp [World.cell?, hc2]
  have c5 : w2.cell? ⟨w.heap.size, 5, none⟩ = some (.int .i64 (S : Int)) := by simp [World.cell?, hc2]
  have HO := Lib.hid (ho.mono (show w.heap.size ≤ w1.heap.size by rw [HS1.out]; omega))
  have HB : Hid (Below w.heap.size w w2) := Lib.hid (HB1.out.trans (hb.mono HB1.out.size))
  clear ho hb hc2 k6 hr1
  go_wp2_with fail
  go_ret
  refine ⟨_, w2.heap.size + 1, rfl, ?_, (HO.out.alloc _).alloc _, ?_, by omega, HNL.out, (HB.out.alloc HB.out.size _).alloc (by rw [size_alloc]; have := HB.out.size; omega) _⟩
  · rw [← size_alloc w2 (.cells #[.int .i64 0, .int .i64 0, .int .i64 (W : Int), .int .i64 (H : Int)] 47)]
    exact alloc_at _ _
  · intro e
    have := (World.ownsRow.lt HO.out _ e).2
    omega

set_option maxHeartbeats 1600000 in
set_option maxRecDepth 100000 in
theorem imageOf_6 (W H S n cap : Nat) (ad : Option Addr) (av : Value) (l : List UInt8) (w : World) (hl : Hid (l.length = n)) (hr : RB w ad l) (hn : n ≤ 100000) (hnil : ad = none → n = 0 ∧ cap = 0) :
    Calls Tryd.prog 9 #[pcV 6 W H S (.slice ad n cap) av] w (ImgEnd 59 60 ad W H S l w) := by
  have E : pcV 6 W H S (.slice ad n cap) av = .agg #[.int .i64 6, .int .i64 0, .int .i64 0, .int .i64 (W : Int), .int .i64 (H : Int), .int .i64 (S : Int), .slice ad n cap, av] := rfl
  rw [E]
  clear E
  obtain ⟨w1, hw1⟩ : ∃ w1, w1 = w.alloc (.cells #[.int .i64 6, .int .i64 0, .int .i64 0, .int .i64 (W : Int), .int .i64 (H : Int), .int .i64 (S : Int), .slice ad n cap, av] 34) := ⟨_, rfl⟩
  have hb1 : Below w.heap.size w w1 := hw1 ▸ (Below.refl _ _).alloc (Nat.le_refl _) _
  have hs1 : w1.heap.size = w.heap.size + 1 := by rw [hw1, size_alloc]
  have hc : w1.heap[w.heap.size]? = some (.cells #[.int .i64 6, .int .i64 0, .int .i64 0, .int .i64 (W : Int), .int .i64 (H : Int), .int .i64 (S : Int), .slice ad n cap, av] 34 (0, 0)) := by
    rw [hw1]
    exact alloc_at _ _
  have k6 : w1.cell? ⟨w.heap.size, 6, none⟩ = some (.slice ad n cap) := by simp [World.cell?, hc]
  have HW1 := Lib.hid hw1
  have HC := Lib.hid hc
  have HB1 := Lib.hid hb1
  have HS1 := Lib.hid hs1
  have hr1 := hr.below hb1
  clear hw1 hc hb1 hs1 hr
  go_enter Tryd.func9, Tryd.ntmps9
  go_upto_region 1 with fail
  rw [← HW1.out]
  go_upto_region 2 with (go_at_call 12; refine (clone_any ad n cap l hl w1 (by omega) hr1 hnil).mono ?_; rintro e w2 ⟨v, rfl, ho, hb, hnl⟩)
  have HNL : Hid (ad ≠ none → v ≠ .slice none 0 0) := Lib.hid (fun h e => h (hnl.1 e))
  clear hnl
  obtain ⟨a2, n2, cap2, rfl, -⟩ := ho.shapeN
  have hlt : w.heap.size < w2.heap.size := by have := HS1.out; have := hb.size; omega
  have hc2 : w2.heap[w.heap.size]? = some (.cells #[.int .i64 6, .int .i64 0, .int .i64 0, .int .i64 (W : Int), .int .i64 (H : Int), .int .i64 (S : Int), .slice ad n cap, av] 34 (0, 0)) := (hb.block _ (by rw [HS1.out]; omega)).trans HC.out
  have c0 : w2.cell? ⟨w.heap.size, 0, none⟩ = some (.int .i64 6) := by simp [World.cell?, hc2]
  have c1 : w2.cell? ⟨w.heap.size, 1, none⟩ = some (.int .i64 0) := by simp [World.cell?, hc2]
  have c2 : w2.cell? ⟨w.heap.size, 2, none⟩ = some (.int .i64 0) := by simp [World.cell?, hc2]
  have c3 : w2.cell? ⟨w.heap.size, 3, none⟩ = some (.int .i64 (W : Int)) := by simp [World.cell?, hc2]
  have c4 : w2.cell? ⟨w.heap.size, 4, none⟩ = some (.int .i64 (H : Int)) := by simp [World.cell?, hc2]
  have c5 : w2.cell? ⟨w.heap.size, 5, none⟩ = some (.int .i64 (S : Int)) := by simp [World.cell?, hc2]
  have HO := Lib.hid (ho.mono (show w.heap.size ≤ w1.heap.size by rw [HS1.out]; omega))
  have HB : Hid (Below w.heap.size w w2) := Lib.hid (HB1.out.trans (hb.mono HB1.out.size))
  clear ho hb hc2 k6 hr1
  go_wp2_with fail
  go_ret
  refine ⟨_, w2.heap.size + 1, rfl, ?_, (HO.out.alloc _).alloc _, ?_, by omega, HNL.out, (HB.out.alloc HB.out.size _).alloc (by rw [size_alloc]; have := HB.out.size; omega) _⟩
  · rw [← size_alloc w2 (.cells #[.int .i64 0, .int .i64 0, .int .i64 (W : Int), .int .i64 (H : Int)] 47)]
    exact alloc_at _ _
  · intro e
    have := (World.ownsRow.lt HO.out _ e).2
    omega

end Go.Proofs.YtcfafomnoejemaaDoor
