/- The contract of the reference's samplesOf. Printed by gen/spsam.py. -/
import Derived.Test.YtkiibhpmembcgaaDoorSpA
import Derived.Test.YtkiibhpmembcgaaDoorGBase
import Derived.Deep.DeepCutAuto
import Derived.Deep.CutBlock
import Derived.LoopTactic
import Derived.Outline
namespace Go.Proofs.YtkiibhpmembcgaaDoor
open Go.ChangeShapes Go.WideShapes Go.ChangeAt Go.RowKit Go.IntWalk

theorem i64_and_small (a b : Nat) (ha : a < 65536) (hb : b < 65536) : bits .and .i64 (a : Int) (b : Int) = ((a &&& b : Nat) : Int) := by
  have hx : a &&& b < 2 ^ 16 := Nat.and_lt_two_pow _ (by omega)
  show IntKind.i64.wrap ((BitVec.ofInt 64 (a : Int) &&& BitVec.ofInt 64 (b : Int)).toNat : Int) = _
  rw [BitVec.toNat_and, ofInt_u64 a (by omega), ofInt_u64 b (by omega), i64_in _ ⟨by omega, by omega⟩]
theorem i64_or_small (a b : Nat) (ha : a < 65536) (hb : b < 65536) : bits .or .i64 (a : Int) (b : Int) = ((a ||| b : Nat) : Int) := by
  have hx : a ||| b < 2 ^ 16 := Nat.or_lt_two_pow (by omega) (by omega)
  show IntKind.i64.wrap ((BitVec.ofInt 64 (a : Int) ||| BitVec.ofInt 64 (b : Int)).toNat : Int) = _
  rw [BitVec.toNat_or, ofInt_u64 a (by omega), ofInt_u64 b (by omega), i64_in _ ⟨by omega, by omega⟩]
theorem or16i (h l : UInt8) : bits .or .i64 ((h.toNat : Int) * 256) (l.toNat : Int) = (h.toNat : Int) * 256 + (l.toNat : Int) := by
  have h1 := h.toNat_lt
  have h2 := l.toNat_lt
  have := i64_or_small (h.toNat * 256) l.toNat (by omega) (by omega)
  rw [Int.natCast_mul] at this
  rw [show ((256 : Nat) : Int) = 256 by rfl] at this
  rw [this, show h.toNat * 256 = 2 ^ 8 * h.toNat by omega, ← Nat.two_pow_add_eq_or_of_lt (by omega : l.toNat < 2 ^ 8)]
  omega
theorem mask_few (x d : Nat) (hx : x < 256) (hd : d = 1 ∨ d = 2 ∨ d = 4) : bits .and .i64 (x : Int) (((2 ^ d - 1 : Nat)) : Int) = ((x % 2 ^ d : Nat) : Int) := by
  rw [i64_and_small x _ (by omega) (by rcases hd with rfl | rfl | rfl <;> decide), Nat.and_two_pow_sub_one_eq_mod]
def SamEnd (d m : Nat) (row : List UInt8) (w : World) (e : Ending) (w' : World) : Prop :=
  ∃ v, e = .returned v ∧ OwnI w' w.heap.size v (sampR d m row) ∧ Below w.heap.size w w'
theorem one_int (w : World) (k : Nat) (T : TypeId) (g : Nat) (hg : g = w.heap.size) : ∀ p, some (⟨g, 0, none⟩ : Addr) = some p → ∀ j u, (nvals [k])[j]? = some u → (w.alloc (.cells #[.int .i64 (k : Int)] T)).cell? (p.add j) = some u := by
  intro p hp
  simp only [Option.some.injEq] at hp
  subst hp
  exact one_at w _ T g hg
set_option maxHeartbeats 1600000 in
set_option maxRecDepth 100000 in
theorem samplesOf_8 (ad : Option Addr) (n cap m : Nat) (row : List UInt8) (w : World) (hn : Hid (row.length = n)) (hr : RB w ad row) (_hm : m ≤ 1000) (hfit : m * 8 ≤ 8 * n) (hb : n ≤ 100000) :
    Calls Tryd.prog 17 #[.slice ad n cap, .int .i64 (m : Int), .int .i64 8] w (SamEnd 8 m row w) := by
  go_enter Tryd.func17, Tryd.ntmps17
  go_upto_region 3 with fail
  go_loopw [7, 12] (fun v i wr => ∃ t : Nat, t ≤ m ∧ i = .int .i64 (t : Int) ∧ OwnI wr w.heap.size v (sampR 8 t row) ∧ Below w.heap.size w wr) (fun _ i _ => m - (intOf i).toNat)
  case atStart => exact ⟨0, Nat.zero_le _, rfl, OwnI.empty w w.heap.size (Nat.le_refl _), (Below.refl _ _).alloc (Nat.le_refl _) _⟩
  case round =>
    obtain ⟨t, ht, rfl, hown, hbel⟩ := hrel
    by_cases hlt : t < m
    · skip
      have htn : t < n := by omega
      obtain ⟨b, o, rfl, -⟩ := hr (by have := hn.out; intro e; rw [e] at this; simp at this; omega)
      obtain ⟨x, HX, hx⟩ := (hr.below hbel).at t (by rw [hn.out]; exact htn)
      have rx := u8lt x
      have i0 : (0 : Int) ≤ (t : Int) := by omega
      have i1 : (t : Int) < (n : Int) := by omega
      have e1 : IntKind.i64.wrap (x.toNat : Int) = (x.toNat : Int) := i64_in _ ⟨by omega, by omega⟩
      have NX : Hid (sampR 8 (t + 1) row = sampR 8 t row ++ [x.toNat]) := Lib.hid (by rw [sampR_next]; congr 2; have := HX.out; simp [sampA, List.getD, this])
      have HO := Lib.hid hown
      obtain ⟨sl, hsl⟩ : ∃ sl, sl = sampR 8 t row := ⟨_, rfl⟩
      rw [← hsl] at HO NX
      have hsll : sl.length = t := by rw [hsl, sampR_len]
      have HSL := Lib.hid hsll
      have HBEL := Lib.hid hbel
      clear hsl hsll hown hbel
      have hbw : Below wr.heap.size wr (wr.alloc (.cells #[.int .i64 (x.toNat : Int)] 3)) := (Below.refl _ _).alloc (Nat.le_refl _) _
      have HBW := Lib.hid hbw
      clear hbw
      go_wp2_with (at_builtin; refine wpList_append_ints rfl (.tmp 40) (.tmp 46) rfl w.heap.size _ sl [x.toNat] rfl (OwnI.alloc HO.out _) (some ⟨wr.heap.size, 0, none⟩) 1 1 rfl rfl (one_int wr x.toNat _ _ rfl) (by intro h; cases h) (by have := HSL.out; omega) (by rw [size_alloc]; have := HBEL.out.size; exact Nat.le_succ_of_le this) ?_; intro v2 w2 ho2 hb2 hg2; clear hg2)
      rw [← NX.out] at ho2
      go_roundw
      case rel => exact ⟨t + 1, by omega, by go_num, ho2, (HBEL.out.trans (HBW.out.mono HBEL.out.size)).trans hb2⟩
      case measure => simp [intOf]; omega
    · obtain rfl : m = t := by omega
      have HO := Lib.hid hown
      have HB := Lib.hid hbel
      clear hown hbel
      go_wp2_with fail
      go_ret
      exact ⟨_, rfl, HO.out, HB.out⟩
set_option maxHeartbeats 1600000 in
set_option maxRecDepth 100000 in
theorem samplesOf_16 (ad : Option Addr) (n cap m : Nat) (row : List UInt8) (w : World) (hn : Hid (row.length = n)) (hr : RB w ad row) (_hm : m ≤ 1000) (hfit : m * 16 ≤ 8 * n) (hb : n ≤ 100000) :
    Calls Tryd.prog 17 #[.slice ad n cap, .int .i64 (m : Int), .int .i64 16] w (SamEnd 16 m row w) := by
  go_enter Tryd.func17, Tryd.ntmps17
  go_upto_region 3 with fail
  go_loopw [7, 12] (fun v i wr => ∃ t : Nat, t ≤ m ∧ i = .int .i64 (t : Int) ∧ OwnI wr w.heap.size v (sampR 16 t row) ∧ Below w.heap.size w wr) (fun _ i _ => m - (intOf i).toNat)
  case atStart => exact ⟨0, Nat.zero_le _, rfl, OwnI.empty w w.heap.size (Nat.le_refl _), (Below.refl _ _).alloc (Nat.le_refl _) _⟩
  case round =>
    obtain ⟨t, ht, rfl, hown, hbel⟩ := hrel
    by_cases hlt : t < m
    · skip
      obtain ⟨q0, hq0⟩ : ∃ q, q = 2 * t := ⟨_, rfl⟩
      obtain ⟨q1, hq1⟩ : ∃ q, q = q0 + 1 := ⟨_, rfl⟩
      have htn : q1 < n := by omega
      obtain ⟨b, o, rfl, -⟩ := hr (by have := hn.out; intro e; rw [e] at this; simp at this; omega)
      obtain ⟨x, HX, hx⟩ := (hr.below hbel).at q0 (by rw [hn.out]; omega)
      obtain ⟨y, HY, hy⟩ := (hr.below hbel).at q1 (by rw [hn.out]; exact htn)
      have rx := u8lt x
      have ry := u8lt y
      have i0 : (0 : Int) ≤ (q0 : Int) := by omega
      have i1 : (q0 : Int) < (n : Int) := by omega
      have i2 : (0 : Int) ≤ (q1 : Int) := by omega
      have i3 : (q1 : Int) < (n : Int) := by omega
      have mq0 : 2 * (t : Int) = (q0 : Int) := by omega
      have mq1 : (q0 : Int) + 1 = (q1 : Int) := by omega
      have vq0 : IntKind.i64.wrap (q0 : Int) = (q0 : Int) := i64_in _ ⟨by omega, by omega⟩
      have vq1 : IntKind.i64.wrap (q1 : Int) = (q1 : Int) := i64_in _ ⟨by omega, by omega⟩
      have e1 : IntKind.i64.wrap (x.toNat : Int) = (x.toNat : Int) := i64_in _ ⟨by omega, by omega⟩
      have e2 : IntKind.i64.wrap (y.toNat : Int) = (y.toNat : Int) := i64_in _ ⟨by omega, by omega⟩
      have e3 : IntKind.i64.wrap ((x.toNat : Int) * 256) = (x.toNat : Int) * 256 := i64_in _ ⟨by omega, by omega⟩
      obtain ⟨z, hz⟩ : ∃ z, z = x.toNat * 256 + y.toNat := ⟨_, rfl⟩
      have e4 : bits .or .i64 ((x.toNat : Int) * 256) (y.toNat : Int) = (z : Int) := by rw [or16i, hz]; rfl
      have NX : Hid (sampR 16 (t + 1) row = sampR 16 t row ++ [z]) := Lib.hid (by rw [sampR_next]; congr 2; have h1 := HX.out; have h2 := HY.out; rw [hq0] at h1; rw [hq1, hq0] at h2; simp [sampA, List.getD, h1, h2, hz])
      clear hq0 hq1 hz
      have HO := Lib.hid hown
      obtain ⟨sl, hsl⟩ : ∃ sl, sl = sampR 16 t row := ⟨_, rfl⟩
      rw [← hsl] at HO NX
      have hsll : sl.length = t := by rw [hsl, sampR_len]
      have HSL := Lib.hid hsll
      have HBEL := Lib.hid hbel
      clear hsl hsll hown hbel
      have hbw : Below wr.heap.size wr (wr.alloc (.cells #[.int .i64 (z : Int)] 3)) := (Below.refl _ _).alloc (Nat.le_refl _) _
      have HBW := Lib.hid hbw
      clear hbw
      have HOW : Hid (OwnI (wr.drew.alloc (.cells #[.int .i64 (z : Int)] 3)) w.heap.size u7 sl) := Lib.hid (OwnI.alloc (show OwnI wr.drew w.heap.size u7 sl from HO.out) _)
      have HBW2 : Hid (Below w.heap.size w (wr.drew.alloc (.cells #[.int .i64 (z : Int)] 3))) := Lib.hid ((bdrew HBEL.out).alloc HBEL.out.size _)
      go_upto_region 11 with fail
      go_region_law (refine step_append_ints rfl (.tmp 50) (.tmp 66) rfl w.heap.size u7 sl [z] (by simp [Act.eval]) HOW.out ⟨wr.heap.size, 0, none⟩ 1 1 (by simp [Act.eval]) rfl (one_int wr.drew z _ _ rfl _ rfl) (by have := HSL.out; omega) HBW2.out.size ?_; intro v2 w2 ho2 hb2 hg2; clear hg2)
      all_goals
        rw [← NX.out] at ho2
        have HO2 := Lib.hid ho2
        have HB2 := Lib.hid (HBW2.out.trans hb2)
        clear ho2 hb2
        go_wp2_with fail
        go_roundw
        case rel => exact ⟨t + 1, by omega, by go_num, HO2.out, HB2.out⟩
        case measure => simp [intOf]; omega
    · obtain rfl : m = t := by omega
      have HO := Lib.hid hown
      have HB := Lib.hid hbel
      clear hown hbel
      go_wp2_with fail
      go_ret
      exact ⟨_, rfl, HO.out, HB.out⟩
set_option maxHeartbeats 1600000 in
set_option maxRecDepth 100000 in
theorem samplesOf_1 (ad : Option Addr) (n cap m : Nat) (row : List UInt8) (w : World) (hn : Hid (row.length = n)) (hr : RB w ad row) (hm : m ≤ 1000) (hfit : m * 1 ≤ 8 * n) (hb : n ≤ 100000) :
    Calls Tryd.prog 17 #[.slice ad n cap, .int .i64 (m : Int), .int .i64 1] w (SamEnd 1 m row w) := by
  go_enter Tryd.func17, Tryd.ntmps17
  go_upto_region 3 with fail
  go_loopw [7, 12] (fun v i wr => ∃ t : Nat, t ≤ m ∧ i = .int .i64 (t : Int) ∧ OwnI wr w.heap.size v (sampR 1 t row) ∧ Below w.heap.size w wr) (fun _ i _ => m - (intOf i).toNat)
  case atStart => exact ⟨0, Nat.zero_le _, rfl, OwnI.empty w w.heap.size (Nat.le_refl _), (Below.refl _ _).alloc (Nat.le_refl _) _⟩
  case round =>
    obtain ⟨t, ht, rfl, hown, hbel⟩ := hrel
    by_cases hlt : t < m
    · skip
      rcases (by omega : t % 8 = 0 ∨ t % 8 = 1 ∨ t % 8 = 2 ∨ t % 8 = 3 ∨ t % 8 = 4 ∨ t % 8 = 5 ∨ t % 8 = 6 ∨ t % 8 = 7) with hr8 | hr8 | hr8 | hr8 | hr8 | hr8 | hr8 | hr8
      · skip
        obtain ⟨q, hq⟩ : ∃ q, q = t / 8 := ⟨_, rfl⟩
        have htn : q < n := by omega
        obtain ⟨b, o, rfl, -⟩ := hr (by have := hn.out; intro e; rw [e] at this; simp at this; omega)
        obtain ⟨x, HX, hx⟩ := (hr.below hbel).at q (by rw [hn.out]; exact htn)
        have rx := u8lt x
        have i0 : (0 : Int) ≤ (q : Int) := by omega
        have i1 : (q : Int) < (n : Int) := by omega
        have t1 : (t : Int).tdiv 8 = (q : Int) := by rw [hq]; rfl
        have t2 : (t : Int) / 8 = (q : Int) := by rw [hq]; rfl
        have t3 : (t : Int).tmod 8 = 0 := by rw [show (t : Int).tmod 8 = ((t % 8 : Nat) : Int) from rfl, hr8]; rfl
        have t4 : (t : Int) % 8 = 0 := by omega
        have lw0 : IntKind.i64.wrap 0 = 0 := by decide
        have lw1 : IntKind.i64.wrap 1 = 1 := by decide
        have lw2 : IntKind.i64.wrap 2 = 2 := by decide
        have lw7 : IntKind.i64.wrap 7 = 7 := by decide
        have vat : IntKind.i64.wrap (t : Int) = (t : Int) := i64_in _ ⟨by omega, by omega⟩
        have vq : IntKind.i64.wrap (q : Int) = (q : Int) := i64_in _ ⟨by omega, by omega⟩
        have e1 : IntKind.i64.wrap (x.toNat : Int) = (x.toNat : Int) := i64_in _ ⟨by omega, by omega⟩
        obtain ⟨y, hy⟩ : ∃ y, y = x.toNat / 128 := ⟨_, rfl⟩
        have s1 : (x.toNat : Int) / 128 = (y : Int) := by rw [hy]; rfl
        have hy8 : y < 256 := by omega
        obtain ⟨z, hz⟩ : ∃ z, z = y % 2 := ⟨_, rfl⟩
        have e4 : bits .and .i64 (y : Int) 1 = (z : Int) := by rw [hz]; exact mask_few y 1 hy8 (by omega)
        have vy : IntKind.i64.wrap (y : Int) = (y : Int) := i64_in _ ⟨by omega, by omega⟩
        have vz : IntKind.i64.wrap (z : Int) = (z : Int) := i64_in _ ⟨by omega, by omega⟩
        have NX : Hid (sampR 1 (t + 1) row = sampR 1 t row ++ [z]) := Lib.hid (by rw [sampR_next]; congr 2; have h1 := HX.out; rw [hq] at h1; simp only [sampA, Nat.mul_one, List.getD, h1, hr8, Option.getD_some, hz, hy]; rfl)
        clear hq hy hz hr8
        have HO := Lib.hid hown
        obtain ⟨sl, hsl⟩ : ∃ sl, sl = sampR 1 t row := ⟨_, rfl⟩
        rw [← hsl] at HO NX
        have hsll : sl.length = t := by rw [hsl, sampR_len]
        have HSL := Lib.hid hsll
        have HBEL := Lib.hid hbel
        clear hsl hsll hown hbel
        have hbw : Below wr.heap.size wr (wr.alloc (.cells #[.int .i64 (z : Int)] 3)) := (Below.refl _ _).alloc (Nat.le_refl _) _
        have HBW := Lib.hid hbw
        clear hbw
        have HOW : Hid (OwnI (wr.drew.alloc (.cells #[.int .i64 (z : Int)] 3)) w.heap.size u7 sl) := Lib.hid (OwnI.alloc (show OwnI wr.drew w.heap.size u7 sl from HO.out) _)
        have HBW2 : Hid (Below w.heap.size w (wr.drew.alloc (.cells #[.int .i64 (z : Int)] 3))) := Lib.hid ((bdrew HBEL.out).alloc HBEL.out.size _)
        go_upto_region 7 with fail
        go_region_law (refine step_append_ints rfl (.tmp 19) (.tmp 36) rfl w.heap.size u7 sl [z] (by simp [Act.eval]) HOW.out ⟨wr.heap.size, 0, none⟩ 1 1 (by simp [Act.eval]) rfl (one_int wr.drew z _ _ rfl _ rfl) (by have := HSL.out; omega) HBW2.out.size ?_; intro v2 w2 ho2 hb2 hg2; clear hg2)
        all_goals
          rw [← NX.out] at ho2
          have HO2 := Lib.hid ho2
          have HB2 := Lib.hid (HBW2.out.trans hb2)
          clear ho2 hb2
          go_wp2_with fail
          go_roundw
          case rel => exact ⟨t + 1, by omega, by go_num, HO2.out, HB2.out⟩
          case measure => simp [intOf]; omega
      · skip
        obtain ⟨q, hq⟩ : ∃ q, q = t / 8 := ⟨_, rfl⟩
        have htn : q < n := by omega
        obtain ⟨b, o, rfl, -⟩ := hr (by have := hn.out; intro e; rw [e] at this; simp at this; omega)
        obtain ⟨x, HX, hx⟩ := (hr.below hbel).at q (by rw [hn.out]; exact htn)
        have rx := u8lt x
        have i0 : (0 : Int) ≤ (q : Int) := by omega
        have i1 : (q : Int) < (n : Int) := by omega
        have t1 : (t : Int).tdiv 8 = (q : Int) := by rw [hq]; rfl
        have t2 : (t : Int) / 8 = (q : Int) := by rw [hq]; rfl
        have t3 : (t : Int).tmod 8 = 1 := by rw [show (t : Int).tmod 8 = ((t % 8 : Nat) : Int) from rfl, hr8]; rfl
        have t4 : (t : Int) % 8 = 1 := by omega
        have lw1 : IntKind.i64.wrap 1 = 1 := by decide
        have lw2 : IntKind.i64.wrap 2 = 2 := by decide
        have lw6 : IntKind.i64.wrap 6 = 6 := by decide
        have lw7 : IntKind.i64.wrap 7 = 7 := by decide
        have vat : IntKind.i64.wrap (t : Int) = (t : Int) := i64_in _ ⟨by omega, by omega⟩
        have vq : IntKind.i64.wrap (q : Int) = (q : Int) := i64_in _ ⟨by omega, by omega⟩
        have e1 : IntKind.i64.wrap (x.toNat : Int) = (x.toNat : Int) := i64_in _ ⟨by omega, by omega⟩
        obtain ⟨y, hy⟩ : ∃ y, y = x.toNat / 64 := ⟨_, rfl⟩
        have s1 : (x.toNat : Int) / 64 = (y : Int) := by rw [hy]; rfl
        have hy8 : y < 256 := by omega
        obtain ⟨z, hz⟩ : ∃ z, z = y % 2 := ⟨_, rfl⟩
        have e4 : bits .and .i64 (y : Int) 1 = (z : Int) := by rw [hz]; exact mask_few y 1 hy8 (by omega)
        have vy : IntKind.i64.wrap (y : Int) = (y : Int) := i64_in _ ⟨by omega, by omega⟩
        have vz : IntKind.i64.wrap (z : Int) = (z : Int) := i64_in _ ⟨by omega, by omega⟩
        have NX : Hid (sampR 1 (t + 1) row = sampR 1 t row ++ [z]) := Lib.hid (by rw [sampR_next]; congr 2; have h1 := HX.out; rw [hq] at h1; simp only [sampA, Nat.mul_one, List.getD, h1, hr8, Option.getD_some, hz, hy]; rfl)
        clear hq hy hz hr8
        have HO := Lib.hid hown
        obtain ⟨sl, hsl⟩ : ∃ sl, sl = sampR 1 t row := ⟨_, rfl⟩
        rw [← hsl] at HO NX
        have hsll : sl.length = t := by rw [hsl, sampR_len]
        have HSL := Lib.hid hsll
        have HBEL := Lib.hid hbel
        clear hsl hsll hown hbel
        have hbw : Below wr.heap.size wr (wr.alloc (.cells #[.int .i64 (z : Int)] 3)) := (Below.refl _ _).alloc (Nat.le_refl _) _
        have HBW := Lib.hid hbw
        clear hbw
        have HOW : Hid (OwnI (wr.drew.alloc (.cells #[.int .i64 (z : Int)] 3)) w.heap.size u7 sl) := Lib.hid (OwnI.alloc (show OwnI wr.drew w.heap.size u7 sl from HO.out) _)
        have HBW2 : Hid (Below w.heap.size w (wr.drew.alloc (.cells #[.int .i64 (z : Int)] 3))) := Lib.hid ((bdrew HBEL.out).alloc HBEL.out.size _)
        go_upto_region 7 with fail
        go_region_law (refine step_append_ints rfl (.tmp 19) (.tmp 36) rfl w.heap.size u7 sl [z] (by simp [Act.eval]) HOW.out ⟨wr.heap.size, 0, none⟩ 1 1 (by simp [Act.eval]) rfl (one_int wr.drew z _ _ rfl _ rfl) (by have := HSL.out; omega) HBW2.out.size ?_; intro v2 w2 ho2 hb2 hg2; clear hg2)
        all_goals
          rw [← NX.out] at ho2
          have HO2 := Lib.hid ho2
          have HB2 := Lib.hid (HBW2.out.trans hb2)
          clear ho2 hb2
          go_wp2_with fail
          go_roundw
          case rel => exact ⟨t + 1, by omega, by go_num, HO2.out, HB2.out⟩
          case measure => simp [intOf]; omega
      · skip
        obtain ⟨q, hq⟩ : ∃ q, q = t / 8 := ⟨_, rfl⟩
        have htn : q < n := by omega
        obtain ⟨b, o, rfl, -⟩ := hr (by have := hn.out; intro e; rw [e] at this; simp at this; omega)
        obtain ⟨x, HX, hx⟩ := (hr.below hbel).at q (by rw [hn.out]; exact htn)
        have rx := u8lt x
        have i0 : (0 : Int) ≤ (q : Int) := by omega
        have i1 : (q : Int) < (n : Int) := by omega
        have t1 : (t : Int).tdiv 8 = (q : Int) := by rw [hq]; rfl
        have t2 : (t : Int) / 8 = (q : Int) := by rw [hq]; rfl
        have t3 : (t : Int).tmod 8 = 2 := by rw [show (t : Int).tmod 8 = ((t % 8 : Nat) : Int) from rfl, hr8]; rfl
        have t4 : (t : Int) % 8 = 2 := by omega
        have lw1 : IntKind.i64.wrap 1 = 1 := by decide
        have lw2 : IntKind.i64.wrap 2 = 2 := by decide
        have lw5 : IntKind.i64.wrap 5 = 5 := by decide
        have lw7 : IntKind.i64.wrap 7 = 7 := by decide
        have vat : IntKind.i64.wrap (t : Int) = (t : Int) := i64_in _ ⟨by omega, by omega⟩
        have vq : IntKind.i64.wrap (q : Int) = (q : Int) := i64_in _ ⟨by omega, by omega⟩
        have e1 : IntKind.i64.wrap (x.toNat : Int) = (x.toNat : Int) := i64_in _ ⟨by omega, by omega⟩
        obtain ⟨y, hy⟩ : ∃ y, y = x.toNat / 32 := ⟨_, rfl⟩
        have s1 : (x.toNat : Int) / 32 = (y : Int) := by rw [hy]; rfl
        have hy8 : y < 256 := by omega
        obtain ⟨z, hz⟩ : ∃ z, z = y % 2 := ⟨_, rfl⟩
        have e4 : bits .and .i64 (y : Int) 1 = (z : Int) := by rw [hz]; exact mask_few y 1 hy8 (by omega)
        have vy : IntKind.i64.wrap (y : Int) = (y : Int) := i64_in _ ⟨by omega, by omega⟩
        have vz : IntKind.i64.wrap (z : Int) = (z : Int) := i64_in _ ⟨by omega, by omega⟩
        have NX : Hid (sampR 1 (t + 1) row = sampR 1 t row ++ [z]) := Lib.hid (by rw [sampR_next]; congr 2; have h1 := HX.out; rw [hq] at h1; simp only [sampA, Nat.mul_one, List.getD, h1, hr8, Option.getD_some, hz, hy]; rfl)
        clear hq hy hz hr8
        have HO := Lib.hid hown
        obtain ⟨sl, hsl⟩ : ∃ sl, sl = sampR 1 t row := ⟨_, rfl⟩
        rw [← hsl] at HO NX
        have hsll : sl.length = t := by rw [hsl, sampR_len]
        have HSL := Lib.hid hsll
        have HBEL := Lib.hid hbel
        clear hsl hsll hown hbel
        have hbw : Below wr.heap.size wr (wr.alloc (.cells #[.int .i64 (z : Int)] 3)) := (Below.refl _ _).alloc (Nat.le_refl _) _
        have HBW := Lib.hid hbw
        clear hbw
        have HOW : Hid (OwnI (wr.drew.alloc (.cells #[.int .i64 (z : Int)] 3)) w.heap.size u7 sl) := Lib.hid (OwnI.alloc (show OwnI wr.drew w.heap.size u7 sl from HO.out) _)
        have HBW2 : Hid (Below w.heap.size w (wr.drew.alloc (.cells #[.int .i64 (z : Int)] 3))) := Lib.hid ((bdrew HBEL.out).alloc HBEL.out.size _)
        go_upto_region 7 with fail
        go_region_law (refine step_append_ints rfl (.tmp 19) (.tmp 36) rfl w.heap.size u7 sl [z] (by simp [Act.eval]) HOW.out ⟨wr.heap.size, 0, none⟩ 1 1 (by simp [Act.eval]) rfl (one_int wr.drew z _ _ rfl _ rfl) (by have := HSL.out; omega) HBW2.out.size ?_; intro v2 w2 ho2 hb2 hg2; clear hg2)
        all_goals
          rw [← NX.out] at ho2
          have HO2 := Lib.hid ho2
          have HB2 := Lib.hid (HBW2.out.trans hb2)
          clear ho2 hb2
          go_wp2_with fail
          go_roundw
          case rel => exact ⟨t + 1, by omega, by go_num, HO2.out, HB2.out⟩
          case measure => simp [intOf]; omega
      · skip
        obtain ⟨q, hq⟩ : ∃ q, q = t / 8 := ⟨_, rfl⟩
        have htn : q < n := by omega
        obtain ⟨b, o, rfl, -⟩ := hr (by have := hn.out; intro e; rw [e] at this; simp at this; omega)
        obtain ⟨x, HX, hx⟩ := (hr.below hbel).at q (by rw [hn.out]; exact htn)
        have rx := u8lt x
        have i0 : (0 : Int) ≤ (q : Int) := by omega
        have i1 : (q : Int) < (n : Int) := by omega
        have t1 : (t : Int).tdiv 8 = (q : Int) := by rw [hq]; rfl
        have t2 : (t : Int) / 8 = (q : Int) := by rw [hq]; rfl
        have t3 : (t : Int).tmod 8 = 3 := by rw [show (t : Int).tmod 8 = ((t % 8 : Nat) : Int) from rfl, hr8]; rfl
        have t4 : (t : Int) % 8 = 3 := by omega
        have lw1 : IntKind.i64.wrap 1 = 1 := by decide
        have lw2 : IntKind.i64.wrap 2 = 2 := by decide
        have lw3 : IntKind.i64.wrap 3 = 3 := by decide
        have lw4 : IntKind.i64.wrap 4 = 4 := by decide
        have lw7 : IntKind.i64.wrap 7 = 7 := by decide
        have vat : IntKind.i64.wrap (t : Int) = (t : Int) := i64_in _ ⟨by omega, by omega⟩
        have vq : IntKind.i64.wrap (q : Int) = (q : Int) := i64_in _ ⟨by omega, by omega⟩
        have e1 : IntKind.i64.wrap (x.toNat : Int) = (x.toNat : Int) := i64_in _ ⟨by omega, by omega⟩
        obtain ⟨y, hy⟩ : ∃ y, y = x.toNat / 16 := ⟨_, rfl⟩
        have s1 : (x.toNat : Int) / 16 = (y : Int) := by rw [hy]; rfl
        have hy8 : y < 256 := by omega
        obtain ⟨z, hz⟩ : ∃ z, z = y % 2 := ⟨_, rfl⟩
        have e4 : bits .and .i64 (y : Int) 1 = (z : Int) := by rw [hz]; exact mask_few y 1 hy8 (by omega)
        have vy : IntKind.i64.wrap (y : Int) = (y : Int) := i64_in _ ⟨by omega, by omega⟩
        have vz : IntKind.i64.wrap (z : Int) = (z : Int) := i64_in _ ⟨by omega, by omega⟩
        have NX : Hid (sampR 1 (t + 1) row = sampR 1 t row ++ [z]) := Lib.hid (by rw [sampR_next]; congr 2; have h1 := HX.out; rw [hq] at h1; simp only [sampA, Nat.mul_one, List.getD, h1, hr8, Option.getD_some, hz, hy]; rfl)
        clear hq hy hz hr8
        have HO := Lib.hid hown
        obtain ⟨sl, hsl⟩ : ∃ sl, sl = sampR 1 t row := ⟨_, rfl⟩
        rw [← hsl] at HO NX
        have hsll : sl.length = t := by rw [hsl, sampR_len]
        have HSL := Lib.hid hsll
        have HBEL := Lib.hid hbel
        clear hsl hsll hown hbel
        have hbw : Below wr.heap.size wr (wr.alloc (.cells #[.int .i64 (z : Int)] 3)) := (Below.refl _ _).alloc (Nat.le_refl _) _
        have HBW := Lib.hid hbw
        clear hbw
        have HOW : Hid (OwnI (wr.drew.alloc (.cells #[.int .i64 (z : Int)] 3)) w.heap.size u7 sl) := Lib.hid (OwnI.alloc (show OwnI wr.drew w.heap.size u7 sl from HO.out) _)
        have HBW2 : Hid (Below w.heap.size w (wr.drew.alloc (.cells #[.int .i64 (z : Int)] 3))) := Lib.hid ((bdrew HBEL.out).alloc HBEL.out.size _)
        go_upto_region 7 with fail
        go_region_law (refine step_append_ints rfl (.tmp 19) (.tmp 36) rfl w.heap.size u7 sl [z] (by simp [Act.eval]) HOW.out ⟨wr.heap.size, 0, none⟩ 1 1 (by simp [Act.eval]) rfl (one_int wr.drew z _ _ rfl _ rfl) (by have := HSL.out; omega) HBW2.out.size ?_; intro v2 w2 ho2 hb2 hg2; clear hg2)
        all_goals
          rw [← NX.out] at ho2
          have HO2 := Lib.hid ho2
          have HB2 := Lib.hid (HBW2.out.trans hb2)
          clear ho2 hb2
          go_wp2_with fail
          go_roundw
          case rel => exact ⟨t + 1, by omega, by go_num, HO2.out, HB2.out⟩
          case measure => simp [intOf]; omega
      · skip
        obtain ⟨q, hq⟩ : ∃ q, q = t / 8 := ⟨_, rfl⟩
        have htn : q < n := by omega
        obtain ⟨b, o, rfl, -⟩ := hr (by have := hn.out; intro e; rw [e] at this; simp at this; omega)
        obtain ⟨x, HX, hx⟩ := (hr.below hbel).at q (by rw [hn.out]; exact htn)
        have rx := u8lt x
        have i0 : (0 : Int) ≤ (q : Int) := by omega
        have i1 : (q : Int) < (n : Int) := by omega
        have t1 : (t : Int).tdiv 8 = (q : Int) := by rw [hq]; rfl
        have t2 : (t : Int) / 8 = (q : Int) := by rw [hq]; rfl
        have t3 : (t : Int).tmod 8 = 4 := by rw [show (t : Int).tmod 8 = ((t % 8 : Nat) : Int) from rfl, hr8]; rfl
        have t4 : (t : Int) % 8 = 4 := by omega
        have lw1 : IntKind.i64.wrap 1 = 1 := by decide
        have lw2 : IntKind.i64.wrap 2 = 2 := by decide
        have lw3 : IntKind.i64.wrap 3 = 3 := by decide
        have lw4 : IntKind.i64.wrap 4 = 4 := by decide
        have lw7 : IntKind.i64.wrap 7 = 7 := by decide
        have vat : IntKind.i64.wrap (t : Int) = (t : Int) := i64_in _ ⟨by omega, by omega⟩
        have vq : IntKind.i64.wrap (q : Int) = (q : Int) := i64_in _ ⟨by omega, by omega⟩
        have e1 : IntKind.i64.wrap (x.toNat : Int) = (x.toNat : Int) := i64_in _ ⟨by omega, by omega⟩
        obtain ⟨y, hy⟩ : ∃ y, y = x.toNat / 8 := ⟨_, rfl⟩
        have s1 : (x.toNat : Int) / 8 = (y : Int) := by rw [hy]; rfl
        have hy8 : y < 256 := by omega
        obtain ⟨z, hz⟩ : ∃ z, z = y % 2 := ⟨_, rfl⟩
        have e4 : bits .and .i64 (y : Int) 1 = (z : Int) := by rw [hz]; exact mask_few y 1 hy8 (by omega)
        have vy : IntKind.i64.wrap (y : Int) = (y : Int) := i64_in _ ⟨by omega, by omega⟩
        have vz : IntKind.i64.wrap (z : Int) = (z : Int) := i64_in _ ⟨by omega, by omega⟩
        have NX : Hid (sampR 1 (t + 1) row = sampR 1 t row ++ [z]) := Lib.hid (by rw [sampR_next]; congr 2; have h1 := HX.out; rw [hq] at h1; simp only [sampA, Nat.mul_one, List.getD, h1, hr8, Option.getD_some, hz, hy]; rfl)
        clear hq hy hz hr8
        have HO := Lib.hid hown
        obtain ⟨sl, hsl⟩ : ∃ sl, sl = sampR 1 t row := ⟨_, rfl⟩
        rw [← hsl] at HO NX
        have hsll : sl.length = t := by rw [hsl, sampR_len]
        have HSL := Lib.hid hsll
        have HBEL := Lib.hid hbel
        clear hsl hsll hown hbel
        have hbw : Below wr.heap.size wr (wr.alloc (.cells #[.int .i64 (z : Int)] 3)) := (Below.refl _ _).alloc (Nat.le_refl _) _
        have HBW := Lib.hid hbw
        clear hbw
        have HOW : Hid (OwnI (wr.drew.alloc (.cells #[.int .i64 (z : Int)] 3)) w.heap.size u7 sl) := Lib.hid (OwnI.alloc (show OwnI wr.drew w.heap.size u7 sl from HO.out) _)
        have HBW2 : Hid (Below w.heap.size w (wr.drew.alloc (.cells #[.int .i64 (z : Int)] 3))) := Lib.hid ((bdrew HBEL.out).alloc HBEL.out.size _)
        go_upto_region 7 with fail
        go_region_law (refine step_append_ints rfl (.tmp 19) (.tmp 36) rfl w.heap.size u7 sl [z] (by simp [Act.eval]) HOW.out ⟨wr.heap.size, 0, none⟩ 1 1 (by simp [Act.eval]) rfl (one_int wr.drew z _ _ rfl _ rfl) (by have := HSL.out; omega) HBW2.out.size ?_; intro v2 w2 ho2 hb2 hg2; clear hg2)
        all_goals
          rw [← NX.out] at ho2
          have HO2 := Lib.hid ho2
          have HB2 := Lib.hid (HBW2.out.trans hb2)
          clear ho2 hb2
          go_wp2_with fail
          go_roundw
          case rel => exact ⟨t + 1, by omega, by go_num, HO2.out, HB2.out⟩
          case measure => simp [intOf]; omega
      · skip
        obtain ⟨q, hq⟩ : ∃ q, q = t / 8 := ⟨_, rfl⟩
        have htn : q < n := by omega
        obtain ⟨b, o, rfl, -⟩ := hr (by have := hn.out; intro e; rw [e] at this; simp at this; omega)
        obtain ⟨x, HX, hx⟩ := (hr.below hbel).at q (by rw [hn.out]; exact htn)
        have rx := u8lt x
        have i0 : (0 : Int) ≤ (q : Int) := by omega
        have i1 : (q : Int) < (n : Int) := by omega
        have t1 : (t : Int).tdiv 8 = (q : Int) := by rw [hq]; rfl
        have t2 : (t : Int) / 8 = (q : Int) := by rw [hq]; rfl
        have t3 : (t : Int).tmod 8 = 5 := by rw [show (t : Int).tmod 8 = ((t % 8 : Nat) : Int) from rfl, hr8]; rfl
        have t4 : (t : Int) % 8 = 5 := by omega
        have lw1 : IntKind.i64.wrap 1 = 1 := by decide
        have lw2 : IntKind.i64.wrap 2 = 2 := by decide
        have lw5 : IntKind.i64.wrap 5 = 5 := by decide
        have lw7 : IntKind.i64.wrap 7 = 7 := by decide
        have vat : IntKind.i64.wrap (t : Int) = (t : Int) := i64_in _ ⟨by omega, by omega⟩
        have vq : IntKind.i64.wrap (q : Int) = (q : Int) := i64_in _ ⟨by omega, by omega⟩
        have e1 : IntKind.i64.wrap (x.toNat : Int) = (x.toNat : Int) := i64_in _ ⟨by omega, by omega⟩
        obtain ⟨y, hy⟩ : ∃ y, y = x.toNat / 4 := ⟨_, rfl⟩
        have s1 : (x.toNat : Int) / 4 = (y : Int) := by rw [hy]; rfl
        have hy8 : y < 256 := by omega
        obtain ⟨z, hz⟩ : ∃ z, z = y % 2 := ⟨_, rfl⟩
        have e4 : bits .and .i64 (y : Int) 1 = (z : Int) := by rw [hz]; exact mask_few y 1 hy8 (by omega)
        have vy : IntKind.i64.wrap (y : Int) = (y : Int) := i64_in _ ⟨by omega, by omega⟩
        have vz : IntKind.i64.wrap (z : Int) = (z : Int) := i64_in _ ⟨by omega, by omega⟩
        have NX : Hid (sampR 1 (t + 1) row = sampR 1 t row ++ [z]) := Lib.hid (by rw [sampR_next]; congr 2; have h1 := HX.out; rw [hq] at h1; simp only [sampA, Nat.mul_one, List.getD, h1, hr8, Option.getD_some, hz, hy]; rfl)
        clear hq hy hz hr8
        have HO := Lib.hid hown
        obtain ⟨sl, hsl⟩ : ∃ sl, sl = sampR 1 t row := ⟨_, rfl⟩
        rw [← hsl] at HO NX
        have hsll : sl.length = t := by rw [hsl, sampR_len]
        have HSL := Lib.hid hsll
        have HBEL := Lib.hid hbel
        clear hsl hsll hown hbel
        have hbw : Below wr.heap.size wr (wr.alloc (.cells #[.int .i64 (z : Int)] 3)) := (Below.refl _ _).alloc (Nat.le_refl _) _
        have HBW := Lib.hid hbw
        clear hbw
        have HOW : Hid (OwnI (wr.drew.alloc (.cells #[.int .i64 (z : Int)] 3)) w.heap.size u7 sl) := Lib.hid (OwnI.alloc (show OwnI wr.drew w.heap.size u7 sl from HO.out) _)
        have HBW2 : Hid (Below w.heap.size w (wr.drew.alloc (.cells #[.int .i64 (z : Int)] 3))) := Lib.hid ((bdrew HBEL.out).alloc HBEL.out.size _)
        go_upto_region 7 with fail
        go_region_law (refine step_append_ints rfl (.tmp 19) (.tmp 36) rfl w.heap.size u7 sl [z] (by simp [Act.eval]) HOW.out ⟨wr.heap.size, 0, none⟩ 1 1 (by simp [Act.eval]) rfl (one_int wr.drew z _ _ rfl _ rfl) (by have := HSL.out; omega) HBW2.out.size ?_; intro v2 w2 ho2 hb2 hg2; clear hg2)
        all_goals
          rw [← NX.out] at ho2
          have HO2 := Lib.hid ho2
          have HB2 := Lib.hid (HBW2.out.trans hb2)
          clear ho2 hb2
          go_wp2_with fail
          go_roundw
          case rel => exact ⟨t + 1, by omega, by go_num, HO2.out, HB2.out⟩
          case measure => simp [intOf]; omega
      · skip
        obtain ⟨q, hq⟩ : ∃ q, q = t / 8 := ⟨_, rfl⟩
        have htn : q < n := by omega
        obtain ⟨b, o, rfl, -⟩ := hr (by have := hn.out; intro e; rw [e] at this; simp at this; omega)
        obtain ⟨x, HX, hx⟩ := (hr.below hbel).at q (by rw [hn.out]; exact htn)
        have rx := u8lt x
        have i0 : (0 : Int) ≤ (q : Int) := by omega
        have i1 : (q : Int) < (n : Int) := by omega
        have t1 : (t : Int).tdiv 8 = (q : Int) := by rw [hq]; rfl
        have t2 : (t : Int) / 8 = (q : Int) := by rw [hq]; rfl
        have t3 : (t : Int).tmod 8 = 6 := by rw [show (t : Int).tmod 8 = ((t % 8 : Nat) : Int) from rfl, hr8]; rfl
        have t4 : (t : Int) % 8 = 6 := by omega
        have lw1 : IntKind.i64.wrap 1 = 1 := by decide
        have lw2 : IntKind.i64.wrap 2 = 2 := by decide
        have lw6 : IntKind.i64.wrap 6 = 6 := by decide
        have lw7 : IntKind.i64.wrap 7 = 7 := by decide
        have vat : IntKind.i64.wrap (t : Int) = (t : Int) := i64_in _ ⟨by omega, by omega⟩
        have vq : IntKind.i64.wrap (q : Int) = (q : Int) := i64_in _ ⟨by omega, by omega⟩
        have e1 : IntKind.i64.wrap (x.toNat : Int) = (x.toNat : Int) := i64_in _ ⟨by omega, by omega⟩
        obtain ⟨y, hy⟩ : ∃ y, y = x.toNat / 2 := ⟨_, rfl⟩
        have s1 : (x.toNat : Int) / 2 = (y : Int) := by rw [hy]; rfl
        have hy8 : y < 256 := by omega
        obtain ⟨z, hz⟩ : ∃ z, z = y % 2 := ⟨_, rfl⟩
        have e4 : bits .and .i64 (y : Int) 1 = (z : Int) := by rw [hz]; exact mask_few y 1 hy8 (by omega)
        have vy : IntKind.i64.wrap (y : Int) = (y : Int) := i64_in _ ⟨by omega, by omega⟩
        have vz : IntKind.i64.wrap (z : Int) = (z : Int) := i64_in _ ⟨by omega, by omega⟩
        have NX : Hid (sampR 1 (t + 1) row = sampR 1 t row ++ [z]) := Lib.hid (by rw [sampR_next]; congr 2; have h1 := HX.out; rw [hq] at h1; simp only [sampA, Nat.mul_one, List.getD, h1, hr8, Option.getD_some, hz, hy]; rfl)
        clear hq hy hz hr8
        have HO := Lib.hid hown
        obtain ⟨sl, hsl⟩ : ∃ sl, sl = sampR 1 t row := ⟨_, rfl⟩
        rw [← hsl] at HO NX
        have hsll : sl.length = t := by rw [hsl, sampR_len]
        have HSL := Lib.hid hsll
        have HBEL := Lib.hid hbel
        clear hsl hsll hown hbel
        have hbw : Below wr.heap.size wr (wr.alloc (.cells #[.int .i64 (z : Int)] 3)) := (Below.refl _ _).alloc (Nat.le_refl _) _
        have HBW := Lib.hid hbw
        clear hbw
        have HOW : Hid (OwnI (wr.drew.alloc (.cells #[.int .i64 (z : Int)] 3)) w.heap.size u7 sl) := Lib.hid (OwnI.alloc (show OwnI wr.drew w.heap.size u7 sl from HO.out) _)
        have HBW2 : Hid (Below w.heap.size w (wr.drew.alloc (.cells #[.int .i64 (z : Int)] 3))) := Lib.hid ((bdrew HBEL.out).alloc HBEL.out.size _)
        go_upto_region 7 with fail
        go_region_law (refine step_append_ints rfl (.tmp 19) (.tmp 36) rfl w.heap.size u7 sl [z] (by simp [Act.eval]) HOW.out ⟨wr.heap.size, 0, none⟩ 1 1 (by simp [Act.eval]) rfl (one_int wr.drew z _ _ rfl _ rfl) (by have := HSL.out; omega) HBW2.out.size ?_; intro v2 w2 ho2 hb2 hg2; clear hg2)
        all_goals
          rw [← NX.out] at ho2
          have HO2 := Lib.hid ho2
          have HB2 := Lib.hid (HBW2.out.trans hb2)
          clear ho2 hb2
          go_wp2_with fail
          go_roundw
          case rel => exact ⟨t + 1, by omega, by go_num, HO2.out, HB2.out⟩
          case measure => simp [intOf]; omega
      · skip
        obtain ⟨q, hq⟩ : ∃ q, q = t / 8 := ⟨_, rfl⟩
        have htn : q < n := by omega
        obtain ⟨b, o, rfl, -⟩ := hr (by have := hn.out; intro e; rw [e] at this; simp at this; omega)
        obtain ⟨x, HX, hx⟩ := (hr.below hbel).at q (by rw [hn.out]; exact htn)
        have rx := u8lt x
        have i0 : (0 : Int) ≤ (q : Int) := by omega
        have i1 : (q : Int) < (n : Int) := by omega
        have t1 : (t : Int).tdiv 8 = (q : Int) := by rw [hq]; rfl
        have t2 : (t : Int) / 8 = (q : Int) := by rw [hq]; rfl
        have t3 : (t : Int).tmod 8 = 7 := by rw [show (t : Int).tmod 8 = ((t % 8 : Nat) : Int) from rfl, hr8]; rfl
        have t4 : (t : Int) % 8 = 7 := by omega
        have lw0 : IntKind.i64.wrap 0 = 0 := by decide
        have lw1 : IntKind.i64.wrap 1 = 1 := by decide
        have lw2 : IntKind.i64.wrap 2 = 2 := by decide
        have lw7 : IntKind.i64.wrap 7 = 7 := by decide
        have vat : IntKind.i64.wrap (t : Int) = (t : Int) := i64_in _ ⟨by omega, by omega⟩
        have vq : IntKind.i64.wrap (q : Int) = (q : Int) := i64_in _ ⟨by omega, by omega⟩
        have e1 : IntKind.i64.wrap (x.toNat : Int) = (x.toNat : Int) := i64_in _ ⟨by omega, by omega⟩
        obtain ⟨y, hy⟩ : ∃ y, y = x.toNat / 1 := ⟨_, rfl⟩
        have s1 : (x.toNat : Int) = (y : Int) := by omega
        have hy8 : y < 256 := by omega
        obtain ⟨z, hz⟩ : ∃ z, z = y % 2 := ⟨_, rfl⟩
        have e4 : bits .and .i64 (y : Int) 1 = (z : Int) := by rw [hz]; exact mask_few y 1 hy8 (by omega)
        have vy : IntKind.i64.wrap (y : Int) = (y : Int) := i64_in _ ⟨by omega, by omega⟩
        have vz : IntKind.i64.wrap (z : Int) = (z : Int) := i64_in _ ⟨by omega, by omega⟩
        have NX : Hid (sampR 1 (t + 1) row = sampR 1 t row ++ [z]) := Lib.hid (by rw [sampR_next]; congr 2; have h1 := HX.out; rw [hq] at h1; simp only [sampA, Nat.mul_one, List.getD, h1, hr8, Option.getD_some, hz, hy]; rfl)
        clear hq hy hz hr8
        have HO := Lib.hid hown
        obtain ⟨sl, hsl⟩ : ∃ sl, sl = sampR 1 t row := ⟨_, rfl⟩
        rw [← hsl] at HO NX
        have hsll : sl.length = t := by rw [hsl, sampR_len]
        have HSL := Lib.hid hsll
        have HBEL := Lib.hid hbel
        clear hsl hsll hown hbel
        have hbw : Below wr.heap.size wr (wr.alloc (.cells #[.int .i64 (z : Int)] 3)) := (Below.refl _ _).alloc (Nat.le_refl _) _
        have HBW := Lib.hid hbw
        clear hbw
        have HOW : Hid (OwnI (wr.drew.alloc (.cells #[.int .i64 (z : Int)] 3)) w.heap.size u7 sl) := Lib.hid (OwnI.alloc (show OwnI wr.drew w.heap.size u7 sl from HO.out) _)
        have HBW2 : Hid (Below w.heap.size w (wr.drew.alloc (.cells #[.int .i64 (z : Int)] 3))) := Lib.hid ((bdrew HBEL.out).alloc HBEL.out.size _)
        go_upto_region 7 with fail
        go_region_law (refine step_append_ints rfl (.tmp 19) (.tmp 36) rfl w.heap.size u7 sl [z] (by simp [Act.eval]) HOW.out ⟨wr.heap.size, 0, none⟩ 1 1 (by simp [Act.eval]) rfl (one_int wr.drew z _ _ rfl _ rfl) (by have := HSL.out; omega) HBW2.out.size ?_; intro v2 w2 ho2 hb2 hg2; clear hg2)
        all_goals
          rw [← NX.out] at ho2
          have HO2 := Lib.hid ho2
          have HB2 := Lib.hid (HBW2.out.trans hb2)
          clear ho2 hb2
          go_wp2_with fail
          go_roundw
          case rel => exact ⟨t + 1, by omega, by go_num, HO2.out, HB2.out⟩
          case measure => simp [intOf]; omega
    · obtain rfl : m = t := by omega
      have HO := Lib.hid hown
      have HB := Lib.hid hbel
      clear hown hbel
      go_wp2_with fail
      go_ret
      exact ⟨_, rfl, HO.out, HB.out⟩
set_option maxHeartbeats 1600000 in
set_option maxRecDepth 100000 in
theorem samplesOf_2 (ad : Option Addr) (n cap m : Nat) (row : List UInt8) (w : World) (hn : Hid (row.length = n)) (hr : RB w ad row) (hm : m ≤ 1000) (hfit : m * 2 ≤ 8 * n) (hb : n ≤ 100000) :
    Calls Tryd.prog 17 #[.slice ad n cap, .int .i64 (m : Int), .int .i64 2] w (SamEnd 2 m row w) := by
  go_enter Tryd.func17, Tryd.ntmps17
  go_upto_region 3 with fail
  go_loopw [7, 12] (fun v i wr => ∃ t : Nat, t ≤ m ∧ i = .int .i64 (t : Int) ∧ OwnI wr w.heap.size v (sampR 2 t row) ∧ Below w.heap.size w wr) (fun _ i _ => m - (intOf i).toNat)
  case atStart => exact ⟨0, Nat.zero_le _, rfl, OwnI.empty w w.heap.size (Nat.le_refl _), (Below.refl _ _).alloc (Nat.le_refl _) _⟩
  case round =>
    obtain ⟨t, ht, rfl, hown, hbel⟩ := hrel
    by_cases hlt : t < m
    · obtain ⟨at0, hat⟩ : ∃ at0, at0 = t * 2 := ⟨_, rfl⟩
      have mat : (t : Int) * 2 = (at0 : Int) := by rw [hat]; rfl
      rcases (by omega : at0 % 8 = 0 ∨ at0 % 8 = 2 ∨ at0 % 8 = 4 ∨ at0 % 8 = 6) with hr8 | hr8 | hr8 | hr8
      · skip
        obtain ⟨q, hq⟩ : ∃ q, q = at0 / 8 := ⟨_, rfl⟩
        have htn : q < n := by omega
        obtain ⟨b, o, rfl, -⟩ := hr (by have := hn.out; intro e; rw [e] at this; simp at this; omega)
        obtain ⟨x, HX, hx⟩ := (hr.below hbel).at q (by rw [hn.out]; exact htn)
        have rx := u8lt x
        have i0 : (0 : Int) ≤ (q : Int) := by omega
        have i1 : (q : Int) < (n : Int) := by omega
        have t1 : (at0 : Int).tdiv 8 = (q : Int) := by rw [hq]; rfl
        have t2 : (at0 : Int) / 8 = (q : Int) := by rw [hq]; rfl
        have t3 : (at0 : Int).tmod 8 = 0 := by rw [show (at0 : Int).tmod 8 = ((at0 % 8 : Nat) : Int) from rfl, hr8]; rfl
        have t4 : (at0 : Int) % 8 = 0 := by omega
        have lw0 : IntKind.i64.wrap 0 = 0 := by decide
        have lw3 : IntKind.i64.wrap 3 = 3 := by decide
        have lw4 : IntKind.i64.wrap 4 = 4 := by decide
        have lw6 : IntKind.i64.wrap 6 = 6 := by decide
        have vat : IntKind.i64.wrap (at0 : Int) = (at0 : Int) := i64_in _ ⟨by omega, by omega⟩
        have vq : IntKind.i64.wrap (q : Int) = (q : Int) := i64_in _ ⟨by omega, by omega⟩
        have e1 : IntKind.i64.wrap (x.toNat : Int) = (x.toNat : Int) := i64_in _ ⟨by omega, by omega⟩
        obtain ⟨y, hy⟩ : ∃ y, y = x.toNat / 64 := ⟨_, rfl⟩
        have s1 : (x.toNat : Int) / 64 = (y : Int) := by rw [hy]; rfl
        have hy8 : y < 256 := by omega
        obtain ⟨z, hz⟩ : ∃ z, z = y % 4 := ⟨_, rfl⟩
        have e4 : bits .and .i64 (y : Int) 3 = (z : Int) := by rw [hz]; exact mask_few y 2 hy8 (by omega)
        have vy : IntKind.i64.wrap (y : Int) = (y : Int) := i64_in _ ⟨by omega, by omega⟩
        have vz : IntKind.i64.wrap (z : Int) = (z : Int) := i64_in _ ⟨by omega, by omega⟩
        have NX : Hid (sampR 2 (t + 1) row = sampR 2 t row ++ [z]) := Lib.hid (by rw [sampR_next]; congr 2; have h1 := HX.out; rw [hq, hat] at h1; rw [hat] at hr8; simp only [sampA, List.getD, h1, hr8, Option.getD_some, hz, hy]; rfl)
        clear hq hy hz hat hr8
        have HO := Lib.hid hown
        obtain ⟨sl, hsl⟩ : ∃ sl, sl = sampR 2 t row := ⟨_, rfl⟩
        rw [← hsl] at HO NX
        have hsll : sl.length = t := by rw [hsl, sampR_len]
        have HSL := Lib.hid hsll
        have HBEL := Lib.hid hbel
        clear hsl hsll hown hbel
        have hbw : Below wr.heap.size wr (wr.alloc (.cells #[.int .i64 (z : Int)] 3)) := (Below.refl _ _).alloc (Nat.le_refl _) _
        have HBW := Lib.hid hbw
        clear hbw
        have HOW : Hid (OwnI (wr.drew.alloc (.cells #[.int .i64 (z : Int)] 3)) w.heap.size u7 sl) := Lib.hid (OwnI.alloc (show OwnI wr.drew w.heap.size u7 sl from HO.out) _)
        have HBW2 : Hid (Below w.heap.size w (wr.drew.alloc (.cells #[.int .i64 (z : Int)] 3))) := Lib.hid ((bdrew HBEL.out).alloc HBEL.out.size _)
        go_upto_region 7 with fail
        go_region_law (refine step_append_ints rfl (.tmp 19) (.tmp 36) rfl w.heap.size u7 sl [z] (by simp [Act.eval]) HOW.out ⟨wr.heap.size, 0, none⟩ 1 1 (by simp [Act.eval]) rfl (one_int wr.drew z _ _ rfl _ rfl) (by have := HSL.out; omega) HBW2.out.size ?_; intro v2 w2 ho2 hb2 hg2; clear hg2)
        all_goals
          rw [← NX.out] at ho2
          have HO2 := Lib.hid ho2
          have HB2 := Lib.hid (HBW2.out.trans hb2)
          clear ho2 hb2
          go_wp2_with fail
          go_roundw
          case rel => exact ⟨t + 1, by omega, by go_num, HO2.out, HB2.out⟩
          case measure => simp [intOf]; omega
      · skip
        obtain ⟨q, hq⟩ : ∃ q, q = at0 / 8 := ⟨_, rfl⟩
        have htn : q < n := by omega
        obtain ⟨b, o, rfl, -⟩ := hr (by have := hn.out; intro e; rw [e] at this; simp at this; omega)
        obtain ⟨x, HX, hx⟩ := (hr.below hbel).at q (by rw [hn.out]; exact htn)
        have rx := u8lt x
        have i0 : (0 : Int) ≤ (q : Int) := by omega
        have i1 : (q : Int) < (n : Int) := by omega
        have t1 : (at0 : Int).tdiv 8 = (q : Int) := by rw [hq]; rfl
        have t2 : (at0 : Int) / 8 = (q : Int) := by rw [hq]; rfl
        have t3 : (at0 : Int).tmod 8 = 2 := by rw [show (at0 : Int).tmod 8 = ((at0 % 8 : Nat) : Int) from rfl, hr8]; rfl
        have t4 : (at0 : Int) % 8 = 2 := by omega
        have lw2 : IntKind.i64.wrap 2 = 2 := by decide
        have lw3 : IntKind.i64.wrap 3 = 3 := by decide
        have lw4 : IntKind.i64.wrap 4 = 4 := by decide
        have lw6 : IntKind.i64.wrap 6 = 6 := by decide
        have vat : IntKind.i64.wrap (at0 : Int) = (at0 : Int) := i64_in _ ⟨by omega, by omega⟩
        have vq : IntKind.i64.wrap (q : Int) = (q : Int) := i64_in _ ⟨by omega, by omega⟩
        have e1 : IntKind.i64.wrap (x.toNat : Int) = (x.toNat : Int) := i64_in _ ⟨by omega, by omega⟩
        obtain ⟨y, hy⟩ : ∃ y, y = x.toNat / 16 := ⟨_, rfl⟩
        have s1 : (x.toNat : Int) / 16 = (y : Int) := by rw [hy]; rfl
        have hy8 : y < 256 := by omega
        obtain ⟨z, hz⟩ : ∃ z, z = y % 4 := ⟨_, rfl⟩
        have e4 : bits .and .i64 (y : Int) 3 = (z : Int) := by rw [hz]; exact mask_few y 2 hy8 (by omega)
        have vy : IntKind.i64.wrap (y : Int) = (y : Int) := i64_in _ ⟨by omega, by omega⟩
        have vz : IntKind.i64.wrap (z : Int) = (z : Int) := i64_in _ ⟨by omega, by omega⟩
        have NX : Hid (sampR 2 (t + 1) row = sampR 2 t row ++ [z]) := Lib.hid (by rw [sampR_next]; congr 2; have h1 := HX.out; rw [hq, hat] at h1; rw [hat] at hr8; simp only [sampA, List.getD, h1, hr8, Option.getD_some, hz, hy]; rfl)
        clear hq hy hz hat hr8
        have HO := Lib.hid hown
        obtain ⟨sl, hsl⟩ : ∃ sl, sl = sampR 2 t row := ⟨_, rfl⟩
        rw [← hsl] at HO NX
        have hsll : sl.length = t := by rw [hsl, sampR_len]
        have HSL := Lib.hid hsll
        have HBEL := Lib.hid hbel
        clear hsl hsll hown hbel
        have hbw : Below wr.heap.size wr (wr.alloc (.cells #[.int .i64 (z : Int)] 3)) := (Below.refl _ _).alloc (Nat.le_refl _) _
        have HBW := Lib.hid hbw
        clear hbw
        have HOW : Hid (OwnI (wr.drew.alloc (.cells #[.int .i64 (z : Int)] 3)) w.heap.size u7 sl) := Lib.hid (OwnI.alloc (show OwnI wr.drew w.heap.size u7 sl from HO.out) _)
        have HBW2 : Hid (Below w.heap.size w (wr.drew.alloc (.cells #[.int .i64 (z : Int)] 3))) := Lib.hid ((bdrew HBEL.out).alloc HBEL.out.size _)
        go_upto_region 7 with fail
        go_region_law (refine step_append_ints rfl (.tmp 19) (.tmp 36) rfl w.heap.size u7 sl [z] (by simp [Act.eval]) HOW.out ⟨wr.heap.size, 0, none⟩ 1 1 (by simp [Act.eval]) rfl (one_int wr.drew z _ _ rfl _ rfl) (by have := HSL.out; omega) HBW2.out.size ?_; intro v2 w2 ho2 hb2 hg2; clear hg2)
        all_goals
          rw [← NX.out] at ho2
          have HO2 := Lib.hid ho2
          have HB2 := Lib.hid (HBW2.out.trans hb2)
          clear ho2 hb2
          go_wp2_with fail
          go_roundw
          case rel => exact ⟨t + 1, by omega, by go_num, HO2.out, HB2.out⟩
          case measure => simp [intOf]; omega
      · skip
        obtain ⟨q, hq⟩ : ∃ q, q = at0 / 8 := ⟨_, rfl⟩
        have htn : q < n := by omega
        obtain ⟨b, o, rfl, -⟩ := hr (by have := hn.out; intro e; rw [e] at this; simp at this; omega)
        obtain ⟨x, HX, hx⟩ := (hr.below hbel).at q (by rw [hn.out]; exact htn)
        have rx := u8lt x
        have i0 : (0 : Int) ≤ (q : Int) := by omega
        have i1 : (q : Int) < (n : Int) := by omega
        have t1 : (at0 : Int).tdiv 8 = (q : Int) := by rw [hq]; rfl
        have t2 : (at0 : Int) / 8 = (q : Int) := by rw [hq]; rfl
        have t3 : (at0 : Int).tmod 8 = 4 := by rw [show (at0 : Int).tmod 8 = ((at0 % 8 : Nat) : Int) from rfl, hr8]; rfl
        have t4 : (at0 : Int) % 8 = 4 := by omega
        have lw2 : IntKind.i64.wrap 2 = 2 := by decide
        have lw3 : IntKind.i64.wrap 3 = 3 := by decide
        have lw4 : IntKind.i64.wrap 4 = 4 := by decide
        have lw6 : IntKind.i64.wrap 6 = 6 := by decide
        have vat : IntKind.i64.wrap (at0 : Int) = (at0 : Int) := i64_in _ ⟨by omega, by omega⟩
        have vq : IntKind.i64.wrap (q : Int) = (q : Int) := i64_in _ ⟨by omega, by omega⟩
        have e1 : IntKind.i64.wrap (x.toNat : Int) = (x.toNat : Int) := i64_in _ ⟨by omega, by omega⟩
        obtain ⟨y, hy⟩ : ∃ y, y = x.toNat / 4 := ⟨_, rfl⟩
        have s1 : (x.toNat : Int) / 4 = (y : Int) := by rw [hy]; rfl
        have hy8 : y < 256 := by omega
        obtain ⟨z, hz⟩ : ∃ z, z = y % 4 := ⟨_, rfl⟩
        have e4 : bits .and .i64 (y : Int) 3 = (z : Int) := by rw [hz]; exact mask_few y 2 hy8 (by omega)
        have vy : IntKind.i64.wrap (y : Int) = (y : Int) := i64_in _ ⟨by omega, by omega⟩
        have vz : IntKind.i64.wrap (z : Int) = (z : Int) := i64_in _ ⟨by omega, by omega⟩
        have NX : Hid (sampR 2 (t + 1) row = sampR 2 t row ++ [z]) := Lib.hid (by rw [sampR_next]; congr 2; have h1 := HX.out; rw [hq, hat] at h1; rw [hat] at hr8; simp only [sampA, List.getD, h1, hr8, Option.getD_some, hz, hy]; rfl)
        clear hq hy hz hat hr8
        have HO := Lib.hid hown
        obtain ⟨sl, hsl⟩ : ∃ sl, sl = sampR 2 t row := ⟨_, rfl⟩
        rw [← hsl] at HO NX
        have hsll : sl.length = t := by rw [hsl, sampR_len]
        have HSL := Lib.hid hsll
        have HBEL := Lib.hid hbel
        clear hsl hsll hown hbel
        have hbw : Below wr.heap.size wr (wr.alloc (.cells #[.int .i64 (z : Int)] 3)) := (Below.refl _ _).alloc (Nat.le_refl _) _
        have HBW := Lib.hid hbw
        clear hbw
        have HOW : Hid (OwnI (wr.drew.alloc (.cells #[.int .i64 (z : Int)] 3)) w.heap.size u7 sl) := Lib.hid (OwnI.alloc (show OwnI wr.drew w.heap.size u7 sl from HO.out) _)
        have HBW2 : Hid (Below w.heap.size w (wr.drew.alloc (.cells #[.int .i64 (z : Int)] 3))) := Lib.hid ((bdrew HBEL.out).alloc HBEL.out.size _)
        go_upto_region 7 with fail
        go_region_law (refine step_append_ints rfl (.tmp 19) (.tmp 36) rfl w.heap.size u7 sl [z] (by simp [Act.eval]) HOW.out ⟨wr.heap.size, 0, none⟩ 1 1 (by simp [Act.eval]) rfl (one_int wr.drew z _ _ rfl _ rfl) (by have := HSL.out; omega) HBW2.out.size ?_; intro v2 w2 ho2 hb2 hg2; clear hg2)
        all_goals
          rw [← NX.out] at ho2
          have HO2 := Lib.hid ho2
          have HB2 := Lib.hid (HBW2.out.trans hb2)
          clear ho2 hb2
          go_wp2_with fail
          go_roundw
          case rel => exact ⟨t + 1, by omega, by go_num, HO2.out, HB2.out⟩
          case measure => simp [intOf]; omega
      · skip
        obtain ⟨q, hq⟩ : ∃ q, q = at0 / 8 := ⟨_, rfl⟩
        have htn : q < n := by omega
        obtain ⟨b, o, rfl, -⟩ := hr (by have := hn.out; intro e; rw [e] at this; simp at this; omega)
        obtain ⟨x, HX, hx⟩ := (hr.below hbel).at q (by rw [hn.out]; exact htn)
        have rx := u8lt x
        have i0 : (0 : Int) ≤ (q : Int) := by omega
        have i1 : (q : Int) < (n : Int) := by omega
        have t1 : (at0 : Int).tdiv 8 = (q : Int) := by rw [hq]; rfl
        have t2 : (at0 : Int) / 8 = (q : Int) := by rw [hq]; rfl
        have t3 : (at0 : Int).tmod 8 = 6 := by rw [show (at0 : Int).tmod 8 = ((at0 % 8 : Nat) : Int) from rfl, hr8]; rfl
        have t4 : (at0 : Int) % 8 = 6 := by omega
        have lw0 : IntKind.i64.wrap 0 = 0 := by decide
        have lw3 : IntKind.i64.wrap 3 = 3 := by decide
        have lw4 : IntKind.i64.wrap 4 = 4 := by decide
        have lw6 : IntKind.i64.wrap 6 = 6 := by decide
        have vat : IntKind.i64.wrap (at0 : Int) = (at0 : Int) := i64_in _ ⟨by omega, by omega⟩
        have vq : IntKind.i64.wrap (q : Int) = (q : Int) := i64_in _ ⟨by omega, by omega⟩
        have e1 : IntKind.i64.wrap (x.toNat : Int) = (x.toNat : Int) := i64_in _ ⟨by omega, by omega⟩
        obtain ⟨y, hy⟩ : ∃ y, y = x.toNat / 1 := ⟨_, rfl⟩
        have s1 : (x.toNat : Int) = (y : Int) := by omega
        have hy8 : y < 256 := by omega
        obtain ⟨z, hz⟩ : ∃ z, z = y % 4 := ⟨_, rfl⟩
        have e4 : bits .and .i64 (y : Int) 3 = (z : Int) := by rw [hz]; exact mask_few y 2 hy8 (by omega)
        have vy : IntKind.i64.wrap (y : Int) = (y : Int) := i64_in _ ⟨by omega, by omega⟩
        have vz : IntKind.i64.wrap (z : Int) = (z : Int) := i64_in _ ⟨by omega, by omega⟩
        have NX : Hid (sampR 2 (t + 1) row = sampR 2 t row ++ [z]) := Lib.hid (by rw [sampR_next]; congr 2; have h1 := HX.out; rw [hq, hat] at h1; rw [hat] at hr8; simp only [sampA, List.getD, h1, hr8, Option.getD_some, hz, hy]; rfl)
        clear hq hy hz hat hr8
        have HO := Lib.hid hown
        obtain ⟨sl, hsl⟩ : ∃ sl, sl = sampR 2 t row := ⟨_, rfl⟩
        rw [← hsl] at HO NX
        have hsll : sl.length = t := by rw [hsl, sampR_len]
        have HSL := Lib.hid hsll
        have HBEL := Lib.hid hbel
        clear hsl hsll hown hbel
        have hbw : Below wr.heap.size wr (wr.alloc (.cells #[.int .i64 (z : Int)] 3)) := (Below.refl _ _).alloc (Nat.le_refl _) _
        have HBW := Lib.hid hbw
        clear hbw
        have HOW : Hid (OwnI (wr.drew.alloc (.cells #[.int .i64 (z : Int)] 3)) w.heap.size u7 sl) := Lib.hid (OwnI.alloc (show OwnI wr.drew w.heap.size u7 sl from HO.out) _)
        have HBW2 : Hid (Below w.heap.size w (wr.drew.alloc (.cells #[.int .i64 (z : Int)] 3))) := Lib.hid ((bdrew HBEL.out).alloc HBEL.out.size _)
        go_upto_region 7 with fail
        go_region_law (refine step_append_ints rfl (.tmp 19) (.tmp 36) rfl w.heap.size u7 sl [z] (by simp [Act.eval]) HOW.out ⟨wr.heap.size, 0, none⟩ 1 1 (by simp [Act.eval]) rfl (one_int wr.drew z _ _ rfl _ rfl) (by have := HSL.out; omega) HBW2.out.size ?_; intro v2 w2 ho2 hb2 hg2; clear hg2)
        all_goals
          rw [← NX.out] at ho2
          have HO2 := Lib.hid ho2
          have HB2 := Lib.hid (HBW2.out.trans hb2)
          clear ho2 hb2
          go_wp2_with fail
          go_roundw
          case rel => exact ⟨t + 1, by omega, by go_num, HO2.out, HB2.out⟩
          case measure => simp [intOf]; omega
    · obtain rfl : m = t := by omega
      have HO := Lib.hid hown
      have HB := Lib.hid hbel
      clear hown hbel
      go_wp2_with fail
      go_ret
      exact ⟨_, rfl, HO.out, HB.out⟩
set_option maxHeartbeats 1600000 in
set_option maxRecDepth 100000 in
theorem samplesOf_4 (ad : Option Addr) (n cap m : Nat) (row : List UInt8) (w : World) (hn : Hid (row.length = n)) (hr : RB w ad row) (hm : m ≤ 1000) (hfit : m * 4 ≤ 8 * n) (hb : n ≤ 100000) :
    Calls Tryd.prog 17 #[.slice ad n cap, .int .i64 (m : Int), .int .i64 4] w (SamEnd 4 m row w) := by
  go_enter Tryd.func17, Tryd.ntmps17
  go_upto_region 3 with fail
  go_loopw [7, 12] (fun v i wr => ∃ t : Nat, t ≤ m ∧ i = .int .i64 (t : Int) ∧ OwnI wr w.heap.size v (sampR 4 t row) ∧ Below w.heap.size w wr) (fun _ i _ => m - (intOf i).toNat)
  case atStart => exact ⟨0, Nat.zero_le _, rfl, OwnI.empty w w.heap.size (Nat.le_refl _), (Below.refl _ _).alloc (Nat.le_refl _) _⟩
  case round =>
    obtain ⟨t, ht, rfl, hown, hbel⟩ := hrel
    by_cases hlt : t < m
    · obtain ⟨at0, hat⟩ : ∃ at0, at0 = t * 4 := ⟨_, rfl⟩
      have mat : (t : Int) * 4 = (at0 : Int) := by rw [hat]; rfl
      rcases (by omega : at0 % 8 = 0 ∨ at0 % 8 = 4) with hr8 | hr8
      · skip
        obtain ⟨q, hq⟩ : ∃ q, q = at0 / 8 := ⟨_, rfl⟩
        have htn : q < n := by omega
        obtain ⟨b, o, rfl, -⟩ := hr (by have := hn.out; intro e; rw [e] at this; simp at this; omega)
        obtain ⟨x, HX, hx⟩ := (hr.below hbel).at q (by rw [hn.out]; exact htn)
        have rx := u8lt x
        have i0 : (0 : Int) ≤ (q : Int) := by omega
        have i1 : (q : Int) < (n : Int) := by omega
        have t1 : (at0 : Int).tdiv 8 = (q : Int) := by rw [hq]; rfl
        have t2 : (at0 : Int) / 8 = (q : Int) := by rw [hq]; rfl
        have t3 : (at0 : Int).tmod 8 = 0 := by rw [show (at0 : Int).tmod 8 = ((at0 % 8 : Nat) : Int) from rfl, hr8]; rfl
        have t4 : (at0 : Int) % 8 = 0 := by omega
        have lw0 : IntKind.i64.wrap 0 = 0 := by decide
        have lw4 : IntKind.i64.wrap 4 = 4 := by decide
        have lw15 : IntKind.i64.wrap 15 = 15 := by decide
        have lw16 : IntKind.i64.wrap 16 = 16 := by decide
        have vat : IntKind.i64.wrap (at0 : Int) = (at0 : Int) := i64_in _ ⟨by omega, by omega⟩
        have vq : IntKind.i64.wrap (q : Int) = (q : Int) := i64_in _ ⟨by omega, by omega⟩
        have e1 : IntKind.i64.wrap (x.toNat : Int) = (x.toNat : Int) := i64_in _ ⟨by omega, by omega⟩
        obtain ⟨y, hy⟩ : ∃ y, y = x.toNat / 16 := ⟨_, rfl⟩
        have s1 : (x.toNat : Int) / 16 = (y : Int) := by rw [hy]; rfl
        have hy8 : y < 256 := by omega
        obtain ⟨z, hz⟩ : ∃ z, z = y % 16 := ⟨_, rfl⟩
        have e4 : bits .and .i64 (y : Int) 15 = (z : Int) := by rw [hz]; exact mask_few y 4 hy8 (by omega)
        have vy : IntKind.i64.wrap (y : Int) = (y : Int) := i64_in _ ⟨by omega, by omega⟩
        have vz : IntKind.i64.wrap (z : Int) = (z : Int) := i64_in _ ⟨by omega, by omega⟩
        have NX : Hid (sampR 4 (t + 1) row = sampR 4 t row ++ [z]) := Lib.hid (by rw [sampR_next]; congr 2; have h1 := HX.out; rw [hq, hat] at h1; rw [hat] at hr8; simp only [sampA, List.getD, h1, hr8, Option.getD_some, hz, hy]; rfl)
        clear hq hy hz hat hr8
        have HO := Lib.hid hown
        obtain ⟨sl, hsl⟩ : ∃ sl, sl = sampR 4 t row := ⟨_, rfl⟩
        rw [← hsl] at HO NX
        have hsll : sl.length = t := by rw [hsl, sampR_len]
        have HSL := Lib.hid hsll
        have HBEL := Lib.hid hbel
        clear hsl hsll hown hbel
        have hbw : Below wr.heap.size wr (wr.alloc (.cells #[.int .i64 (z : Int)] 3)) := (Below.refl _ _).alloc (Nat.le_refl _) _
        have HBW := Lib.hid hbw
        clear hbw
        have HOW : Hid (OwnI (wr.drew.alloc (.cells #[.int .i64 (z : Int)] 3)) w.heap.size u7 sl) := Lib.hid (OwnI.alloc (show OwnI wr.drew w.heap.size u7 sl from HO.out) _)
        have HBW2 : Hid (Below w.heap.size w (wr.drew.alloc (.cells #[.int .i64 (z : Int)] 3))) := Lib.hid ((bdrew HBEL.out).alloc HBEL.out.size _)
        go_upto_region 7 with fail
        go_region_law (refine step_append_ints rfl (.tmp 19) (.tmp 36) rfl w.heap.size u7 sl [z] (by simp [Act.eval]) HOW.out ⟨wr.heap.size, 0, none⟩ 1 1 (by simp [Act.eval]) rfl (one_int wr.drew z _ _ rfl _ rfl) (by have := HSL.out; omega) HBW2.out.size ?_; intro v2 w2 ho2 hb2 hg2; clear hg2)
        all_goals
          rw [← NX.out] at ho2
          have HO2 := Lib.hid ho2
          have HB2 := Lib.hid (HBW2.out.trans hb2)
          clear ho2 hb2
          go_wp2_with fail
          go_roundw
          case rel => exact ⟨t + 1, by omega, by go_num, HO2.out, HB2.out⟩
          case measure => simp [intOf]; omega
      · skip
        obtain ⟨q, hq⟩ : ∃ q, q = at0 / 8 := ⟨_, rfl⟩
        have htn : q < n := by omega
        obtain ⟨b, o, rfl, -⟩ := hr (by have := hn.out; intro e; rw [e] at this; simp at this; omega)
        obtain ⟨x, HX, hx⟩ := (hr.below hbel).at q (by rw [hn.out]; exact htn)
        have rx := u8lt x
        have i0 : (0 : Int) ≤ (q : Int) := by omega
        have i1 : (q : Int) < (n : Int) := by omega
        have t1 : (at0 : Int).tdiv 8 = (q : Int) := by rw [hq]; rfl
        have t2 : (at0 : Int) / 8 = (q : Int) := by rw [hq]; rfl
        have t3 : (at0 : Int).tmod 8 = 4 := by rw [show (at0 : Int).tmod 8 = ((at0 % 8 : Nat) : Int) from rfl, hr8]; rfl
        have t4 : (at0 : Int) % 8 = 4 := by omega
        have lw0 : IntKind.i64.wrap 0 = 0 := by decide
        have lw4 : IntKind.i64.wrap 4 = 4 := by decide
        have lw15 : IntKind.i64.wrap 15 = 15 := by decide
        have lw16 : IntKind.i64.wrap 16 = 16 := by decide
        have vat : IntKind.i64.wrap (at0 : Int) = (at0 : Int) := i64_in _ ⟨by omega, by omega⟩
        have vq : IntKind.i64.wrap (q : Int) = (q : Int) := i64_in _ ⟨by omega, by omega⟩
        have e1 : IntKind.i64.wrap (x.toNat : Int) = (x.toNat : Int) := i64_in _ ⟨by omega, by omega⟩
        obtain ⟨y, hy⟩ : ∃ y, y = x.toNat / 1 := ⟨_, rfl⟩
        have s1 : (x.toNat : Int) = (y : Int) := by omega
        have hy8 : y < 256 := by omega
        obtain ⟨z, hz⟩ : ∃ z, z = y % 16 := ⟨_, rfl⟩
        have e4 : bits .and .i64 (y : Int) 15 = (z : Int) := by rw [hz]; exact mask_few y 4 hy8 (by omega)
        have vy : IntKind.i64.wrap (y : Int) = (y : Int) := i64_in _ ⟨by omega, by omega⟩
        have vz : IntKind.i64.wrap (z : Int) = (z : Int) := i64_in _ ⟨by omega, by omega⟩
        have NX : Hid (sampR 4 (t + 1) row = sampR 4 t row ++ [z]) := Lib.hid (by rw [sampR_next]; congr 2; have h1 := HX.out; rw [hq, hat] at h1; rw [hat] at hr8; simp only [sampA, List.getD, h1, hr8, Option.getD_some, hz, hy]; rfl)
        clear hq hy hz hat hr8
        have HO := Lib.hid hown
        obtain ⟨sl, hsl⟩ : ∃ sl, sl = sampR 4 t row := ⟨_, rfl⟩
        rw [← hsl] at HO NX
        have hsll : sl.length = t := by rw [hsl, sampR_len]
        have HSL := Lib.hid hsll
        have HBEL := Lib.hid hbel
        clear hsl hsll hown hbel
        have hbw : Below wr.heap.size wr (wr.alloc (.cells #[.int .i64 (z : Int)] 3)) := (Below.refl _ _).alloc (Nat.le_refl _) _
        have HBW := Lib.hid hbw
        clear hbw
        have HOW : Hid (OwnI (wr.drew.alloc (.cells #[.int .i64 (z : Int)] 3)) w.heap.size u7 sl) := Lib.hid (OwnI.alloc (show OwnI wr.drew w.heap.size u7 sl from HO.out) _)
        have HBW2 : Hid (Below w.heap.size w (wr.drew.alloc (.cells #[.int .i64 (z : Int)] 3))) := Lib.hid ((bdrew HBEL.out).alloc HBEL.out.size _)
        go_upto_region 7 with fail
        go_region_law (refine step_append_ints rfl (.tmp 19) (.tmp 36) rfl w.heap.size u7 sl [z] (by simp [Act.eval]) HOW.out ⟨wr.heap.size, 0, none⟩ 1 1 (by simp [Act.eval]) rfl (one_int wr.drew z _ _ rfl _ rfl) (by have := HSL.out; omega) HBW2.out.size ?_; intro v2 w2 ho2 hb2 hg2; clear hg2)
        all_goals
          rw [← NX.out] at ho2
          have HO2 := Lib.hid ho2
          have HB2 := Lib.hid (HBW2.out.trans hb2)
          clear ho2 hb2
          go_wp2_with fail
          go_roundw
          case rel => exact ⟨t + 1, by omega, by go_num, HO2.out, HB2.out⟩
          case measure => simp [intOf]; omega
    · obtain rfl : m = t := by omega
      have HO := Lib.hid hown
      have HB := Lib.hid hbel
      clear hown hbel
      go_wp2_with fail
      go_ret
      exact ⟨_, rfl, HO.out, HB.out⟩
theorem samplesOf_any (ad : Option Addr) (n cap m c d : Nat) (row : List UInt8) (w : World) (ok : OkCD c d) (hn : Hid (row.length = n)) (hr : RB w ad row) (hm : m ≤ 1000) (hfit : m * d ≤ 8 * n) (hb : n ≤ 100000) :
    Calls Tryd.prog 17 #[.slice ad n cap, .int .i64 (m : Int), .int .i64 (d : Int)] w (SamEnd d m row w) := by
  rcases ok.d with rfl | rfl | rfl | rfl | rfl
  · exact samplesOf_1 ad n cap m row w hn hr hm hfit hb
  · exact samplesOf_2 ad n cap m row w hn hr hm hfit hb
  · exact samplesOf_4 ad n cap m row w hn hr hm hfit hb
  · exact samplesOf_8 ad n cap m row w hn hr hm hfit hb
  · exact samplesOf_16 ad n cap m row w hn hr hm hfit hb
end Go.Proofs.YtkiibhpmembcgaaDoor
