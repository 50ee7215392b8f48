/- The contract of the thin package's ReadPalette. -/
import Derived.Test.YtiiipmcjbibgoaaDoorRdPal
import Derived.Test.YtiiipmcjbibgoaaDoorShades
import Derived.Test.YtiiipmcjbibgoaaDoorHeadLaw
namespace Go.Proofs.YtiiipmcjbibgoaaDoor
open Go.ChangeShapes Go.WideShapes Go.ChangeAt Go.RowKit Go.IntWalk

theorem ownsRow_mono {w : World} {base base' : Nat} {e : TypeId} {size n : Nat} {v : Value} {xs : List Value} (h : w.ownsRow base e size v n xs) (hb : base' ≤ base) : w.ownsRow base' e size v n xs := by
  refine ⟨h.1, ?_⟩
  rcases h.2 with h2 | ⟨g, cap, cur, hv, hg, r⟩
  · exact Or.inl h2
  · exact Or.inr ⟨g, cap, cur, hv, by omega, r⟩
/-- The colors of a palette's bytes. -/
def palS (l : List UInt8) (np : Nat) : List Sh := (List.range np).map fun j => ⟨l.getD (3 * j) 0, l.getD (3 * j + 1) 0, l.getD (3 * j + 2) 0, 255⟩
theorem palS_length (l : List UInt8) (np : Nat) : (palS l np).length = np := by simp [palS]
theorem palS_at (l : List UInt8) (np j : Nat) (h : j < np) : (palS l np)[j]? = some ⟨l.getD (3 * j) 0, l.getD (3 * j + 1) 0, l.getD (3 * j + 2) 0, 255⟩ := by simp [palS, h]
theorem palS_ext {l m : List UInt8} {np : Nat} (h : ∀ j, j < 3 * np → l.getD j 0 = m.getD j 0) : palS l np = palS m np := by
  unfold palS
  refine List.map_congr_left fun j hj => ?_
  have hj := List.mem_range.1 hj
  rw [h _ (by omega), h _ (by omega), h _ (by omega)]
theorem pal_at {w : World} {P np : Nat} {l : List UInt8} (h : w.heap[P]? = some (.cells (palV l np).toArray 97 (0, 0))) (hn : np ≤ 256) : PalAt w (some ⟨P, 0, none⟩) (palS l np) := by
  intro _
  refine ⟨P, rfl, fun j s hs => ⟨_, .inl rfl, ?_⟩⟩
  have hj : j < np := by
    have := (List.getElem?_eq_some_iff.1 hs).1
    rwa [palS_length] at this
  rw [cell_of_row w P j _ _ _ h, List.getElem?_toArray, palV_at _ _ _ (by omega), if_pos hj]
  rw [palS_at _ _ _ hj] at hs
  cases hs
  rfl
theorem four_cells (n : Nat) (h : n < 4294967296) : ((four n).map fun b => Value.int .u8 (b.toNat : Int)).toArray = #[.int .u8 ((n : Int) / 16777216), .int .u8 ((n : Int) / 65536 % 256), .int .u8 ((n : Int) / 256 % 256), .int .u8 ((n : Int) % 256)] := by
  simp [four]
  omega
theorem four_at (w : World) (n : Nat) (h : n < 4294967296) (T : TypeId) : RB (w.alloc (.cells #[.int .u8 ((n : Int) / 16777216), .int .u8 ((n : Int) / 65536 % 256), .int .u8 ((n : Int) / 256 % 256), .int .u8 ((n : Int) % 256)] T)) (some ⟨w.heap.size, 0, none⟩) (four n) := by
  rw [← four_cells n h]
  exact RB.lit w (four n) T
theorem be4_four2 (n : Nat) (h : n < 4294967296) : be4 (four n) = n := by
  simp [be4, four, List.getD]
  omega
/-- Whether a palette's chunk is taken. -/
def palOk (l : List UInt8) (n dp k S : Nat) : Prop := ¬ badLen n dp ∧ ((7 ≤ k ∧ k ≤ 10) ∨ isTrue k = true) ∧ S = crcOf (plteName ++ l)
def IPalEnd (l : List UInt8) (n dp k S : Nat) (w : World) (e : Ending) (w' : World) : Prop :=
  ∃ v : Value, Below w.heap.size w w' ∧
    ((palOk l n dp k S ∧ e = .returned (.tuple #[v, .int .i64 0]) ∧ ∃ SS : List Sh, w'.ownsRow w.heap.size 29 4 v SS.length (shAll SS) ∧ (7 ≤ k ∧ k ≤ 10 → SS = palS l (n / 3))) ∨
     (¬ palOk l n dp k S ∧ e = .returned (.tuple #[.slice none 0 0, .int .i64 1])))
/-- What is told, in two cases. -/
theorem told_cases {base : Nat} {l : List UInt8} {n dp k S : Nat} {w : World} {v pv : Value} (hl : l.length = n) (hS : S < 4294967296) (h : PalTold base (l ++ four S) n dp (crcOf plteName) k w v pv) :
    (palOk l n dp k S ∧ v = .nilIface ∧ ∃ ad m cap SS, pv = .slice ad m cap ∧ Hid (SS.length = m) ∧ m ≤ 256 ∧ PalAt w ad SS ∧ (7 ≤ k ∧ k ≤ 10 → SS = palS l (n / 3))) ∨ (¬ palOk l n dp k S ∧ ∃ s, v = .iface 94 (.string s)) := by
  have h1 : (l ++ four S).take n = l := by rw [← hl]; simp
  have h2 : ((l ++ four S).drop n).take 4 = four S := by rw [← hl]; simp [four]
  have h3 : be4 (four S) = S := be4_four2 S hS
  have h4 : crcFrom (crcOf plteName) l = crcOf (plteName ++ l) := by unfold crcOf; rw [crcFrom_append]
  unfold PalTold at h
  rw [h1, h2, h4] at h
  have hsum : ∀ c, (S = c ∧ sumV c (four S) = .nilIface) ∨ (S ≠ c ∧ ∃ s, sumV c (four S) = .iface 94 (.string s)) := by
    intro c
    unfold sumV
    rw [h3]
    by_cases hc : S = c
    · exact .inl ⟨hc, by rw [if_pos hc]⟩
    · exact .inr ⟨hc, by rw [if_neg hc]; exact ⟨_, rfl⟩⟩
  rcases h with ⟨hb, rfl, rfl⟩ | ⟨hb, hk, rfl, P, hP, rfl, hrow⟩ | ⟨hb, hk, rfl, rfl⟩
  · exact .inr ⟨fun h => h.1 hb, _, rfl⟩
  · rcases hsum (crcOf (plteName ++ l)) with ⟨e, hs⟩ | ⟨e, s, hs⟩
    · have hn3 : n / 3 ≤ 256 := Nat.le_of_not_lt fun h => hb (.inr (.inr (.inl h)))
      refine .inl ⟨⟨hb, .inl hk, e⟩, hs, _, _, _, _, rfl, Lib.hid (palS_length _ _), hn3, pal_at hrow hn3, fun _ => palS_ext fun j hj => ?_⟩
      simp only [List.getD]
      rw [List.getElem?_append_left (by omega)]
    · exact .inr ⟨fun h => e h.2.2, s, hs⟩
  · by_cases ht : isTrue k = true
    · rw [if_pos ht]
      rcases hsum (crcOf (plteName ++ l)) with ⟨e, hs⟩ | ⟨e, s, hs⟩
      · exact .inl ⟨⟨hb, .inr ht, e⟩, hs, none, 0, 0, [], rfl, Lib.hid rfl, by omega, fun h => absurd rfl h, fun h => absurd h hk⟩
      · exact .inr ⟨fun h => e h.2.2, s, hs⟩
    · rw [if_neg ht]
      exact .inr ⟨fun h => h.2.1.elim hk ht, _, rfl⟩

set_option maxHeartbeats 3200000 in
set_option maxRecDepth 100000 in
theorem implReadPalette_any (ad : Option Addr) (cap c d n S k : Nat) (l : List UInt8) (w : World) (hl : Hid (l.length = n)) (hr : RB w ad l) (hn0 : ad = none → n = 0 ∧ cap = 0) (ht : Tab w) (hn : n ≤ 1000) (hS : S < 4294967296)
    (hd : d = 1 ∨ d = 2 ∨ d = 4 ∨ d = 8 ∨ d = 16) (hc : c ≤ 255) (hk : Hid (rk (100 * c + d) = k)) (hk0 : k ≠ 0) :
    Calls Tryd.prog 13 #[.int .i64 (c : Int), .int .i64 (d : Int), .slice ad n cap, .int .u32 (S : Int)] w (IPalEnd l n d k S w) := by
  have hu : IntKind.u32.signed = false := rfl
  have hk15 : k ≤ 15 := by rw [← hk.out]; exact rk_le _
  have hd16 : d ≤ 16 := by omega
  have y0 : (0 : Int) ≤ (n : Int) := by omega
  have y1 : IntKind.u32.wrap (n : Int) = (n : Int) := by rw [IntKind.wrap_u32]; omega
  go_enter Tryd.func13, Tryd.ntmps13
  go_wp2_with fail
  refine (clone_any ad n cap l hl w (by omega) hr hn0).mono ?_
  rintro e w1 ⟨v1, rfl, ho1, hb1, -⟩
  have hb4 := four_at w1 S hS 5
  have HB1 := Lib.hid hb1
  clear hb1
  have hol : OwnB (w1.alloc (.cells #[.int .u8 ((S : Int) / 16777216), .int .u8 ((S : Int) / 65536 % 256), .int .u8 ((S : Int) / 256 % 256), .int .u8 ((S : Int) % 256)] 5)) w.heap.size v1 l := ho1.alloc _
  go_wp2_with (at_builtin; refine wpList_append_bytes rfl (.tmp 14) (.tmp 26) rfl w.heap.size _ l (four S) rfl hol (some ⟨w1.heap.size, 0, none⟩) 4 4 rfl rfl hb4 (by intro h; cases h) (by rw [hl.out]; omega) (by rw [size_alloc]; have := HB1.out.size; omega) ?_; intro v4 w4 ho4 hg4 hb5 hnl4; clear hg4 hnl4)
  have HB4 : Hid (Below w.heap.size w w4) := Lib.hid ((HB1.out.alloc HB1.out.size _).trans hb5)
  obtain ⟨m, hm⟩ : ∃ m, m = l ++ four S := ⟨_, rfl⟩
  rw [← hm] at ho4
  have HM := Lib.hid hm
  have hml : m.length = n + 4 := by rw [hm, List.length_append, hl.out, four_len]
  clear hm
  obtain ⟨a4, n4, c4, rfl, hm4, hr4, hmc4, -, -, -⟩ := ho4.shapeN
  obtain rfl : n4 = n + 4 := by have h1 := hm4.out; omega
  obtain ⟨sb, so, rfl, -⟩ := hr4 (by intro e; rw [e] at hml; simp at hml)
  have ht4 := ht.below HB4.out
  clear ho4 hb5 hb4 hol ho1 hr hml HB1
  go_wp2_with (go_at_call 27; refine (rowKind_any c d hc (by omega) w4).mono ?_; rw [hk.out]; rintro e w5 ⟨rfl, rfl⟩)
  refine (zzReadPalette_any k d n sb so c4 m w4 hm4 hr4 hmc4 ht4 hn hd ⟨hk15, hk0⟩).mono ?_
  rintro e w5 ⟨v, pv, rfl, hb5, htold⟩
  rw [HM.out] at htold
  have hcase := told_cases hl.out hS htold
  have HB5 : Hid (Below w.heap.size w w5) := Lib.hid (HB4.out.trans (hb5.mono HB4.out.size))
  clear htold hb5 HB4 hr4 ht4
  rcases hcase with ⟨hok, rfl, ad5, m5, c5, SS, rfl, hSS, hm5, hpa, hSp⟩ | ⟨hno, s, rfl⟩
  · have HOK := Lib.hid hok
    have HSP := Lib.hid hSp
    clear hok hSp
    go_wp2_with fail
    refine (shadesOf_any ad5 c5 SS m5 w5 hSS hpa (by omega)).mono ?_
    rintro e w6 ⟨v6, rfl, ho6, hb6⟩
    have HB6 : Hid (Below w.heap.size w w6) := Lib.hid (HB5.out.trans (hb6.mono HB5.out.size))
    have HO6 := Lib.hid (ownsRow_mono ho6 HB5.out.size)
    clear hb6 ho6
    go_wp2_with fail
    exact bodyPost_ret (v := .tuple #[v6, .int .i64 0]) (by simp [results, Tryd.results13, go_sem]) rfl ⟨v6, HB6.out, .inl ⟨HOK.out, rfl, SS, HO6.out, HSP.out⟩⟩
  · have HNO := Lib.hid hno
    clear hno
    go_wp2_with (go_at_call 28; refine (partCode_format s w5).mono ?_; rintro e w6 ⟨rfl, rfl⟩)
    exact bodyPost_ret (v := .tuple #[.slice none 0 0, .int .i64 1]) (by simp [results, Tryd.results13, go_sem]) rfl ⟨.slice none 0 0, HB5.out, .inr ⟨HNO.out, rfl⟩⟩
end Go.Proofs.YtiiipmcjbibgoaaDoor
