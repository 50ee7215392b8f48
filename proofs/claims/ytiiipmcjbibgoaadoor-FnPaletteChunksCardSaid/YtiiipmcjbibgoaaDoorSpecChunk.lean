/- The contract of the reference's Chunk. -/
import Derived.Test.YtiiipmcjbibgoaaDoorZChunk
import Derived.Test.YtiiipmcjbibgoaaDoorCrc
import Derived.ArgAppend
import Derived.Lib.ConvBytes
import Derived.Outline
namespace Go.Proofs.YtiiipmcjbibgoaaDoor
open Go.ChangeShapes Go.WideShapes Go.ChangeAt Go.RowKit Go.IntWalk

theorem setCells_none (w : World) (b j : Nat) : w.setCells b j [] = w := rfl
theorem setCells_below {B b : Nat} (hB : B ≤ b) : ∀ (vs : List Value) (o : Nat) (w : World), Below B w (w.setCells b o vs)
  | [], _, _ => Below.refl _ _
  | v :: r, o, w => ((Below.refl B w).setCell (p := ⟨b, o, none⟩) hB v).trans (setCells_below hB r (o + 1) _)
/-- A string's bytes in a row of their own, as the conversion lays them. -/
structure Conv (w : World) (g cap : Nat) (nm : List UInt8) : Prop where
  rb : RB w (some ⟨g, 0, none⟩) nm
  le : nm.length ≤ cap
  has : ∀ j, j < cap → (w.cell? ⟨g, j, none⟩).isSome = true
  free : ∀ j, j < cap → w.frozen? ⟨g, j, none⟩ = false
  lt : g < w.heap.size
theorem Conv.below {w w' : World} {g cap : Nat} {nm : List UInt8} (h : Conv w g cap nm) (k : Below w.heap.size w w') : Conv w' g cap nm :=
  ⟨h.rb.below k, h.le, fun j hj => by rw [World.cell?_of_block (w := w) (k.block g h.lt)]; exact h.has j hj,
    fun j hj => by have := k.frozen (p := ⟨g, j, none⟩) h.lt; rw [this]; exact h.free j hj, Nat.lt_of_lt_of_le h.lt k.size⟩
theorem conv_string (s : ByteArray) (w : World) : ∃ cap w1, (convert 9 22 (.string s)).run Tryd.prog w = .ok (.slice (some ⟨w.heap.size, 0, none⟩) s.size cap) w1 ∧ Conv w1 w.heap.size cap s.data.toList ∧ Below w.heap.size w w1 := by
  refine ⟨_, _, Lib.run_convert_string_bytes (P := Tryd.prog) w 9 22 5 s Tryd.underlying9 Tryd.underlying22 Tryd.underlying5, ⟨fun _ => ⟨_, 0, rfl, fun j hj => ?_⟩, ?_, fun j hj => ?_, fun j hj => ?_, ?_⟩, ⟨?_, ?_, ?_, ?_, ?_⟩⟩
  · rw [Nat.zero_add, Lib.bytesWorld_cell w 5 s j (by simpa using hj)]
  · rw [Array.length_toList]
    exact grownCap_ge w s.size 0 5
  · have hsz : (Lib.bytesCells w 5 s).size = grownCap w s.size 0 5 := by
      have := grownCap_ge w s.size 0 5
      have e : s.data.size = s.size := rfl
      simp [Lib.bytesCells, e]
      omega
    simp [World.cell?, Lib.bytesWorld_at_new, hsz, hj]
  · have hsz : (Lib.bytesCells w 5 s).size = grownCap w s.size 0 5 := by
      have := grownCap_ge w s.size 0 5
      have e : s.data.size = s.size := rfl
      simp [Lib.bytesCells, e]
      omega
    simp [World.frozen?, Lib.bytesWorld_at_new, hsz]
    omega
  · rw [Lib.bytesWorld_size]; exact Nat.lt_succ_self _
  · rfl
  · rfl
  · rfl
  · rw [Lib.bytesWorld_size]; exact Nat.le_succ _
  · exact fun k hk => Lib.bytesWorld_at_old w _ s k hk
/-- Bytes, perhaps none, are appended to a string's. -/
theorem wpList_append_conv {w : World} {ops : Array Oper} {rest : List Oper} {o : Oper} {a : Act} {Q : Exit → Act → World → Prop} (hgd : o.guard = none) (s x : Operand)
    (ho : o.op = .call { callee := .builtin .append, args := #[s, x], argTypes := #[22, 22] }) (g n cap : Nat) (name l : List UInt8) (hs : a.eval s = .slice (some ⟨g, 0, none⟩) n cap)
    (hname : name.length = n) (hrn : Conv w g cap name) (ad : Option Addr) (m c : Nat) (hx : a.eval x = .slice ad m c) (hm : l.length = m) (hr : RB w ad l) (hnil : ad = none → m = 0 ∧ c = 0) (hb : m ≤ 1000000) (hn : n ≤ 1000000)
    (h : ∀ ad' c' w', RB w' (some ad') (name ++ l) → g ≤ ad'.block → ad'.block < w'.heap.size → Below g w w' → wpList Tryd.prog ops Q rest (a.put o.dst (.slice (some ad') (n + m) c')) w') : wpList Tryd.prog ops Q (o :: rest) a w := by
  obtain ⟨i0, hi, hz0, hz1, hz2⟩ := info_parts info_byte
  by_cases h0 : m = 0
  · subst h0
    have e : l = [] := List.eq_nil_of_length_eq_zero hm
    subst e
    refine wpList_plain hgd fun K hK => ?_
    have hrun : (Builtin.append_ #[22, 22] o.type #[.slice (some ⟨g, 0, none⟩) n cap, .slice ad 0 c]).run Tryd.prog w = .ok (.slice (some ⟨g, 0, none⟩) n cap) w := by
      cases ad with
      | some p =>
        have := run_append_room_cells (P := Tryd.prog) w 22 o.type 5 i0 Tryd.underlying22 hi g 0 n cap p 0 c [] (by simp) (by simp) (by simp) (by rw [← hname]; exact hrn.le) (by simp) (by simp)
        rw [setCells_none] at this
        exact this
      | none =>
        have hle : n ≤ cap := by rw [← hname]; exact hrn.le
        simp [Builtin.append_, run_underlying Tryd.underlying22, sizeOf, typeInfo, hi, Builtin.lenOf, Builtin.firstCells, loadCells, storeCells, hle]
    unfold Oper.wp
    simp [execOp, ho, resolve, invoke, builtin, hs, hx, hrun, Result.andThen]
    have := h ⟨g, 0, none⟩ cap w (by rw [List.append_nil]; exact hrn.rb) (Nat.le_refl _) hrn.lt (Below.refl _ _)
    exact hK _ _ this
  · obtain ⟨b, off, rfl, -⟩ := hr (by intro e; rw [e] at hm; simp at hm; omega)
    have hsn : ∀ j u, (cellsB name)[j]? = some u → w.cell? ⟨g, 0 + j, none⟩ = some u := fun j u hj => by
      have := src_of hrn.rb j u hj
      rwa [Addr.add_lit] at this
    refine wpList_append_arg w hgd s x 22 ho 5 i0 (.int .u8 0) 1 1 Tryd.underlying22 hi hz0 hz1 hz2 rfl (by decide) g 0 n cap (cellsB name) hs (by rw [cellsB_length, hname, Nat.mul_one]) hsn ⟨b, off, none⟩ m c (cellsB l) hx (by rw [cellsB_length, hm, Nat.mul_one]) (src_of hr) (cellsB_one _)
      (fun hroom j hj => by
        rw [cellsB_length, hm] at hj
        rw [Nat.zero_add, Nat.mul_one]
        exact ⟨hrn.has _ (by omega), hrn.free _ (by omega)⟩) (by unfold maxLen; omega) (by omega) ?_ ?_
    · intro hroom
      refine h ⟨g, 0, none⟩ cap _ ?_ (Nat.le_refl _) ?_ (setCells_below (Nat.le_refl g) _ _ _)
      · intro hne
        refine ⟨g, 0, rfl, fun j hj => ?_⟩
        rw [List.length_append, hname, hm] at hj
        rw [Nat.zero_add, Nat.mul_one, Nat.zero_add]
        by_cases hjn : j < n
        · rw [World.cell?_setCells_out g _ n w ⟨g, j, none⟩ (fun _ _ => .inl hjn)]
          have := hsn j (.int .u8 ((name.getD j 0).toNat : Int)) (by simp [cellsB, List.getD, show j < name.length by omega])
          rw [Nat.zero_add] at this
          rw [this]
          simp only [List.getD]
          rw [List.getElem?_append_left (by omega)]
        · have hin := World.cell?_setCells_in g (cellsB l) n w (fun i hi => hrn.has _ (by rw [cellsB_length, hm] at hi; omega)) (j - n) (by rw [cellsB_length, hm]; omega)
          rw [show n + (j - n) = j by omega] at hin
          rw [hin]
          simp only [List.getD]
          rw [List.getElem?_append_right (by omega), hname]
          simp [cellsB, show j - n < l.length by omega]
      · have := (setCells_below (Nat.le_refl g) (cellsB l) (0 + n * 1) w).size
        exact Nat.lt_of_lt_of_le hrn.lt this
    · intro hfull v' w' ho' hg
      have hown : OwnB w' w.heap.size v' (name ++ l) := by
        unfold OwnB
        rw [List.length_append, List.map_append, hname, hm]
        exact ho'
      obtain ⟨a2, n2, c2, rfl, hm2, hr2, -, -, -, hlt2⟩ := hown.shapeN
      obtain rfl : n2 = n + m := by have h1 := hm2.out; rw [List.length_append, hname, hm] at h1; omega
      obtain ⟨b2, o2, rfl, -⟩ := hr2 (by intro e; have := hm2.out; rw [e] at this; simp at this; omega)
      obtain ⟨q1, q2, -, -⟩ := hlt2 _ rfl
      have hgw := hrn.lt
      exact h _ c2 w' hr2 (by simp at q1; simp; omega) q2 (((Below.refl _ _).grown hg (Nat.le_refl _) (fun k hk => by cases hk)).mono (Nat.le_of_lt hgw))

def SChEnd (nm l : List UInt8) (w : World) (e : Ending) (w' : World) : Prop :=
  ∃ v, e = .returned v ∧ OwnB w' w.heap.size v (chunk nm l) ∧ Below w.heap.size w w'

set_option maxHeartbeats 3200000 in
set_option maxRecDepth 100000 in
theorem specChunk_any (n cap : Nat) (ad : Option Addr) (l : List UInt8) (x0 x1 x2 x3 : UInt8) (w : World) (hl : Hid (l.length = n)) (hr : RB w ad l) (hnil : ad = none → n = 0 ∧ cap = 0) (hn : n ≤ 1000000) :
    Calls Tryd.prog 22 #[.string ⟨#[x0, x1, x2, x3]⟩, .slice ad n cap] w (SChEnd [x0, x1, x2, x3] l w) := by
  have hu : IntKind.u32.signed = false := rfl
  have y0 : (0 : Int) ≤ (n : Int) := by omega
  have y1 : IntKind.u32.wrap (n : Int) = (n : Int) := by rw [IntKind.wrap_u32]; omega
  obtain ⟨c1, w1, hconv, hcv, hb1⟩ := conv_string ⟨#[x0, x1, x2, x3]⟩ w
  change (convert 9 22 (.string ⟨#[x0, x1, x2, x3]⟩)).run Tryd.prog w = .ok (.slice (some ⟨w.heap.size, 0, none⟩) 4 c1) w1 at hconv
  change Conv w1 w.heap.size c1 [x0, x1, x2, x3] at hcv
  have hr1 := hr.below hb1
  have HB1 := Lib.hid hb1
  clear hr hb1
  go_enter Tryd.func22, Tryd.ntmps22
  go_wp2_with (at_builtin; refine wpList_append_conv rfl (.tmp 7) (.tmp 8) rfl w.heap.size 4 c1 [x0, x1, x2, x3] l rfl rfl hcv ad n cap rfl hl.out hr1 hnil hn (by omega) ?_; intro a2 c2 w2 hr2 hg2 hl2 hb2)
  have HB2 : Hid (Below w.heap.size w w2) := Lib.hid (HB1.out.trans hb2)
  have hm2 : Hid (([x0, x1, x2, x3] ++ l).length = 4 + n) := Lib.hid (by rw [List.length_append, hl.out]; rfl)
  have HG2 := Lib.hid (And.intro hg2 hl2)
  clear hb2 hconv hcv hr1 HB1 hg2 hl2
  go_wp2_with fail
  refine (four_any n (by omega) w2).mono ?_
  rintro e w3 ⟨rfl, ho3, hb3⟩
  have hr3 := hr2.below hb3
  have HB3 : Hid (Below w2.heap.size w2 w3) := Lib.hid hb3
  clear hb3
  go_wp2_with (at_builtin; refine wpList_append_bytes rfl (.tmp 13) (.tmp 14) rfl w2.heap.size _ (four n) ([x0, x1, x2, x3] ++ l) rfl ho3 (some a2) (4 + n) c2 rfl hm2.out hr3 (by intro h; cases h) (by rw [four_len]; omega) HB3.out.size ?_; intro v4 w4 ho4 hg4 hb4 hnl4; clear hg4 hnl4)
  have HB4 : Hid (Below w2.heap.size w2 w4) := Lib.hid (HB3.out.trans hb4)
  have hr4 := hr2.below HB4.out
  clear hb4 HB3 hr3 ho3
  go_wp2_with fail
  refine (specCrc_any (some a2) (4 + n) c2 ([x0, x1, x2, x3] ++ l) hm2 w4 (by omega) hr4).mono ?_
  rintro e w5 ⟨rfl, rfl⟩
  go_wp2_with fail
  refine (four_any (crcOf ([x0, x1, x2, x3] ++ l)) (crcOf_lt _) w4).mono ?_
  rintro e w5 ⟨rfl, ho5, hb5⟩
  have ho6 := ho4.below hb5
  have HB5 : Hid (Below w2.heap.size w2 w5) := Lib.hid (HB4.out.trans (hb5.mono HB4.out.size))
  obtain ⟨a5, c5, e5, hr5, -, -, -, -⟩ := ho5.shape
  clear hb5 ho5 ho4 hr4
  rw [four_len] at e5
  cases e5
  go_wp2_with (at_builtin; refine wpList_append_bytes rfl (.tmp 15) (.tmp 18) rfl w2.heap.size _ (four n ++ ([x0, x1, x2, x3] ++ l)) (four (crcOf ([x0, x1, x2, x3] ++ l))) rfl ho6 (some ⟨w4.heap.size, 0, none⟩) 4 4 rfl rfl hr5 (by intro h; cases h) (by rw [List.length_append, hm2.out, four_len]; omega) HB5.out.size ?_; intro v6 w6 ho7 hg7 hb6 hnl7; clear hg7 hnl7)
  have HB6 : Hid (Below w.heap.size w w6) := Lib.hid (HB2.out.trans ((HB5.out.trans hb6).mono HB2.out.size))
  have e : four n ++ ([x0, x1, x2, x3] ++ l) ++ four (crcOf ([x0, x1, x2, x3] ++ l)) = chunk [x0, x1, x2, x3] l := by
    unfold chunk
    rw [hl.out]
    simp only [List.append_assoc]
  rw [e] at ho7
  have HO := Lib.hid (ho7.mono HB2.out.size)
  clear hb6 ho7 ho6 hr5 e
  go_wp2_with fail
  go_ret
  exact ⟨_, rfl, HO.out, HB6.out⟩
end Go.Proofs.YtiiipmcjbibgoaaDoor
