/- The contract of the encoder's writeChunk: the number of the data's bytes, the name, they, and the sum. -/
import Derived.Test.YtiiipmcjbibgoaaDoorEnc2
import Derived.Deep.RegionWith
import Derived.Outline
namespace Go.Proofs.YtiiipmcjbibgoaaDoor
open Go.ChangeShapes Go.WideShapes Go.ChangeAt Go.RowKit Go.IntWalk

theorem Wst.errNil {B b bb : Nat} {ad : Option Addr} {l s : List UInt8} {d : EncV} {w : World} (h : Wst B b bb ad l d s w) (he : d.err = .nilIface) : Wst B b bb ad l d s (w.setCell ⟨b, 4, none⟩ .nilIface) ∧ Only b w (w.setCell ⟨b, 4, none⟩ .nilIface) := by
  have on : Only b w (w.setCell ⟨b, 4, none⟩ .nilIface) := (Only.refl _ _).setCell _ _
  have := h.enc.setErr .nilIface
  have e : { d with err := .nilIface } = d := by
    cases d
    simp at he
    subst he
    rfl
  rw [e] at this
  exact ⟨h.turn on this rfl, on⟩
/-- A chunk. -/
def chunk (nm l : List UInt8) : List UInt8 := four l.length ++ (nm ++ (l ++ four (crcOf (nm ++ l))))
def WcEnd (B b bb : Nat) (nm l s : List UInt8) (d : EncV) (w : World) (e : Ending) (w' : World) : Prop :=
  e = .returned (.tuple #[]) ∧ ∃ d' : EncV, d'.tmp = d.tmp ∧ d'.hd = d.hd ∧ Enc w' b d' ∧ Buf B bb (s ++ chunk nm l) w' ∧ Tab w' ∧ Below B w w'

set_option maxHeartbeats 6400000 in
set_option maxRecDepth 100000 in
theorem writeChunk_any (B b bb n cap : Nat) (ad : Option Addr) (l s : List UInt8) (d : EncV) (x0 x1 x2 x3 : UInt8) (w : World) (H : Wst B b bb ad l d s w) (hl : Hid (l.length = n)) (hnil : ad = none → n = 0 ∧ cap = 0) (hn : n ≤ 1000000) (hs : s.length ≤ 100000000)
    (ew : d.bp = .pointer (some ⟨bb, 0, none⟩)) (ee : d.err = .nilIface) :
    Calls Tryd.prog 42 #[.pointer (some ⟨b, 0, none⟩), .slice ad n cap, .string ⟨#[x0, x1, x2, x3]⟩] w (WcEnd B b bb [x0, x1, x2, x3] l s d w) := by
  have hu : IntKind.u32.signed = false := rfl
  have y0 : (0 : Int) ≤ (n : Int) := by omega
  have y1 : IntKind.u32.wrap (n : Int) = (n : Int) := by rw [IntKind.wrap_u32]; omega
  have y2 : IntKind.i64.wrap (n : Int) = (n : Int) := i64_in _ ⟨by omega, by omega⟩
  have k4 : w.cell? ⟨b, 4, none⟩ = some .nilIface := H.enc.hd_cell 4 (by rw [← ee]; rfl)
  have i0 : ∀ w, (Instr.index 9 (.string ⟨#[x0, x1, x2, x3]⟩) (.int .i64 0)).run Tryd.prog w = .ok (.int .u8 (x0.toNat : Int)) w := fun _ => by kernel_rfl
  have i1 : ∀ w, (Instr.index 9 (.string ⟨#[x0, x1, x2, x3]⟩) (.int .i64 1)).run Tryd.prog w = .ok (.int .u8 (x1.toNat : Int)) w := fun _ => by kernel_rfl
  have i2 : ∀ w, (Instr.index 9 (.string ⟨#[x0, x1, x2, x3]⟩) (.int .i64 2)).run Tryd.prog w = .ok (.int .u8 (x2.toNat : Int)) w := fun _ => by kernel_rfl
  have i3 : ∀ w, (Instr.index 9 (.string ⟨#[x0, x1, x2, x3]⟩) (.int .i64 3)).run Tryd.prog w = .ok (.int .u8 (x3.toNat : Int)) w := fun _ => by kernel_rfl
  have HBB := Lib.hid H.hb
  have HEE := Lib.hid ee
  have HEW := Lib.hid ew
  clear ee ew
  go_enter Tryd.func42, Tryd.ntmps42
  go_wp2_with fail
  refine (bePut_any _ b 5 4 8 n _ _ _ w H.enc.segL (Lib.hid d.hdl) (Lib.hid H.enc.ll) (by omega) (by omega)).mono ?_
  rintro e w0 ⟨rfl, hseg, hon⟩
  have H0 := H.turn hon (H.enc.ofL _ (four_len n) hseg) rfl
  have HB0 : Hid (Below B w w0) := Lib.hid (hon.below HBB.out)
  clear hseg hon k4 H y1 y2
  go_wp2_with fail
  go_still_tail 6, (by kernel_rfl)
  change wpList _ _ _ _ _ w0.drew
  have H0d := H0.drew
  obtain ⟨v0, hv0⟩ : ∃ v, v = w0.drew := ⟨_, rfl⟩
  have HB0d : Hid (Below B w v0) := Lib.hid (by rw [hv0]; exact HB0.out.drew)
  rw [← hv0] at H0d ⊢
  clear hv0 H0 HB0
  have cn := H0d.enc.segN.cellAt H0d.enc.preN (j := 0) (by rw [H0d.enc.nl]; omega)
  have fn := H0d.enc.frozen (9 + 0)
  have on : Only b v0 (v0.setCell ⟨b, 9 + 0, none⟩ (.int .u8 (x0.toNat : Int))) := (Only.refl _ _).setCell _ _
  have H1 := H0d.turn on (H0d.enc.ofN _ (by rw [List.length_set]; exact H0d.enc.nl) (H0d.enc.segN.store H0d.enc.preN (j := 0) (by rw [H0d.enc.nl]; omega) x0)) rfl
  obtain ⟨w1, hw1⟩ : ∃ q, q = v0.setCell ⟨b, 9 + 0, none⟩ (.int .u8 (x0.toNat : Int)) := ⟨_, rfl⟩
  have HB1 : Hid (Below B w w1) := Lib.hid (by rw [hw1]; exact HB0d.out.trans (on.below HBB.out))
  rw [← hw1] at H1
  go_wp2_with fail
  rw [← hw1]
  clear hw1 cn fn on H0d HB0d
  go_still_tail 6, (by kernel_rfl)
  change wpList _ _ _ _ _ w1.drew
  have H1d := H1.drew
  obtain ⟨v1, hv1⟩ : ∃ v, v = w1.drew := ⟨_, rfl⟩
  have HB1d : Hid (Below B w v1) := Lib.hid (by rw [hv1]; exact HB1.out.drew)
  rw [← hv1] at H1d ⊢
  clear hv1 H1 HB1
  have cn := H1d.enc.segN.cellAt H1d.enc.preN (j := 1) (by rw [H1d.enc.nl]; omega)
  have fn := H1d.enc.frozen (9 + 1)
  have on : Only b v1 (v1.setCell ⟨b, 9 + 1, none⟩ (.int .u8 (x1.toNat : Int))) := (Only.refl _ _).setCell _ _
  have H2 := H1d.turn on (H1d.enc.ofN _ (by rw [List.length_set]; exact H1d.enc.nl) (H1d.enc.segN.store H1d.enc.preN (j := 1) (by rw [H1d.enc.nl]; omega) x1)) rfl
  obtain ⟨w2, hw2⟩ : ∃ q, q = v1.setCell ⟨b, 9 + 1, none⟩ (.int .u8 (x1.toNat : Int)) := ⟨_, rfl⟩
  have HB2 : Hid (Below B w w2) := Lib.hid (by rw [hw2]; exact HB1d.out.trans (on.below HBB.out))
  rw [← hw2] at H2
  go_wp2_with fail
  rw [← hw2]
  clear hw2 cn fn on H1d HB1d
  go_still_tail 6, (by kernel_rfl)
  change wpList _ _ _ _ _ w2.drew
  have H2d := H2.drew
  obtain ⟨v2, hv2⟩ : ∃ v, v = w2.drew := ⟨_, rfl⟩
  have HB2d : Hid (Below B w v2) := Lib.hid (by rw [hv2]; exact HB2.out.drew)
  rw [← hv2] at H2d ⊢
  clear hv2 H2 HB2
  have cn := H2d.enc.segN.cellAt H2d.enc.preN (j := 2) (by rw [H2d.enc.nl]; omega)
  have fn := H2d.enc.frozen (9 + 2)
  have on : Only b v2 (v2.setCell ⟨b, 9 + 2, none⟩ (.int .u8 (x2.toNat : Int))) := (Only.refl _ _).setCell _ _
  have H3 := H2d.turn on (H2d.enc.ofN _ (by rw [List.length_set]; exact H2d.enc.nl) (H2d.enc.segN.store H2d.enc.preN (j := 2) (by rw [H2d.enc.nl]; omega) x2)) rfl
  obtain ⟨w3, hw3⟩ : ∃ q, q = v2.setCell ⟨b, 9 + 2, none⟩ (.int .u8 (x2.toNat : Int)) := ⟨_, rfl⟩
  have HB3 : Hid (Below B w w3) := Lib.hid (by rw [hw3]; exact HB2d.out.trans (on.below HBB.out))
  rw [← hw3] at H3
  go_wp2_with fail
  rw [← hw3]
  clear hw3 cn fn on H2d HB2d
  go_still_tail 6, (by kernel_rfl)
  change wpList _ _ _ _ _ w3.drew
  have H3d := H3.drew
  obtain ⟨v3, hv3⟩ : ∃ v, v = w3.drew := ⟨_, rfl⟩
  have HB3d : Hid (Below B w v3) := Lib.hid (by rw [hv3]; exact HB3.out.drew)
  rw [← hv3] at H3d ⊢
  clear hv3 H3 HB3
  have cn := H3d.enc.segN.cellAt H3d.enc.preN (j := 3) (by rw [H3d.enc.nl]; omega)
  have fn := H3d.enc.frozen (9 + 3)
  have on : Only b v3 (v3.setCell ⟨b, 9 + 3, none⟩ (.int .u8 (x3.toNat : Int))) := (Only.refl _ _).setCell _ _
  have H4 := H3d.turn on (H3d.enc.ofN _ (by rw [List.length_set]; exact H3d.enc.nl) (H3d.enc.segN.store H3d.enc.preN (j := 3) (by rw [H3d.enc.nl]; omega) x3)) rfl
  obtain ⟨w4, hw4⟩ : ∃ q, q = v3.setCell ⟨b, 9 + 3, none⟩ (.int .u8 (x3.toNat : Int)) := ⟨_, rfl⟩
  have HB4 : Hid (Below B w w4) := Lib.hid (by rw [hw4]; exact HB3d.out.trans (on.below HBB.out))
  rw [← hw4] at H4
  have HS4 : Hid (w4.heap.size = v3.heap.size) := Lib.hid (by rw [hw4]; exact on.size)
  go_wp2_with fail
  rw [← hw4]
  clear hw4 cn fn on H3d HB3d
  obtain ⟨d4, hd4⟩ : ∃ d4 : EncV, d4 = { d with la := four n, nm := (((d.nm.set 0 x0).set 1 x1).set 2 x2).set 3 x3 } := ⟨_, rfl⟩
  change Wst B b bb ad l { d with la := four n, nm := (((d.nm.set 0 x0).set 1 x1).set 2 x2).set 3 x3 } s w4 at H4
  rw [← hd4] at H4
  have HD : Hid (d4.la = four n ∧ d4.nm = [x0, x1, x2, x3] ∧ d4.tmp = d.tmp ∧ d4.hd = d.hd) := Lib.hid (by
    subst hd4
    refine ⟨rfl, ?_, rfl, rfl⟩
    have := H4.enc.nl
    simp only [List.length_set] at this
    show (((d.nm.set 0 x0).set 1 x1).set 2 x2).set 3 x3 = _
    match d.nm, this with
    | [_, _, _, _], _ => rfl)
  clear hd4 i0 i1 i2 i3
  obtain ⟨C, hC'⟩ : ∃ C, C = v3.heap.size := ⟨_, rfl⟩
  have hC : C = w4.heap.size := hC'.trans HS4.out.symm
  obtain ⟨w5, hw5⟩ : ∃ q, q = w4.alloc (.cells #[.int .u32 0] 83) := ⟨_, rfl⟩
  have hbel5 : Below w4.heap.size w4 w5 := by rw [hw5]; exact (Below.refl _ _).alloc (Nat.le_refl _) _
  have hrow5 : w5.heap[C]? = some (.cells #[.int .u32 0] 83 (0, 0)) := by rw [hw5, hC]; exact heap_alloc_new w4 _
  have H5 := H4.grow hbel5
  have hCb : C ≠ b ∧ C ≠ bb ∧ B ≤ C := by
    have h1 := H4.lt
    have h2 := H4.buf.lt
    have h3 := H4.hb
    rw [hC]
    omega
  have HB5 : Hid (Below B w w5) := Lib.hid (HB4.out.trans (hbel5.mono (by rw [← hC]; exact hCb.2.2)))
  have HC := Lib.hid hCb
  rw [← hw5, ← hC']
  clear hw5 hC hC' HS4 hbel5 H4 HB4 hCb
  have hnm : Hid (([x0, x1, x2, x3] : List UInt8).length = 4) := Lib.hid rfl
  have hrn : RB w5 (some ⟨b, 9, none⟩) [x0, x1, x2, x3] := by
    have := H5.enc.segN.rb H5.enc.preN
    rwa [HD.out.2.1] at this
  refine (write_any C 0 0 (by omega) (some ⟨b, 9, none⟩) 4 4 [x0, x1, x2, x3] hnm w5 (by omega) hrn H5.tab (by rw [cell_of_row w5 C 0 _ _ _ hrow5]; rfl) (frozen_of_row w5 C 0 _ _ hrow5)).mono ?_
  rintro e w6' ⟨rfl, rfl⟩
  have on5 : Only C w5 (w5.setCell ⟨C, 0, none⟩ (.int .u32 ((crcFrom 0 [x0, x1, x2, x3] : Nat) : Int))) := (Only.refl _ _).setCell _ _
  have H6 := H5.other on5 HC.out.1 HC.out.2.1 HC.out.2.2 hrow5 (by decide)
  have hrow6 := heap_setCell_same w5 C 0 _ _ (.int .u32 ((crcFrom 0 [x0, x1, x2, x3] : Nat) : Int)) hrow5
  obtain ⟨c6, hc6⟩ : ∃ c6, c6 = crcFrom 0 [x0, x1, x2, x3] := ⟨_, rfl⟩
  have hlt6 : c6 < 4294967296 := by rw [hc6]; exact crcFrom_lt _ _ (by omega)
  obtain ⟨w6, hw6⟩ : ∃ q, q = w5.setCell ⟨C, 0, none⟩ (.int .u32 ((crcFrom 0 [x0, x1, x2, x3] : Nat) : Int)) := ⟨_, rfl⟩
  have HB6 : Hid (Below B w w6) := Lib.hid (by rw [hw6]; exact HB5.out.trans (on5.below HC.out.2.2))
  rw [← hw6, ← hc6] at hrow6
  rw [← hw6] at H6 ⊢
  have HC6 := Lib.hid hc6
  clear hw6 hc6 on5 H5 hrow5 hrn HB5
  go_wp2_with fail
  refine (write_any C 0 c6 hlt6 ad n cap l hl w6 (by omega) H6.rb H6.tab (by rw [cell_of_row w6 C 0 _ _ _ hrow6]; rfl) (frozen_of_row w6 C 0 _ _ hrow6)).mono ?_
  rintro e w7' ⟨rfl, rfl⟩
  have on6 : Only C w6 (w6.setCell ⟨C, 0, none⟩ (.int .u32 ((crcFrom c6 l : Nat) : Int))) := (Only.refl _ _).setCell _ _
  have H7 := H6.other on6 HC.out.1 HC.out.2.1 HC.out.2.2 hrow6 (by decide)
  have hrow7 := heap_setCell_same w6 C 0 _ _ (.int .u32 ((crcFrom c6 l : Nat) : Int)) hrow6
  obtain ⟨c7, hc7⟩ : ∃ c7, c7 = crcFrom c6 l := ⟨_, rfl⟩
  have hlt7 : c7 < 4294967296 := by rw [hc7]; exact crcFrom_lt _ _ hlt6
  obtain ⟨w7, hw7⟩ : ∃ q, q = w6.setCell ⟨C, 0, none⟩ (.int .u32 ((crcFrom c6 l : Nat) : Int)) := ⟨_, rfl⟩
  have HB7 : Hid (Below B w w7) := Lib.hid (by rw [hw7]; exact HB6.out.trans (on6.below HC.out.2.2))
  rw [← hw7, ← hc7] at hrow7
  rw [← hw7] at H7 ⊢
  have HC7 : Hid (c7 = crcOf ([x0, x1, x2, x3] ++ l)) := Lib.hid (by rw [hc7, HC6.out]; unfold crcOf; rw [crcFrom_append])
  clear hw7 hc7 on6 H6 hrow6 HB6 HC6 hlt6
  go_wp2_with fail
  have H7d := H7.drew
  have hrow7d : w7.drew.heap[C]? = some (.cells #[.int .u32 (c7 : Int)] 83 (0, 0)) := hrow7
  have HB7d : Hid (Below B w w7.drew) := Lib.hid HB7.out.drew
  clear H7 hrow7 HB7
  go_region_with (first
    | (go_at_call 51; refine (sum32_any C 0 (.int .u32 (c7 : Int)) w7.drew (by rw [cell_of_row w7.drew C 0 _ _ _ hrow7d]; rfl)).mono ?_; rintro e w8' ⟨rfl, rfl⟩)
    | (go_at_call 50; refine (bePut_any _ b 13 4 4 c7 _ _ _ w7.drew H7d.enc.segF (Lib.hid H7d.enc.preF) (Lib.hid H7d.enc.fl) (by omega) hlt7).mono ?_; rintro e w8 ⟨rfl, hseg, hon⟩))
  have H8 := H7d.turn hon (H7d.enc.ofF _ (four_len c7) hseg) rfl
  have HB8 : Hid (Below B w w8) := Lib.hid (HB7d.out.trans (hon.below HBB.out))
  clear H7d hrow7d HB7d hseg hon hlt7
  obtain ⟨d8, hd8⟩ : ∃ d8 : EncV, d8 = { d4 with ft := four c7 } := ⟨_, rfl⟩
  change Wst B b bb ad l { d4 with ft := four c7 } s w8 at H8
  rw [← hd8] at H8
  have HD8 : Hid (d8.la = four n ∧ d8.nm = [x0, x1, x2, x3] ∧ d8.ft = four c7 ∧ d8.tmp = d.tmp ∧ d8.hd = d.hd) := Lib.hid (by
    subst hd8
    exact ⟨HD.out.1, HD.out.2.1, rfl, HD.out.2.2.1, HD.out.2.2.2⟩)
  clear hd8 HD
  go_wp2_with fail
  have hd1 : d8.hd[1]? = some (.pointer (some ⟨bb, 0, none⟩)) := by rw [HD8.out.2.2.2.2, ← HEW.out]; rfl
  have hd4 : d8.hd[4]? = some .nilIface := by rw [HD8.out.2.2.2.2, ← HEE.out]; rfl
  have he8 : d8.err = .nilIface := by
    have : d8.hd[4]? = some d8.err := rfl
    rw [this] at hd4
    exact Option.some.inj hd4
  have HH1 := Lib.hid hd1
  have HH4 := Lib.hid hd4
  have HE8 := Lib.hid he8
  clear hd1 hd4 he8
  have k1 := H8.enc.hd_cell 1 HH1.out
  have hr8 : RB w8.drew (some ⟨b, 5, none⟩) (four n ++ [x0, x1, x2, x3]) := by
    have := H8.enc.rbHead
    rw [HD8.out.1, HD8.out.2.1] at this
    exact this
  have H8d := H8.drew
  have HB8d : Hid (Below B w w8.drew) := Lib.hid HB8.out.drew
  have hbs : B ≤ w8.drew.heap.size := by have := H8d.lt; have := HBB.out; omega
  have hap : ∀ a, some (⟨b, 5, none⟩ : Addr) = some a → a.block ≠ bb := by intro a ha; cases ha; exact H8d.ne
  have h8 : Hid ((four n ++ [x0, x1, x2, x3] : List UInt8).length = 8) := Lib.hid rfl
  clear H8 HB8
  go_region_with ((go_at_call 52; refine (bufWrite_any B bb 8 8 (some ⟨b, 5, none⟩) s (four n ++ [x0, x1, x2, x3]) w8.drew H8d.buf hbs h8 hr8 hap (by intro h; cases h) (by omega)).mono ?_; rintro e w9 ⟨rfl, hB9, hbe9, hk9⟩; have H9 := H8d.wrote hB9 hbe9 hk9; have e9 := H9.enc.hd_cell 4 HH4.out; have f9 := H9.enc.frozen 4))
  obtain ⟨H10, on9⟩ := H9.errNil HE8.out
  obtain ⟨w10, hw10⟩ : ∃ q, q = w9.setCell ⟨b, 4, none⟩ .nilIface := ⟨_, rfl⟩
  have HB10 : Hid (Below B w w10) := Lib.hid (by rw [hw10]; exact (HB8d.out.trans hbe9).trans (on9.below HBB.out))
  rw [← hw10] at H10 ⊢
  clear hw10 on9 H9 e9 f9 hB9 hbe9 hk9 H8d HB8d hbs hr8 k1 hap h8
  have k1 := H10.enc.hd_cell 1 HH1.out
  have k4 := H10.enc.hd_cell 4 HH4.out
  have hbs : B ≤ w10.heap.size := by have := H10.lt; have := HBB.out; omega
  have hap := H10.apart
  have hsl : (s ++ (four n ++ [x0, x1, x2, x3])).length = s.length + 8 := by rw [List.length_append]; rfl
  have HSL := Lib.hid hsl
  clear hsl
  go_wp2_with fail
  refine (bufWrite_any B bb n cap ad (s ++ (four n ++ [x0, x1, x2, x3])) l w10 H10.buf hbs hl H10.rb hap hnil (by have := HSL.out; omega)).mono ?_
  rintro e w11 ⟨rfl, hB11, hbe11, hk11⟩
  have H11 := H10.wrote hB11 hbe11 hk11
  have HB11 : Hid (Below B w w11) := Lib.hid (HB10.out.trans hbe11)
  obtain ⟨H12, on11⟩ := H11.errNil HE8.out
  have e11 := H11.enc.hd_cell 4 HH4.out
  have f11 := H11.enc.frozen 4
  obtain ⟨w12, hw12⟩ : ∃ q, q = w11.setCell ⟨b, 4, none⟩ .nilIface := ⟨_, rfl⟩
  have HB12 : Hid (Below B w w12) := Lib.hid (by rw [hw12]; exact HB11.out.trans (on11.below HBB.out))
  rw [← hw12] at H12
  clear on11 H11 HB11 HB10 hB11 hbe11 hk11 H10 hbs k1 k4 hap
  have k4 : (w11.setCell ⟨b, 4, none⟩ .nilIface).cell? ⟨b, 4, none⟩ = some .nilIface := by rw [← hw12]; exact H12.enc.hd_cell 4 HH4.out
  go_wp2_with fail
  rw [← hw12]
  clear hw12 e11 f11 k4
  have k1 := H12.enc.hd_cell 1 HH1.out
  have hr12 : RB w12.drew (some ⟨b, 13, none⟩) (four c7) := by
    have := H12.enc.segF.rb H12.enc.preF
    rw [HD8.out.2.2.1] at this
    exact this
  have H12d := H12.drew
  have HB12d : Hid (Below B w w12.drew) := Lib.hid HB12.out.drew
  have hbs : B ≤ w12.drew.heap.size := by have := H12d.lt; have := HBB.out; omega
  have hap : ∀ a, some (⟨b, 13, none⟩ : Addr) = some a → a.block ≠ bb := by intro a ha; cases ha; exact H12d.ne
  have h4 : Hid ((four c7).length = 4) := Lib.hid rfl
  have hsl : Hid ((s ++ (four n ++ [x0, x1, x2, x3]) ++ l).length = s.length + 8 + n) := Lib.hid (by rw [List.length_append, HSL.out, hl.out])
  clear H12 HB12
  go_region_with ((go_at_call 52; refine (bufWrite_any B bb 4 4 (some ⟨b, 13, none⟩) (s ++ (four n ++ [x0, x1, x2, x3]) ++ l) (four c7) w12.drew H12d.buf hbs h4 hr12 hap (by intro h; cases h) (by have := hsl.out; omega)).mono ?_; rintro e w13 ⟨rfl, hB13, hbe13, hk13⟩; have H13 := H12d.wrote hB13 hbe13 hk13; have e13 := H13.enc.hd_cell 4 HH4.out; have f13 := H13.enc.frozen 4))
  obtain ⟨H14, on13⟩ := H13.errNil HE8.out
  obtain ⟨w14, hw14⟩ : ∃ q, q = w13.setCell ⟨b, 4, none⟩ .nilIface := ⟨_, rfl⟩
  have HB14 : Hid (Below B w w14) := Lib.hid (by rw [hw14]; exact (HB12d.out.trans hbe13).trans (on13.below HBB.out))
  rw [← hw14] at H14 ⊢
  clear hw14 on13 H13 e13 f13 hB13 hbe13 hk13 H12d HB12d hbs hr12 k1 hap h4
  go_wp2_with fail
  go_end0
  refine ⟨rfl, d8, HD8.out.2.2.2.1, HD8.out.2.2.2.2, H14.enc, ?_, H14.tab, HB14.out⟩
  have := H14.buf
  have e : s ++ (four n ++ [x0, x1, x2, x3]) ++ l ++ four c7 = s ++ chunk [x0, x1, x2, x3] l := by
    unfold chunk
    rw [hl.out, HC7.out]
    simp only [List.append_assoc]
  rw [e] at this
  exact this
end Go.Proofs.YtiiipmcjbibgoaaDoor
