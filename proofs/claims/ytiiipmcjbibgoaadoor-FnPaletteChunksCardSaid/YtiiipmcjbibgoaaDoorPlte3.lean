/- The contract of the decoder's parsePLTE at a length that a palette may have, of a picture without one. -/
import Derived.Test.YtiiipmcjbibgoaaDoorPlte2
namespace Go.Proofs.YtiiipmcjbibgoaaDoor
open Go.ChangeShapes Go.WideShapes Go.ChangeAt Go.RowKit Go.IntWalk

def kindErrV : Value := .iface 94 (.string ⟨#[80, 76, 84, 69, 44, 32, 99, 111, 108, 111, 114, 32, 116, 121, 112, 101, 32, 109, 105, 115, 109, 97, 116, 99, 104]⟩)
def isTrue (k : Nat) : Bool := k == 6 || k == 11 || k == 14 || k == 15
def ElseEnd (base b : Nat) (l : List UInt8) (n c k : Nat) (w : World) (e : Ending) (w' : World) : Prop :=
  e = .returned (if isTrue k then sumV (crcFrom c (l.take n)) ((l.drop n).take 4) else kindErrV) ∧ w'.cell? ⟨b, 6, none⟩ = some (.slice none 0 0) ∧ Below base w w'

set_option maxHeartbeats 6400000 in
set_option maxRecDepth 100000 in
theorem plte_else (base b R C sb so mc n dp k c : Nat) (l : List UInt8) (d : DecV) (w : World) (L : Pl base b R C sb) (h : Rdg b R C sb so (n + 4) mc l w d 0 c)
    (hl : Hid (l.length = n + 4)) (hmc : n + 4 ≤ mc) (hn : n ≤ 1000) (hdp : dp = 1 ∨ dp = 2 ∨ dp = 4 ∨ dp = 8 ∨ dp = 16) (hgood : ¬ badLen n dp) (e1 : d.dp = .int .i64 (dp : Int)) (e2 : d.cb = .int .i64 (k : Int)) (e0 : d.pal = .slice none 0 0) (hk : k ≤ 15 ∧ k ≠ 0 ∧ ¬ (7 ≤ k ∧ k ≤ 10)) :
    Calls Tryd.prog 39 #[.pointer (some ⟨b, 0, none⟩), .int .u32 (n : Int)] w (ElseEnd base b l n c k w) := by
  have k5 : w.cell? ⟨b, 5, none⟩ = some (.int .i64 (dp : Int)) := h.dec.pre_cell 5 (by rw [← e1]; rfl)
  have k0 : w.cell? ⟨b, 0, none⟩ = some (.iface 79 (.pointer (some ⟨R, 0, none⟩))) := h.dec.pre_cell 0 (by rw [← h.er]; rfl)
  obtain ⟨np, hnp⟩ : ∃ np, np = n / 3 := ⟨_, rfl⟩
  have hg : n % 3 = 0 ∧ np ≠ 0 ∧ np ≤ 256 ∧ np ≤ 2 ^ dp := by
    unfold badLen at hgood
    rw [hnp]
    refine ⟨?_, ?_, ?_, ?_⟩ <;> (apply Decidable.byContradiction; intro hh; apply hgood; omega)
  obtain ⟨g1, g2, g3, g4⟩ := hg
  have e3 : (n : Int).tdiv 3 = (np : Int) := by rw [Int.tdiv_eq_ediv_of_nonneg (by omega)]; omega
  have e4 : (n : Int).tmod 3 = 0 := by rw [Int.tmod_eq_emod_of_nonneg (by omega)]; omega
  have e5 : (n : Int) / 3 = (np : Int) := by omega
  have e6 : (n : Int) % 3 = 0 := by omega
  have e7 : (3 : Int) * (np : Int) = (n : Int) := by omega
  have hn3 : n = 3 * np := by omega
  have y2 : (0 : Int) < (np : Int) := by omega
  have y3 : (np : Int) ≤ 256 := by omega
  have HN := Lib.hid hnp
  have HN3 := Lib.hid hn3
  have H1 := h.drew
  have E1 := Lib.hid e1
  have E2 := Lib.hid e2
  have E0 := Lib.hid e0
  clear hnp e1 e2 e0 hgood g1 hn3
  go_enter Tryd.func39, Tryd.ntmps39
  go_upto_region 2 with fail
  go_cut [33] from 13 to 33 (fun cc wx => cc = .bool false ∧ wx = w)
  case first =>
    rcases hdp with rfl | rfl | rfl | rfl | rfl
    all_goals
      simp at g4
      go_wp2_with fail
      go_meet
      case rel => exact ⟨by simp; omega, rfl⟩
  case rest =>
    obtain ⟨rfl, rfl⟩ := hcut
    clear k5 hdp g4 e3 e4 e5 e6
    have y4 : (n : Int) ≤ 768 := by have := HN3.out; omega
    have y5 : (0 : Int) ≤ (n : Int) := by omega
    have kn : IntKind.i64.wrap (n : Int) = (n : Int) := i64_in _ ⟨by omega, by omega⟩
    go_wp2_with fail
    go_region_with ((go_at_call 46; refine (readTmp_any base b R C sb so (n + 4) mc n l d 0 c wc.drew L H1 hl hmc (by omega) (by omega) (by omega) (by omega)).mono ?_; rintro e w2 ⟨rfl, H2, hb2⟩))
    clear k0 h H1 e7
    obtain ⟨p, hp⟩ : ∃ p, p = (l.drop 0).take n := ⟨_, rfl⟩
    have HP := Lib.hid hp
    have hpn : p.length = n := by have := hl.out; rw [hp]; simp; omega
    rw [← hp] at H2
    clear hp
    have HPN := Lib.hid hpn
    have k2 : w2.cell? ⟨b, 2, none⟩ = some (.pointer (some ⟨C, 0, none⟩)) := H2.dec.pre_cell 2 (by rw [← H2.ec]; rfl)
    clear hpn
    go_wp2_with fail
    go_still_tail 9, (by kernel_rfl)
    change wpList _ _ _ _ _ w2.drew
    have H3 := H2.drew
    obtain ⟨w3, hw3⟩ : ∃ w3, w3 = w2.drew := ⟨_, rfl⟩
    have hb3 : Below base wc w3 := by rw [hw3]; exact ⟨hb2.os, hb2.tape, hb2.output, hb2.size, hb2.block⟩
    rw [← hw3] at H3 ⊢
    clear hw3 k2 H2 hb2
    have hrp : RB w3 (some ⟨b, 10, none⟩) p := by
      have := H3.dec.tmpAt.take n
      rw [← HPN.out, over_take] at this
      exact this
    go_wp2_with fail
    refine (writeSum_any base b R C sb so (n + 4) mc l (d.over p) (0 + n) c (some ⟨b, 10, none⟩) n 768 p w3 L H3 HPN hrp (by omega)).mono ?_
    rintro e w4 ⟨rfl, H4, hb4⟩
    have HB4 := Lib.hid (hb3.trans (hb4.mono (Nat.le_refl _)))
    clear hrp hb3 hb4 H3
    have q7 := H4.dec.pre_cell 7 (v := .int .i64 (k : Int)) (by rw [← E2.out]; rfl)
    have q6 := H4.dec.pre_cell 6 (v := .slice none 0 0) (by rw [← E0.out]; rfl)
    obtain ⟨hk1, hk2, hk3⟩ := hk
    obtain rfl | rfl | rfl | rfl | rfl | rfl | rfl | rfl | rfl | rfl | rfl : k = 6 ∨ k = 11 ∨ k = 14 ∨ k = 15 ∨ k = 1 ∨ k = 2 ∨ k = 3 ∨ k = 4 ∨ k = 5 ∨ k = 12 ∨ k = 13 := by omega
    all_goals
      clear hk1 hk2 hk3
      first
        | (go_wp2_with fail
           refine (verify2_any base b R C sb so (n + 4) mc l _ (0 + n) (crcFrom c p) w4 L H4 hl hmc (by omega) (by omega)).mono ?_
           rintro e w8 ⟨rfl, H8, hb8, o8⟩
           go_wp2_with fail
           go_ret
           refine ⟨?_, H8.dec.pre_cell 6 (v := .slice none 0 0) (by rw [← E0.out]; rfl), HB4.out.trans (hb8.mono (Nat.le_refl _))⟩
           rw [if_pos (by rfl), HP.out, List.drop_zero] <;> rfl)
        | (go_wp2_with fail
           go_ret
           refine ⟨?_, q6, HB4.out⟩
           rw [if_neg (by decide)] <;> rfl)
end Go.Proofs.YtiiipmcjbibgoaaDoor
