/- The reading's last step once more, with all that it leaves as it was. -/
import Derived.Test.YtiiipmcjbibgoaaDoorDec
namespace Go.Proofs.YtiiipmcjbibgoaaDoor
open Go.ChangeShapes Go.WideShapes Go.ChangeAt Go.RowKit Go.IntWalk

def TmpEnd2 (base b R C sb so m mc n : Nat) (l : List UInt8) (d : DecV) (i c : Nat) (w : World) (e : Ending) (w' : World) : Prop :=
  e = .returned (.tuple #[.int .i64 (n : Int), .nilIface]) ∧ Rdg b R C sb so m mc l w' (d.over ((l.drop i).take n)) (i + n) c ∧ Below base w w' ∧ Only2 b R w w'
theorem readTmp2_any (base b R C sb so m mc n : Nat) (l : List UInt8) (d : DecV) (i c : Nat) (w : World) (L : Pl base b R C sb) (h : Rdg b R C sb so m mc l w d i c)
    (hl : Hid (l.length = m)) (hmc : m ≤ mc) (hpos : 0 < n) (hin : i + n ≤ m) (hn : n ≤ 768) (hm : m ≤ 1000000) :
    Calls Tryd.prog 46 #[.iface 79 (.pointer (some ⟨R, 0, none⟩)), .slice (some ⟨b, 10, none⟩) n 768] w (TmpEnd2 base b R C sb so m mc n l d i c w) := by
  have h0 := L.b0
  have h1 := L.r0
  have h2 := L.s0
  have h3 := L.t0
  have hlen := hl.out
  refine (readFull_any b 10 n 768 R sb so m mc i l d.cells 90 w h.rd hl h.src hmc h.dec.row L.bR (by omega) hpos hin (by unfold DecV.cells; simp [d.pre_length, cellsB_length, h.dec.tl]; omega) hn hm).mono ?_
  rintro e w' ⟨rfl, hp⟩
  have hnl : ((l.drop i).take n).length = n := by simp; omega
  refine ⟨rfl, ⟨⟨?_, ?_, h.dec.trl⟩, h.er, h.ec, hp.rd, ?_, h.hc, h.src.only2 hp.only (by omega) (by omega), h.tab.only2 hp.only (by omega) (by omega)⟩, hp.only.below h0 h1, hp.only⟩
  · have := hp.row
    rw [over_cells _ _ (by rw [hnl, h.dec.tl]; exact hn)] at this
    exact this
  · simp [DecV.over, h.dec.tl]; omega
  · exact (hp.only.block C (Ne.symm L.bC) (Ne.symm L.rC)).trans h.cr

/-- Four bytes more have been read and held against the sum; nothing but the decoder and its reader has turned. -/
def VerEnd2 (base b R C sb so m mc : Nat) (l : List UInt8) (d : DecV) (i c : Nat) (w : World) (e : Ending) (w' : World) : Prop :=
  e = .returned (sumV c ((l.drop i).take 4)) ∧ Rdg b R C sb so m mc l w' (d.over ((l.drop i).take 4)) (i + 4) c ∧ Below base w w' ∧ Only2 b R w w'

set_option maxHeartbeats 1600000 in
set_option maxRecDepth 100000 in
theorem verify2_any (base b R C sb so m mc : Nat) (l : List UInt8) (d : DecV) (i c : Nat) (w : World) (L : Pl base b R C sb) (h : Rdg b R C sb so m mc l w d i c)
    (hl : Hid (l.length = m)) (hmc : m ≤ mc) (hin : i + 4 ≤ m) (hm : m ≤ 1000000) :
    Calls Tryd.prog 47 #[.pointer (some ⟨b, 0, none⟩)] w (VerEnd2 base b R C sb so m mc l d i c w) := by
  have k0 : w.cell? ⟨b, 0, none⟩ = some (.iface 79 (.pointer (some ⟨R, 0, none⟩))) := h.dec.pre_cell 0 (by rw [← h.er]; rfl)
  go_enter Tryd.func47, Tryd.ntmps47
  go_wp2_with fail
  have H1 := h.drew
  have hm1 : i + 4 ≤ m := hin
  go_region_with ((go_at_call 46; refine (readTmp2_any base b R C sb so m mc 4 l d i c w.drew L H1 hl hmc (by omega) hm1 (by omega) hm).mono ?_; rintro e w2 ⟨rfl, H2, hb2, o2⟩))
  clear k0 h H1
  obtain ⟨p, hp⟩ : ∃ p, p = (l.drop i).take 4 := ⟨_, rfl⟩
  have hp4 : p.length = 4 := by have := hl.out; rw [hp]; simp; omega
  have HP := Lib.hid hp
  rw [← hp] at H2
  clear hp
  have k2 : w2.cell? ⟨b, 2, none⟩ = some (.pointer (some ⟨C, 0, none⟩)) := H2.dec.pre_cell 2 (by rw [← H2.ec]; rfl)
  have hrp : RB w2 (some ⟨b, 10, none⟩) p := by
    have := H2.dec.tmpAt.take 4
    rw [← hp4, over_take] at this
    exact this
  have HP4 := Lib.hid hp4
  have b4 := be4_lt p
  have cc : w2.cell? ⟨C, 0, none⟩ = some (.int .u32 (c : Int)) := by rw [cell_of_row w2 C 0 _ _ _ H2.cr]; rfl
  clear hp4
  go_wp2_with fail
  go_quiet (first | (go_at_call 48; exact Calls.quiet_of (beUint32_any b 10 4 768 p _ HP4 hrp (by omega))) | (go_at_call 51; exact Calls.quiet_of_same (Calls.mono (sum32_any C 0 (.int .u32 (c : Int)) _ (by exact cc)) (fun _ _ h => ⟨h.1, h.2.symm⟩))))
  by_cases hq : be4 p = c
  · have d1 : ((be4 p : Int) != (c : Int)) = false := by rw [hq]; simp
    go_wp2_with fail
    go_ret
    exact ⟨by rw [← HP.out, sumV, if_pos hq]; rfl, by rw [← HP.out]; exact H2.drewN _, ⟨hb2.os, hb2.tape, hb2.output, hb2.size, hb2.block⟩, o2.undrew.drewN _⟩
  · have d1 : ((be4 p : Int) != (c : Int)) = true := by simp; omega
    go_wp2_with fail
    go_ret
    exact ⟨by rw [← HP.out, sumV, if_neg hq]; rfl, by rw [← HP.out]; exact H2.drewN _, ⟨hb2.os, hb2.tape, hb2.output, hb2.size, hb2.block⟩, o2.undrew.drewN _⟩
end Go.Proofs.YtiiipmcjbibgoaaDoor
