/- A slice of bytes turned into a string: its bytes. -/
import Derived.Test.YtkiibhpmembcgaaDoorGBase
import Derived.Laws.BytesArg
namespace Go.Proofs.YtkiibhpmembcgaaDoor
open Go.ChangeShapes Go.WideShapes Go.ChangeAt Go.RowKit Go.IntWalk

/-- The string of these bytes. -/
def strOf (l : List UInt8) : ByteArray := ⟨l.toArray⟩
theorem strOf_inj {l m : List UInt8} : strOf l = strOf m ↔ l = m := by simp [strOf]
set_option maxRecDepth 100000 in
theorem conv_bytes {w : World} {ad : Option Addr} {n cap : Nat} {l : List UInt8} (hr : RB w ad l) (hn : Hid (l.length = n)) :
    (convert 23 9 (.slice ad n cap)).run Tryd.prog w = .ok (.string (strOf l)) w := by
  cases l with
  | nil =>
    obtain rfl : n = 0 := hn.out.symm
    cases ad with
    | none => exact run_convert_bytes_nil w 23 5 Tryd.underlying23 Tryd.underlying5 0 cap 9 Tryd.underlying9
    | some p =>
      have hl : (loadCells p 0).run Tryd.prog w = .ok (([] : List Int).map (Value.int .u8)).toArray w := by
        have := run_loadCells_list (P := Tryd.prog) w p [] (fun j v hj => by simp at hj)
        simpa using this
      rw [run_convert_bytes_string w 23 9 5 _ 0 cap Tryd.underlying23 Tryd.underlying5 Tryd.underlying9, run_bytesToString w p 0 cap [] hl]
      rfl
  | cons x xs =>
    obtain ⟨m, hmm⟩ : ∃ m, m = x :: xs := ⟨_, rfl⟩
    have hne : m ≠ [] := by rw [hmm]; simp
    rw [← hmm] at hr hn ⊢
    clear hmm
    obtain ⟨b, off, rfl, hc⟩ := hr hne
    have h := run_convert_bytes_arg (P := Tryd.prog) w 23 5 Tryd.underlying23 Tryd.underlying5 b off n cap (m.map fun v => (v.toNat : Int)) (by simpa using hn.out) (fun i hi => by
      have hi' : i < m.length := by have := hn.out; omega
      rw [hc i hi']
      simp [List.getD, List.getElem?_eq_getElem hi']) 9 Tryd.underlying9
    rw [h]
    congr 2
    unfold strOf strOfNums
    rw [List.map_map]
    congr 2
    conv => rhs; rw [← List.map_id m]
    apply List.map_congr_left
    intro v _
    simp
end Go.Proofs.YtkiibhpmembcgaaDoor
