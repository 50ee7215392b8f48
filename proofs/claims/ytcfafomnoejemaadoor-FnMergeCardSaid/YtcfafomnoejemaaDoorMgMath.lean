/- The pixels of a pass laid into the whole: a fold of splices. No function of the program in sight. -/
import Derived.Test.YtcfafomnoejemaaDoorSeg
import Derived.Laws.CopyOwn
namespace Go.Proofs.YtcfafomnoejemaaDoor
open Go.ChangeShapes Go.WideShapes Go.ChangeAt Go.RowKit

/-- Bytes a pixel. -/
def nB (k : Nat) : Nat := if k = 1 ∨ k = 7 then 1 else if k = 2 then 2 else if k = 3 ∨ k = 5 then 4 else 8
theorem nB_pos (k : Nat) : 1 ≤ nB k := by
  unfold nB
  repeat' split
  all_goals omega
theorem nB_le (k : Nat) : nB k ≤ 8 := by
  unfold nB
  repeat' split
  all_goals omega
/-- Where a pass lies: its first column and row, and how far its columns and rows lie apart. -/
structure Pt where
  X : Nat
  Y : Nat
  DX : Nat
  DY : Nat
def ptOf (p : Nat) : Pt := match p with
  | 0 => ⟨0, 0, 8, 8⟩
  | 1 => ⟨4, 0, 8, 8⟩
  | 2 => ⟨0, 4, 4, 8⟩
  | 3 => ⟨2, 0, 4, 4⟩
  | 4 => ⟨0, 2, 2, 4⟩
  | 5 => ⟨1, 0, 2, 2⟩
  | _ => ⟨0, 1, 1, 2⟩
structure PtOk (q : Pt) : Prop where
  x : q.X ≤ 4
  y : q.Y ≤ 4
  dx0 : 1 ≤ q.DX
  dx : q.DX ≤ 8
  dy0 : 1 ≤ q.DY
  dy : q.DY ≤ 8
theorem ptOf_ok (p : Nat) : PtOk (ptOf p) := by
  unfold ptOf
  split <;> (constructor <;> decide)
def dstAt (q : Pt) (w n y x : Nat) : Nat := ((q.Y + y * q.DY) * w + q.X + x * q.DX) * n
def srcAt (pw n y x : Nat) : Nat := (y * pw + x) * n
def pix (src : List UInt8) (pw n y x : Nat) : List UInt8 := (src.drop (srcAt pw n y x)).take n
/-- The first x pixels of row y are laid. -/
def rowM (q : Pt) (w n pw : Nat) (src : List UInt8) (y : Nat) : Nat → List UInt8 → List UInt8
  | 0, B => B
  | x + 1, B => splice (rowM q w n pw src y x B) (dstAt q w n y x) (pix src pw n y x)
/-- The first y rows are laid. -/
def allM (q : Pt) (w n pw : Nat) (src : List UInt8) : Nat → List UInt8 → List UInt8
  | 0, B => B
  | y + 1, B => rowM q w n pw src y pw (allM q w n pw src y B)
/-- So many columns and rows has the pass. -/
structure Fits (q : Pt) (w h n pw ph : Nat) : Prop where
  ok : PtOk q
  x : ∀ x, x < pw → q.X + x * q.DX < w
  y : ∀ y, y < ph → q.Y + y * q.DY < h
  w : w ≤ 40
  h : h ≤ 40
  n0 : 1 ≤ n
  n : n ≤ 8
  pw : pw ≤ 40
  ph : ph ≤ 40
theorem mul_next {a b c : Nat} (h : a < b) : (a + 1) * c ≤ b * c := Nat.mul_le_mul_right c h
theorem Fits.dst {q : Pt} {w h n pw ph : Nat} (F : Fits q w h n pw ph) {y x : Nat} (hy : y < ph) (hx : x < pw) : dstAt q w n y x + n ≤ w * h * n := by
  have h1 := F.x x hx
  have h2 := F.y y hy
  have h3 : (q.Y + y * q.DY + 1) * w ≤ h * w := mul_next h2
  have h4 : ((q.Y + y * q.DY) * w + q.X + x * q.DX + 1) * n ≤ (w * h) * n := by
    refine Nat.mul_le_mul_right n ?_
    rw [Nat.add_mul, Nat.one_mul] at h3
    rw [Nat.mul_comm w h]
    omega
  rw [Nat.add_mul, Nat.one_mul] at h4
  exact h4
theorem Fits.src {q : Pt} {w h n pw ph : Nat} (_F : Fits q w h n pw ph) {y x : Nat} (hy : y < ph) (hx : x < pw) : srcAt pw n y x + n ≤ pw * ph * n := by
  have h3 : (y + 1) * pw ≤ ph * pw := mul_next hy
  have h4 : (y * pw + x + 1) * n ≤ (pw * ph) * n := by
    refine Nat.mul_le_mul_right n ?_
    rw [Nat.add_mul, Nat.one_mul] at h3
    rw [Nat.mul_comm pw ph]
    omega
  rw [Nat.add_mul, Nat.one_mul] at h4
  exact h4
theorem Fits.pix_len {q : Pt} {w h n pw ph : Nat} (F : Fits q w h n pw ph) {src : List UInt8} (hs : src.length = pw * ph * n) {y x : Nat} (hy : y < ph) (hx : x < pw) : (pix src pw n y x).length = n := by
  have := F.src hy hx
  unfold pix
  rw [List.length_take, List.length_drop, hs]
  omega
theorem Fits.row_len {q : Pt} {w h n pw ph : Nat} (F : Fits q w h n pw ph) {src : List UInt8} (hs : src.length = pw * ph * n) {y : Nat} (hy : y < ph) {B : List UInt8} (hB : B.length = w * h * n) :
    ∀ x, x ≤ pw → (rowM q w n pw src y x B).length = w * h * n
  | 0, _ => hB
  | x + 1, hx => by
    have ih := F.row_len hs hy hB x (by omega)
    have h1 := F.dst hy (show x < pw by omega)
    rw [rowM, length_splice]
    · exact ih
    · rw [F.pix_len hs hy (show x < pw by omega), ih]; exact h1
theorem Fits.all_len {q : Pt} {w h n pw ph : Nat} (F : Fits q w h n pw ph) {src : List UInt8} (hs : src.length = pw * ph * n) {B : List UInt8} (hB : B.length = w * h * n) :
    ∀ y, y ≤ ph → (allM q w n pw src y B).length = w * h * n
  | 0, _ => hB
  | y + 1, hy => F.row_len hs (show y < ph by omega) (F.all_len hs hB y (by omega)) pw (Nat.le_refl _)

/-- A splice over cells of bytes is one of the bytes. -/
theorem splice_cells (l seg : List UInt8) (post : List Value) (off : Nat) (h : off + seg.length ≤ l.length) :
    splice (l.map (fun v => Value.int .u8 (v.toNat : Int)) ++ post) off (seg.map fun v => Value.int .u8 (v.toNat : Int)) = (splice l off seg).map (fun v => Value.int .u8 (v.toNat : Int)) ++ post := by
  unfold splice
  rw [List.take_append_of_le_length (by rw [List.length_map]; omega), List.drop_append_of_le_length (by rw [List.length_map, List.length_map]; omega), List.length_map]
  simp only [List.map_append, List.map_take, List.map_drop, List.append_assoc]
theorem Seg.splice {w' : World} {b off : Nat} {post : List Value} {l seg : List UInt8} (hoff : off + seg.length ≤ l.length)
    (h : w'.heap[b]? = some (.cells (Go.splice (l.map (fun v => Value.int .u8 (v.toNat : Int)) ++ post) off (seg.map fun v => Value.int .u8 (v.toNat : Int))).toArray 5 (0, 0))) : Seg w' b [] post (Go.splice l off seg) := by
  rw [splice_cells _ _ _ _ hoff] at h
  simpa [Seg] using h
/-- A list of bytes of that length. -/
def fillAt (b : List UInt8) (i : Nat) : UInt8 := if b.length = 0 then UInt8.ofNat i else b.getD (i % b.length) 0
def fillL (b : List UInt8) (n : Nat) : List UInt8 := (List.range n).map (fillAt b)
theorem fillL_len (b : List UInt8) (n : Nat) : (fillL b n).length = n := by simp [fillL]
theorem fillL_next (b : List UInt8) (n : Nat) : fillL b (n + 1) = fillL b n ++ [fillAt b n] := by simp [fillL, List.range_succ]
end Go.Proofs.YtcfafomnoejemaaDoor
