/-
  NARROWER THAN 'FOR EVERY INPUT', by the rows' own cells (each row's printed sentence says how): FnPassLonger: laid.
  DERIVED. THE GIVEN ROWS OF THIS SEAT. 1 by the template 'for every input the law returns true; each argument reads behind the call as it read before'; 0 by the template 'total and deterministic' (their statements: YtkiibhpmembcgaaDoorTotals.lean).
  GIVEN WITH THE SEED: the statements are not yours to turn. If you find one false, say at which input.
  Laid BY PROGRAM, IN A SANDBOX (cutbox-rows.mjs): the forced cells as the released guide's own fill.sh prints them over the translation 40688bc51275f4b6… (all of the seat's roots in one cut). By AI agents, Wed Nov 11 2026. No macro, syntax, notation, axiom, sorry.
-/
import Derived.Test.YtkiibhpmembcgaaDoorChecked
import GoSem.Claim
import GoSem.ClaimJoined
import GoSem.ClaimMapViews
import Derived.JoinedTies
import Derived.KernelRfl
namespace Go.Proofs.YtkiibhpmembcgaaDoor
/- THE CELL 'sum', in the pinned program and in every row, IS THE sha256 OF THE DUMP (.gsa) THAT YtkiibhpmembcgaaDoorProg.lean LOADS. Nothing in Lean hashes anything: it is a label: what it is worth is what the hold of that sum in a sandbox is worth. -/
noncomputable def Tryd.pinned : Pinned := { name := "ytkiibhpmembcgaadoor", sum := "40688bc51275f4b6984491651b2d884bb3957f5168a86f91c1b787de35c407b8", checked := Tryd.checked }
namespace Rows
def none {H : Type} : Left H := { results := [], args := [] }

/- WHAT THE LISTED PACKAGE-LEVEL VARIABLES READ AS WHEN THE CALL BEGINS. Each datum BY PROGRAM (the guide's laid-datum.mjs) off the statement by which the dump's own 'gosem.cut.vars' lays the variable. In a bare row this is a premise. The card (YtkiibhpmembcgaaDoorCards.lean) ties it to the program's text. -/
def laid_io_ErrShortBuffer {H : Type} : DataW H := .iface "*errors.errorString" (.ptr (.agg [.lit (.string [115, 104, 111, 114, 116, 32, 98, 117, 102, 102, 101, 114])]))
def laid_io_EOF {H : Type} : DataW H := .iface "*errors.errorString" (.ptr (.agg [.lit (.string [69, 79, 70])]))
def laid_io_ErrUnexpectedEOF {H : Type} : DataW H := .iface "*errors.errorString" (.ptr (.agg [.lit (.string [117, 110, 101, 120, 112, 101, 99, 116, 101, 100, 32, 69, 79, 70])]))
def laid_loop_example_pub_g03424_pub_pngparts_interlacing {H : Type} : DataW H := .slice [.agg [.lit (.int .i64 8), .lit (.int .i64 8), .lit (.int .i64 0), .lit (.int .i64 0)], .agg [.lit (.int .i64 8), .lit (.int .i64 8), .lit (.int .i64 4), .lit (.int .i64 0)], .agg [.lit (.int .i64 4), .lit (.int .i64 8), .lit (.int .i64 0), .lit (.int .i64 4)], .agg [.lit (.int .i64 4), .lit (.int .i64 4), .lit (.int .i64 2), .lit (.int .i64 0)], .agg [.lit (.int .i64 2), .lit (.int .i64 4), .lit (.int .i64 0), .lit (.int .i64 2)], .agg [.lit (.int .i64 2), .lit (.int .i64 2), .lit (.int .i64 1), .lit (.int .i64 0)], .agg [.lit (.int .i64 1), .lit (.int .i64 2), .lit (.int .i64 0), .lit (.int .i64 1)]] []

/-- 'laws.FnPassLonger': WHATEVER THE INPUT: true; the input reads as it did. -/
def fnPassLongerSpec : ChangeSpec := { name := "fnPassLonger", vars := ["loop.example/pub-g03424/pub/pngparts.interlacing"], fn := fun _ => fun
  | [d1, d2, d3, d4, d5, d6, d7, d8, g1] => { results := [.lit (.bool true)], args := [d1, d2, d3, d4, d5, d6, d7, d8], vars := [g1] }
  | _ => none }
def fnPassLongerRow : OpenClaim := { program := "ytkiibhpmembcgaadoor", sum := "40688bc51275f4b6984491651b2d884bb3957f5168a86f91c1b787de35c407b8", func := "loop.example/pub-g03424/laws.FnPassLonger", spec := "fnPassLonger", unfollowed := true, recurses := true, named := ["loop.example/pub-g03424/pub/pngparts.interlacing", "io.EOF", "io.ErrUnexpectedEOF", "io.ErrShortBuffer"], apart := false, laid := [("io.ErrShortBuffer", laid_io_ErrShortBuffer), ("io.EOF", laid_io_EOF), ("io.ErrUnexpectedEOF", laid_io_ErrUnexpectedEOF), ("loop.example/pub-g03424/pub/pngparts.interlacing", laid_loop_example_pub_g03424_pub_pngparts_interlacing)] }
def FnPassLongerSaid : Prop := fnPassLongerRow.holds Tryd.pinned (OpenSpec.ofChange fnPassLongerSpec)

/-- ITS FALSE NEIGHBOUR: 'it returns false'. Refute it at one input. -/
def fnPassLongerWrong : ChangeSpec := { name := "fnPassLonger", vars := ["loop.example/pub-g03424/pub/pngparts.interlacing"], fn := fun _ => fun
  | [d1, d2, d3, d4, d5, d6, d7, d8, g1] => { results := [.lit (.bool false)], args := [d1, d2, d3, d4, d5, d6, d7, d8], vars := [g1] }
  | _ => none }
def FnPassLongerWrongFalsely : Prop := fnPassLongerRow.holds Tryd.pinned (OpenSpec.ofChange fnPassLongerWrong)

/- THE SECOND FORM. 'bulk': how many values and letters a reading holds, each counted each time it is reached (what is shared counts as often as it is met; a slice's spare places count too). A statement '..UptoSaid' is the law's where the arguments, and the package variables that the reading takes, are together of bulk at most 1048576: NARROWER than '..Said'. Prove '..Said' where nothing that the law and all that it calls make is longer than what came in: it says more and counts as full. Else prove '..UptoSaid'. A law counts once. -/
mutual
def uptoBulk {H : Type} : DataW H → Nat
  | .lit (.string bytes) => bytes.length + 1
  | .lit _ => 1
  | .nil => 1
  | .ptr d => uptoBulk d + 1
  | .slice elems spare => uptoBulkAll elems + uptoBulkAll spare + 1
  | .agg parts => uptoBulkAll parts + 1
  | .iface _ d => uptoBulk d + 1
  | .map entries => uptoBulkEntries entries + 1
  | .held _ => 1
def uptoBulkAll {H : Type} : List (DataW H) → Nat
  | [] => 0
  | d :: r => uptoBulk d + uptoBulkAll r
def uptoBulkEntries {H : Type} : List (Lit × DataW H) → Nat
  | [] => 0
  | x :: r => uptoBulkEntry x + uptoBulkEntries r
def uptoBulkEntry {H : Type} : Lit × DataW H → Nat
  | (.string bytes, d) => bytes.length + uptoBulk d + 1
  | (_, d) => uptoBulk d + 1
 end
def uptoSmall : (H : Type) → List (DataW H) → Bool := fun _ ds => decide (uptoBulkAll ds ≤ 1048576)
def OpenSpec.upto (s : _root_.Go.ChangeSpec) : _root_.Go.OpenSpec := { _root_.Go.OpenSpec.ofChange s with cond := some uptoSmall }

/-- 'laws.FnPassLonger', WHERE WHAT IT READS IS OF BULK AT MOST 1048576: true; the input reads as it did. -/
def fnPassLongerUptoRow : OpenClaim := { program := "ytkiibhpmembcgaadoor", sum := "40688bc51275f4b6984491651b2d884bb3957f5168a86f91c1b787de35c407b8", func := "loop.example/pub-g03424/laws.FnPassLonger", spec := "fnPassLonger", unfollowed := true, recurses := true, named := ["loop.example/pub-g03424/pub/pngparts.interlacing", "io.EOF", "io.ErrUnexpectedEOF", "io.ErrShortBuffer"], apart := false, laid := [("io.ErrShortBuffer", laid_io_ErrShortBuffer), ("io.EOF", laid_io_EOF), ("io.ErrUnexpectedEOF", laid_io_ErrUnexpectedEOF), ("loop.example/pub-g03424/pub/pngparts.interlacing", laid_loop_example_pub_g03424_pub_pngparts_interlacing)], narrowed := true }
def FnPassLongerUptoSaid : Prop := fnPassLongerUptoRow.holds Tryd.pinned (OpenSpec.upto fnPassLongerSpec)

end Rows
end Go.Proofs.YtkiibhpmembcgaaDoor
