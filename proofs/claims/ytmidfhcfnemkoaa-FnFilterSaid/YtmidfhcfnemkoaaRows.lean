/-
  No cell of these rows narrows 'for every input' (looked for: loops, veiled, ifaces, maps, wideKeys, modest, calm, conditions, laid).
  DERIVED. THE GIVEN ROWS OF THIS SEAT. 5 by the template 'for every input the law returns true; each argument reads behind the call as it read before'; 0 by the template 'total and deterministic' (their statements: YtmidfhcfnemkoaaTotals.lean).
  GIVEN WITH THE SEED: the statements are not yours to turn. If you find one false, say at which input.
  Laid BY PROGRAM, IN A SANDBOX (cutbox-rows.mjs): the forced cells as the released guide's own fill.sh prints them over the translation 737061d32155b28e… (all of the seat's roots in one cut). By AI agents, Wed Nov 11 2026. No macro, syntax, notation, axiom, sorry.
-/
import Derived.Test.YtmidfhcfnemkoaaChecked
import GoSem.Claim
import GoSem.ClaimJoined
import GoSem.ClaimMapViews
import Derived.JoinedTies
import Derived.KernelRfl
namespace Go.Proofs.Ytmidfhcfnemkoaa
/- THE CELL 'sum', in the pinned program and in every row, IS THE sha256 OF THE DUMP (.gsa) THAT YtmidfhcfnemkoaaProg.lean LOADS. Nothing in Lean hashes anything: it is a label: what it is worth is what the hold of that sum in a sandbox is worth. -/
noncomputable def Try.pinned : Pinned := { name := "ytmidfhcfnemkoaa", sum := "737061d32155b28eff812b21bfa995e86e26630bf9d36580ad0c66540cfab591", checked := Try.checked }
namespace Rows
def none {H : Type} : Left H := { results := [], args := [] }

/-- 'laws.FnUnfilter': WHATEVER THE INPUT: true; the input reads as it did. -/
def fnUnfilterSpec : ChangeSpec := { name := "fnUnfilter", fn := fun _ => fun
  | [d1, d2, d3] => { results := [.lit (.bool true)], args := [d1, d2, d3] }
  | _ => none }
def fnUnfilterRow : OpenClaim := { program := "ytmidfhcfnemkoaa", sum := "737061d32155b28eff812b21bfa995e86e26630bf9d36580ad0c66540cfab591", func := "loop.example/pub-g03424/laws.FnUnfilter", spec := "fnUnfilter", apart := false }
def FnUnfilterSaid : Prop := fnUnfilterRow.holds Try.pinned (OpenSpec.ofChange fnUnfilterSpec)

/-- ITS FALSE NEIGHBOUR: 'it returns false'. Refute it at one input. -/
def fnUnfilterWrong : ChangeSpec := { name := "fnUnfilter", fn := fun _ => fun
  | [d1, d2, d3] => { results := [.lit (.bool false)], args := [d1, d2, d3] }
  | _ => none }
def FnUnfilterWrongFalsely : Prop := fnUnfilterRow.holds Try.pinned (OpenSpec.ofChange fnUnfilterWrong)

/-- 'laws.FnUnfilterBack': WHATEVER THE INPUT: true; the input reads as it did. -/
def fnUnfilterBackSpec : ChangeSpec := { name := "fnUnfilterBack", fn := fun _ => fun
  | [d1, d2, d3] => { results := [.lit (.bool true)], args := [d1, d2, d3] }
  | _ => none }
def fnUnfilterBackRow : OpenClaim := { program := "ytmidfhcfnemkoaa", sum := "737061d32155b28eff812b21bfa995e86e26630bf9d36580ad0c66540cfab591", func := "loop.example/pub-g03424/laws.FnUnfilterBack", spec := "fnUnfilterBack", apart := false }
def FnUnfilterBackSaid : Prop := fnUnfilterBackRow.holds Try.pinned (OpenSpec.ofChange fnUnfilterBackSpec)

/-- ITS FALSE NEIGHBOUR: 'it returns false'. Refute it at one input. -/
def fnUnfilterBackWrong : ChangeSpec := { name := "fnUnfilterBack", fn := fun _ => fun
  | [d1, d2, d3] => { results := [.lit (.bool false)], args := [d1, d2, d3] }
  | _ => none }
def FnUnfilterBackWrongFalsely : Prop := fnUnfilterBackRow.holds Try.pinned (OpenSpec.ofChange fnUnfilterBackWrong)

/-- 'laws.FnFilter': WHATEVER THE INPUT: true; the input reads as it did. -/
def fnFilterSpec : ChangeSpec := { name := "fnFilter", fn := fun _ => fun
  | [d1, d2, d3] => { results := [.lit (.bool true)], args := [d1, d2, d3] }
  | _ => none }
def fnFilterRow : OpenClaim := { program := "ytmidfhcfnemkoaa", sum := "737061d32155b28eff812b21bfa995e86e26630bf9d36580ad0c66540cfab591", func := "loop.example/pub-g03424/laws.FnFilter", spec := "fnFilter", apart := false }
def FnFilterSaid : Prop := fnFilterRow.holds Try.pinned (OpenSpec.ofChange fnFilterSpec)

/-- ITS FALSE NEIGHBOUR: 'it returns false'. Refute it at one input. -/
def fnFilterWrong : ChangeSpec := { name := "fnFilter", fn := fun _ => fun
  | [d1, d2, d3] => { results := [.lit (.bool false)], args := [d1, d2, d3] }
  | _ => none }
def FnFilterWrongFalsely : Prop := fnFilterRow.holds Try.pinned (OpenSpec.ofChange fnFilterWrong)

/-- 'laws.FnFilterBack': WHATEVER THE INPUT: true; the input reads as it did. -/
def fnFilterBackSpec : ChangeSpec := { name := "fnFilterBack", fn := fun _ => fun
  | [d1, d2, d3] => { results := [.lit (.bool true)], args := [d1, d2, d3] }
  | _ => none }
def fnFilterBackRow : OpenClaim := { program := "ytmidfhcfnemkoaa", sum := "737061d32155b28eff812b21bfa995e86e26630bf9d36580ad0c66540cfab591", func := "loop.example/pub-g03424/laws.FnFilterBack", spec := "fnFilterBack", apart := false }
def FnFilterBackSaid : Prop := fnFilterBackRow.holds Try.pinned (OpenSpec.ofChange fnFilterBackSpec)

/-- ITS FALSE NEIGHBOUR: 'it returns false'. Refute it at one input. -/
def fnFilterBackWrong : ChangeSpec := { name := "fnFilterBack", fn := fun _ => fun
  | [d1, d2, d3] => { results := [.lit (.bool false)], args := [d1, d2, d3] }
  | _ => none }
def FnFilterBackWrongFalsely : Prop := fnFilterBackRow.holds Try.pinned (OpenSpec.ofChange fnFilterBackWrong)

/-- 'laws.FnFilterLeast': WHATEVER THE INPUT: true; the input reads as it did. -/
def fnFilterLeastSpec : ChangeSpec := { name := "fnFilterLeast", fn := fun _ => fun
  | [d1, d2, d3] => { results := [.lit (.bool true)], args := [d1, d2, d3] }
  | _ => none }
def fnFilterLeastRow : OpenClaim := { program := "ytmidfhcfnemkoaa", sum := "737061d32155b28eff812b21bfa995e86e26630bf9d36580ad0c66540cfab591", func := "loop.example/pub-g03424/laws.FnFilterLeast", spec := "fnFilterLeast", apart := false }
def FnFilterLeastSaid : Prop := fnFilterLeastRow.holds Try.pinned (OpenSpec.ofChange fnFilterLeastSpec)

/-- ITS FALSE NEIGHBOUR: 'it returns false'. Refute it at one input. -/
def fnFilterLeastWrong : ChangeSpec := { name := "fnFilterLeast", fn := fun _ => fun
  | [d1, d2, d3] => { results := [.lit (.bool false)], args := [d1, d2, d3] }
  | _ => none }
def FnFilterLeastWrongFalsely : Prop := fnFilterLeastRow.holds Try.pinned (OpenSpec.ofChange fnFilterLeastWrong)

/- THE SECOND FORM. 'bulk': how many values and letters a reading holds, each counted each time it is reached (what is shared counts as often as it is met; a slice's spare places count too). A statement '..UptoSaid' is the law's where the arguments, and the package variables that the reading takes, are together of bulk at most 1048576: NARROWER than '..Said'. Prove '..Said' where nothing that the law and all that it calls make is longer than what came in: it says more and counts as full. Else prove '..UptoSaid'. A law counts once. -/
mutual
def uptoBulk {H : Type} : DataW H → Nat
  | .lit (.string bytes) => bytes.length + 1
  | .lit _ => 1
  | .nil => 1
  | .ptr d => uptoBulk d + 1
  | .slice elems spare => uptoBulkAll elems + uptoBulkAll spare + 1
  | .agg parts => uptoBulkAll parts + 1
  | .iface _ d => uptoBulk d + 1
  | .map entries => uptoBulkEntries entries + 1
  | .held _ => 1
def uptoBulkAll {H : Type} : List (DataW H) → Nat
  | [] => 0
  | d :: r => uptoBulk d + uptoBulkAll r
def uptoBulkEntries {H : Type} : List (Lit × DataW H) → Nat
  | [] => 0
  | x :: r => uptoBulkEntry x + uptoBulkEntries r
def uptoBulkEntry {H : Type} : Lit × DataW H → Nat
  | (.string bytes, d) => bytes.length + uptoBulk d + 1
  | (_, d) => uptoBulk d + 1
 end
def uptoSmall : (H : Type) → List (DataW H) → Bool := fun _ ds => decide (uptoBulkAll ds ≤ 1048576)
def OpenSpec.upto (s : _root_.Go.ChangeSpec) : _root_.Go.OpenSpec := { _root_.Go.OpenSpec.ofChange s with cond := some uptoSmall }

/-- 'laws.FnUnfilter', WHERE WHAT IT READS IS OF BULK AT MOST 1048576: true; the input reads as it did. -/
def fnUnfilterUptoRow : OpenClaim := { program := "ytmidfhcfnemkoaa", sum := "737061d32155b28eff812b21bfa995e86e26630bf9d36580ad0c66540cfab591", func := "loop.example/pub-g03424/laws.FnUnfilter", spec := "fnUnfilter", apart := false, narrowed := true }
def FnUnfilterUptoSaid : Prop := fnUnfilterUptoRow.holds Try.pinned (OpenSpec.upto fnUnfilterSpec)

/-- 'laws.FnUnfilterBack', WHERE WHAT IT READS IS OF BULK AT MOST 1048576: true; the input reads as it did. -/
def fnUnfilterBackUptoRow : OpenClaim := { program := "ytmidfhcfnemkoaa", sum := "737061d32155b28eff812b21bfa995e86e26630bf9d36580ad0c66540cfab591", func := "loop.example/pub-g03424/laws.FnUnfilterBack", spec := "fnUnfilterBack", apart := false, narrowed := true }
def FnUnfilterBackUptoSaid : Prop := fnUnfilterBackUptoRow.holds Try.pinned (OpenSpec.upto fnUnfilterBackSpec)

/-- 'laws.FnFilter', WHERE WHAT IT READS IS OF BULK AT MOST 1048576: true; the input reads as it did. -/
def fnFilterUptoRow : OpenClaim := { program := "ytmidfhcfnemkoaa", sum := "737061d32155b28eff812b21bfa995e86e26630bf9d36580ad0c66540cfab591", func := "loop.example/pub-g03424/laws.FnFilter", spec := "fnFilter", apart := false, narrowed := true }
def FnFilterUptoSaid : Prop := fnFilterUptoRow.holds Try.pinned (OpenSpec.upto fnFilterSpec)

/-- 'laws.FnFilterBack', WHERE WHAT IT READS IS OF BULK AT MOST 1048576: true; the input reads as it did. -/
def fnFilterBackUptoRow : OpenClaim := { program := "ytmidfhcfnemkoaa", sum := "737061d32155b28eff812b21bfa995e86e26630bf9d36580ad0c66540cfab591", func := "loop.example/pub-g03424/laws.FnFilterBack", spec := "fnFilterBack", apart := false, narrowed := true }
def FnFilterBackUptoSaid : Prop := fnFilterBackUptoRow.holds Try.pinned (OpenSpec.upto fnFilterBackSpec)

/-- 'laws.FnFilterLeast', WHERE WHAT IT READS IS OF BULK AT MOST 1048576: true; the input reads as it did. -/
def fnFilterLeastUptoRow : OpenClaim := { program := "ytmidfhcfnemkoaa", sum := "737061d32155b28eff812b21bfa995e86e26630bf9d36580ad0c66540cfab591", func := "loop.example/pub-g03424/laws.FnFilterLeast", spec := "fnFilterLeast", apart := false, narrowed := true }
def FnFilterLeastUptoSaid : Prop := fnFilterLeastUptoRow.holds Try.pinned (OpenSpec.upto fnFilterLeastSpec)

end Rows
end Go.Proofs.Ytmidfhcfnemkoaa
