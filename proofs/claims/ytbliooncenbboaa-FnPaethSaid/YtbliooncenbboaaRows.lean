/-
  No cell of these rows narrows 'for every input' (looked for: loops, veiled, ifaces, maps, wideKeys, modest, calm, conditions, laid).
  DERIVED. THE GIVEN ROWS OF THIS SEAT. 2 by the template 'for every input the law returns true; each argument reads behind the call as it read before'; 0 by the template 'total and deterministic' (their statements: YtbliooncenbboaaTotals.lean).
  GIVEN WITH THE SEED: the statements are not yours to turn. If you find one false, say at which input.
  Laid BY PROGRAM, IN A SANDBOX (cutbox-rows.mjs): the forced cells as the released guide's own fill.sh prints them over the translation b0e14aff30d11e61… (all of the seat's roots in one cut). By AI agents, Wed Nov 11 2026. No macro, syntax, notation, axiom, sorry.
-/
import Derived.Test.YtbliooncenbboaaChecked
import GoSem.Claim
import GoSem.ClaimJoined
import GoSem.ClaimMapViews
import Derived.JoinedTies
import Derived.KernelRfl
namespace Go.Proofs.Ytbliooncenbboaa
/- THE CELL 'sum', in the pinned program and in every row, IS THE sha256 OF THE DUMP (.gsa) THAT YtbliooncenbboaaProg.lean LOADS. Nothing in Lean hashes anything: it is a label: what it is worth is what the hold of that sum in a sandbox is worth. -/
noncomputable def Try.pinned : Pinned := { name := "ytbliooncenbboaa", sum := "b0e14aff30d11e610b2e5ca67c6d32ea5d72d15dde7b7d2a5ed4ee955833c4e8", checked := Try.checked }
namespace Rows
def none {H : Type} : Left H := { results := [], args := [] }

/-- 'laws.FnPaeth': WHATEVER THE INPUT: true; the input reads as it did. -/
def fnPaethSpec : ChangeSpec := { name := "fnPaeth", fn := fun _ => fun
  | [d1, d2, d3] => { results := [.lit (.bool true)], args := [d1, d2, d3] }
  | _ => none }
def fnPaethRow : OpenClaim := { program := "ytbliooncenbboaa", sum := "b0e14aff30d11e610b2e5ca67c6d32ea5d72d15dde7b7d2a5ed4ee955833c4e8", func := "loop.example/pub-g03424/laws.FnPaeth", spec := "fnPaeth", apart := false }
def FnPaethSaid : Prop := fnPaethRow.holds Try.pinned (OpenSpec.ofChange fnPaethSpec)

/-- ITS FALSE NEIGHBOUR: 'it returns false'. Refute it at one input. -/
def fnPaethWrong : ChangeSpec := { name := "fnPaeth", fn := fun _ => fun
  | [d1, d2, d3] => { results := [.lit (.bool false)], args := [d1, d2, d3] }
  | _ => none }
def FnPaethWrongFalsely : Prop := fnPaethRow.holds Try.pinned (OpenSpec.ofChange fnPaethWrong)

/-- 'laws.FnPaethNearest': WHATEVER THE INPUT: true; the input reads as it did. -/
def fnPaethNearestSpec : ChangeSpec := { name := "fnPaethNearest", fn := fun _ => fun
  | [d1, d2, d3] => { results := [.lit (.bool true)], args := [d1, d2, d3] }
  | _ => none }
def fnPaethNearestRow : OpenClaim := { program := "ytbliooncenbboaa", sum := "b0e14aff30d11e610b2e5ca67c6d32ea5d72d15dde7b7d2a5ed4ee955833c4e8", func := "loop.example/pub-g03424/laws.FnPaethNearest", spec := "fnPaethNearest", apart := false }
def FnPaethNearestSaid : Prop := fnPaethNearestRow.holds Try.pinned (OpenSpec.ofChange fnPaethNearestSpec)

/-- ITS FALSE NEIGHBOUR: 'it returns false'. Refute it at one input. -/
def fnPaethNearestWrong : ChangeSpec := { name := "fnPaethNearest", fn := fun _ => fun
  | [d1, d2, d3] => { results := [.lit (.bool false)], args := [d1, d2, d3] }
  | _ => none }
def FnPaethNearestWrongFalsely : Prop := fnPaethNearestRow.holds Try.pinned (OpenSpec.ofChange fnPaethNearestWrong)

/- THE SECOND FORM. 'bulk': how many values and letters a reading holds, each counted each time it is reached (what is shared counts as often as it is met; a slice's spare places count too). A statement '..UptoSaid' is the law's where the arguments, and the package variables that the reading takes, are together of bulk at most 1048576: NARROWER than '..Said'. Prove '..Said' where nothing that the law and all that it calls make is longer than what came in: it says more and counts as full. Else prove '..UptoSaid'. A law counts once. -/
mutual
def uptoBulk {H : Type} : DataW H → Nat
  | .lit (.string bytes) => bytes.length + 1
  | .lit _ => 1
  | .nil => 1
  | .ptr d => uptoBulk d + 1
  | .slice elems spare => uptoBulkAll elems + uptoBulkAll spare + 1
  | .agg parts => uptoBulkAll parts + 1
  | .iface _ d => uptoBulk d + 1
  | .map entries => uptoBulkEntries entries + 1
  | .held _ => 1
def uptoBulkAll {H : Type} : List (DataW H) → Nat
  | [] => 0
  | d :: r => uptoBulk d + uptoBulkAll r
def uptoBulkEntries {H : Type} : List (Lit × DataW H) → Nat
  | [] => 0
  | x :: r => uptoBulkEntry x + uptoBulkEntries r
def uptoBulkEntry {H : Type} : Lit × DataW H → Nat
  | (.string bytes, d) => bytes.length + uptoBulk d + 1
  | (_, d) => uptoBulk d + 1
 end
def uptoSmall : (H : Type) → List (DataW H) → Bool := fun _ ds => decide (uptoBulkAll ds ≤ 1048576)
def OpenSpec.upto (s : _root_.Go.ChangeSpec) : _root_.Go.OpenSpec := { _root_.Go.OpenSpec.ofChange s with cond := some uptoSmall }

/-- 'laws.FnPaeth', WHERE WHAT IT READS IS OF BULK AT MOST 1048576: true; the input reads as it did. -/
def fnPaethUptoRow : OpenClaim := { program := "ytbliooncenbboaa", sum := "b0e14aff30d11e610b2e5ca67c6d32ea5d72d15dde7b7d2a5ed4ee955833c4e8", func := "loop.example/pub-g03424/laws.FnPaeth", spec := "fnPaeth", apart := false, narrowed := true }
def FnPaethUptoSaid : Prop := fnPaethUptoRow.holds Try.pinned (OpenSpec.upto fnPaethSpec)

/-- 'laws.FnPaethNearest', WHERE WHAT IT READS IS OF BULK AT MOST 1048576: true; the input reads as it did. -/
def fnPaethNearestUptoRow : OpenClaim := { program := "ytbliooncenbboaa", sum := "b0e14aff30d11e610b2e5ca67c6d32ea5d72d15dde7b7d2a5ed4ee955833c4e8", func := "loop.example/pub-g03424/laws.FnPaethNearest", spec := "fnPaethNearest", apart := false, narrowed := true }
def FnPaethNearestUptoSaid : Prop := fnPaethNearestUptoRow.holds Try.pinned (OpenSpec.upto fnPaethNearestSpec)

end Rows
end Go.Proofs.Ytbliooncenbboaa
