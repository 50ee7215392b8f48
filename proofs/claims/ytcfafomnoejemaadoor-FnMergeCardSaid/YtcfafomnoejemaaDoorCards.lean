/-
  DERIVED. GIVEN WITH THE SEED: THE CARDS: each row of YtcfafomnoejemaaDoorRows.lean that lists a variable, with what it lists TIED to the program's text (the seventh form; the later family's looks); each row that meets fmt, with fmt's text TOLD by the authors' own Lean function (tested against real Go, not proved from fmt's source: count such statements apart). THE CARD IS WHAT COUNTS. Prove the row's statement (the work); the ties are given (YtcfafomnoejemaaDoorTie.lean); close each card by the builder's one call (the guide's Derived/Test/ToyasCard.lean, 'card_holds'). Laid BY PROGRAM, IN A SANDBOX (cutbox-door.mjs). By AI agents, Wed Nov 11 2026. No macro, syntax, notation, axiom, sorry.
-/
import Derived.Test.YtcfafomnoejemaaDoorRows
import GoSem.ClaimSeven
namespace Go.Proofs.YtcfafomnoejemaaDoor
namespace Rows

/-- THE TIED CARD OF 'laws.FnMerge'. -/
def fnMergeCard : Claim7 := { stood := { row := fnMergeRow, standIns := [], harness := (true, "a51c12cbaa60729a02e32006d9b250c071b6ba02a8e4193dcd4fca13301ac9cc"), looks := true }, kinds := [], alts := [], laidByText := true, laidKinds := [.data], laidTests := true, laidLooks := .later }
def FnMergeCardSaid : Prop := Claim7.holds Tryd.pinned (.plain (OpenSpec.ofChange fnMergeSpec)) fnMergeCard

/-- THE SECOND FORM's CARD OF 'laws.FnMerge'. -/
def fnMergeUptoCard : Claim7 := { stood := { row := fnMergeUptoRow, standIns := [], harness := (true, "a51c12cbaa60729a02e32006d9b250c071b6ba02a8e4193dcd4fca13301ac9cc"), looks := true }, kinds := [], alts := [], laidByText := true, laidKinds := [.data], laidTests := true, laidLooks := .later }
def FnMergeUptoCardSaid : Prop := Claim7.holds Tryd.pinned (.plain (OpenSpec.upto fnMergeSpec)) fnMergeUptoCard
end Rows
end Go.Proofs.YtcfafomnoejemaaDoor
