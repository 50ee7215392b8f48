/-
  DERIVED. GIVEN WITH THE SEED: THE CARDS: each row of YtbliooncenbboaaDoorRows.lean that lists a variable, with what it lists TIED to the program's text (the seventh form; the later family's looks); each row that meets fmt, with fmt's text TOLD by the authors' own Lean function (tested against real Go, not proved from fmt's source: count such statements apart). THE CARD IS WHAT COUNTS. Prove the row's statement (the work); the ties are given (YtbliooncenbboaaDoorTie.lean); close each card by the builder's one call (the guide's Derived/Test/ToyasCard.lean, 'card_holds'). Laid BY PROGRAM, IN A SANDBOX (cutbox-door.mjs). By AI agents, Wed Nov 11 2026. No macro, syntax, notation, axiom, sorry.
-/
import Derived.Test.YtbliooncenbboaaDoorRows
import GoSem.ClaimSeven
namespace Go.Proofs.YtbliooncenbboaaDoor
namespace Rows

/-- THE TIED CARD OF 'laws.FnSum'. -/
def fnSumCard : Claim7 := { stood := { row := fnSumRow, standIns := [], harness := (true, "557b2d781b226529fe363349b9effccdaf32ab083affe9847b8b7f9261180aef"), looks := false }, kinds := [], alts := [], laidByText := true, laidKinds := [.data], laidTests := true, laidLooks := .later }
def FnSumCardSaid : Prop := Claim7.holds Tryd.pinned (.plain (OpenSpec.ofChange fnSumSpec)) fnSumCard

/-- THE TIED CARD OF 'laws.FnSumChanged'. -/
def fnSumChangedCard : Claim7 := { stood := { row := fnSumChangedRow, standIns := [], harness := (true, "557b2d781b226529fe363349b9effccdaf32ab083affe9847b8b7f9261180aef"), looks := false }, kinds := [], alts := [], laidByText := true, laidKinds := [.data], laidTests := true, laidLooks := .later }
def FnSumChangedCardSaid : Prop := Claim7.holds Tryd.pinned (.plain (OpenSpec.ofChange fnSumChangedSpec)) fnSumChangedCard

/-- THE TIED CARD OF 'laws.FnSumMixed'. -/
def fnSumMixedCard : Claim7 := { stood := { row := fnSumMixedRow, standIns := [], harness := (true, "557b2d781b226529fe363349b9effccdaf32ab083affe9847b8b7f9261180aef"), looks := false }, kinds := [], alts := [], laidByText := true, laidKinds := [.data], laidTests := true, laidLooks := .later }
def FnSumMixedCardSaid : Prop := Claim7.holds Tryd.pinned (.plain (OpenSpec.ofChange fnSumMixedSpec)) fnSumMixedCard

/-- THE SECOND FORM's CARD OF 'laws.FnSum'. -/
def fnSumUptoCard : Claim7 := { stood := { row := fnSumUptoRow, standIns := [], harness := (true, "557b2d781b226529fe363349b9effccdaf32ab083affe9847b8b7f9261180aef"), looks := false }, kinds := [], alts := [], laidByText := true, laidKinds := [.data], laidTests := true, laidLooks := .later }
def FnSumUptoCardSaid : Prop := Claim7.holds Tryd.pinned (.plain (OpenSpec.upto fnSumSpec)) fnSumUptoCard

/-- THE SECOND FORM's CARD OF 'laws.FnSumChanged'. -/
def fnSumChangedUptoCard : Claim7 := { stood := { row := fnSumChangedUptoRow, standIns := [], harness := (true, "557b2d781b226529fe363349b9effccdaf32ab083affe9847b8b7f9261180aef"), looks := false }, kinds := [], alts := [], laidByText := true, laidKinds := [.data], laidTests := true, laidLooks := .later }
def FnSumChangedUptoCardSaid : Prop := Claim7.holds Tryd.pinned (.plain (OpenSpec.upto fnSumChangedSpec)) fnSumChangedUptoCard

/-- THE SECOND FORM's CARD OF 'laws.FnSumMixed'. -/
def fnSumMixedUptoCard : Claim7 := { stood := { row := fnSumMixedUptoRow, standIns := [], harness := (true, "557b2d781b226529fe363349b9effccdaf32ab083affe9847b8b7f9261180aef"), looks := false }, kinds := [], alts := [], laidByText := true, laidKinds := [.data], laidTests := true, laidLooks := .later }
def FnSumMixedUptoCardSaid : Prop := Claim7.holds Tryd.pinned (.plain (OpenSpec.upto fnSumMixedSpec)) fnSumMixedUptoCard
end Rows
end Go.Proofs.YtbliooncenbboaaDoor
