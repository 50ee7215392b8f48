/-
  DERIVED. GIVEN WITH THE SEED: THE CARDS: each row of YtkiibhpmembcgaaDoorRows.lean that lists a variable, with what it lists TIED to the program's text (the seventh form; the later family's looks); each row that meets fmt, with fmt's text TOLD by the authors' own Lean function (tested against real Go, not proved from fmt's source: count such statements apart). THE CARD IS WHAT COUNTS. Prove the row's statement (the work); the ties are given (YtkiibhpmembcgaaDoorTie.lean); close each card by the builder's one call (the guide's Derived/Test/ToyasCard.lean, 'card_holds'). Laid BY PROGRAM, IN A SANDBOX (cutbox-door.mjs). By AI agents, Wed Nov 11 2026. No macro, syntax, notation, axiom, sorry.
-/
import Derived.Test.YtkiibhpmembcgaaDoorRows
import GoSem.ClaimSeven
namespace Go.Proofs.YtkiibhpmembcgaaDoor
namespace Rows

/-- THE TIED CARD OF 'laws.FnPassLonger'. -/
def fnPassLongerCard : Claim7 := { stood := { row := fnPassLongerRow, standIns := [], harness := (true, "7f96f0bc5dc629a0d9ed7f3d6962d5d03806f7be33a82a5236c03e39a4647a49"), looks := true }, kinds := [], alts := [], laidByText := true, laidKinds := [.sentinel, .sentinel, .sentinel, .data], laidTests := true, laidLooks := .later }
def FnPassLongerCardSaid : Prop := Claim7.holds Tryd.pinned (.plain (OpenSpec.ofChange fnPassLongerSpec)) fnPassLongerCard

/-- THE SECOND FORM's CARD OF 'laws.FnPassLonger'. -/
def fnPassLongerUptoCard : Claim7 := { stood := { row := fnPassLongerUptoRow, standIns := [], harness := (true, "7f96f0bc5dc629a0d9ed7f3d6962d5d03806f7be33a82a5236c03e39a4647a49"), looks := true }, kinds := [], alts := [], laidByText := true, laidKinds := [.sentinel, .sentinel, .sentinel, .data], laidTests := true, laidLooks := .later }
def FnPassLongerUptoCardSaid : Prop := Claim7.holds Tryd.pinned (.plain (OpenSpec.upto fnPassLongerSpec)) fnPassLongerUptoCard
end Rows
end Go.Proofs.YtkiibhpmembcgaaDoor
