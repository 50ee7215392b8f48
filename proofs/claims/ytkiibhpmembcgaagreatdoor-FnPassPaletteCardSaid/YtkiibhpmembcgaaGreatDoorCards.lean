/-
  DERIVED. GIVEN WITH THE SEED: THE CARDS: each row of YtkiibhpmembcgaaGreatDoorRows.lean that lists a variable, with what it lists TIED to the program's text (the seventh form; the later family's looks); each row that meets fmt, with fmt's text TOLD by the authors' own Lean function (tested against real Go, not proved from fmt's source: count such statements apart). THE CARD IS WHAT COUNTS. Prove the row's statement (the work); the ties are given (YtkiibhpmembcgaaGreatDoorTie.lean); close each card by the builder's one call (the guide's Derived/Test/ToyasCard.lean, 'card_holds'). Laid BY PROGRAM, IN A SANDBOX (cutbox-door.mjs). By AI agents, Wed Nov 11 2026. No macro, syntax, notation, axiom, sorry.
-/
import Derived.Test.YtkiibhpmembcgaaGreatDoorRows
import GoSem.ClaimSeven
namespace Go.Proofs.YtkiibhpmembcgaaGreatDoor
namespace Rows

/-- THE TIED CARD OF 'laws.FnPassGray'. -/
def fnPassGrayCard : Claim7 := { stood := { row := fnPassGrayRow, standIns := [], harness := (true, "64e2be96aa39f9e732e423a0be98981848fece7758bb83acf3cfdb8740adb117"), looks := true }, kinds := [], alts := [], laidByText := true, laidKinds := [.sentinel, .sentinel, .sentinel, .data], laidTests := true, laidLooks := .later }
def FnPassGrayCardSaid : Prop := Claim7.holds Tryz.pinned (.plain (OpenSpec.ofChange fnPassGraySpec)) fnPassGrayCard

/-- THE TIED CARD OF 'laws.FnPassGrayAlpha'. -/
def fnPassGrayAlphaCard : Claim7 := { stood := { row := fnPassGrayAlphaRow, standIns := [], harness := (true, "64e2be96aa39f9e732e423a0be98981848fece7758bb83acf3cfdb8740adb117"), looks := true }, kinds := [], alts := [], laidByText := true, laidKinds := [.sentinel, .sentinel, .sentinel, .data], laidTests := true, laidLooks := .later }
def FnPassGrayAlphaCardSaid : Prop := Claim7.holds Tryz.pinned (.plain (OpenSpec.ofChange fnPassGrayAlphaSpec)) fnPassGrayAlphaCard

/-- THE TIED CARD OF 'laws.FnPassPalette'. -/
def fnPassPaletteCard : Claim7 := { stood := { row := fnPassPaletteRow, standIns := [], harness := (true, "64e2be96aa39f9e732e423a0be98981848fece7758bb83acf3cfdb8740adb117"), looks := true }, kinds := [], alts := [], laidByText := true, laidKinds := [.sentinel, .sentinel, .sentinel, .data], laidTests := true, laidLooks := .later }
def FnPassPaletteCardSaid : Prop := Claim7.holds Tryz.pinned (.plain (OpenSpec.ofChange fnPassPaletteSpec)) fnPassPaletteCard

/-- THE TIED CARD OF 'laws.FnPassTrue'. -/
def fnPassTrueCard : Claim7 := { stood := { row := fnPassTrueRow, standIns := [], harness := (true, "64e2be96aa39f9e732e423a0be98981848fece7758bb83acf3cfdb8740adb117"), looks := true }, kinds := [], alts := [], laidByText := true, laidKinds := [.sentinel, .sentinel, .sentinel, .data], laidTests := true, laidLooks := .later }
def FnPassTrueCardSaid : Prop := Claim7.holds Tryz.pinned (.plain (OpenSpec.ofChange fnPassTrueSpec)) fnPassTrueCard

/-- THE TIED CARD OF 'laws.FnPassTrueAlpha'. -/
def fnPassTrueAlphaCard : Claim7 := { stood := { row := fnPassTrueAlphaRow, standIns := [], harness := (true, "64e2be96aa39f9e732e423a0be98981848fece7758bb83acf3cfdb8740adb117"), looks := true }, kinds := [], alts := [], laidByText := true, laidKinds := [.sentinel, .sentinel, .sentinel, .data], laidTests := true, laidLooks := .later }
def FnPassTrueAlphaCardSaid : Prop := Claim7.holds Tryz.pinned (.plain (OpenSpec.ofChange fnPassTrueAlphaSpec)) fnPassTrueAlphaCard

/-- THE SECOND FORM's CARD OF 'laws.FnPassGray'. -/
def fnPassGrayUptoCard : Claim7 := { stood := { row := fnPassGrayUptoRow, standIns := [], harness := (true, "64e2be96aa39f9e732e423a0be98981848fece7758bb83acf3cfdb8740adb117"), looks := true }, kinds := [], alts := [], laidByText := true, laidKinds := [.sentinel, .sentinel, .sentinel, .data], laidTests := true, laidLooks := .later }
def FnPassGrayUptoCardSaid : Prop := Claim7.holds Tryz.pinned (.plain (OpenSpec.upto fnPassGraySpec)) fnPassGrayUptoCard

/-- THE SECOND FORM's CARD OF 'laws.FnPassGrayAlpha'. -/
def fnPassGrayAlphaUptoCard : Claim7 := { stood := { row := fnPassGrayAlphaUptoRow, standIns := [], harness := (true, "64e2be96aa39f9e732e423a0be98981848fece7758bb83acf3cfdb8740adb117"), looks := true }, kinds := [], alts := [], laidByText := true, laidKinds := [.sentinel, .sentinel, .sentinel, .data], laidTests := true, laidLooks := .later }
def FnPassGrayAlphaUptoCardSaid : Prop := Claim7.holds Tryz.pinned (.plain (OpenSpec.upto fnPassGrayAlphaSpec)) fnPassGrayAlphaUptoCard

/-- THE SECOND FORM's CARD OF 'laws.FnPassPalette'. -/
def fnPassPaletteUptoCard : Claim7 := { stood := { row := fnPassPaletteUptoRow, standIns := [], harness := (true, "64e2be96aa39f9e732e423a0be98981848fece7758bb83acf3cfdb8740adb117"), looks := true }, kinds := [], alts := [], laidByText := true, laidKinds := [.sentinel, .sentinel, .sentinel, .data], laidTests := true, laidLooks := .later }
def FnPassPaletteUptoCardSaid : Prop := Claim7.holds Tryz.pinned (.plain (OpenSpec.upto fnPassPaletteSpec)) fnPassPaletteUptoCard

/-- THE SECOND FORM's CARD OF 'laws.FnPassTrue'. -/
def fnPassTrueUptoCard : Claim7 := { stood := { row := fnPassTrueUptoRow, standIns := [], harness := (true, "64e2be96aa39f9e732e423a0be98981848fece7758bb83acf3cfdb8740adb117"), looks := true }, kinds := [], alts := [], laidByText := true, laidKinds := [.sentinel, .sentinel, .sentinel, .data], laidTests := true, laidLooks := .later }
def FnPassTrueUptoCardSaid : Prop := Claim7.holds Tryz.pinned (.plain (OpenSpec.upto fnPassTrueSpec)) fnPassTrueUptoCard

/-- THE SECOND FORM's CARD OF 'laws.FnPassTrueAlpha'. -/
def fnPassTrueAlphaUptoCard : Claim7 := { stood := { row := fnPassTrueAlphaUptoRow, standIns := [], harness := (true, "64e2be96aa39f9e732e423a0be98981848fece7758bb83acf3cfdb8740adb117"), looks := true }, kinds := [], alts := [], laidByText := true, laidKinds := [.sentinel, .sentinel, .sentinel, .data], laidTests := true, laidLooks := .later }
def FnPassTrueAlphaUptoCardSaid : Prop := Claim7.holds Tryz.pinned (.plain (OpenSpec.upto fnPassTrueAlphaSpec)) fnPassTrueAlphaUptoCard
end Rows
end Go.Proofs.YtkiibhpmembcgaaGreatDoor
