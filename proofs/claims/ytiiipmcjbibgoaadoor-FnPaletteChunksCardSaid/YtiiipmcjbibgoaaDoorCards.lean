/-
  DERIVED. GIVEN WITH THE SEED: THE CARDS: each row of YtiiipmcjbibgoaaDoorRows.lean that lists a variable, with what it lists TIED to the program's text (the seventh form; the later family's looks); each row that meets fmt, with fmt's text TOLD by the authors' own Lean function (tested against real Go, not proved from fmt's source: count such statements apart). THE CARD IS WHAT COUNTS. Prove the row's statement (the work); the ties are given (YtiiipmcjbibgoaaDoorTie.lean); close each card by the builder's one call (the guide's Derived/Test/ToyasCard.lean, 'card_holds'). Laid BY PROGRAM, IN A SANDBOX (cutbox-door.mjs). By AI agents, Wed Nov 11 2026. No macro, syntax, notation, axiom, sorry.
-/
import Derived.Test.YtiiipmcjbibgoaaDoorRows
import GoSem.ClaimSeven
namespace Go.Proofs.YtiiipmcjbibgoaaDoor
namespace Rows

/-- THE TIED CARD OF 'laws.FnReadPalette'. -/
def fnReadPaletteCard : Claim7 := { stood := { row := fnReadPaletteRow, standIns := [], harness := (true, "e81f20ed7fd54ca03b3f3ef69af2cbf70086fc944da5d7389396e267382eebbc"), looks := true }, kinds := [], alts := [], laidByText := true, laidKinds := [.sentinel, .sentinel, .sentinel, .data], laidTests := true, laidLooks := .later }
def FnReadPaletteCardSaid : Prop := Claim7.holds Tryd.pinned (.plain (OpenSpec.ofChange fnReadPaletteSpec)) fnReadPaletteCard

/-- THE TIED CARD OF 'laws.FnReadPaletteKind'. -/
def fnReadPaletteKindCard : Claim7 := { stood := { row := fnReadPaletteKindRow, standIns := [], harness := (true, "e81f20ed7fd54ca03b3f3ef69af2cbf70086fc944da5d7389396e267382eebbc"), looks := true }, kinds := [], alts := [], laidByText := true, laidKinds := [.sentinel, .sentinel, .sentinel, .data], laidTests := true, laidLooks := .later }
def FnReadPaletteKindCardSaid : Prop := Claim7.holds Tryd.pinned (.plain (OpenSpec.ofChange fnReadPaletteKindSpec)) fnReadPaletteKindCard

/-- THE TIED CARD OF 'laws.FnReadClear'. -/
def fnReadClearCard : Claim7 := { stood := { row := fnReadClearRow, standIns := [], harness := (true, "e81f20ed7fd54ca03b3f3ef69af2cbf70086fc944da5d7389396e267382eebbc"), looks := true }, kinds := [], alts := [], laidByText := true, laidKinds := [.sentinel, .sentinel, .sentinel, .data], laidTests := true, laidLooks := .later }
def FnReadClearCardSaid : Prop := Claim7.holds Tryd.pinned (.plain (OpenSpec.ofChange fnReadClearSpec)) fnReadClearCard

/-- THE TIED CARD OF 'laws.FnReadClearSample'. -/
def fnReadClearSampleCard : Claim7 := { stood := { row := fnReadClearSampleRow, standIns := [], harness := (true, "e81f20ed7fd54ca03b3f3ef69af2cbf70086fc944da5d7389396e267382eebbc"), looks := true }, kinds := [], alts := [], laidByText := true, laidKinds := [.sentinel, .sentinel, .sentinel, .data], laidTests := true, laidLooks := .later }
def FnReadClearSampleCardSaid : Prop := Claim7.holds Tryd.pinned (.plain (OpenSpec.ofChange fnReadClearSampleSpec)) fnReadClearSampleCard

/-- THE TIED CARD OF 'laws.FnReadHeader'. -/
def fnReadHeaderCard : Claim7 := { stood := { row := fnReadHeaderRow, standIns := [], harness := (true, "e81f20ed7fd54ca03b3f3ef69af2cbf70086fc944da5d7389396e267382eebbc"), looks := true }, kinds := [], alts := [], laidByText := true, laidKinds := [.sentinel, .sentinel, .sentinel, .data], laidTests := true, laidLooks := .later }
def FnReadHeaderCardSaid : Prop := Claim7.holds Tryd.pinned (.plain (OpenSpec.ofChange fnReadHeaderSpec)) fnReadHeaderCard

/-- THE TIED CARD OF 'laws.FnReadHeaderBent'. -/
def fnReadHeaderBentCard : Claim7 := { stood := { row := fnReadHeaderBentRow, standIns := [], harness := (true, "e81f20ed7fd54ca03b3f3ef69af2cbf70086fc944da5d7389396e267382eebbc"), looks := true }, kinds := [], alts := [], laidByText := true, laidKinds := [.sentinel, .sentinel, .sentinel, .data], laidTests := true, laidLooks := .later }
def FnReadHeaderBentCardSaid : Prop := Claim7.holds Tryd.pinned (.plain (OpenSpec.ofChange fnReadHeaderBentSpec)) fnReadHeaderBentCard

/-- THE TIED CARD OF 'laws.FnChunk'. -/
def fnChunkCard : Claim7 := { stood := { row := fnChunkRow, standIns := [], harness := (true, "e81f20ed7fd54ca03b3f3ef69af2cbf70086fc944da5d7389396e267382eebbc"), looks := true }, kinds := [], alts := [], laidByText := true, laidKinds := [.data, .data, .data, .sentinel, .data], laidTests := true, laidLooks := .later }
def FnChunkCardSaid : Prop := Claim7.holds Tryd.pinned (.plain (OpenSpec.ofChange fnChunkSpec)) fnChunkCard

/-- THE TIED CARD OF 'laws.FnPaletteChunks'. -/
def fnPaletteChunksCard : Claim7 := { stood := { row := fnPaletteChunksRow, standIns := [], harness := (true, "e81f20ed7fd54ca03b3f3ef69af2cbf70086fc944da5d7389396e267382eebbc"), looks := true }, kinds := [], alts := [], laidByText := true, laidKinds := [.data, .data, .data, .sentinel, .data], laidTests := true, laidLooks := .later }
def FnPaletteChunksCardSaid : Prop := Claim7.holds Tryd.pinned (.plain (OpenSpec.ofChange fnPaletteChunksSpec)) fnPaletteChunksCard

/-- THE TIED CARD OF 'laws.FnHeader'. -/
def fnHeaderCard : Claim7 := { stood := { row := fnHeaderRow, standIns := [], harness := (true, "e81f20ed7fd54ca03b3f3ef69af2cbf70086fc944da5d7389396e267382eebbc"), looks := true }, kinds := [], alts := [], laidByText := true, laidKinds := [.data, .data, .data, .sentinel, .data], laidTests := true, laidLooks := .later }
def FnHeaderCardSaid : Prop := Claim7.holds Tryd.pinned (.plain (OpenSpec.ofChange fnHeaderSpec)) fnHeaderCard

/-- THE TIED CARD OF 'laws.FnHeaderBack'. -/
def fnHeaderBackCard : Claim7 := { stood := { row := fnHeaderBackRow, standIns := [], harness := (true, "e81f20ed7fd54ca03b3f3ef69af2cbf70086fc944da5d7389396e267382eebbc"), looks := true }, kinds := [], alts := [], laidByText := true, laidKinds := [.data, .data, .data, .sentinel, .sentinel, .sentinel, .sentinel, .data], laidTests := true, laidLooks := .later }
def FnHeaderBackCardSaid : Prop := Claim7.holds Tryd.pinned (.plain (OpenSpec.ofChange fnHeaderBackSpec)) fnHeaderBackCard

/-- THE SECOND FORM's CARD OF 'laws.FnReadPalette'. -/
def fnReadPaletteUptoCard : Claim7 := { stood := { row := fnReadPaletteUptoRow, standIns := [], harness := (true, "e81f20ed7fd54ca03b3f3ef69af2cbf70086fc944da5d7389396e267382eebbc"), looks := true }, kinds := [], alts := [], laidByText := true, laidKinds := [.sentinel, .sentinel, .sentinel, .data], laidTests := true, laidLooks := .later }
def FnReadPaletteUptoCardSaid : Prop := Claim7.holds Tryd.pinned (.plain (OpenSpec.upto fnReadPaletteSpec)) fnReadPaletteUptoCard

/-- THE SECOND FORM's CARD OF 'laws.FnReadPaletteKind'. -/
def fnReadPaletteKindUptoCard : Claim7 := { stood := { row := fnReadPaletteKindUptoRow, standIns := [], harness := (true, "e81f20ed7fd54ca03b3f3ef69af2cbf70086fc944da5d7389396e267382eebbc"), looks := true }, kinds := [], alts := [], laidByText := true, laidKinds := [.sentinel, .sentinel, .sentinel, .data], laidTests := true, laidLooks := .later }
def FnReadPaletteKindUptoCardSaid : Prop := Claim7.holds Tryd.pinned (.plain (OpenSpec.upto fnReadPaletteKindSpec)) fnReadPaletteKindUptoCard

/-- THE SECOND FORM's CARD OF 'laws.FnReadClear'. -/
def fnReadClearUptoCard : Claim7 := { stood := { row := fnReadClearUptoRow, standIns := [], harness := (true, "e81f20ed7fd54ca03b3f3ef69af2cbf70086fc944da5d7389396e267382eebbc"), looks := true }, kinds := [], alts := [], laidByText := true, laidKinds := [.sentinel, .sentinel, .sentinel, .data], laidTests := true, laidLooks := .later }
def FnReadClearUptoCardSaid : Prop := Claim7.holds Tryd.pinned (.plain (OpenSpec.upto fnReadClearSpec)) fnReadClearUptoCard

/-- THE SECOND FORM's CARD OF 'laws.FnReadClearSample'. -/
def fnReadClearSampleUptoCard : Claim7 := { stood := { row := fnReadClearSampleUptoRow, standIns := [], harness := (true, "e81f20ed7fd54ca03b3f3ef69af2cbf70086fc944da5d7389396e267382eebbc"), looks := true }, kinds := [], alts := [], laidByText := true, laidKinds := [.sentinel, .sentinel, .sentinel, .data], laidTests := true, laidLooks := .later }
def FnReadClearSampleUptoCardSaid : Prop := Claim7.holds Tryd.pinned (.plain (OpenSpec.upto fnReadClearSampleSpec)) fnReadClearSampleUptoCard

/-- THE SECOND FORM's CARD OF 'laws.FnReadHeader'. -/
def fnReadHeaderUptoCard : Claim7 := { stood := { row := fnReadHeaderUptoRow, standIns := [], harness := (true, "e81f20ed7fd54ca03b3f3ef69af2cbf70086fc944da5d7389396e267382eebbc"), looks := true }, kinds := [], alts := [], laidByText := true, laidKinds := [.sentinel, .sentinel, .sentinel, .data], laidTests := true, laidLooks := .later }
def FnReadHeaderUptoCardSaid : Prop := Claim7.holds Tryd.pinned (.plain (OpenSpec.upto fnReadHeaderSpec)) fnReadHeaderUptoCard

/-- THE SECOND FORM's CARD OF 'laws.FnReadHeaderBent'. -/
def fnReadHeaderBentUptoCard : Claim7 := { stood := { row := fnReadHeaderBentUptoRow, standIns := [], harness := (true, "e81f20ed7fd54ca03b3f3ef69af2cbf70086fc944da5d7389396e267382eebbc"), looks := true }, kinds := [], alts := [], laidByText := true, laidKinds := [.sentinel, .sentinel, .sentinel, .data], laidTests := true, laidLooks := .later }
def FnReadHeaderBentUptoCardSaid : Prop := Claim7.holds Tryd.pinned (.plain (OpenSpec.upto fnReadHeaderBentSpec)) fnReadHeaderBentUptoCard

/-- THE SECOND FORM's CARD OF 'laws.FnChunk'. -/
def fnChunkUptoCard : Claim7 := { stood := { row := fnChunkUptoRow, standIns := [], harness := (true, "e81f20ed7fd54ca03b3f3ef69af2cbf70086fc944da5d7389396e267382eebbc"), looks := true }, kinds := [], alts := [], laidByText := true, laidKinds := [.data, .data, .data, .sentinel, .data], laidTests := true, laidLooks := .later }
def FnChunkUptoCardSaid : Prop := Claim7.holds Tryd.pinned (.plain (OpenSpec.upto fnChunkSpec)) fnChunkUptoCard

/-- THE SECOND FORM's CARD OF 'laws.FnPaletteChunks'. -/
def fnPaletteChunksUptoCard : Claim7 := { stood := { row := fnPaletteChunksUptoRow, standIns := [], harness := (true, "e81f20ed7fd54ca03b3f3ef69af2cbf70086fc944da5d7389396e267382eebbc"), looks := true }, kinds := [], alts := [], laidByText := true, laidKinds := [.data, .data, .data, .sentinel, .data], laidTests := true, laidLooks := .later }
def FnPaletteChunksUptoCardSaid : Prop := Claim7.holds Tryd.pinned (.plain (OpenSpec.upto fnPaletteChunksSpec)) fnPaletteChunksUptoCard

/-- THE SECOND FORM's CARD OF 'laws.FnHeader'. -/
def fnHeaderUptoCard : Claim7 := { stood := { row := fnHeaderUptoRow, standIns := [], harness := (true, "e81f20ed7fd54ca03b3f3ef69af2cbf70086fc944da5d7389396e267382eebbc"), looks := true }, kinds := [], alts := [], laidByText := true, laidKinds := [.data, .data, .data, .sentinel, .data], laidTests := true, laidLooks := .later }
def FnHeaderUptoCardSaid : Prop := Claim7.holds Tryd.pinned (.plain (OpenSpec.upto fnHeaderSpec)) fnHeaderUptoCard

/-- THE SECOND FORM's CARD OF 'laws.FnHeaderBack'. -/
def fnHeaderBackUptoCard : Claim7 := { stood := { row := fnHeaderBackUptoRow, standIns := [], harness := (true, "e81f20ed7fd54ca03b3f3ef69af2cbf70086fc944da5d7389396e267382eebbc"), looks := true }, kinds := [], alts := [], laidByText := true, laidKinds := [.data, .data, .data, .sentinel, .sentinel, .sentinel, .sentinel, .data], laidTests := true, laidLooks := .later }
def FnHeaderBackUptoCardSaid : Prop := Claim7.holds Tryd.pinned (.plain (OpenSpec.upto fnHeaderBackSpec)) fnHeaderBackUptoCard
end Rows
end Go.Proofs.YtiiipmcjbibgoaaDoor
