/-
  DERIVED. GIVEN WITH THE SEED: THE PROGRAM's TIES (one call each: nine closed facts by the kernel) AND EACH ROW's TIE, after the 31st guide's Derived/Test/Toyas{Tie, Card}.lean. No idea stands in it: it is a product of the set-up. Laid BY PROGRAM, IN A SANDBOX (cutbox-door.mjs). By AI agents, Wed Nov 11 2026. No macro, syntax, notation, axiom, sorry.
-/
import Derived.Test.YtiiipmcjbibgoaaDoorRows
import Derived.LaidByTextLater
import Derived.SevenTiedAt
import Derived.LaidSub
import Derived.LaidOnce
namespace Go.Proofs.YtiiipmcjbibgoaaDoor
open Go
set_option maxRecDepth 100000
theorem seatTie1 : Tryd.prog.laidByTextLater [("io.ErrShortBuffer", Rows.laid_io_ErrShortBuffer), ("io.EOF", Rows.laid_io_EOF), ("io.ErrUnexpectedEOF", Rows.laid_io_ErrUnexpectedEOF), ("loop.example/pub-g03424/pub/pngparts.ieeeTable", Rows.laid_loop_example_pub_g03424_pub_pngparts_ieeeTable)] [.sentinel, .sentinel, .sentinel, .data] true :=
  Program.laidByTextLater_by_one 105 8 257 (by kernel_rfl) (by kernel_rfl) (by kernel_rfl) (by kernel_rfl) (by kernel_rfl) (by kernel_rfl) (fun _ _ => by kernel_rfl)
theorem seatTie2 : Tryd.prog.laidByTextLater [("math/bits.deBruijn32tab", Rows.laid_math_bits_deBruijn32tab), ("math/bits.deBruijn64tab", Rows.laid_math_bits_deBruijn64tab), ("internal/strconv.uint64pow10", Rows.laid_internal_strconv_uint64pow10), ("bytes.ErrTooLarge", Rows.laid_bytes_ErrTooLarge), ("loop.example/pub-g03424/pub/pngparts.ieeeTable", Rows.laid_loop_example_pub_g03424_pub_pngparts_ieeeTable)] [.data, .data, .data, .sentinel, .data] true :=
  Program.laidByTextLater_by_one 105 8 257 (by kernel_rfl) (by kernel_rfl) (by kernel_rfl) (by kernel_rfl) (by kernel_rfl) (by kernel_rfl) (fun _ _ => by kernel_rfl)
theorem seatTie3 : Tryd.prog.laidByTextLater [("math/bits.deBruijn32tab", Rows.laid_math_bits_deBruijn32tab), ("math/bits.deBruijn64tab", Rows.laid_math_bits_deBruijn64tab), ("internal/strconv.uint64pow10", Rows.laid_internal_strconv_uint64pow10), ("io.ErrShortBuffer", Rows.laid_io_ErrShortBuffer), ("io.EOF", Rows.laid_io_EOF), ("io.ErrUnexpectedEOF", Rows.laid_io_ErrUnexpectedEOF), ("bytes.ErrTooLarge", Rows.laid_bytes_ErrTooLarge), ("loop.example/pub-g03424/pub/pngparts.ieeeTable", Rows.laid_loop_example_pub_g03424_pub_pngparts_ieeeTable)] [.data, .data, .data, .sentinel, .sentinel, .sentinel, .sentinel, .data] true :=
  Program.laidByTextLater_by_one 105 8 257 (by kernel_rfl) (by kernel_rfl) (by kernel_rfl) (by kernel_rfl) (by kernel_rfl) (by kernel_rfl) (fun _ _ => by kernel_rfl)
theorem noOwnUnsafe : Tryd.pinned.checked.prog.headLifts.contains "ownunsafe" = false := by kernel_rfl
theorem tie : Tryd.prog.laidByTextLater [("io.ErrShortBuffer", Rows.laid_io_ErrShortBuffer), ("io.EOF", Rows.laid_io_EOF), ("io.ErrUnexpectedEOF", Rows.laid_io_ErrUnexpectedEOF), ("loop.example/pub-g03424/pub/pngparts.ieeeTable", Rows.laid_loop_example_pub_g03424_pub_pngparts_ieeeTable)] [.sentinel, .sentinel, .sentinel, .data] true :=
  Program.laidByTextLater.sub seatTie1 ["io.ErrShortBuffer", "io.EOF", "io.ErrUnexpectedEOF", "loop.example/pub-g03424/pub/pngparts.ieeeTable"] (by kernel_rfl) (by kernel_rfl)
theorem fnReadPalette_row_tie : Rows.fnReadPaletteRow.laidByTextAt .later Tryd.pinned [.sentinel, .sentinel, .sentinel, .data] true :=
  OpenClaim.laidByTextAt_later rfl rfl tie noOwnUnsafe
theorem fnReadPaletteKind_row_tie : Rows.fnReadPaletteKindRow.laidByTextAt .later Tryd.pinned [.sentinel, .sentinel, .sentinel, .data] true :=
  OpenClaim.laidByTextAt_later rfl rfl tie noOwnUnsafe
theorem fnReadClear_row_tie : Rows.fnReadClearRow.laidByTextAt .later Tryd.pinned [.sentinel, .sentinel, .sentinel, .data] true :=
  OpenClaim.laidByTextAt_later rfl rfl tie noOwnUnsafe
theorem fnReadClearSample_row_tie : Rows.fnReadClearSampleRow.laidByTextAt .later Tryd.pinned [.sentinel, .sentinel, .sentinel, .data] true :=
  OpenClaim.laidByTextAt_later rfl rfl tie noOwnUnsafe
theorem fnReadHeader_row_tie : Rows.fnReadHeaderRow.laidByTextAt .later Tryd.pinned [.sentinel, .sentinel, .sentinel, .data] true :=
  OpenClaim.laidByTextAt_later rfl rfl tie noOwnUnsafe
theorem fnReadHeaderBent_row_tie : Rows.fnReadHeaderBentRow.laidByTextAt .later Tryd.pinned [.sentinel, .sentinel, .sentinel, .data] true :=
  OpenClaim.laidByTextAt_later rfl rfl tie noOwnUnsafe
theorem tie2 : Tryd.prog.laidByTextLater [("math/bits.deBruijn32tab", Rows.laid_math_bits_deBruijn32tab), ("math/bits.deBruijn64tab", Rows.laid_math_bits_deBruijn64tab), ("internal/strconv.uint64pow10", Rows.laid_internal_strconv_uint64pow10), ("bytes.ErrTooLarge", Rows.laid_bytes_ErrTooLarge), ("loop.example/pub-g03424/pub/pngparts.ieeeTable", Rows.laid_loop_example_pub_g03424_pub_pngparts_ieeeTable)] [.data, .data, .data, .sentinel, .data] true :=
  Program.laidByTextLater.sub seatTie2 ["math/bits.deBruijn32tab", "math/bits.deBruijn64tab", "internal/strconv.uint64pow10", "bytes.ErrTooLarge", "loop.example/pub-g03424/pub/pngparts.ieeeTable"] (by kernel_rfl) (by kernel_rfl)
theorem fnChunk_row_tie : Rows.fnChunkRow.laidByTextAt .later Tryd.pinned [.data, .data, .data, .sentinel, .data] true :=
  OpenClaim.laidByTextAt_later rfl rfl tie2 noOwnUnsafe
theorem fnPaletteChunks_row_tie : Rows.fnPaletteChunksRow.laidByTextAt .later Tryd.pinned [.data, .data, .data, .sentinel, .data] true :=
  OpenClaim.laidByTextAt_later rfl rfl tie2 noOwnUnsafe
theorem fnHeader_row_tie : Rows.fnHeaderRow.laidByTextAt .later Tryd.pinned [.data, .data, .data, .sentinel, .data] true :=
  OpenClaim.laidByTextAt_later rfl rfl tie2 noOwnUnsafe
theorem tie3 : Tryd.prog.laidByTextLater [("math/bits.deBruijn32tab", Rows.laid_math_bits_deBruijn32tab), ("math/bits.deBruijn64tab", Rows.laid_math_bits_deBruijn64tab), ("internal/strconv.uint64pow10", Rows.laid_internal_strconv_uint64pow10), ("io.ErrShortBuffer", Rows.laid_io_ErrShortBuffer), ("io.EOF", Rows.laid_io_EOF), ("io.ErrUnexpectedEOF", Rows.laid_io_ErrUnexpectedEOF), ("bytes.ErrTooLarge", Rows.laid_bytes_ErrTooLarge), ("loop.example/pub-g03424/pub/pngparts.ieeeTable", Rows.laid_loop_example_pub_g03424_pub_pngparts_ieeeTable)] [.data, .data, .data, .sentinel, .sentinel, .sentinel, .sentinel, .data] true :=
  Program.laidByTextLater.sub seatTie3 ["math/bits.deBruijn32tab", "math/bits.deBruijn64tab", "internal/strconv.uint64pow10", "io.ErrShortBuffer", "io.EOF", "io.ErrUnexpectedEOF", "bytes.ErrTooLarge", "loop.example/pub-g03424/pub/pngparts.ieeeTable"] (by kernel_rfl) (by kernel_rfl)
theorem fnHeaderBack_row_tie : Rows.fnHeaderBackRow.laidByTextAt .later Tryd.pinned [.data, .data, .data, .sentinel, .sentinel, .sentinel, .sentinel, .data] true :=
  OpenClaim.laidByTextAt_later rfl rfl tie3 noOwnUnsafe
theorem fnReadPaletteUpto_row_tie : Rows.fnReadPaletteUptoRow.laidByTextAt .later Tryd.pinned [.sentinel, .sentinel, .sentinel, .data] true :=
  OpenClaim.laidByTextAt_later rfl rfl tie noOwnUnsafe
theorem fnReadPaletteKindUpto_row_tie : Rows.fnReadPaletteKindUptoRow.laidByTextAt .later Tryd.pinned [.sentinel, .sentinel, .sentinel, .data] true :=
  OpenClaim.laidByTextAt_later rfl rfl tie noOwnUnsafe
theorem fnReadClearUpto_row_tie : Rows.fnReadClearUptoRow.laidByTextAt .later Tryd.pinned [.sentinel, .sentinel, .sentinel, .data] true :=
  OpenClaim.laidByTextAt_later rfl rfl tie noOwnUnsafe
theorem fnReadClearSampleUpto_row_tie : Rows.fnReadClearSampleUptoRow.laidByTextAt .later Tryd.pinned [.sentinel, .sentinel, .sentinel, .data] true :=
  OpenClaim.laidByTextAt_later rfl rfl tie noOwnUnsafe
theorem fnReadHeaderUpto_row_tie : Rows.fnReadHeaderUptoRow.laidByTextAt .later Tryd.pinned [.sentinel, .sentinel, .sentinel, .data] true :=
  OpenClaim.laidByTextAt_later rfl rfl tie noOwnUnsafe
theorem fnReadHeaderBentUpto_row_tie : Rows.fnReadHeaderBentUptoRow.laidByTextAt .later Tryd.pinned [.sentinel, .sentinel, .sentinel, .data] true :=
  OpenClaim.laidByTextAt_later rfl rfl tie noOwnUnsafe
theorem fnChunkUpto_row_tie : Rows.fnChunkUptoRow.laidByTextAt .later Tryd.pinned [.data, .data, .data, .sentinel, .data] true :=
  OpenClaim.laidByTextAt_later rfl rfl tie2 noOwnUnsafe
theorem fnPaletteChunksUpto_row_tie : Rows.fnPaletteChunksUptoRow.laidByTextAt .later Tryd.pinned [.data, .data, .data, .sentinel, .data] true :=
  OpenClaim.laidByTextAt_later rfl rfl tie2 noOwnUnsafe
theorem fnHeaderUpto_row_tie : Rows.fnHeaderUptoRow.laidByTextAt .later Tryd.pinned [.data, .data, .data, .sentinel, .data] true :=
  OpenClaim.laidByTextAt_later rfl rfl tie2 noOwnUnsafe
theorem fnHeaderBackUpto_row_tie : Rows.fnHeaderBackUptoRow.laidByTextAt .later Tryd.pinned [.data, .data, .data, .sentinel, .sentinel, .sentinel, .sentinel, .data] true :=
  OpenClaim.laidByTextAt_later rfl rfl tie3 noOwnUnsafe
end Go.Proofs.YtiiipmcjbibgoaaDoor
