/-
  DERIVED. GIVEN WITH THE SEED: THE PROGRAM's TIES (one call each: nine closed facts by the kernel) AND EACH ROW's TIE, after the 31st guide's Derived/Test/Toyas{Tie, Card}.lean. No idea stands in it: it is a product of the set-up. Laid BY PROGRAM, IN A SANDBOX (cutbox-door.mjs). By AI agents, Wed Nov 11 2026. No macro, syntax, notation, axiom, sorry.
-/
import Derived.Test.YtfnncdngfggcjaaGreatDoorRows
import Derived.LaidByTextLater
import Derived.SevenTiedAt
import Derived.LaidSub
import Derived.LaidOnce
namespace Go.Proofs.YtfnncdngfggcjaaGreatDoor
open Go
set_option maxRecDepth 100000
theorem seatTie1 : Tryz.prog.laidByTextLater [("math/bits.deBruijn32tab", Rows.laid_math_bits_deBruijn32tab), ("math/bits.deBruijn64tab", Rows.laid_math_bits_deBruijn64tab)] [.data, .data] true :=
  Program.laidByTextLater_by_one 338 8 257 (by kernel_rfl) (by kernel_rfl) (by kernel_rfl) (by kernel_rfl) (by kernel_rfl) (by kernel_rfl) (fun _ _ => by kernel_rfl)
theorem seatTie2 : Tryz.prog.laidByTextLater [("math/bits.deBruijn32tab", Rows.laid_math_bits_deBruijn32tab), ("math/bits.deBruijn64tab", Rows.laid_math_bits_deBruijn64tab), ("strconv.ErrSyntax", Rows.laid_strconv_ErrSyntax), ("io.EOF", Rows.laid_io_EOF), ("strings.asciiSpace", Rows.laid_strings_asciiSpace), ("bufio.ErrBufferFull", Rows.laid_bufio_ErrBufferFull)] [.data, .data, .sentinel, .sentinel, .data, .sentinel] true :=
  Program.laidByTextLater_by_one 338 8 257 (by kernel_rfl) (by kernel_rfl) (by kernel_rfl) (by kernel_rfl) (by kernel_rfl) (by kernel_rfl) (fun _ _ => by kernel_rfl)
theorem noOwnUnsafe : Tryz.pinned.checked.prog.headLifts.contains "ownunsafe" = false := by kernel_rfl
theorem tie : Tryz.prog.laidByTextLater [("math/bits.deBruijn32tab", Rows.laid_math_bits_deBruijn32tab), ("math/bits.deBruijn64tab", Rows.laid_math_bits_deBruijn64tab)] [.data, .data] true :=
  Program.laidByTextLater.sub seatTie1 ["math/bits.deBruijn32tab", "math/bits.deBruijn64tab"] (by kernel_rfl) (by kernel_rfl)
theorem fnOpen_row_tie : Rows.fnOpenRow.laidByTextAt .later Tryz.pinned [.data, .data] true :=
  OpenClaim.laidByTextAt_later rfl rfl tie noOwnUnsafe
theorem fnAgain_row_tie : Rows.fnAgainRow.laidByTextAt .later Tryz.pinned [.data, .data] true :=
  OpenClaim.laidByTextAt_later rfl rfl tie noOwnUnsafe
theorem fnSave_row_tie : Rows.fnSaveRow.laidByTextAt .later Tryz.pinned [.data, .data] true :=
  OpenClaim.laidByTextAt_later rfl rfl tie noOwnUnsafe
theorem tie2 : Tryz.prog.laidByTextLater [("math/bits.deBruijn32tab", Rows.laid_math_bits_deBruijn32tab), ("math/bits.deBruijn64tab", Rows.laid_math_bits_deBruijn64tab), ("strconv.ErrSyntax", Rows.laid_strconv_ErrSyntax), ("io.EOF", Rows.laid_io_EOF), ("strings.asciiSpace", Rows.laid_strings_asciiSpace), ("bufio.ErrBufferFull", Rows.laid_bufio_ErrBufferFull)] [.data, .data, .sentinel, .sentinel, .data, .sentinel] true :=
  Program.laidByTextLater.sub seatTie2 ["math/bits.deBruijn32tab", "math/bits.deBruijn64tab", "strconv.ErrSyntax", "io.EOF", "strings.asciiSpace", "bufio.ErrBufferFull"] (by kernel_rfl) (by kernel_rfl)
theorem fnNumbers_row_tie : Rows.fnNumbersRow.laidByTextAt .later Tryz.pinned [.data, .data, .sentinel, .sentinel, .data, .sentinel] true :=
  OpenClaim.laidByTextAt_later rfl rfl tie2 noOwnUnsafe
theorem fnOpenUpto_row_tie : Rows.fnOpenUptoRow.laidByTextAt .later Tryz.pinned [.data, .data] true :=
  OpenClaim.laidByTextAt_later rfl rfl tie noOwnUnsafe
theorem fnNumbersUpto_row_tie : Rows.fnNumbersUptoRow.laidByTextAt .later Tryz.pinned [.data, .data, .sentinel, .sentinel, .data, .sentinel] true :=
  OpenClaim.laidByTextAt_later rfl rfl tie2 noOwnUnsafe
theorem fnAgainUpto_row_tie : Rows.fnAgainUptoRow.laidByTextAt .later Tryz.pinned [.data, .data] true :=
  OpenClaim.laidByTextAt_later rfl rfl tie noOwnUnsafe
theorem fnSaveUpto_row_tie : Rows.fnSaveUptoRow.laidByTextAt .later Tryz.pinned [.data, .data] true :=
  OpenClaim.laidByTextAt_later rfl rfl tie noOwnUnsafe
end Go.Proofs.YtfnncdngfggcjaaGreatDoor
