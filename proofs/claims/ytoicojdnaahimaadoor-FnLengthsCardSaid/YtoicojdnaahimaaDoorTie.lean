/-
  DERIVED. GIVEN WITH THE SEED: THE PROGRAM's TIES (one call each: nine closed facts by the kernel) AND EACH ROW's TIE, after the 31st guide's Derived/Test/Toyas{Tie, Card}.lean. No idea stands in it: it is a product of the set-up. Laid BY PROGRAM, IN A SANDBOX (cutbox-door.mjs). By AI agents, Wed Nov 11 2026. No macro, syntax, notation, axiom, sorry.
-/
import Derived.Test.YtoicojdnaahimaaDoorRows
import Derived.LaidByTextLater
import Derived.SevenTiedAt
import Derived.LaidSub
import Derived.LaidOnce
namespace Go.Proofs.YtoicojdnaahimaaDoor
open Go
set_option maxRecDepth 100000
theorem seatTie1 : Tryd.prog.laidByTextLater [("io.EOF", Rows.laid_io_EOF), ("loop.example/pub-g03437/pub/rardecode.ErrHuffDecodeFailed", Rows.laid_loop_example_pub_g03437_pub_rardecode_ErrHuffDecodeFailed), ("loop.example/pub-g03437/pub/rardecode.ErrInvalidLengthTable", Rows.laid_loop_example_pub_g03437_pub_rardecode_ErrInvalidLengthTable)] [.sentinel, .sentinel, .sentinel] true :=
  Program.laidByTextLater_by_one 85 8 2 (by kernel_rfl) (by kernel_rfl) (by kernel_rfl) (by kernel_rfl) (by kernel_rfl) (by kernel_rfl) (fun _ _ => by kernel_rfl)
theorem noOwnUnsafe : Tryd.pinned.checked.prog.headLifts.contains "ownunsafe" = false := by kernel_rfl
theorem tie : Tryd.prog.laidByTextLater [("io.EOF", Rows.laid_io_EOF), ("loop.example/pub-g03437/pub/rardecode.ErrHuffDecodeFailed", Rows.laid_loop_example_pub_g03437_pub_rardecode_ErrHuffDecodeFailed), ("loop.example/pub-g03437/pub/rardecode.ErrInvalidLengthTable", Rows.laid_loop_example_pub_g03437_pub_rardecode_ErrInvalidLengthTable)] [.sentinel, .sentinel, .sentinel] true :=
  Program.laidByTextLater.sub seatTie1 ["io.EOF", "loop.example/pub-g03437/pub/rardecode.ErrHuffDecodeFailed", "loop.example/pub-g03437/pub/rardecode.ErrInvalidLengthTable"] (by kernel_rfl) (by kernel_rfl)
theorem fnLengths_row_tie : Rows.fnLengthsRow.laidByTextAt .later Tryd.pinned [.sentinel, .sentinel, .sentinel] true :=
  OpenClaim.laidByTextAt_later rfl rfl tie noOwnUnsafe
theorem tie2 : Tryd.prog.laidByTextLater [("io.EOF", Rows.laid_io_EOF), ("loop.example/pub-g03437/pub/rardecode.ErrHuffDecodeFailed", Rows.laid_loop_example_pub_g03437_pub_rardecode_ErrHuffDecodeFailed)] [.sentinel, .sentinel] true :=
  Program.laidByTextLater.sub seatTie1 ["io.EOF", "loop.example/pub-g03437/pub/rardecode.ErrHuffDecodeFailed"] (by kernel_rfl) (by kernel_rfl)
theorem fnSymbols_row_tie : Rows.fnSymbolsRow.laidByTextAt .later Tryd.pinned [.sentinel, .sentinel] true :=
  OpenClaim.laidByTextAt_later rfl rfl tie2 noOwnUnsafe
theorem fnLengthsUpto_row_tie : Rows.fnLengthsUptoRow.laidByTextAt .later Tryd.pinned [.sentinel, .sentinel, .sentinel] true :=
  OpenClaim.laidByTextAt_later rfl rfl tie noOwnUnsafe
theorem fnSymbolsUpto_row_tie : Rows.fnSymbolsUptoRow.laidByTextAt .later Tryd.pinned [.sentinel, .sentinel] true :=
  OpenClaim.laidByTextAt_later rfl rfl tie2 noOwnUnsafe
end Go.Proofs.YtoicojdnaahimaaDoor
