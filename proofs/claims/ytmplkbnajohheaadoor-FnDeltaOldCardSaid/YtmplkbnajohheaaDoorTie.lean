/-
  DERIVED. GIVEN WITH THE SEED: THE PROGRAM's TIES (one call each: nine closed facts by the kernel) AND EACH ROW's TIE, after the 31st guide's Derived/Test/Toyas{Tie, Card}.lean. No idea stands in it: it is a product of the set-up. Laid BY PROGRAM, IN A SANDBOX (cutbox-door.mjs). By AI agents, Wed Nov 11 2026. No macro, syntax, notation, axiom, sorry.
-/
import Derived.Test.YtmplkbnajohheaaDoorRows
import Derived.LaidByTextLater
import Derived.SevenTiedAt
import Derived.LaidSub
import Derived.LaidOnce
namespace Go.Proofs.YtmplkbnajohheaaDoor
open Go
set_option maxRecDepth 100000
theorem seatTie1 : Tryd.prog.laidByTextLater [("loop.example/pub-g03437/pub/rardecode.ErrUnknownFilter", Rows.laid_loop_example_pub_g03437_pub_rardecode_ErrUnknownFilter), ("loop.example/pub-g03437/pub/rardecode.byteMask", Rows.laid_loop_example_pub_g03437_pub_rardecode_byteMask)] [.sentinel, .data] true :=
  Program.laidByTextLater_by_one 33 8 17 (by kernel_rfl) (by kernel_rfl) (by kernel_rfl) (by kernel_rfl) (by kernel_rfl) (by kernel_rfl) (fun _ _ => by kernel_rfl)
theorem noOwnUnsafe : Tryd.pinned.checked.prog.headLifts.contains "ownunsafe" = false := by kernel_rfl
theorem tie : Tryd.prog.laidByTextLater [("loop.example/pub-g03437/pub/rardecode.ErrUnknownFilter", Rows.laid_loop_example_pub_g03437_pub_rardecode_ErrUnknownFilter)] [.sentinel] true :=
  Program.laidByTextLater.sub seatTie1 ["loop.example/pub-g03437/pub/rardecode.ErrUnknownFilter"] (by kernel_rfl) (by kernel_rfl)
theorem fnArms_row_tie : Rows.fnArmsRow.laidByTextAt .later Tryd.pinned [.sentinel] true :=
  OpenClaim.laidByTextAt_later rfl rfl tie noOwnUnsafe
theorem fnCalls_row_tie : Rows.fnCallsRow.laidByTextAt .later Tryd.pinned [.sentinel] true :=
  OpenClaim.laidByTextAt_later rfl rfl tie noOwnUnsafe
theorem fnDelta_row_tie : Rows.fnDeltaRow.laidByTextAt .later Tryd.pinned [.sentinel] true :=
  OpenClaim.laidByTextAt_later rfl rfl tie noOwnUnsafe
theorem tie2 : Tryd.prog.laidByTextLater [("loop.example/pub-g03437/pub/rardecode.byteMask", Rows.laid_loop_example_pub_g03437_pub_rardecode_byteMask)] [.data] true :=
  Program.laidByTextLater.sub seatTie1 ["loop.example/pub-g03437/pub/rardecode.byteMask"] (by kernel_rfl) (by kernel_rfl)
theorem fnCallsOld_row_tie : Rows.fnCallsOldRow.laidByTextAt .later Tryd.pinned [.data] true :=
  OpenClaim.laidByTextAt_later rfl rfl tie2 noOwnUnsafe
theorem fnDeltaOld_row_tie : Rows.fnDeltaOldRow.laidByTextAt .later Tryd.pinned [.data] true :=
  OpenClaim.laidByTextAt_later rfl rfl tie2 noOwnUnsafe
theorem fnArmsUpto_row_tie : Rows.fnArmsUptoRow.laidByTextAt .later Tryd.pinned [.sentinel] true :=
  OpenClaim.laidByTextAt_later rfl rfl tie noOwnUnsafe
theorem fnCallsUpto_row_tie : Rows.fnCallsUptoRow.laidByTextAt .later Tryd.pinned [.sentinel] true :=
  OpenClaim.laidByTextAt_later rfl rfl tie noOwnUnsafe
theorem fnDeltaUpto_row_tie : Rows.fnDeltaUptoRow.laidByTextAt .later Tryd.pinned [.sentinel] true :=
  OpenClaim.laidByTextAt_later rfl rfl tie noOwnUnsafe
theorem fnCallsOldUpto_row_tie : Rows.fnCallsOldUptoRow.laidByTextAt .later Tryd.pinned [.data] true :=
  OpenClaim.laidByTextAt_later rfl rfl tie2 noOwnUnsafe
theorem fnDeltaOldUpto_row_tie : Rows.fnDeltaOldUptoRow.laidByTextAt .later Tryd.pinned [.data] true :=
  OpenClaim.laidByTextAt_later rfl rfl tie2 noOwnUnsafe
end Go.Proofs.YtmplkbnajohheaaDoor
