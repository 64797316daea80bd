/-
  DERIVED. GIVEN WITH THE SEED: THE PROGRAM's TIES (one call each: nine closed facts by the kernel) AND EACH ROW's TIE, after the 31st guide's Derived/Test/Toyas{Tie, Card}.lean. No idea stands in it: it is a product of the set-up. Laid BY PROGRAM, IN A SANDBOX (cutbox-door.mjs). By AI agents, Wed Nov 11 2026. No macro, syntax, notation, axiom, sorry.
-/
import Derived.Test.YtkfkieebcahiiaaGreatDoorRows
import Derived.LaidByTextLater
import Derived.SevenTiedAt
import Derived.LaidSub
import Derived.LaidOnce
namespace Go.Proofs.YtkfkieebcahiiaaGreatDoor
open Go
set_option maxRecDepth 100000
theorem seatTie1 : Tryz.prog.laidByTextLater [("io.EOF", Rows.laid_io_EOF), ("io.ErrUnexpectedEOF", Rows.laid_io_ErrUnexpectedEOF), ("bytes.ErrTooLarge", Rows.laid_bytes_ErrTooLarge)] [.sentinel, .sentinel, .sentinel] true :=
  Program.laidByTextLater_by_one 85 8 2 (by kernel_rfl) (by kernel_rfl) (by kernel_rfl) (by kernel_rfl) (by kernel_rfl) (by kernel_rfl) (fun _ _ => by kernel_rfl)
theorem noOwnUnsafe : Tryz.pinned.checked.prog.headLifts.contains "ownunsafe" = false := by kernel_rfl
theorem tie : Tryz.prog.laidByTextLater [("io.EOF", Rows.laid_io_EOF), ("io.ErrUnexpectedEOF", Rows.laid_io_ErrUnexpectedEOF), ("bytes.ErrTooLarge", Rows.laid_bytes_ErrTooLarge)] [.sentinel, .sentinel, .sentinel] true :=
  Program.laidByTextLater.sub seatTie1 ["io.EOF", "io.ErrUnexpectedEOF", "bytes.ErrTooLarge"] (by kernel_rfl) (by kernel_rfl)
theorem fnPutMessage_row_tie : Rows.fnPutMessageRow.laidByTextAt .later Tryz.pinned [.sentinel, .sentinel, .sentinel] true :=
  OpenClaim.laidByTextAt_later rfl rfl tie noOwnUnsafe
theorem fnSend_row_tie : Rows.fnSendRow.laidByTextAt .later Tryz.pinned [.sentinel, .sentinel, .sentinel] true :=
  OpenClaim.laidByTextAt_later rfl rfl tie noOwnUnsafe
theorem fnSerial_row_tie : Rows.fnSerialRow.laidByTextAt .later Tryz.pinned [.sentinel, .sentinel, .sentinel] true :=
  OpenClaim.laidByTextAt_later rfl rfl tie noOwnUnsafe
theorem fnPutFault_row_tie : Rows.fnPutFaultRow.laidByTextAt .later Tryz.pinned [.sentinel, .sentinel, .sentinel] true :=
  OpenClaim.laidByTextAt_later rfl rfl tie noOwnUnsafe
theorem fnCompactSizes_row_tie : Rows.fnCompactSizesRow.laidByTextAt .later Tryz.pinned [.sentinel, .sentinel, .sentinel] true :=
  OpenClaim.laidByTextAt_later rfl rfl tie noOwnUnsafe
theorem fnBinaryMessages_row_tie : Rows.fnBinaryMessagesRow.laidByTextAt .later Tryz.pinned [.sentinel, .sentinel, .sentinel] true :=
  OpenClaim.laidByTextAt_later rfl rfl tie noOwnUnsafe
theorem fnBare_row_tie : Rows.fnBareRow.laidByTextAt .later Tryz.pinned [.sentinel, .sentinel, .sentinel] true :=
  OpenClaim.laidByTextAt_later rfl rfl tie noOwnUnsafe
theorem fnVarintBack_row_tie : Rows.fnVarintBackRow.laidByTextAt .later Tryz.pinned [.sentinel, .sentinel, .sentinel] true :=
  OpenClaim.laidByTextAt_later rfl rfl tie noOwnUnsafe
theorem fnPutMessageUpto_row_tie : Rows.fnPutMessageUptoRow.laidByTextAt .later Tryz.pinned [.sentinel, .sentinel, .sentinel] true :=
  OpenClaim.laidByTextAt_later rfl rfl tie noOwnUnsafe
theorem fnSendUpto_row_tie : Rows.fnSendUptoRow.laidByTextAt .later Tryz.pinned [.sentinel, .sentinel, .sentinel] true :=
  OpenClaim.laidByTextAt_later rfl rfl tie noOwnUnsafe
theorem fnSerialUpto_row_tie : Rows.fnSerialUptoRow.laidByTextAt .later Tryz.pinned [.sentinel, .sentinel, .sentinel] true :=
  OpenClaim.laidByTextAt_later rfl rfl tie noOwnUnsafe
theorem fnPutFaultUpto_row_tie : Rows.fnPutFaultUptoRow.laidByTextAt .later Tryz.pinned [.sentinel, .sentinel, .sentinel] true :=
  OpenClaim.laidByTextAt_later rfl rfl tie noOwnUnsafe
theorem fnCompactSizesUpto_row_tie : Rows.fnCompactSizesUptoRow.laidByTextAt .later Tryz.pinned [.sentinel, .sentinel, .sentinel] true :=
  OpenClaim.laidByTextAt_later rfl rfl tie noOwnUnsafe
theorem fnBinaryMessagesUpto_row_tie : Rows.fnBinaryMessagesUptoRow.laidByTextAt .later Tryz.pinned [.sentinel, .sentinel, .sentinel] true :=
  OpenClaim.laidByTextAt_later rfl rfl tie noOwnUnsafe
theorem fnBareUpto_row_tie : Rows.fnBareUptoRow.laidByTextAt .later Tryz.pinned [.sentinel, .sentinel, .sentinel] true :=
  OpenClaim.laidByTextAt_later rfl rfl tie noOwnUnsafe
theorem fnVarintBackUpto_row_tie : Rows.fnVarintBackUptoRow.laidByTextAt .later Tryz.pinned [.sentinel, .sentinel, .sentinel] true :=
  OpenClaim.laidByTextAt_later rfl rfl tie noOwnUnsafe
end Go.Proofs.YtkfkieebcahiiaaGreatDoor
