/-
  DERIVED. GIVEN WITH THE SEED: THE PROGRAM's TIES (one call each: nine closed facts by the kernel) AND EACH ROW's TIE, after the 31st guide's Derived/Test/Toyas{Tie, Card}.lean. No idea stands in it: it is a product of the set-up. Laid BY PROGRAM, IN A SANDBOX (cutbox-door.mjs). By AI agents, Wed Nov 11 2026. No macro, syntax, notation, axiom, sorry.
-/
import Derived.Test.YtnlkmcbhhljajaaDoorRows
import Derived.LaidByTextLater
import Derived.SevenTiedAt
import Derived.LaidSub
import Derived.LaidOnce
namespace Go.Proofs.YtnlkmcbhhljajaaDoor
open Go
set_option maxRecDepth 100000
theorem seatTie1 : Tryd.prog.laidByTextLater [("io.ErrShortBuffer", Rows.laid_io_ErrShortBuffer), ("loop.example/pub-g03037/pub/sctp.errTryAgain", Rows.laid_loop_example_pub_g03037_pub_sctp_errTryAgain), ("loop.example/pub-g03037/pub/sctp.errReassemblyQueueLimitExceeded", Rows.laid_loop_example_pub_g03037_pub_sctp_errReassemblyQueueLimitExceeded), ("loop.example/pub-g03037/pub/sctp.errReassemblyQueueMIDLimitExceeded", Rows.laid_loop_example_pub_g03037_pub_sctp_errReassemblyQueueMIDLimitExceeded)] [.sentinel, .sentinel, .sentinel, .sentinel] true :=
  Program.laidByTextLater_by_one 85 8 2 (by kernel_rfl) (by kernel_rfl) (by kernel_rfl) (by kernel_rfl) (by kernel_rfl) (by kernel_rfl) (fun _ _ => by kernel_rfl)
theorem noOwnUnsafe : Tryd.pinned.checked.prog.headLifts.contains "ownunsafe" = false := by kernel_rfl
theorem tie : Tryd.prog.laidByTextLater [("io.ErrShortBuffer", Rows.laid_io_ErrShortBuffer), ("loop.example/pub-g03037/pub/sctp.errTryAgain", Rows.laid_loop_example_pub_g03037_pub_sctp_errTryAgain), ("loop.example/pub-g03037/pub/sctp.errReassemblyQueueLimitExceeded", Rows.laid_loop_example_pub_g03037_pub_sctp_errReassemblyQueueLimitExceeded), ("loop.example/pub-g03037/pub/sctp.errReassemblyQueueMIDLimitExceeded", Rows.laid_loop_example_pub_g03037_pub_sctp_errReassemblyQueueMIDLimitExceeded)] [.sentinel, .sentinel, .sentinel, .sentinel] true :=
  Program.laidByTextLater.sub seatTie1 ["io.ErrShortBuffer", "loop.example/pub-g03037/pub/sctp.errTryAgain", "loop.example/pub-g03037/pub/sctp.errReassemblyQueueLimitExceeded", "loop.example/pub-g03037/pub/sctp.errReassemblyQueueMIDLimitExceeded"] (by kernel_rfl) (by kernel_rfl)
theorem fnReassembleIs_row_tie : Rows.fnReassembleIsRow.laidByTextAt .later Tryd.pinned [.sentinel, .sentinel, .sentinel, .sentinel] true :=
  OpenClaim.laidByTextAt_later rfl rfl tie noOwnUnsafe
theorem fnReassembleIsUpto_row_tie : Rows.fnReassembleIsUptoRow.laidByTextAt .later Tryd.pinned [.sentinel, .sentinel, .sentinel, .sentinel] true :=
  OpenClaim.laidByTextAt_later rfl rfl tie noOwnUnsafe
end Go.Proofs.YtnlkmcbhhljajaaDoor
