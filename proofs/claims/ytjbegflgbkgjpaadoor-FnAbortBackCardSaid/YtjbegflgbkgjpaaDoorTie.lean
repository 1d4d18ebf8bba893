/-
  DERIVED. GIVEN WITH THE SEED: THE PROGRAM's TIES (one call each: nine closed facts by the kernel) AND EACH ROW's TIE, after the 31st guide's Derived/Test/Toyas{Tie, Card}.lean. No idea stands in it: it is a product of the set-up. Laid BY PROGRAM, IN A SANDBOX (cutbox-door.mjs). By AI agents, Wed Nov 11 2026. No macro, syntax, notation, axiom, sorry.
-/
import Derived.Test.YtjbegflgbkgjpaaDoorRows
import Derived.LaidByTextLater
import Derived.SevenTiedAt
import Derived.LaidSub
import Derived.LaidOnce
namespace Go.Proofs.YtjbegflgbkgjpaaDoor
open Go
set_option maxRecDepth 100000
theorem seatTie1 : Tryd.prog.laidByTextLater [("loop.example/pub-g03037/pub/sctp.ErrChunkTypeNotAbort", Rows.laid_loop_example_pub_g03037_pub_sctp_ErrChunkTypeNotAbort), ("loop.example/pub-g03037/pub/sctp.ErrBuildAbortChunkFailed", Rows.laid_loop_example_pub_g03037_pub_sctp_ErrBuildAbortChunkFailed), ("loop.example/pub-g03037/pub/sctp.ErrChunkHeaderTooSmall", Rows.laid_loop_example_pub_g03037_pub_sctp_ErrChunkHeaderTooSmall), ("loop.example/pub-g03037/pub/sctp.ErrChunkHeaderNotEnoughSpace", Rows.laid_loop_example_pub_g03037_pub_sctp_ErrChunkHeaderNotEnoughSpace), ("loop.example/pub-g03037/pub/sctp.ErrChunkHeaderPaddingNonZero", Rows.laid_loop_example_pub_g03037_pub_sctp_ErrChunkHeaderPaddingNonZero), ("loop.example/pub-g03037/pub/sctp.ErrInvalidSCTPChunk", Rows.laid_loop_example_pub_g03037_pub_sctp_ErrInvalidSCTPChunk)] [.sentinel, .sentinel, .sentinel, .sentinel, .sentinel, .sentinel] true :=
  Program.laidByTextLater_by_one 142 8 2 (by kernel_rfl) (by kernel_rfl) (by kernel_rfl) (by kernel_rfl) (by kernel_rfl) (by kernel_rfl) (fun _ _ => by kernel_rfl)
theorem noOwnUnsafe : Tryd.pinned.checked.prog.headLifts.contains "ownunsafe" = false := by kernel_rfl
theorem tie : Tryd.prog.laidByTextLater [("loop.example/pub-g03037/pub/sctp.ErrChunkTypeNotAbort", Rows.laid_loop_example_pub_g03037_pub_sctp_ErrChunkTypeNotAbort), ("loop.example/pub-g03037/pub/sctp.ErrBuildAbortChunkFailed", Rows.laid_loop_example_pub_g03037_pub_sctp_ErrBuildAbortChunkFailed), ("loop.example/pub-g03037/pub/sctp.ErrChunkHeaderTooSmall", Rows.laid_loop_example_pub_g03037_pub_sctp_ErrChunkHeaderTooSmall), ("loop.example/pub-g03037/pub/sctp.ErrChunkHeaderNotEnoughSpace", Rows.laid_loop_example_pub_g03037_pub_sctp_ErrChunkHeaderNotEnoughSpace), ("loop.example/pub-g03037/pub/sctp.ErrChunkHeaderPaddingNonZero", Rows.laid_loop_example_pub_g03037_pub_sctp_ErrChunkHeaderPaddingNonZero), ("loop.example/pub-g03037/pub/sctp.ErrInvalidSCTPChunk", Rows.laid_loop_example_pub_g03037_pub_sctp_ErrInvalidSCTPChunk)] [.sentinel, .sentinel, .sentinel, .sentinel, .sentinel, .sentinel] true :=
  Program.laidByTextLater.sub seatTie1 ["loop.example/pub-g03037/pub/sctp.ErrChunkTypeNotAbort", "loop.example/pub-g03037/pub/sctp.ErrBuildAbortChunkFailed", "loop.example/pub-g03037/pub/sctp.ErrChunkHeaderTooSmall", "loop.example/pub-g03037/pub/sctp.ErrChunkHeaderNotEnoughSpace", "loop.example/pub-g03037/pub/sctp.ErrChunkHeaderPaddingNonZero", "loop.example/pub-g03037/pub/sctp.ErrInvalidSCTPChunk"] (by kernel_rfl) (by kernel_rfl)
theorem fnAbortBack_row_tie : Rows.fnAbortBackRow.laidByTextAt .later Tryd.pinned [.sentinel, .sentinel, .sentinel, .sentinel, .sentinel, .sentinel] true :=
  OpenClaim.laidByTextAt_later rfl rfl tie noOwnUnsafe
theorem fnAbortBackUpto_row_tie : Rows.fnAbortBackUptoRow.laidByTextAt .later Tryd.pinned [.sentinel, .sentinel, .sentinel, .sentinel, .sentinel, .sentinel] true :=
  OpenClaim.laidByTextAt_later rfl rfl tie noOwnUnsafe
end Go.Proofs.YtjbegflgbkgjpaaDoor
