/-
  NARROWER THAN 'FOR EVERY INPUT', by the rows' own cells (each row's printed sentence says how): FnAbortBack: ifaces, laid.
  DERIVED. THE GIVEN ROWS OF THIS SEAT. 1 by the template 'for every input the law returns true; each argument reads behind the call as it read before'; 0 by the template 'total and deterministic' (their statements: YtjbegflgbkgjpaaDoorTotals.lean).
  GIVEN WITH THE SEED: the statements are not yours to turn. If you find one false, say at which input.
  Laid BY PROGRAM, IN A SANDBOX (cutbox-rows.mjs): the forced cells as the released guide's own fill.sh prints them over the translation 661d9a2767b8d253… (all of the seat's roots in one cut). By AI agents, Wed Nov 11 2026. No macro, syntax, notation, axiom, sorry.
-/
import Derived.Test.YtjbegflgbkgjpaaDoorChecked
import GoSem.Claim
import GoSem.ClaimJoined
import GoSem.ClaimMapViews
import Derived.JoinedTies
import Derived.KernelRfl
namespace Go.Proofs.YtjbegflgbkgjpaaDoor
/- THE CELL 'sum', in the pinned program and in every row, IS THE sha256 OF THE DUMP (.gsa) THAT YtjbegflgbkgjpaaDoorProg.lean LOADS. Nothing in Lean hashes anything: it is a label: what it is worth is what the hold of that sum in a sandbox is worth. -/
noncomputable def Tryd.pinned : Pinned := { name := "ytjbegflgbkgjpaadoor", sum := "661d9a2767b8d2531d360180e2c20b3eb7efc12e6908b8a0e2626754553623ee", checked := Tryd.checked }
namespace Rows
def none {H : Type} : Left H := { results := [], args := [] }

/- WHAT THE LISTED PACKAGE-LEVEL VARIABLES READ AS WHEN THE CALL BEGINS. Each datum BY PROGRAM (the guide's laid-datum.mjs) off the statement by which the dump's own 'gosem.cut.vars' lays the variable. In a bare row this is a premise. The card (YtjbegflgbkgjpaaDoorCards.lean) ties it to the program's text. -/
def laid_loop_example_pub_g03037_pub_sctp_ErrChunkTypeNotAbort {H : Type} : DataW H := .iface "*errors.errorString" (.ptr (.agg [.lit (.string [67, 104, 117, 110, 107, 84, 121, 112, 101, 32, 105, 115, 32, 110, 111, 116, 32, 111, 102, 32, 116, 121, 112, 101, 32, 65, 66, 79, 82, 84])]))
def laid_loop_example_pub_g03037_pub_sctp_ErrBuildAbortChunkFailed {H : Type} : DataW H := .iface "*errors.errorString" (.ptr (.agg [.lit (.string [102, 97, 105, 108, 101, 100, 32, 98, 117, 105, 108, 100, 32, 65, 98, 111, 114, 116, 32, 67, 104, 117, 110, 107])]))
def laid_loop_example_pub_g03037_pub_sctp_ErrChunkHeaderTooSmall {H : Type} : DataW H := .iface "*errors.errorString" (.ptr (.agg [.lit (.string [114, 97, 119, 32, 105, 115, 32, 116, 111, 111, 32, 115, 109, 97, 108, 108, 32, 102, 111, 114, 32, 97, 32, 83, 67, 84, 80, 32, 99, 104, 117, 110, 107])]))
def laid_loop_example_pub_g03037_pub_sctp_ErrChunkHeaderNotEnoughSpace {H : Type} : DataW H := .iface "*errors.errorString" (.ptr (.agg [.lit (.string [110, 111, 116, 32, 101, 110, 111, 117, 103, 104, 32, 100, 97, 116, 97, 32, 108, 101, 102, 116, 32, 105, 110, 32, 83, 67, 84, 80, 32, 112, 97, 99, 107, 101, 116, 32, 116, 111, 32, 115, 97, 116, 105, 115, 102, 121, 32, 114, 101, 113, 117, 101, 115, 116, 101, 100, 32, 108, 101, 110, 103, 116, 104])]))
def laid_loop_example_pub_g03037_pub_sctp_ErrChunkHeaderPaddingNonZero {H : Type} : DataW H := .iface "*errors.errorString" (.ptr (.agg [.lit (.string [99, 104, 117, 110, 107, 32, 112, 97, 100, 100, 105, 110, 103, 32, 105, 115, 32, 110, 111, 110, 45, 122, 101, 114, 111, 32, 97, 116, 32, 111, 102, 102, 115, 101, 116])]))
def laid_loop_example_pub_g03037_pub_sctp_ErrInvalidSCTPChunk {H : Type} : DataW H := .iface "*errors.errorString" (.ptr (.agg [.lit (.string [105, 110, 118, 97, 108, 105, 100, 32, 83, 67, 84, 80, 32, 99, 104, 117, 110, 107])]))

/-- 'laws.FnAbortBack': WHATEVER THE INPUT: true; the input reads as it did. -/
def fnAbortBackSpec : ChangeSpec := { name := "fnAbortBack", vars := ["loop.example/pub-g03037/pub/sctp.ErrInvalidSCTPChunk", "loop.example/pub-g03037/pub/sctp.ErrChunkTypeNotAbort", "loop.example/pub-g03037/pub/sctp.ErrBuildAbortChunkFailed", "loop.example/pub-g03037/pub/sctp.ErrChunkHeaderTooSmall", "loop.example/pub-g03037/pub/sctp.ErrChunkHeaderNotEnoughSpace", "loop.example/pub-g03037/pub/sctp.ErrChunkHeaderPaddingNonZero"], fn := fun _ => fun
  | [d, g1, g2, g3, g4, g5, g6] => { results := [.lit (.bool true)], args := [d], vars := [g1, g2, g3, g4, g5, g6] }
  | _ => none }
def fnAbortBackRow : OpenClaim := { program := "ytjbegflgbkgjpaadoor", sum := "661d9a2767b8d2531d360180e2c20b3eb7efc12e6908b8a0e2626754553623ee", func := "loop.example/pub-g03037/laws.FnAbortBack", spec := "fnAbortBack", unfollowed := true, recurses := true, named := ["encoding/binary.BigEndian", "loop.example/pub-g03037/pub/sctp.ErrInvalidSCTPChunk", "loop.example/pub-g03037/pub/sctp.ErrChunkTypeNotAbort", "loop.example/pub-g03037/pub/sctp.ErrBuildAbortChunkFailed", "loop.example/pub-g03037/pub/sctp.ErrChunkHeaderTooSmall", "loop.example/pub-g03037/pub/sctp.ErrChunkHeaderNotEnoughSpace", "loop.example/pub-g03037/pub/sctp.ErrChunkHeaderPaddingNonZero"], ifaces := true, apart := false, laid := [("loop.example/pub-g03037/pub/sctp.ErrChunkTypeNotAbort", laid_loop_example_pub_g03037_pub_sctp_ErrChunkTypeNotAbort), ("loop.example/pub-g03037/pub/sctp.ErrBuildAbortChunkFailed", laid_loop_example_pub_g03037_pub_sctp_ErrBuildAbortChunkFailed), ("loop.example/pub-g03037/pub/sctp.ErrChunkHeaderTooSmall", laid_loop_example_pub_g03037_pub_sctp_ErrChunkHeaderTooSmall), ("loop.example/pub-g03037/pub/sctp.ErrChunkHeaderNotEnoughSpace", laid_loop_example_pub_g03037_pub_sctp_ErrChunkHeaderNotEnoughSpace), ("loop.example/pub-g03037/pub/sctp.ErrChunkHeaderPaddingNonZero", laid_loop_example_pub_g03037_pub_sctp_ErrChunkHeaderPaddingNonZero), ("loop.example/pub-g03037/pub/sctp.ErrInvalidSCTPChunk", laid_loop_example_pub_g03037_pub_sctp_ErrInvalidSCTPChunk)] }
def FnAbortBackSaid : Prop := fnAbortBackRow.holds Tryd.pinned (OpenSpec.ofChange fnAbortBackSpec)

/-- ITS FALSE NEIGHBOUR: 'it returns false'. Refute it at one input. -/
def fnAbortBackWrong : ChangeSpec := { name := "fnAbortBack", vars := ["loop.example/pub-g03037/pub/sctp.ErrInvalidSCTPChunk", "loop.example/pub-g03037/pub/sctp.ErrChunkTypeNotAbort", "loop.example/pub-g03037/pub/sctp.ErrBuildAbortChunkFailed", "loop.example/pub-g03037/pub/sctp.ErrChunkHeaderTooSmall", "loop.example/pub-g03037/pub/sctp.ErrChunkHeaderNotEnoughSpace", "loop.example/pub-g03037/pub/sctp.ErrChunkHeaderPaddingNonZero"], fn := fun _ => fun
  | [d, g1, g2, g3, g4, g5, g6] => { results := [.lit (.bool false)], args := [d], vars := [g1, g2, g3, g4, g5, g6] }
  | _ => none }
def FnAbortBackWrongFalsely : Prop := fnAbortBackRow.holds Tryd.pinned (OpenSpec.ofChange fnAbortBackWrong)

/- THE SECOND FORM. 'bulk': how many values and letters a reading holds, each counted each time it is reached (what is shared counts as often as it is met; a slice's spare places count too). A statement '..UptoSaid' is the law's where the arguments, and the package variables that the reading takes, are together of bulk at most 1048576: NARROWER than '..Said'. Prove '..Said' where nothing that the law and all that it calls make is longer than what came in: it says more and counts as full. Else prove '..UptoSaid'. A law counts once. -/
mutual
def uptoBulk {H : Type} : DataW H → Nat
  | .lit (.string bytes) => bytes.length + 1
  | .lit _ => 1
  | .nil => 1
  | .ptr d => uptoBulk d + 1
  | .slice elems spare => uptoBulkAll elems + uptoBulkAll spare + 1
  | .agg parts => uptoBulkAll parts + 1
  | .iface _ d => uptoBulk d + 1
  | .map entries => uptoBulkEntries entries + 1
  | .held _ => 1
def uptoBulkAll {H : Type} : List (DataW H) → Nat
  | [] => 0
  | d :: r => uptoBulk d + uptoBulkAll r
def uptoBulkEntries {H : Type} : List (Lit × DataW H) → Nat
  | [] => 0
  | x :: r => uptoBulkEntry x + uptoBulkEntries r
def uptoBulkEntry {H : Type} : Lit × DataW H → Nat
  | (.string bytes, d) => bytes.length + uptoBulk d + 1
  | (_, d) => uptoBulk d + 1
 end
def uptoSmall : (H : Type) → List (DataW H) → Bool := fun _ ds => decide (uptoBulkAll ds ≤ 1048576)
def OpenSpec.upto (s : _root_.Go.ChangeSpec) : _root_.Go.OpenSpec := { _root_.Go.OpenSpec.ofChange s with cond := some uptoSmall }

/-- 'laws.FnAbortBack', WHERE WHAT IT READS IS OF BULK AT MOST 1048576: true; the input reads as it did. -/
def fnAbortBackUptoRow : OpenClaim := { program := "ytjbegflgbkgjpaadoor", sum := "661d9a2767b8d2531d360180e2c20b3eb7efc12e6908b8a0e2626754553623ee", func := "loop.example/pub-g03037/laws.FnAbortBack", spec := "fnAbortBack", unfollowed := true, recurses := true, named := ["encoding/binary.BigEndian", "loop.example/pub-g03037/pub/sctp.ErrInvalidSCTPChunk", "loop.example/pub-g03037/pub/sctp.ErrChunkTypeNotAbort", "loop.example/pub-g03037/pub/sctp.ErrBuildAbortChunkFailed", "loop.example/pub-g03037/pub/sctp.ErrChunkHeaderTooSmall", "loop.example/pub-g03037/pub/sctp.ErrChunkHeaderNotEnoughSpace", "loop.example/pub-g03037/pub/sctp.ErrChunkHeaderPaddingNonZero"], ifaces := true, apart := false, laid := [("loop.example/pub-g03037/pub/sctp.ErrChunkTypeNotAbort", laid_loop_example_pub_g03037_pub_sctp_ErrChunkTypeNotAbort), ("loop.example/pub-g03037/pub/sctp.ErrBuildAbortChunkFailed", laid_loop_example_pub_g03037_pub_sctp_ErrBuildAbortChunkFailed), ("loop.example/pub-g03037/pub/sctp.ErrChunkHeaderTooSmall", laid_loop_example_pub_g03037_pub_sctp_ErrChunkHeaderTooSmall), ("loop.example/pub-g03037/pub/sctp.ErrChunkHeaderNotEnoughSpace", laid_loop_example_pub_g03037_pub_sctp_ErrChunkHeaderNotEnoughSpace), ("loop.example/pub-g03037/pub/sctp.ErrChunkHeaderPaddingNonZero", laid_loop_example_pub_g03037_pub_sctp_ErrChunkHeaderPaddingNonZero), ("loop.example/pub-g03037/pub/sctp.ErrInvalidSCTPChunk", laid_loop_example_pub_g03037_pub_sctp_ErrInvalidSCTPChunk)], narrowed := true }
def FnAbortBackUptoSaid : Prop := fnAbortBackUptoRow.holds Tryd.pinned (OpenSpec.upto fnAbortBackSpec)

end Rows
end Go.Proofs.YtjbegflgbkgjpaaDoor
