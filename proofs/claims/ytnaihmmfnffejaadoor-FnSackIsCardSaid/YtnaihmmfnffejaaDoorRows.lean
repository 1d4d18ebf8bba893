/-
  NARROWER THAN 'FOR EVERY INPUT', by the rows' own cells (each row's printed sentence says how): FnEmptyIs: ifaces, laid · FnChunkCut: ifaces, laid · FnChunkIs: ifaces, laid · FnCookieIs: ifaces, laid · FnShutdownIs: ifaces, laid · FnSackIs: ifaces, laid · FnForwardIs: ifaces, laid · FnDataIs: ifaces, laid · FnDataUser: ifaces, laid.
  DERIVED. THE GIVEN ROWS OF THIS SEAT. 9 by the template 'for every input the law returns true; each argument reads behind the call as it read before'; 0 by the template 'total and deterministic' (their statements: YtnaihmmfnffejaaDoorTotals.lean).
  GIVEN WITH THE SEED: the statements are not yours to turn. If you find one false, say at which input.
  Laid BY PROGRAM, IN A SANDBOX (cutbox-rows.mjs): the forced cells as the released guide's own fill.sh prints them over the translation 3999739ea27521f1… (all of the seat's roots in one cut). By AI agents, Wed Nov 11 2026. No macro, syntax, notation, axiom, sorry.
-/
import Derived.Test.YtnaihmmfnffejaaDoorChecked
import GoSem.Claim
import GoSem.ClaimJoined
import GoSem.ClaimMapViews
import Derived.JoinedTies
import Derived.KernelRfl
namespace Go.Proofs.YtnaihmmfnffejaaDoor
/- THE CELL 'sum', in the pinned program and in every row, IS THE sha256 OF THE DUMP (.gsa) THAT YtnaihmmfnffejaaDoorProg.lean LOADS. Nothing in Lean hashes anything: it is a label: what it is worth is what the hold of that sum in a sandbox is worth. -/
noncomputable def Tryd.pinned : Pinned := { name := "ytnaihmmfnffejaadoor", sum := "3999739ea27521f1bb9884e940766f32c13d5b830b5e12422395c7c35f3b6a7e", checked := Tryd.checked }
namespace Rows
def none {H : Type} : Left H := { results := [], args := [] }

/- WHAT THE LISTED PACKAGE-LEVEL VARIABLES READ AS WHEN THE CALL BEGINS. Each datum BY PROGRAM (the guide's laid-datum.mjs) off the statement by which the dump's own 'gosem.cut.vars' lays the variable. In a bare row this is a premise. The card (YtnaihmmfnffejaaDoorCards.lean) ties it to the program's text. -/
def laid_loop_example_pub_g03037_pub_sctp_ErrUnmarshalUnknownChunkType {H : Type} : DataW H := .iface "*errors.errorString" (.ptr (.agg [.lit (.string [102, 97, 105, 108, 101, 100, 32, 116, 111, 32, 117, 110, 109, 97, 114, 115, 104, 97, 108, 44, 32, 99, 111, 110, 116, 97, 105, 110, 115, 32, 117, 110, 107, 110, 111, 119, 110, 32, 99, 104, 117, 110, 107, 32, 116, 121, 112, 101])]))
def laid_loop_example_pub_g03037_pub_sctp_ErrChunkHeaderTooSmall {H : Type} : DataW H := .iface "*errors.errorString" (.ptr (.agg [.lit (.string [114, 97, 119, 32, 105, 115, 32, 116, 111, 111, 32, 115, 109, 97, 108, 108, 32, 102, 111, 114, 32, 97, 32, 83, 67, 84, 80, 32, 99, 104, 117, 110, 107])]))
def laid_loop_example_pub_g03037_pub_sctp_ErrChunkHeaderNotEnoughSpace {H : Type} : DataW H := .iface "*errors.errorString" (.ptr (.agg [.lit (.string [110, 111, 116, 32, 101, 110, 111, 117, 103, 104, 32, 100, 97, 116, 97, 32, 108, 101, 102, 116, 32, 105, 110, 32, 83, 67, 84, 80, 32, 112, 97, 99, 107, 101, 116, 32, 116, 111, 32, 115, 97, 116, 105, 115, 102, 121, 32, 114, 101, 113, 117, 101, 115, 116, 101, 100, 32, 108, 101, 110, 103, 116, 104])]))
def laid_loop_example_pub_g03037_pub_sctp_ErrChunkHeaderPaddingNonZero {H : Type} : DataW H := .iface "*errors.errorString" (.ptr (.agg [.lit (.string [99, 104, 117, 110, 107, 32, 112, 97, 100, 100, 105, 110, 103, 32, 105, 115, 32, 110, 111, 110, 45, 122, 101, 114, 111, 32, 97, 116, 32, 111, 102, 102, 115, 101, 116])]))
def laid_loop_example_pub_g03037_pub_sctp_ErrChunkTypeNotCookieEcho {H : Type} : DataW H := .iface "*errors.errorString" (.ptr (.agg [.lit (.string [67, 104, 117, 110, 107, 84, 121, 112, 101, 32, 105, 115, 32, 110, 111, 116, 32, 111, 102, 32, 116, 121, 112, 101, 32, 67, 79, 79, 75, 73, 69, 69, 67, 72, 79])]))
def laid_loop_example_pub_g03037_pub_sctp_ErrInvalidChunkSize {H : Type} : DataW H := .iface "*errors.errorString" (.ptr (.agg [.lit (.string [105, 110, 118, 97, 108, 105, 100, 32, 99, 104, 117, 110, 107, 32, 115, 105, 122, 101])]))
def laid_loop_example_pub_g03037_pub_sctp_ErrChunkTypeNotShutdown {H : Type} : DataW H := .iface "*errors.errorString" (.ptr (.agg [.lit (.string [67, 104, 117, 110, 107, 84, 121, 112, 101, 32, 105, 115, 32, 110, 111, 116, 32, 111, 102, 32, 116, 121, 112, 101, 32, 83, 72, 85, 84, 68, 79, 87, 78])]))
def laid_loop_example_pub_g03037_pub_sctp_ErrChunkTypeNotSack {H : Type} : DataW H := .iface "*errors.errorString" (.ptr (.agg [.lit (.string [67, 104, 117, 110, 107, 84, 121, 112, 101, 32, 105, 115, 32, 110, 111, 116, 32, 111, 102, 32, 116, 121, 112, 101, 32, 83, 65, 67, 75])]))
def laid_loop_example_pub_g03037_pub_sctp_ErrSackSizeNotLargeEnoughInfo {H : Type} : DataW H := .iface "*errors.errorString" (.ptr (.agg [.lit (.string [83, 65, 67, 75, 32, 67, 104, 117, 110, 107, 32, 115, 105, 122, 101, 32, 105, 115, 32, 110, 111, 116, 32, 108, 97, 114, 103, 101, 32, 101, 110, 111, 117, 103, 104, 32, 116, 111, 32, 99, 111, 110, 116, 97, 105, 110, 32, 104, 101, 97, 100, 101, 114])]))
def laid_loop_example_pub_g03037_pub_sctp_ErrSackSizeNotMatchPredicted {H : Type} : DataW H := .iface "*errors.errorString" (.ptr (.agg [.lit (.string [83, 65, 67, 75, 32, 67, 104, 117, 110, 107, 32, 115, 105, 122, 101, 32, 100, 111, 101, 115, 32, 110, 111, 116, 32, 109, 97, 116, 99, 104, 32, 112, 114, 101, 100, 105, 99, 116, 101, 100, 32, 97, 109, 111, 117, 110, 116, 32, 102, 114, 111, 109, 32, 104, 101, 97, 100, 101, 114, 32, 118, 97, 108, 117, 101, 115])]))
def laid_loop_example_pub_g03037_pub_sctp_ErrMarshalStreamFailed {H : Type} : DataW H := .iface "*errors.errorString" (.ptr (.agg [.lit (.string [102, 97, 105, 108, 101, 100, 32, 116, 111, 32, 109, 97, 114, 115, 104, 97, 108, 32, 115, 116, 114, 101, 97, 109])]))
def laid_loop_example_pub_g03037_pub_sctp_ErrChunkTooShort {H : Type} : DataW H := .iface "*errors.errorString" (.ptr (.agg [.lit (.string [99, 104, 117, 110, 107, 32, 116, 111, 111, 32, 115, 104, 111, 114, 116])]))
def laid_loop_example_pub_g03037_pub_sctp_ErrChunkPayloadSmall {H : Type} : DataW H := .iface "*errors.errorString" (.ptr (.agg [.lit (.string [112, 97, 99, 107, 101, 116, 32, 105, 115, 32, 115, 109, 97, 108, 108, 101, 114, 32, 116, 104, 97, 110, 32, 116, 104, 101, 32, 104, 101, 97, 100, 101, 114, 32, 115, 105, 122, 101])]))
def laid_loop_example_pub_g03037_pub_sctp_ErrChunkTypeUnhandled {H : Type} : DataW H := .iface "*errors.errorString" (.ptr (.agg [.lit (.string [117, 110, 104, 97, 110, 100, 108, 101, 100, 32, 99, 104, 117, 110, 107, 32, 116, 121, 112, 101])]))

/-- 'laws.FnEmptyIs': WHATEVER THE INPUT: true; the input reads as it did. -/
def fnEmptyIsSpec : ChangeSpec := { name := "fnEmptyIs", vars := ["loop.example/pub-g03037/pub/sctp.ErrUnmarshalUnknownChunkType"], fn := fun _ => fun
  | [d, g1] => { results := [.lit (.bool true)], args := [d], vars := [g1] }
  | _ => none }
def fnEmptyIsRow : OpenClaim := { program := "ytnaihmmfnffejaadoor", sum := "3999739ea27521f1bb9884e940766f32c13d5b830b5e12422395c7c35f3b6a7e", func := "loop.example/pub-g03037/laws.FnEmptyIs", spec := "fnEmptyIs", named := ["loop.example/pub-g03037/pub/sctp.ErrUnmarshalUnknownChunkType", "encoding/binary.BigEndian"], ifaces := true, apart := false, laid := [("loop.example/pub-g03037/pub/sctp.ErrUnmarshalUnknownChunkType", laid_loop_example_pub_g03037_pub_sctp_ErrUnmarshalUnknownChunkType)] }
def FnEmptyIsSaid : Prop := fnEmptyIsRow.holds Tryd.pinned (OpenSpec.ofChange fnEmptyIsSpec)

/-- ITS FALSE NEIGHBOUR: 'it returns false'. Refute it at one input. -/
def fnEmptyIsWrong : ChangeSpec := { name := "fnEmptyIs", vars := ["loop.example/pub-g03037/pub/sctp.ErrUnmarshalUnknownChunkType"], fn := fun _ => fun
  | [d, g1] => { results := [.lit (.bool false)], args := [d], vars := [g1] }
  | _ => none }
def FnEmptyIsWrongFalsely : Prop := fnEmptyIsRow.holds Tryd.pinned (OpenSpec.ofChange fnEmptyIsWrong)

/-- 'laws.FnChunkCut': WHATEVER THE INPUT: true; the input reads as it did. -/
def fnChunkCutSpec : ChangeSpec := { name := "fnChunkCut", vars := ["loop.example/pub-g03037/pub/sctp.ErrChunkHeaderTooSmall", "loop.example/pub-g03037/pub/sctp.ErrChunkHeaderNotEnoughSpace", "loop.example/pub-g03037/pub/sctp.ErrChunkHeaderPaddingNonZero"], fn := fun _ => fun
  | [d1, d2, d3, d4, g1, g2, g3] => { results := [.lit (.bool true)], args := [d1, d2, d3, d4], vars := [g1, g2, g3] }
  | _ => none }
def fnChunkCutRow : OpenClaim := { program := "ytnaihmmfnffejaadoor", sum := "3999739ea27521f1bb9884e940766f32c13d5b830b5e12422395c7c35f3b6a7e", func := "loop.example/pub-g03037/laws.FnChunkCut", spec := "fnChunkCut", named := ["loop.example/pub-g03037/pub/sctp.ErrChunkHeaderTooSmall", "encoding/binary.BigEndian", "loop.example/pub-g03037/pub/sctp.ErrChunkHeaderNotEnoughSpace", "loop.example/pub-g03037/pub/sctp.ErrChunkHeaderPaddingNonZero"], ifaces := true, apart := false, laid := [("loop.example/pub-g03037/pub/sctp.ErrChunkHeaderTooSmall", laid_loop_example_pub_g03037_pub_sctp_ErrChunkHeaderTooSmall), ("loop.example/pub-g03037/pub/sctp.ErrChunkHeaderNotEnoughSpace", laid_loop_example_pub_g03037_pub_sctp_ErrChunkHeaderNotEnoughSpace), ("loop.example/pub-g03037/pub/sctp.ErrChunkHeaderPaddingNonZero", laid_loop_example_pub_g03037_pub_sctp_ErrChunkHeaderPaddingNonZero)] }
def FnChunkCutSaid : Prop := fnChunkCutRow.holds Tryd.pinned (OpenSpec.ofChange fnChunkCutSpec)

/-- ITS FALSE NEIGHBOUR: 'it returns false'. Refute it at one input. -/
def fnChunkCutWrong : ChangeSpec := { name := "fnChunkCut", vars := ["loop.example/pub-g03037/pub/sctp.ErrChunkHeaderTooSmall", "loop.example/pub-g03037/pub/sctp.ErrChunkHeaderNotEnoughSpace", "loop.example/pub-g03037/pub/sctp.ErrChunkHeaderPaddingNonZero"], fn := fun _ => fun
  | [d1, d2, d3, d4, g1, g2, g3] => { results := [.lit (.bool false)], args := [d1, d2, d3, d4], vars := [g1, g2, g3] }
  | _ => none }
def FnChunkCutWrongFalsely : Prop := fnChunkCutRow.holds Tryd.pinned (OpenSpec.ofChange fnChunkCutWrong)

/-- 'laws.FnChunkIs': WHATEVER THE INPUT: true; the input reads as it did. -/
def fnChunkIsSpec : ChangeSpec := { name := "fnChunkIs", vars := ["loop.example/pub-g03037/pub/sctp.ErrChunkHeaderTooSmall", "loop.example/pub-g03037/pub/sctp.ErrChunkHeaderNotEnoughSpace", "loop.example/pub-g03037/pub/sctp.ErrChunkHeaderPaddingNonZero"], fn := fun _ => fun
  | [d1, d2, d3, d4, g1, g2, g3] => { results := [.lit (.bool true)], args := [d1, d2, d3, d4], vars := [g1, g2, g3] }
  | _ => none }
def fnChunkIsRow : OpenClaim := { program := "ytnaihmmfnffejaadoor", sum := "3999739ea27521f1bb9884e940766f32c13d5b830b5e12422395c7c35f3b6a7e", func := "loop.example/pub-g03037/laws.FnChunkIs", spec := "fnChunkIs", named := ["loop.example/pub-g03037/pub/sctp.ErrChunkHeaderTooSmall", "encoding/binary.BigEndian", "loop.example/pub-g03037/pub/sctp.ErrChunkHeaderNotEnoughSpace", "loop.example/pub-g03037/pub/sctp.ErrChunkHeaderPaddingNonZero"], ifaces := true, apart := false, laid := [("loop.example/pub-g03037/pub/sctp.ErrChunkHeaderTooSmall", laid_loop_example_pub_g03037_pub_sctp_ErrChunkHeaderTooSmall), ("loop.example/pub-g03037/pub/sctp.ErrChunkHeaderNotEnoughSpace", laid_loop_example_pub_g03037_pub_sctp_ErrChunkHeaderNotEnoughSpace), ("loop.example/pub-g03037/pub/sctp.ErrChunkHeaderPaddingNonZero", laid_loop_example_pub_g03037_pub_sctp_ErrChunkHeaderPaddingNonZero)] }
def FnChunkIsSaid : Prop := fnChunkIsRow.holds Tryd.pinned (OpenSpec.ofChange fnChunkIsSpec)

/-- ITS FALSE NEIGHBOUR: 'it returns false'. Refute it at one input. -/
def fnChunkIsWrong : ChangeSpec := { name := "fnChunkIs", vars := ["loop.example/pub-g03037/pub/sctp.ErrChunkHeaderTooSmall", "loop.example/pub-g03037/pub/sctp.ErrChunkHeaderNotEnoughSpace", "loop.example/pub-g03037/pub/sctp.ErrChunkHeaderPaddingNonZero"], fn := fun _ => fun
  | [d1, d2, d3, d4, g1, g2, g3] => { results := [.lit (.bool false)], args := [d1, d2, d3, d4], vars := [g1, g2, g3] }
  | _ => none }
def FnChunkIsWrongFalsely : Prop := fnChunkIsRow.holds Tryd.pinned (OpenSpec.ofChange fnChunkIsWrong)

/-- 'laws.FnCookieIs': WHATEVER THE INPUT: true; the input reads as it did. -/
def fnCookieIsSpec : ChangeSpec := { name := "fnCookieIs", vars := ["loop.example/pub-g03037/pub/sctp.ErrChunkTypeNotCookieEcho", "loop.example/pub-g03037/pub/sctp.ErrChunkHeaderTooSmall", "loop.example/pub-g03037/pub/sctp.ErrChunkHeaderNotEnoughSpace", "loop.example/pub-g03037/pub/sctp.ErrChunkHeaderPaddingNonZero"], fn := fun _ => fun
  | [d, g1, g2, g3, g4] => { results := [.lit (.bool true)], args := [d], vars := [g1, g2, g3, g4] }
  | _ => none }
def fnCookieIsRow : OpenClaim := { program := "ytnaihmmfnffejaadoor", sum := "3999739ea27521f1bb9884e940766f32c13d5b830b5e12422395c7c35f3b6a7e", func := "loop.example/pub-g03037/laws.FnCookieIs", spec := "fnCookieIs", named := ["encoding/binary.BigEndian", "loop.example/pub-g03037/pub/sctp.ErrChunkTypeNotCookieEcho", "loop.example/pub-g03037/pub/sctp.ErrChunkHeaderTooSmall", "loop.example/pub-g03037/pub/sctp.ErrChunkHeaderNotEnoughSpace", "loop.example/pub-g03037/pub/sctp.ErrChunkHeaderPaddingNonZero"], ifaces := true, apart := false, laid := [("loop.example/pub-g03037/pub/sctp.ErrChunkTypeNotCookieEcho", laid_loop_example_pub_g03037_pub_sctp_ErrChunkTypeNotCookieEcho), ("loop.example/pub-g03037/pub/sctp.ErrChunkHeaderTooSmall", laid_loop_example_pub_g03037_pub_sctp_ErrChunkHeaderTooSmall), ("loop.example/pub-g03037/pub/sctp.ErrChunkHeaderNotEnoughSpace", laid_loop_example_pub_g03037_pub_sctp_ErrChunkHeaderNotEnoughSpace), ("loop.example/pub-g03037/pub/sctp.ErrChunkHeaderPaddingNonZero", laid_loop_example_pub_g03037_pub_sctp_ErrChunkHeaderPaddingNonZero)] }
def FnCookieIsSaid : Prop := fnCookieIsRow.holds Tryd.pinned (OpenSpec.ofChange fnCookieIsSpec)

/-- ITS FALSE NEIGHBOUR: 'it returns false'. Refute it at one input. -/
def fnCookieIsWrong : ChangeSpec := { name := "fnCookieIs", vars := ["loop.example/pub-g03037/pub/sctp.ErrChunkTypeNotCookieEcho", "loop.example/pub-g03037/pub/sctp.ErrChunkHeaderTooSmall", "loop.example/pub-g03037/pub/sctp.ErrChunkHeaderNotEnoughSpace", "loop.example/pub-g03037/pub/sctp.ErrChunkHeaderPaddingNonZero"], fn := fun _ => fun
  | [d, g1, g2, g3, g4] => { results := [.lit (.bool false)], args := [d], vars := [g1, g2, g3, g4] }
  | _ => none }
def FnCookieIsWrongFalsely : Prop := fnCookieIsRow.holds Tryd.pinned (OpenSpec.ofChange fnCookieIsWrong)

/-- 'laws.FnShutdownIs': WHATEVER THE INPUT: true; the input reads as it did. -/
def fnShutdownIsSpec : ChangeSpec := { name := "fnShutdownIs", vars := ["loop.example/pub-g03037/pub/sctp.ErrChunkTypeNotShutdown", "loop.example/pub-g03037/pub/sctp.ErrInvalidChunkSize", "loop.example/pub-g03037/pub/sctp.ErrChunkHeaderTooSmall", "loop.example/pub-g03037/pub/sctp.ErrChunkHeaderNotEnoughSpace", "loop.example/pub-g03037/pub/sctp.ErrChunkHeaderPaddingNonZero"], fn := fun _ => fun
  | [d, g1, g2, g3, g4, g5] => { results := [.lit (.bool true)], args := [d], vars := [g1, g2, g3, g4, g5] }
  | _ => none }
def fnShutdownIsRow : OpenClaim := { program := "ytnaihmmfnffejaadoor", sum := "3999739ea27521f1bb9884e940766f32c13d5b830b5e12422395c7c35f3b6a7e", func := "loop.example/pub-g03037/laws.FnShutdownIs", spec := "fnShutdownIs", named := ["encoding/binary.BigEndian", "loop.example/pub-g03037/pub/sctp.ErrChunkTypeNotShutdown", "loop.example/pub-g03037/pub/sctp.ErrInvalidChunkSize", "loop.example/pub-g03037/pub/sctp.ErrChunkHeaderTooSmall", "loop.example/pub-g03037/pub/sctp.ErrChunkHeaderNotEnoughSpace", "loop.example/pub-g03037/pub/sctp.ErrChunkHeaderPaddingNonZero"], ifaces := true, apart := false, laid := [("loop.example/pub-g03037/pub/sctp.ErrInvalidChunkSize", laid_loop_example_pub_g03037_pub_sctp_ErrInvalidChunkSize), ("loop.example/pub-g03037/pub/sctp.ErrChunkTypeNotShutdown", laid_loop_example_pub_g03037_pub_sctp_ErrChunkTypeNotShutdown), ("loop.example/pub-g03037/pub/sctp.ErrChunkHeaderTooSmall", laid_loop_example_pub_g03037_pub_sctp_ErrChunkHeaderTooSmall), ("loop.example/pub-g03037/pub/sctp.ErrChunkHeaderNotEnoughSpace", laid_loop_example_pub_g03037_pub_sctp_ErrChunkHeaderNotEnoughSpace), ("loop.example/pub-g03037/pub/sctp.ErrChunkHeaderPaddingNonZero", laid_loop_example_pub_g03037_pub_sctp_ErrChunkHeaderPaddingNonZero)] }
def FnShutdownIsSaid : Prop := fnShutdownIsRow.holds Tryd.pinned (OpenSpec.ofChange fnShutdownIsSpec)

/-- ITS FALSE NEIGHBOUR: 'it returns false'. Refute it at one input. -/
def fnShutdownIsWrong : ChangeSpec := { name := "fnShutdownIs", vars := ["loop.example/pub-g03037/pub/sctp.ErrChunkTypeNotShutdown", "loop.example/pub-g03037/pub/sctp.ErrInvalidChunkSize", "loop.example/pub-g03037/pub/sctp.ErrChunkHeaderTooSmall", "loop.example/pub-g03037/pub/sctp.ErrChunkHeaderNotEnoughSpace", "loop.example/pub-g03037/pub/sctp.ErrChunkHeaderPaddingNonZero"], fn := fun _ => fun
  | [d, g1, g2, g3, g4, g5] => { results := [.lit (.bool false)], args := [d], vars := [g1, g2, g3, g4, g5] }
  | _ => none }
def FnShutdownIsWrongFalsely : Prop := fnShutdownIsRow.holds Tryd.pinned (OpenSpec.ofChange fnShutdownIsWrong)

/-- 'laws.FnSackIs': WHATEVER THE INPUT: true; the input reads as it did. -/
def fnSackIsSpec : ChangeSpec := { name := "fnSackIs", vars := ["loop.example/pub-g03037/pub/sctp.ErrChunkTypeNotSack", "loop.example/pub-g03037/pub/sctp.ErrSackSizeNotLargeEnoughInfo", "loop.example/pub-g03037/pub/sctp.ErrSackSizeNotMatchPredicted", "loop.example/pub-g03037/pub/sctp.ErrChunkHeaderTooSmall", "loop.example/pub-g03037/pub/sctp.ErrChunkHeaderNotEnoughSpace", "loop.example/pub-g03037/pub/sctp.ErrChunkHeaderPaddingNonZero"], fn := fun _ => fun
  | [d, g1, g2, g3, g4, g5, g6] => { results := [.lit (.bool true)], args := [d], vars := [g1, g2, g3, g4, g5, g6] }
  | _ => none }
def fnSackIsRow : OpenClaim := { program := "ytnaihmmfnffejaadoor", sum := "3999739ea27521f1bb9884e940766f32c13d5b830b5e12422395c7c35f3b6a7e", func := "loop.example/pub-g03037/laws.FnSackIs", spec := "fnSackIs", named := ["encoding/binary.BigEndian", "loop.example/pub-g03037/pub/sctp.ErrChunkTypeNotSack", "loop.example/pub-g03037/pub/sctp.ErrSackSizeNotLargeEnoughInfo", "loop.example/pub-g03037/pub/sctp.ErrSackSizeNotMatchPredicted", "loop.example/pub-g03037/pub/sctp.ErrChunkHeaderTooSmall", "loop.example/pub-g03037/pub/sctp.ErrChunkHeaderNotEnoughSpace", "loop.example/pub-g03037/pub/sctp.ErrChunkHeaderPaddingNonZero"], ifaces := true, apart := false, laid := [("loop.example/pub-g03037/pub/sctp.ErrChunkTypeNotSack", laid_loop_example_pub_g03037_pub_sctp_ErrChunkTypeNotSack), ("loop.example/pub-g03037/pub/sctp.ErrSackSizeNotLargeEnoughInfo", laid_loop_example_pub_g03037_pub_sctp_ErrSackSizeNotLargeEnoughInfo), ("loop.example/pub-g03037/pub/sctp.ErrSackSizeNotMatchPredicted", laid_loop_example_pub_g03037_pub_sctp_ErrSackSizeNotMatchPredicted), ("loop.example/pub-g03037/pub/sctp.ErrChunkHeaderTooSmall", laid_loop_example_pub_g03037_pub_sctp_ErrChunkHeaderTooSmall), ("loop.example/pub-g03037/pub/sctp.ErrChunkHeaderNotEnoughSpace", laid_loop_example_pub_g03037_pub_sctp_ErrChunkHeaderNotEnoughSpace), ("loop.example/pub-g03037/pub/sctp.ErrChunkHeaderPaddingNonZero", laid_loop_example_pub_g03037_pub_sctp_ErrChunkHeaderPaddingNonZero)] }
def FnSackIsSaid : Prop := fnSackIsRow.holds Tryd.pinned (OpenSpec.ofChange fnSackIsSpec)

/-- ITS FALSE NEIGHBOUR: 'it returns false'. Refute it at one input. -/
def fnSackIsWrong : ChangeSpec := { name := "fnSackIs", vars := ["loop.example/pub-g03037/pub/sctp.ErrChunkTypeNotSack", "loop.example/pub-g03037/pub/sctp.ErrSackSizeNotLargeEnoughInfo", "loop.example/pub-g03037/pub/sctp.ErrSackSizeNotMatchPredicted", "loop.example/pub-g03037/pub/sctp.ErrChunkHeaderTooSmall", "loop.example/pub-g03037/pub/sctp.ErrChunkHeaderNotEnoughSpace", "loop.example/pub-g03037/pub/sctp.ErrChunkHeaderPaddingNonZero"], fn := fun _ => fun
  | [d, g1, g2, g3, g4, g5, g6] => { results := [.lit (.bool false)], args := [d], vars := [g1, g2, g3, g4, g5, g6] }
  | _ => none }
def FnSackIsWrongFalsely : Prop := fnSackIsRow.holds Tryd.pinned (OpenSpec.ofChange fnSackIsWrong)

/-- 'laws.FnForwardIs': WHATEVER THE INPUT: true; the input reads as it did. -/
def fnForwardIsSpec : ChangeSpec := { name := "fnForwardIs", vars := ["loop.example/pub-g03037/pub/sctp.ErrMarshalStreamFailed", "loop.example/pub-g03037/pub/sctp.ErrChunkTooShort", "loop.example/pub-g03037/pub/sctp.ErrChunkHeaderTooSmall", "loop.example/pub-g03037/pub/sctp.ErrChunkHeaderNotEnoughSpace", "loop.example/pub-g03037/pub/sctp.ErrChunkHeaderPaddingNonZero"], fn := fun _ => fun
  | [d, g1, g2, g3, g4, g5] => { results := [.lit (.bool true)], args := [d], vars := [g1, g2, g3, g4, g5] }
  | _ => none }
def fnForwardIsRow : OpenClaim := { program := "ytnaihmmfnffejaadoor", sum := "3999739ea27521f1bb9884e940766f32c13d5b830b5e12422395c7c35f3b6a7e", func := "loop.example/pub-g03037/laws.FnForwardIs", spec := "fnForwardIs", named := ["encoding/binary.BigEndian", "loop.example/pub-g03037/pub/sctp.ErrMarshalStreamFailed", "loop.example/pub-g03037/pub/sctp.ErrChunkTooShort", "loop.example/pub-g03037/pub/sctp.ErrChunkHeaderTooSmall", "loop.example/pub-g03037/pub/sctp.ErrChunkHeaderNotEnoughSpace", "loop.example/pub-g03037/pub/sctp.ErrChunkHeaderPaddingNonZero"], ifaces := true, apart := false, laid := [("loop.example/pub-g03037/pub/sctp.ErrMarshalStreamFailed", laid_loop_example_pub_g03037_pub_sctp_ErrMarshalStreamFailed), ("loop.example/pub-g03037/pub/sctp.ErrChunkTooShort", laid_loop_example_pub_g03037_pub_sctp_ErrChunkTooShort), ("loop.example/pub-g03037/pub/sctp.ErrChunkHeaderTooSmall", laid_loop_example_pub_g03037_pub_sctp_ErrChunkHeaderTooSmall), ("loop.example/pub-g03037/pub/sctp.ErrChunkHeaderNotEnoughSpace", laid_loop_example_pub_g03037_pub_sctp_ErrChunkHeaderNotEnoughSpace), ("loop.example/pub-g03037/pub/sctp.ErrChunkHeaderPaddingNonZero", laid_loop_example_pub_g03037_pub_sctp_ErrChunkHeaderPaddingNonZero)] }
def FnForwardIsSaid : Prop := fnForwardIsRow.holds Tryd.pinned (OpenSpec.ofChange fnForwardIsSpec)

/-- ITS FALSE NEIGHBOUR: 'it returns false'. Refute it at one input. -/
def fnForwardIsWrong : ChangeSpec := { name := "fnForwardIs", vars := ["loop.example/pub-g03037/pub/sctp.ErrMarshalStreamFailed", "loop.example/pub-g03037/pub/sctp.ErrChunkTooShort", "loop.example/pub-g03037/pub/sctp.ErrChunkHeaderTooSmall", "loop.example/pub-g03037/pub/sctp.ErrChunkHeaderNotEnoughSpace", "loop.example/pub-g03037/pub/sctp.ErrChunkHeaderPaddingNonZero"], fn := fun _ => fun
  | [d, g1, g2, g3, g4, g5] => { results := [.lit (.bool false)], args := [d], vars := [g1, g2, g3, g4, g5] }
  | _ => none }
def FnForwardIsWrongFalsely : Prop := fnForwardIsRow.holds Tryd.pinned (OpenSpec.ofChange fnForwardIsWrong)

/-- 'laws.FnDataIs': WHATEVER THE INPUT: true; the input reads as it did. -/
def fnDataIsSpec : ChangeSpec := { name := "fnDataIs", vars := ["loop.example/pub-g03037/pub/sctp.ErrChunkTypeUnhandled", "loop.example/pub-g03037/pub/sctp.ErrChunkPayloadSmall", "loop.example/pub-g03037/pub/sctp.ErrChunkHeaderTooSmall", "loop.example/pub-g03037/pub/sctp.ErrChunkHeaderNotEnoughSpace", "loop.example/pub-g03037/pub/sctp.ErrChunkHeaderPaddingNonZero"], fn := fun _ => fun
  | [d, g1, g2, g3, g4, g5] => { results := [.lit (.bool true)], args := [d], vars := [g1, g2, g3, g4, g5] }
  | _ => none }
def fnDataIsRow : OpenClaim := { program := "ytnaihmmfnffejaadoor", sum := "3999739ea27521f1bb9884e940766f32c13d5b830b5e12422395c7c35f3b6a7e", func := "loop.example/pub-g03037/laws.FnDataIs", spec := "fnDataIs", named := ["encoding/binary.BigEndian", "loop.example/pub-g03037/pub/sctp.ErrChunkTypeUnhandled", "loop.example/pub-g03037/pub/sctp.ErrChunkPayloadSmall", "loop.example/pub-g03037/pub/sctp.ErrChunkHeaderTooSmall", "loop.example/pub-g03037/pub/sctp.ErrChunkHeaderNotEnoughSpace", "loop.example/pub-g03037/pub/sctp.ErrChunkHeaderPaddingNonZero"], ifaces := true, apart := false, laid := [("loop.example/pub-g03037/pub/sctp.ErrChunkPayloadSmall", laid_loop_example_pub_g03037_pub_sctp_ErrChunkPayloadSmall), ("loop.example/pub-g03037/pub/sctp.ErrChunkHeaderTooSmall", laid_loop_example_pub_g03037_pub_sctp_ErrChunkHeaderTooSmall), ("loop.example/pub-g03037/pub/sctp.ErrChunkHeaderNotEnoughSpace", laid_loop_example_pub_g03037_pub_sctp_ErrChunkHeaderNotEnoughSpace), ("loop.example/pub-g03037/pub/sctp.ErrChunkHeaderPaddingNonZero", laid_loop_example_pub_g03037_pub_sctp_ErrChunkHeaderPaddingNonZero), ("loop.example/pub-g03037/pub/sctp.ErrChunkTypeUnhandled", laid_loop_example_pub_g03037_pub_sctp_ErrChunkTypeUnhandled)] }
def FnDataIsSaid : Prop := fnDataIsRow.holds Tryd.pinned (OpenSpec.ofChange fnDataIsSpec)

/-- ITS FALSE NEIGHBOUR: 'it returns false'. Refute it at one input. -/
def fnDataIsWrong : ChangeSpec := { name := "fnDataIs", vars := ["loop.example/pub-g03037/pub/sctp.ErrChunkTypeUnhandled", "loop.example/pub-g03037/pub/sctp.ErrChunkPayloadSmall", "loop.example/pub-g03037/pub/sctp.ErrChunkHeaderTooSmall", "loop.example/pub-g03037/pub/sctp.ErrChunkHeaderNotEnoughSpace", "loop.example/pub-g03037/pub/sctp.ErrChunkHeaderPaddingNonZero"], fn := fun _ => fun
  | [d, g1, g2, g3, g4, g5] => { results := [.lit (.bool false)], args := [d], vars := [g1, g2, g3, g4, g5] }
  | _ => none }
def FnDataIsWrongFalsely : Prop := fnDataIsRow.holds Tryd.pinned (OpenSpec.ofChange fnDataIsWrong)

/-- 'laws.FnDataUser': WHATEVER THE INPUT: true; the input reads as it did. -/
def fnDataUserSpec : ChangeSpec := { name := "fnDataUser", vars := ["loop.example/pub-g03037/pub/sctp.ErrChunkTypeUnhandled", "loop.example/pub-g03037/pub/sctp.ErrChunkPayloadSmall", "loop.example/pub-g03037/pub/sctp.ErrChunkHeaderTooSmall", "loop.example/pub-g03037/pub/sctp.ErrChunkHeaderNotEnoughSpace", "loop.example/pub-g03037/pub/sctp.ErrChunkHeaderPaddingNonZero"], fn := fun _ => fun
  | [d, g1, g2, g3, g4, g5] => { results := [.lit (.bool true)], args := [d], vars := [g1, g2, g3, g4, g5] }
  | _ => none }
def fnDataUserRow : OpenClaim := { program := "ytnaihmmfnffejaadoor", sum := "3999739ea27521f1bb9884e940766f32c13d5b830b5e12422395c7c35f3b6a7e", func := "loop.example/pub-g03037/laws.FnDataUser", spec := "fnDataUser", named := ["encoding/binary.BigEndian", "loop.example/pub-g03037/pub/sctp.ErrChunkTypeUnhandled", "loop.example/pub-g03037/pub/sctp.ErrChunkPayloadSmall", "loop.example/pub-g03037/pub/sctp.ErrChunkHeaderTooSmall", "loop.example/pub-g03037/pub/sctp.ErrChunkHeaderNotEnoughSpace", "loop.example/pub-g03037/pub/sctp.ErrChunkHeaderPaddingNonZero"], ifaces := true, apart := false, laid := [("loop.example/pub-g03037/pub/sctp.ErrChunkPayloadSmall", laid_loop_example_pub_g03037_pub_sctp_ErrChunkPayloadSmall), ("loop.example/pub-g03037/pub/sctp.ErrChunkHeaderTooSmall", laid_loop_example_pub_g03037_pub_sctp_ErrChunkHeaderTooSmall), ("loop.example/pub-g03037/pub/sctp.ErrChunkHeaderNotEnoughSpace", laid_loop_example_pub_g03037_pub_sctp_ErrChunkHeaderNotEnoughSpace), ("loop.example/pub-g03037/pub/sctp.ErrChunkHeaderPaddingNonZero", laid_loop_example_pub_g03037_pub_sctp_ErrChunkHeaderPaddingNonZero), ("loop.example/pub-g03037/pub/sctp.ErrChunkTypeUnhandled", laid_loop_example_pub_g03037_pub_sctp_ErrChunkTypeUnhandled)] }
def FnDataUserSaid : Prop := fnDataUserRow.holds Tryd.pinned (OpenSpec.ofChange fnDataUserSpec)

/-- ITS FALSE NEIGHBOUR: 'it returns false'. Refute it at one input. -/
def fnDataUserWrong : ChangeSpec := { name := "fnDataUser", vars := ["loop.example/pub-g03037/pub/sctp.ErrChunkTypeUnhandled", "loop.example/pub-g03037/pub/sctp.ErrChunkPayloadSmall", "loop.example/pub-g03037/pub/sctp.ErrChunkHeaderTooSmall", "loop.example/pub-g03037/pub/sctp.ErrChunkHeaderNotEnoughSpace", "loop.example/pub-g03037/pub/sctp.ErrChunkHeaderPaddingNonZero"], fn := fun _ => fun
  | [d, g1, g2, g3, g4, g5] => { results := [.lit (.bool false)], args := [d], vars := [g1, g2, g3, g4, g5] }
  | _ => none }
def FnDataUserWrongFalsely : Prop := fnDataUserRow.holds Tryd.pinned (OpenSpec.ofChange fnDataUserWrong)

/- THE SECOND FORM. 'bulk': how many values and letters a reading holds, each counted each time it is reached (what is shared counts as often as it is met; a slice's spare places count too). A statement '..UptoSaid' is the law's where the arguments, and the package variables that the reading takes, are together of bulk at most 1048576: NARROWER than '..Said'. Prove '..Said' where nothing that the law and all that it calls make is longer than what came in: it says more and counts as full. Else prove '..UptoSaid'. A law counts once. -/
mutual
def uptoBulk {H : Type} : DataW H → Nat
  | .lit (.string bytes) => bytes.length + 1
  | .lit _ => 1
  | .nil => 1
  | .ptr d => uptoBulk d + 1
  | .slice elems spare => uptoBulkAll elems + uptoBulkAll spare + 1
  | .agg parts => uptoBulkAll parts + 1
  | .iface _ d => uptoBulk d + 1
  | .map entries => uptoBulkEntries entries + 1
  | .held _ => 1
def uptoBulkAll {H : Type} : List (DataW H) → Nat
  | [] => 0
  | d :: r => uptoBulk d + uptoBulkAll r
def uptoBulkEntries {H : Type} : List (Lit × DataW H) → Nat
  | [] => 0
  | x :: r => uptoBulkEntry x + uptoBulkEntries r
def uptoBulkEntry {H : Type} : Lit × DataW H → Nat
  | (.string bytes, d) => bytes.length + uptoBulk d + 1
  | (_, d) => uptoBulk d + 1
 end
def uptoSmall : (H : Type) → List (DataW H) → Bool := fun _ ds => decide (uptoBulkAll ds ≤ 1048576)
def OpenSpec.upto (s : _root_.Go.ChangeSpec) : _root_.Go.OpenSpec := { _root_.Go.OpenSpec.ofChange s with cond := some uptoSmall }

/-- 'laws.FnEmptyIs', WHERE WHAT IT READS IS OF BULK AT MOST 1048576: true; the input reads as it did. -/
def fnEmptyIsUptoRow : OpenClaim := { program := "ytnaihmmfnffejaadoor", sum := "3999739ea27521f1bb9884e940766f32c13d5b830b5e12422395c7c35f3b6a7e", func := "loop.example/pub-g03037/laws.FnEmptyIs", spec := "fnEmptyIs", named := ["loop.example/pub-g03037/pub/sctp.ErrUnmarshalUnknownChunkType", "encoding/binary.BigEndian"], ifaces := true, apart := false, laid := [("loop.example/pub-g03037/pub/sctp.ErrUnmarshalUnknownChunkType", laid_loop_example_pub_g03037_pub_sctp_ErrUnmarshalUnknownChunkType)], narrowed := true }
def FnEmptyIsUptoSaid : Prop := fnEmptyIsUptoRow.holds Tryd.pinned (OpenSpec.upto fnEmptyIsSpec)

/-- 'laws.FnChunkCut', WHERE WHAT IT READS IS OF BULK AT MOST 1048576: true; the input reads as it did. -/
def fnChunkCutUptoRow : OpenClaim := { program := "ytnaihmmfnffejaadoor", sum := "3999739ea27521f1bb9884e940766f32c13d5b830b5e12422395c7c35f3b6a7e", func := "loop.example/pub-g03037/laws.FnChunkCut", spec := "fnChunkCut", named := ["loop.example/pub-g03037/pub/sctp.ErrChunkHeaderTooSmall", "encoding/binary.BigEndian", "loop.example/pub-g03037/pub/sctp.ErrChunkHeaderNotEnoughSpace", "loop.example/pub-g03037/pub/sctp.ErrChunkHeaderPaddingNonZero"], ifaces := true, apart := false, laid := [("loop.example/pub-g03037/pub/sctp.ErrChunkHeaderTooSmall", laid_loop_example_pub_g03037_pub_sctp_ErrChunkHeaderTooSmall), ("loop.example/pub-g03037/pub/sctp.ErrChunkHeaderNotEnoughSpace", laid_loop_example_pub_g03037_pub_sctp_ErrChunkHeaderNotEnoughSpace), ("loop.example/pub-g03037/pub/sctp.ErrChunkHeaderPaddingNonZero", laid_loop_example_pub_g03037_pub_sctp_ErrChunkHeaderPaddingNonZero)], narrowed := true }
def FnChunkCutUptoSaid : Prop := fnChunkCutUptoRow.holds Tryd.pinned (OpenSpec.upto fnChunkCutSpec)

/-- 'laws.FnChunkIs', WHERE WHAT IT READS IS OF BULK AT MOST 1048576: true; the input reads as it did. -/
def fnChunkIsUptoRow : OpenClaim := { program := "ytnaihmmfnffejaadoor", sum := "3999739ea27521f1bb9884e940766f32c13d5b830b5e12422395c7c35f3b6a7e", func := "loop.example/pub-g03037/laws.FnChunkIs", spec := "fnChunkIs", named := ["loop.example/pub-g03037/pub/sctp.ErrChunkHeaderTooSmall", "encoding/binary.BigEndian", "loop.example/pub-g03037/pub/sctp.ErrChunkHeaderNotEnoughSpace", "loop.example/pub-g03037/pub/sctp.ErrChunkHeaderPaddingNonZero"], ifaces := true, apart := false, laid := [("loop.example/pub-g03037/pub/sctp.ErrChunkHeaderTooSmall", laid_loop_example_pub_g03037_pub_sctp_ErrChunkHeaderTooSmall), ("loop.example/pub-g03037/pub/sctp.ErrChunkHeaderNotEnoughSpace", laid_loop_example_pub_g03037_pub_sctp_ErrChunkHeaderNotEnoughSpace), ("loop.example/pub-g03037/pub/sctp.ErrChunkHeaderPaddingNonZero", laid_loop_example_pub_g03037_pub_sctp_ErrChunkHeaderPaddingNonZero)], narrowed := true }
def FnChunkIsUptoSaid : Prop := fnChunkIsUptoRow.holds Tryd.pinned (OpenSpec.upto fnChunkIsSpec)

/-- 'laws.FnCookieIs', WHERE WHAT IT READS IS OF BULK AT MOST 1048576: true; the input reads as it did. -/
def fnCookieIsUptoRow : OpenClaim := { program := "ytnaihmmfnffejaadoor", sum := "3999739ea27521f1bb9884e940766f32c13d5b830b5e12422395c7c35f3b6a7e", func := "loop.example/pub-g03037/laws.FnCookieIs", spec := "fnCookieIs", named := ["encoding/binary.BigEndian", "loop.example/pub-g03037/pub/sctp.ErrChunkTypeNotCookieEcho", "loop.example/pub-g03037/pub/sctp.ErrChunkHeaderTooSmall", "loop.example/pub-g03037/pub/sctp.ErrChunkHeaderNotEnoughSpace", "loop.example/pub-g03037/pub/sctp.ErrChunkHeaderPaddingNonZero"], ifaces := true, apart := false, laid := [("loop.example/pub-g03037/pub/sctp.ErrChunkTypeNotCookieEcho", laid_loop_example_pub_g03037_pub_sctp_ErrChunkTypeNotCookieEcho), ("loop.example/pub-g03037/pub/sctp.ErrChunkHeaderTooSmall", laid_loop_example_pub_g03037_pub_sctp_ErrChunkHeaderTooSmall), ("loop.example/pub-g03037/pub/sctp.ErrChunkHeaderNotEnoughSpace", laid_loop_example_pub_g03037_pub_sctp_ErrChunkHeaderNotEnoughSpace), ("loop.example/pub-g03037/pub/sctp.ErrChunkHeaderPaddingNonZero", laid_loop_example_pub_g03037_pub_sctp_ErrChunkHeaderPaddingNonZero)], narrowed := true }
def FnCookieIsUptoSaid : Prop := fnCookieIsUptoRow.holds Tryd.pinned (OpenSpec.upto fnCookieIsSpec)

/-- 'laws.FnShutdownIs', WHERE WHAT IT READS IS OF BULK AT MOST 1048576: true; the input reads as it did. -/
def fnShutdownIsUptoRow : OpenClaim := { program := "ytnaihmmfnffejaadoor", sum := "3999739ea27521f1bb9884e940766f32c13d5b830b5e12422395c7c35f3b6a7e", func := "loop.example/pub-g03037/laws.FnShutdownIs", spec := "fnShutdownIs", named := ["encoding/binary.BigEndian", "loop.example/pub-g03037/pub/sctp.ErrChunkTypeNotShutdown", "loop.example/pub-g03037/pub/sctp.ErrInvalidChunkSize", "loop.example/pub-g03037/pub/sctp.ErrChunkHeaderTooSmall", "loop.example/pub-g03037/pub/sctp.ErrChunkHeaderNotEnoughSpace", "loop.example/pub-g03037/pub/sctp.ErrChunkHeaderPaddingNonZero"], ifaces := true, apart := false, laid := [("loop.example/pub-g03037/pub/sctp.ErrInvalidChunkSize", laid_loop_example_pub_g03037_pub_sctp_ErrInvalidChunkSize), ("loop.example/pub-g03037/pub/sctp.ErrChunkTypeNotShutdown", laid_loop_example_pub_g03037_pub_sctp_ErrChunkTypeNotShutdown), ("loop.example/pub-g03037/pub/sctp.ErrChunkHeaderTooSmall", laid_loop_example_pub_g03037_pub_sctp_ErrChunkHeaderTooSmall), ("loop.example/pub-g03037/pub/sctp.ErrChunkHeaderNotEnoughSpace", laid_loop_example_pub_g03037_pub_sctp_ErrChunkHeaderNotEnoughSpace), ("loop.example/pub-g03037/pub/sctp.ErrChunkHeaderPaddingNonZero", laid_loop_example_pub_g03037_pub_sctp_ErrChunkHeaderPaddingNonZero)], narrowed := true }
def FnShutdownIsUptoSaid : Prop := fnShutdownIsUptoRow.holds Tryd.pinned (OpenSpec.upto fnShutdownIsSpec)

/-- 'laws.FnSackIs', WHERE WHAT IT READS IS OF BULK AT MOST 1048576: true; the input reads as it did. -/
def fnSackIsUptoRow : OpenClaim := { program := "ytnaihmmfnffejaadoor", sum := "3999739ea27521f1bb9884e940766f32c13d5b830b5e12422395c7c35f3b6a7e", func := "loop.example/pub-g03037/laws.FnSackIs", spec := "fnSackIs", named := ["encoding/binary.BigEndian", "loop.example/pub-g03037/pub/sctp.ErrChunkTypeNotSack", "loop.example/pub-g03037/pub/sctp.ErrSackSizeNotLargeEnoughInfo", "loop.example/pub-g03037/pub/sctp.ErrSackSizeNotMatchPredicted", "loop.example/pub-g03037/pub/sctp.ErrChunkHeaderTooSmall", "loop.example/pub-g03037/pub/sctp.ErrChunkHeaderNotEnoughSpace", "loop.example/pub-g03037/pub/sctp.ErrChunkHeaderPaddingNonZero"], ifaces := true, apart := false, laid := [("loop.example/pub-g03037/pub/sctp.ErrChunkTypeNotSack", laid_loop_example_pub_g03037_pub_sctp_ErrChunkTypeNotSack), ("loop.example/pub-g03037/pub/sctp.ErrSackSizeNotLargeEnoughInfo", laid_loop_example_pub_g03037_pub_sctp_ErrSackSizeNotLargeEnoughInfo), ("loop.example/pub-g03037/pub/sctp.ErrSackSizeNotMatchPredicted", laid_loop_example_pub_g03037_pub_sctp_ErrSackSizeNotMatchPredicted), ("loop.example/pub-g03037/pub/sctp.ErrChunkHeaderTooSmall", laid_loop_example_pub_g03037_pub_sctp_ErrChunkHeaderTooSmall), ("loop.example/pub-g03037/pub/sctp.ErrChunkHeaderNotEnoughSpace", laid_loop_example_pub_g03037_pub_sctp_ErrChunkHeaderNotEnoughSpace), ("loop.example/pub-g03037/pub/sctp.ErrChunkHeaderPaddingNonZero", laid_loop_example_pub_g03037_pub_sctp_ErrChunkHeaderPaddingNonZero)], narrowed := true }
def FnSackIsUptoSaid : Prop := fnSackIsUptoRow.holds Tryd.pinned (OpenSpec.upto fnSackIsSpec)

/-- 'laws.FnForwardIs', WHERE WHAT IT READS IS OF BULK AT MOST 1048576: true; the input reads as it did. -/
def fnForwardIsUptoRow : OpenClaim := { program := "ytnaihmmfnffejaadoor", sum := "3999739ea27521f1bb9884e940766f32c13d5b830b5e12422395c7c35f3b6a7e", func := "loop.example/pub-g03037/laws.FnForwardIs", spec := "fnForwardIs", named := ["encoding/binary.BigEndian", "loop.example/pub-g03037/pub/sctp.ErrMarshalStreamFailed", "loop.example/pub-g03037/pub/sctp.ErrChunkTooShort", "loop.example/pub-g03037/pub/sctp.ErrChunkHeaderTooSmall", "loop.example/pub-g03037/pub/sctp.ErrChunkHeaderNotEnoughSpace", "loop.example/pub-g03037/pub/sctp.ErrChunkHeaderPaddingNonZero"], ifaces := true, apart := false, laid := [("loop.example/pub-g03037/pub/sctp.ErrMarshalStreamFailed", laid_loop_example_pub_g03037_pub_sctp_ErrMarshalStreamFailed), ("loop.example/pub-g03037/pub/sctp.ErrChunkTooShort", laid_loop_example_pub_g03037_pub_sctp_ErrChunkTooShort), ("loop.example/pub-g03037/pub/sctp.ErrChunkHeaderTooSmall", laid_loop_example_pub_g03037_pub_sctp_ErrChunkHeaderTooSmall), ("loop.example/pub-g03037/pub/sctp.ErrChunkHeaderNotEnoughSpace", laid_loop_example_pub_g03037_pub_sctp_ErrChunkHeaderNotEnoughSpace), ("loop.example/pub-g03037/pub/sctp.ErrChunkHeaderPaddingNonZero", laid_loop_example_pub_g03037_pub_sctp_ErrChunkHeaderPaddingNonZero)], narrowed := true }
def FnForwardIsUptoSaid : Prop := fnForwardIsUptoRow.holds Tryd.pinned (OpenSpec.upto fnForwardIsSpec)

/-- 'laws.FnDataIs', WHERE WHAT IT READS IS OF BULK AT MOST 1048576: true; the input reads as it did. -/
def fnDataIsUptoRow : OpenClaim := { program := "ytnaihmmfnffejaadoor", sum := "3999739ea27521f1bb9884e940766f32c13d5b830b5e12422395c7c35f3b6a7e", func := "loop.example/pub-g03037/laws.FnDataIs", spec := "fnDataIs", named := ["encoding/binary.BigEndian", "loop.example/pub-g03037/pub/sctp.ErrChunkTypeUnhandled", "loop.example/pub-g03037/pub/sctp.ErrChunkPayloadSmall", "loop.example/pub-g03037/pub/sctp.ErrChunkHeaderTooSmall", "loop.example/pub-g03037/pub/sctp.ErrChunkHeaderNotEnoughSpace", "loop.example/pub-g03037/pub/sctp.ErrChunkHeaderPaddingNonZero"], ifaces := true, apart := false, laid := [("loop.example/pub-g03037/pub/sctp.ErrChunkPayloadSmall", laid_loop_example_pub_g03037_pub_sctp_ErrChunkPayloadSmall), ("loop.example/pub-g03037/pub/sctp.ErrChunkHeaderTooSmall", laid_loop_example_pub_g03037_pub_sctp_ErrChunkHeaderTooSmall), ("loop.example/pub-g03037/pub/sctp.ErrChunkHeaderNotEnoughSpace", laid_loop_example_pub_g03037_pub_sctp_ErrChunkHeaderNotEnoughSpace), ("loop.example/pub-g03037/pub/sctp.ErrChunkHeaderPaddingNonZero", laid_loop_example_pub_g03037_pub_sctp_ErrChunkHeaderPaddingNonZero), ("loop.example/pub-g03037/pub/sctp.ErrChunkTypeUnhandled", laid_loop_example_pub_g03037_pub_sctp_ErrChunkTypeUnhandled)], narrowed := true }
def FnDataIsUptoSaid : Prop := fnDataIsUptoRow.holds Tryd.pinned (OpenSpec.upto fnDataIsSpec)

/-- 'laws.FnDataUser', WHERE WHAT IT READS IS OF BULK AT MOST 1048576: true; the input reads as it did. -/
def fnDataUserUptoRow : OpenClaim := { program := "ytnaihmmfnffejaadoor", sum := "3999739ea27521f1bb9884e940766f32c13d5b830b5e12422395c7c35f3b6a7e", func := "loop.example/pub-g03037/laws.FnDataUser", spec := "fnDataUser", named := ["encoding/binary.BigEndian", "loop.example/pub-g03037/pub/sctp.ErrChunkTypeUnhandled", "loop.example/pub-g03037/pub/sctp.ErrChunkPayloadSmall", "loop.example/pub-g03037/pub/sctp.ErrChunkHeaderTooSmall", "loop.example/pub-g03037/pub/sctp.ErrChunkHeaderNotEnoughSpace", "loop.example/pub-g03037/pub/sctp.ErrChunkHeaderPaddingNonZero"], ifaces := true, apart := false, laid := [("loop.example/pub-g03037/pub/sctp.ErrChunkPayloadSmall", laid_loop_example_pub_g03037_pub_sctp_ErrChunkPayloadSmall), ("loop.example/pub-g03037/pub/sctp.ErrChunkHeaderTooSmall", laid_loop_example_pub_g03037_pub_sctp_ErrChunkHeaderTooSmall), ("loop.example/pub-g03037/pub/sctp.ErrChunkHeaderNotEnoughSpace", laid_loop_example_pub_g03037_pub_sctp_ErrChunkHeaderNotEnoughSpace), ("loop.example/pub-g03037/pub/sctp.ErrChunkHeaderPaddingNonZero", laid_loop_example_pub_g03037_pub_sctp_ErrChunkHeaderPaddingNonZero), ("loop.example/pub-g03037/pub/sctp.ErrChunkTypeUnhandled", laid_loop_example_pub_g03037_pub_sctp_ErrChunkTypeUnhandled)], narrowed := true }
def FnDataUserUptoSaid : Prop := fnDataUserUptoRow.holds Tryd.pinned (OpenSpec.upto fnDataUserSpec)

end Rows
end Go.Proofs.YtnaihmmfnffejaaDoor
