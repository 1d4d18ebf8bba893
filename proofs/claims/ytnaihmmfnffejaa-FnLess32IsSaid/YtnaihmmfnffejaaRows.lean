/-
  No cell of these rows narrows 'for every input' (looked for: loops, veiled, ifaces, maps, wideKeys, modest, calm, conditions, laid).
  DERIVED. THE GIVEN ROWS OF THIS SEAT. 3 by the template 'for every input the law returns true; each argument reads behind the call as it read before'; 0 by the template 'total and deterministic' (their statements: YtnaihmmfnffejaaTotals.lean).
  GIVEN WITH THE SEED: the statements are not yours to turn. If you find one false, say at which input.
  Laid BY PROGRAM, IN A SANDBOX (cutbox-rows.mjs): the forced cells as the released guide's own fill.sh prints them over the translation 5015615205c28c3b… (all of the seat's roots in one cut). By AI agents, Wed Nov 11 2026. No macro, syntax, notation, axiom, sorry.
-/
import Derived.Test.YtnaihmmfnffejaaChecked
import GoSem.Claim
import GoSem.ClaimJoined
import GoSem.ClaimMapViews
import Derived.JoinedTies
import Derived.KernelRfl
namespace Go.Proofs.Ytnaihmmfnffejaa
/- THE CELL 'sum', in the pinned program and in every row, IS THE sha256 OF THE DUMP (.gsa) THAT YtnaihmmfnffejaaProg.lean LOADS. Nothing in Lean hashes anything: it is a label: what it is worth is what the hold of that sum in a sandbox is worth. -/
noncomputable def Try.pinned : Pinned := { name := "ytnaihmmfnffejaa", sum := "5015615205c28c3b47383b658ceacbfdff98b089f3f3f5ac767c3560fde12c96", checked := Try.checked }
namespace Rows
def none {H : Type} : Left H := { results := [], args := [] }

/-- 'laws.FnPaddingIs': WHATEVER THE INPUT: true; the input reads as it did. -/
def fnPaddingIsSpec : ChangeSpec := { name := "fnPaddingIs", fn := fun _ => fun
  | [d] => { results := [.lit (.bool true)], args := [d] }
  | _ => none }
def fnPaddingIsRow : OpenClaim := { program := "ytnaihmmfnffejaa", sum := "5015615205c28c3b47383b658ceacbfdff98b089f3f3f5ac767c3560fde12c96", func := "loop.example/pub-g03037/laws.FnPaddingIs", spec := "fnPaddingIs", apart := false }
def FnPaddingIsSaid : Prop := fnPaddingIsRow.holds Try.pinned (OpenSpec.ofChange fnPaddingIsSpec)

/-- ITS FALSE NEIGHBOUR: 'it returns false'. Refute it at one input. -/
def fnPaddingIsWrong : ChangeSpec := { name := "fnPaddingIs", fn := fun _ => fun
  | [d] => { results := [.lit (.bool false)], args := [d] }
  | _ => none }
def FnPaddingIsWrongFalsely : Prop := fnPaddingIsRow.holds Try.pinned (OpenSpec.ofChange fnPaddingIsWrong)

/-- 'laws.FnLess16Is': WHATEVER THE INPUT: true; the input reads as it did. -/
def fnLess16IsSpec : ChangeSpec := { name := "fnLess16Is", fn := fun _ => fun
  | [d1, d2] => { results := [.lit (.bool true)], args := [d1, d2] }
  | _ => none }
def fnLess16IsRow : OpenClaim := { program := "ytnaihmmfnffejaa", sum := "5015615205c28c3b47383b658ceacbfdff98b089f3f3f5ac767c3560fde12c96", func := "loop.example/pub-g03037/laws.FnLess16Is", spec := "fnLess16Is", apart := false }
def FnLess16IsSaid : Prop := fnLess16IsRow.holds Try.pinned (OpenSpec.ofChange fnLess16IsSpec)

/-- ITS FALSE NEIGHBOUR: 'it returns false'. Refute it at one input. -/
def fnLess16IsWrong : ChangeSpec := { name := "fnLess16Is", fn := fun _ => fun
  | [d1, d2] => { results := [.lit (.bool false)], args := [d1, d2] }
  | _ => none }
def FnLess16IsWrongFalsely : Prop := fnLess16IsRow.holds Try.pinned (OpenSpec.ofChange fnLess16IsWrong)

/-- 'laws.FnLess32Is': WHATEVER THE INPUT: true; the input reads as it did. -/
def fnLess32IsSpec : ChangeSpec := { name := "fnLess32Is", fn := fun _ => fun
  | [d1, d2] => { results := [.lit (.bool true)], args := [d1, d2] }
  | _ => none }
def fnLess32IsRow : OpenClaim := { program := "ytnaihmmfnffejaa", sum := "5015615205c28c3b47383b658ceacbfdff98b089f3f3f5ac767c3560fde12c96", func := "loop.example/pub-g03037/laws.FnLess32Is", spec := "fnLess32Is", apart := false }
def FnLess32IsSaid : Prop := fnLess32IsRow.holds Try.pinned (OpenSpec.ofChange fnLess32IsSpec)

/-- ITS FALSE NEIGHBOUR: 'it returns false'. Refute it at one input. -/
def fnLess32IsWrong : ChangeSpec := { name := "fnLess32Is", fn := fun _ => fun
  | [d1, d2] => { results := [.lit (.bool false)], args := [d1, d2] }
  | _ => none }
def FnLess32IsWrongFalsely : Prop := fnLess32IsRow.holds Try.pinned (OpenSpec.ofChange fnLess32IsWrong)

/- THE SECOND FORM. 'bulk': how many values and letters a reading holds, each counted each time it is reached (what is shared counts as often as it is met; a slice's spare places count too). A statement '..UptoSaid' is the law's where the arguments, and the package variables that the reading takes, are together of bulk at most 1048576: NARROWER than '..Said'. Prove '..Said' where nothing that the law and all that it calls make is longer than what came in: it says more and counts as full. Else prove '..UptoSaid'. A law counts once. -/
mutual
def uptoBulk {H : Type} : DataW H → Nat
  | .lit (.string bytes) => bytes.length + 1
  | .lit _ => 1
  | .nil => 1
  | .ptr d => uptoBulk d + 1
  | .slice elems spare => uptoBulkAll elems + uptoBulkAll spare + 1
  | .agg parts => uptoBulkAll parts + 1
  | .iface _ d => uptoBulk d + 1
  | .map entries => uptoBulkEntries entries + 1
  | .held _ => 1
def uptoBulkAll {H : Type} : List (DataW H) → Nat
  | [] => 0
  | d :: r => uptoBulk d + uptoBulkAll r
def uptoBulkEntries {H : Type} : List (Lit × DataW H) → Nat
  | [] => 0
  | x :: r => uptoBulkEntry x + uptoBulkEntries r
def uptoBulkEntry {H : Type} : Lit × DataW H → Nat
  | (.string bytes, d) => bytes.length + uptoBulk d + 1
  | (_, d) => uptoBulk d + 1
 end
def uptoSmall : (H : Type) → List (DataW H) → Bool := fun _ ds => decide (uptoBulkAll ds ≤ 1048576)
def OpenSpec.upto (s : _root_.Go.ChangeSpec) : _root_.Go.OpenSpec := { _root_.Go.OpenSpec.ofChange s with cond := some uptoSmall }

/-- 'laws.FnPaddingIs', WHERE WHAT IT READS IS OF BULK AT MOST 1048576: true; the input reads as it did. -/
def fnPaddingIsUptoRow : OpenClaim := { program := "ytnaihmmfnffejaa", sum := "5015615205c28c3b47383b658ceacbfdff98b089f3f3f5ac767c3560fde12c96", func := "loop.example/pub-g03037/laws.FnPaddingIs", spec := "fnPaddingIs", apart := false, narrowed := true }
def FnPaddingIsUptoSaid : Prop := fnPaddingIsUptoRow.holds Try.pinned (OpenSpec.upto fnPaddingIsSpec)

/-- 'laws.FnLess16Is', WHERE WHAT IT READS IS OF BULK AT MOST 1048576: true; the input reads as it did. -/
def fnLess16IsUptoRow : OpenClaim := { program := "ytnaihmmfnffejaa", sum := "5015615205c28c3b47383b658ceacbfdff98b089f3f3f5ac767c3560fde12c96", func := "loop.example/pub-g03037/laws.FnLess16Is", spec := "fnLess16Is", apart := false, narrowed := true }
def FnLess16IsUptoSaid : Prop := fnLess16IsUptoRow.holds Try.pinned (OpenSpec.upto fnLess16IsSpec)

/-- 'laws.FnLess32Is', WHERE WHAT IT READS IS OF BULK AT MOST 1048576: true; the input reads as it did. -/
def fnLess32IsUptoRow : OpenClaim := { program := "ytnaihmmfnffejaa", sum := "5015615205c28c3b47383b658ceacbfdff98b089f3f3f5ac767c3560fde12c96", func := "loop.example/pub-g03037/laws.FnLess32Is", spec := "fnLess32Is", apart := false, narrowed := true }
def FnLess32IsUptoSaid : Prop := fnLess32IsUptoRow.holds Try.pinned (OpenSpec.upto fnLess32IsSpec)

end Rows
end Go.Proofs.Ytnaihmmfnffejaa
