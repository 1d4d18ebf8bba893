/-
  DERIVED. GIVEN WITH THE SEED: THE CARDS: each row of YtokkhfjlbnochaaDoorRows.lean that lists a variable, with what it lists TIED to the program's text (the seventh form; the later family's looks); each row that meets fmt, with fmt's text TOLD by the authors' own Lean function (tested against real Go, not proved from fmt's source: count such statements apart). THE CARD IS WHAT COUNTS. Prove the row's statement (the work); the ties are given (YtokkhfjlbnochaaDoorTie.lean); close each card by the builder's one call (the guide's Derived/Test/ToyasCard.lean, 'card_holds'). Laid BY PROGRAM, IN A SANDBOX (cutbox-door.mjs). By AI agents, Wed Nov 11 2026. No macro, syntax, notation, axiom, sorry.
-/
import Derived.Test.YtokkhfjlbnochaaDoorRows
import GoSem.ClaimSeven
namespace Go.Proofs.YtokkhfjlbnochaaDoor
namespace Rows

/-- THE TIED CARD OF 'laws.FnInitIs'. -/
def fnInitIsCard : Claim7 := { stood := { row := fnInitIsRow, standIns := [], harness := (true, "b651f96fb4a9226f383245498d68ce136894135630542243011ae7e7d4602a89"), looks := false }, kinds := [], alts := [], laidByText := true, laidKinds := [.sentinel, .sentinel, .sentinel, .sentinel, .sentinel, .sentinel, .sentinel, .sentinel, .sentinel, .sentinel, .sentinel, .sentinel, .sentinel, .sentinel, .sentinel, .sentinel, .sentinel, .sentinel, .sentinel, .sentinel, .sentinel, .sentinel, .sentinel, .sentinel, .sentinel, .sentinel, .sentinel], laidTests := true, laidLooks := .later }
def FnInitIsCardSaid : Prop := Claim7.holds Tryd.pinned (.plain (OpenSpec.ofChange fnInitIsSpec)) fnInitIsCard

/-- THE SECOND FORM's CARD OF 'laws.FnInitIs'. -/
def fnInitIsUptoCard : Claim7 := { stood := { row := fnInitIsUptoRow, standIns := [], harness := (true, "b651f96fb4a9226f383245498d68ce136894135630542243011ae7e7d4602a89"), looks := false }, kinds := [], alts := [], laidByText := true, laidKinds := [.sentinel, .sentinel, .sentinel, .sentinel, .sentinel, .sentinel, .sentinel, .sentinel, .sentinel, .sentinel, .sentinel, .sentinel, .sentinel, .sentinel, .sentinel, .sentinel, .sentinel, .sentinel, .sentinel, .sentinel, .sentinel, .sentinel, .sentinel, .sentinel, .sentinel, .sentinel, .sentinel], laidTests := true, laidLooks := .later }
def FnInitIsUptoCardSaid : Prop := Claim7.holds Tryd.pinned (.plain (OpenSpec.upto fnInitIsSpec)) fnInitIsUptoCard
end Rows
end Go.Proofs.YtokkhfjlbnochaaDoor
