/-
  DERIVED. GIVEN WITH THE SEED: THE CARDS: each row of YtjbegflgbkgjpaaDoorRows.lean that lists a variable, with what it lists TIED to the program's text (the seventh form; the later family's looks); each row that meets fmt, with fmt's text TOLD by the authors' own Lean function (tested against real Go, not proved from fmt's source: count such statements apart). THE CARD IS WHAT COUNTS. Prove the row's statement (the work); the ties are given (YtjbegflgbkgjpaaDoorTie.lean); close each card by the builder's one call (the guide's Derived/Test/ToyasCard.lean, 'card_holds'). Laid BY PROGRAM, IN A SANDBOX (cutbox-door.mjs). By AI agents, Wed Nov 11 2026. No macro, syntax, notation, axiom, sorry.
-/
import Derived.Test.YtjbegflgbkgjpaaDoorRows
import GoSem.ClaimSeven
namespace Go.Proofs.YtjbegflgbkgjpaaDoor
namespace Rows

/-- THE TIED CARD OF 'laws.FnAbortBack'. -/
def fnAbortBackCard : Claim7 := { stood := { row := fnAbortBackRow, standIns := [], harness := (true, "917a84ee60ed46d74f95206c23d9bdc9cca4f7b62ae916b82f04336a91c06433"), looks := false }, kinds := [], alts := [], laidByText := true, laidKinds := [.sentinel, .sentinel, .sentinel, .sentinel, .sentinel, .sentinel], laidTests := true, laidLooks := .later }
def FnAbortBackCardSaid : Prop := Claim7.holds Tryd.pinned (.plain (OpenSpec.ofChange fnAbortBackSpec)) fnAbortBackCard

/-- THE SECOND FORM's CARD OF 'laws.FnAbortBack'. -/
def fnAbortBackUptoCard : Claim7 := { stood := { row := fnAbortBackUptoRow, standIns := [], harness := (true, "917a84ee60ed46d74f95206c23d9bdc9cca4f7b62ae916b82f04336a91c06433"), looks := false }, kinds := [], alts := [], laidByText := true, laidKinds := [.sentinel, .sentinel, .sentinel, .sentinel, .sentinel, .sentinel], laidTests := true, laidLooks := .later }
def FnAbortBackUptoCardSaid : Prop := Claim7.holds Tryd.pinned (.plain (OpenSpec.upto fnAbortBackSpec)) fnAbortBackUptoCard
end Rows
end Go.Proofs.YtjbegflgbkgjpaaDoor
