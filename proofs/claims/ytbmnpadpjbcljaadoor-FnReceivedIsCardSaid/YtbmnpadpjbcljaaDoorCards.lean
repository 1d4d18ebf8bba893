/-
  DERIVED. GIVEN WITH THE SEED: THE CARDS: each row of YtbmnpadpjbcljaaDoorRows.lean that lists a variable, with what it lists TIED to the program's text (the seventh form; the later family's looks); each row that meets fmt, with fmt's text TOLD by the authors' own Lean function (tested against real Go, not proved from fmt's source: count such statements apart). THE CARD IS WHAT COUNTS. Prove the row's statement (the work); the ties are given (YtbmnpadpjbcljaaDoorTie.lean); close each card by the builder's one call (the guide's Derived/Test/ToyasCard.lean, 'card_holds'). Laid BY PROGRAM, IN A SANDBOX (cutbox-door.mjs). By AI agents, Wed Nov 11 2026. No macro, syntax, notation, axiom, sorry.
-/
import Derived.Test.YtbmnpadpjbcljaaDoorRows
import GoSem.ClaimSeven
namespace Go.Proofs.YtbmnpadpjbcljaaDoor
namespace Rows

/-- THE TIED CARD OF 'laws.FnReceivedIs'. -/
def fnReceivedIsCard : Claim7 := { stood := { row := fnReceivedIsRow, standIns := [], harness := (true, "0e4fc6deb10094c5335cc6be511ae0b86ad71ab2d7fcb2ca32ff7ab69ed80766"), looks := false }, kinds := [], alts := [], laidByText := true, laidKinds := [.data], laidTests := true, laidLooks := .later }
def FnReceivedIsCardSaid : Prop := Claim7.holds Tryd.pinned (.plain (OpenSpec.ofChange fnReceivedIsSpec)) fnReceivedIsCard

/-- THE SECOND FORM's CARD OF 'laws.FnReceivedIs'. -/
def fnReceivedIsUptoCard : Claim7 := { stood := { row := fnReceivedIsUptoRow, standIns := [], harness := (true, "0e4fc6deb10094c5335cc6be511ae0b86ad71ab2d7fcb2ca32ff7ab69ed80766"), looks := false }, kinds := [], alts := [], laidByText := true, laidKinds := [.data], laidTests := true, laidLooks := .later }
def FnReceivedIsUptoCardSaid : Prop := Claim7.holds Tryd.pinned (.plain (OpenSpec.upto fnReceivedIsSpec)) fnReceivedIsUptoCard
end Rows
end Go.Proofs.YtbmnpadpjbcljaaDoor
