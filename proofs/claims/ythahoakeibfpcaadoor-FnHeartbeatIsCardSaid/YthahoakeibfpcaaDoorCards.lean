/-
  DERIVED. GIVEN WITH THE SEED: THE CARDS: each row of YthahoakeibfpcaaDoorRows.lean that lists a variable, with what it lists TIED to the program's text (the seventh form; the later family's looks); each row that meets fmt, with fmt's text TOLD by the authors' own Lean function (tested against real Go, not proved from fmt's source: count such statements apart). THE CARD IS WHAT COUNTS. Prove the row's statement (the work); the ties are given (YthahoakeibfpcaaDoorTie.lean); close each card by the builder's one call (the guide's Derived/Test/ToyasCard.lean, 'card_holds'). Laid BY PROGRAM, IN A SANDBOX (cutbox-door.mjs). By AI agents, Wed Nov 11 2026. No macro, syntax, notation, axiom, sorry.
-/
import Derived.Test.YthahoakeibfpcaaDoorRows
import GoSem.ClaimSeven
namespace Go.Proofs.YthahoakeibfpcaaDoor
namespace Rows

/-- THE TIED CARD OF 'laws.FnHeartbeatIs'. -/
def fnHeartbeatIsCard : Claim7 := { stood := { row := fnHeartbeatIsRow, standIns := [], harness := (true, "7fcb97db014eacad988a23672785e1ddfc13b6bcd03be47831299a8225e9732c"), looks := true }, kinds := [], alts := [], laidByText := true, laidKinds := [.sentinel, .sentinel, .sentinel, .sentinel, .sentinel, .sentinel, .sentinel, .sentinel, .sentinel, .sentinel, .sentinel, .sentinel, .sentinel, .sentinel, .sentinel, .sentinel, .sentinel, .sentinel, .sentinel, .sentinel, .sentinel, .sentinel, .sentinel, .sentinel, .sentinel, .sentinel], laidTests := true, laidLooks := .later }
def FnHeartbeatIsCardSaid : Prop := Claim7.holds Tryd.pinned (.plain (OpenSpec.ofChange fnHeartbeatIsSpec)) fnHeartbeatIsCard

/-- THE SECOND FORM's CARD OF 'laws.FnHeartbeatIs'. -/
def fnHeartbeatIsUptoCard : Claim7 := { stood := { row := fnHeartbeatIsUptoRow, standIns := [], harness := (true, "7fcb97db014eacad988a23672785e1ddfc13b6bcd03be47831299a8225e9732c"), looks := true }, kinds := [], alts := [], laidByText := true, laidKinds := [.sentinel, .sentinel, .sentinel, .sentinel, .sentinel, .sentinel, .sentinel, .sentinel, .sentinel, .sentinel, .sentinel, .sentinel, .sentinel, .sentinel, .sentinel, .sentinel, .sentinel, .sentinel, .sentinel, .sentinel, .sentinel, .sentinel, .sentinel, .sentinel, .sentinel, .sentinel], laidTests := true, laidLooks := .later }
def FnHeartbeatIsUptoCardSaid : Prop := Claim7.holds Tryd.pinned (.plain (OpenSpec.upto fnHeartbeatIsSpec)) fnHeartbeatIsUptoCard
end Rows
end Go.Proofs.YthahoakeibfpcaaDoor
