/-
  DERIVED. GIVEN WITH THE SEED: THE CARDS: each row of YtnlkmcbhhljajaaDoorRows.lean that lists a variable, with what it lists TIED to the program's text (the seventh form; the later family's looks); each row that meets fmt, with fmt's text TOLD by the authors' own Lean function (tested against real Go, not proved from fmt's source: count such statements apart). THE CARD IS WHAT COUNTS. Prove the row's statement (the work); the ties are given (YtnlkmcbhhljajaaDoorTie.lean); close each card by the builder's one call (the guide's Derived/Test/ToyasCard.lean, 'card_holds'). Laid BY PROGRAM, IN A SANDBOX (cutbox-door.mjs). By AI agents, Wed Nov 11 2026. No macro, syntax, notation, axiom, sorry.
-/
import Derived.Test.YtnlkmcbhhljajaaDoorRows
import GoSem.ClaimSeven
namespace Go.Proofs.YtnlkmcbhhljajaaDoor
namespace Rows

/-- THE TIED CARD OF 'laws.FnReassembleIs'. -/
def fnReassembleIsCard : Claim7 := { stood := { row := fnReassembleIsRow, standIns := [], harness := (true, "694b6e5f4d21fb4a6f3230c4b4e0a7e3e3ddc03de11d0e69b09ddfc51da77d06"), looks := false }, kinds := [], alts := [], laidByText := true, laidKinds := [.sentinel, .sentinel, .sentinel, .sentinel], laidTests := true, laidLooks := .later }
def FnReassembleIsCardSaid : Prop := Claim7.holds Tryd.pinned (.plain (OpenSpec.ofChange fnReassembleIsSpec)) fnReassembleIsCard

/-- THE SECOND FORM's CARD OF 'laws.FnReassembleIs'. -/
def fnReassembleIsUptoCard : Claim7 := { stood := { row := fnReassembleIsUptoRow, standIns := [], harness := (true, "694b6e5f4d21fb4a6f3230c4b4e0a7e3e3ddc03de11d0e69b09ddfc51da77d06"), looks := false }, kinds := [], alts := [], laidByText := true, laidKinds := [.sentinel, .sentinel, .sentinel, .sentinel], laidTests := true, laidLooks := .later }
def FnReassembleIsUptoCardSaid : Prop := Claim7.holds Tryd.pinned (.plain (OpenSpec.upto fnReassembleIsSpec)) fnReassembleIsUptoCard
end Rows
end Go.Proofs.YtnlkmcbhhljajaaDoor
