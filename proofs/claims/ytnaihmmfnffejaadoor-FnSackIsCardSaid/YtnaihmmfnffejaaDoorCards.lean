/-
  DERIVED. GIVEN WITH THE SEED: THE CARDS: each row of YtnaihmmfnffejaaDoorRows.lean that lists a variable, with what it lists TIED to the program's text (the seventh form; the later family's looks); each row that meets fmt, with fmt's text TOLD by the authors' own Lean function (tested against real Go, not proved from fmt's source: count such statements apart). THE CARD IS WHAT COUNTS. Prove the row's statement (the work); the ties are given (YtnaihmmfnffejaaDoorTie.lean); close each card by the builder's one call (the guide's Derived/Test/ToyasCard.lean, 'card_holds'). Laid BY PROGRAM, IN A SANDBOX (cutbox-door.mjs). By AI agents, Wed Nov 11 2026. No macro, syntax, notation, axiom, sorry.
-/
import Derived.Test.YtnaihmmfnffejaaDoorRows
import GoSem.ClaimSeven
namespace Go.Proofs.YtnaihmmfnffejaaDoor
namespace Rows

/-- THE TIED CARD OF 'laws.FnEmptyIs'. -/
def fnEmptyIsCard : Claim7 := { stood := { row := fnEmptyIsRow, standIns := [], harness := (true, "5b8b366d6a502180a118a3d40391abafecfc0c836c346ee2e0da411dd3003279"), looks := false }, kinds := [], alts := [], laidByText := true, laidKinds := [.sentinel], laidTests := true, laidLooks := .later }
def FnEmptyIsCardSaid : Prop := Claim7.holds Tryd.pinned (.plain (OpenSpec.ofChange fnEmptyIsSpec)) fnEmptyIsCard

/-- THE TIED CARD OF 'laws.FnChunkCut'. -/
def fnChunkCutCard : Claim7 := { stood := { row := fnChunkCutRow, standIns := [], harness := (true, "5b8b366d6a502180a118a3d40391abafecfc0c836c346ee2e0da411dd3003279"), looks := false }, kinds := [], alts := [], laidByText := true, laidKinds := [.sentinel, .sentinel, .sentinel], laidTests := true, laidLooks := .later }
def FnChunkCutCardSaid : Prop := Claim7.holds Tryd.pinned (.plain (OpenSpec.ofChange fnChunkCutSpec)) fnChunkCutCard

/-- THE TIED CARD OF 'laws.FnChunkIs'. -/
def fnChunkIsCard : Claim7 := { stood := { row := fnChunkIsRow, standIns := [], harness := (true, "5b8b366d6a502180a118a3d40391abafecfc0c836c346ee2e0da411dd3003279"), looks := false }, kinds := [], alts := [], laidByText := true, laidKinds := [.sentinel, .sentinel, .sentinel], laidTests := true, laidLooks := .later }
def FnChunkIsCardSaid : Prop := Claim7.holds Tryd.pinned (.plain (OpenSpec.ofChange fnChunkIsSpec)) fnChunkIsCard

/-- THE TIED CARD OF 'laws.FnCookieIs'. -/
def fnCookieIsCard : Claim7 := { stood := { row := fnCookieIsRow, standIns := [], harness := (true, "5b8b366d6a502180a118a3d40391abafecfc0c836c346ee2e0da411dd3003279"), looks := false }, kinds := [], alts := [], laidByText := true, laidKinds := [.sentinel, .sentinel, .sentinel, .sentinel], laidTests := true, laidLooks := .later }
def FnCookieIsCardSaid : Prop := Claim7.holds Tryd.pinned (.plain (OpenSpec.ofChange fnCookieIsSpec)) fnCookieIsCard

/-- THE TIED CARD OF 'laws.FnShutdownIs'. -/
def fnShutdownIsCard : Claim7 := { stood := { row := fnShutdownIsRow, standIns := [], harness := (true, "5b8b366d6a502180a118a3d40391abafecfc0c836c346ee2e0da411dd3003279"), looks := false }, kinds := [], alts := [], laidByText := true, laidKinds := [.sentinel, .sentinel, .sentinel, .sentinel, .sentinel], laidTests := true, laidLooks := .later }
def FnShutdownIsCardSaid : Prop := Claim7.holds Tryd.pinned (.plain (OpenSpec.ofChange fnShutdownIsSpec)) fnShutdownIsCard

/-- THE TIED CARD OF 'laws.FnSackIs'. -/
def fnSackIsCard : Claim7 := { stood := { row := fnSackIsRow, standIns := [], harness := (true, "5b8b366d6a502180a118a3d40391abafecfc0c836c346ee2e0da411dd3003279"), looks := false }, kinds := [], alts := [], laidByText := true, laidKinds := [.sentinel, .sentinel, .sentinel, .sentinel, .sentinel, .sentinel], laidTests := true, laidLooks := .later }
def FnSackIsCardSaid : Prop := Claim7.holds Tryd.pinned (.plain (OpenSpec.ofChange fnSackIsSpec)) fnSackIsCard

/-- THE TIED CARD OF 'laws.FnForwardIs'. -/
def fnForwardIsCard : Claim7 := { stood := { row := fnForwardIsRow, standIns := [], harness := (true, "5b8b366d6a502180a118a3d40391abafecfc0c836c346ee2e0da411dd3003279"), looks := false }, kinds := [], alts := [], laidByText := true, laidKinds := [.sentinel, .sentinel, .sentinel, .sentinel, .sentinel], laidTests := true, laidLooks := .later }
def FnForwardIsCardSaid : Prop := Claim7.holds Tryd.pinned (.plain (OpenSpec.ofChange fnForwardIsSpec)) fnForwardIsCard

/-- THE TIED CARD OF 'laws.FnDataIs'. -/
def fnDataIsCard : Claim7 := { stood := { row := fnDataIsRow, standIns := [], harness := (true, "5b8b366d6a502180a118a3d40391abafecfc0c836c346ee2e0da411dd3003279"), looks := false }, kinds := [], alts := [], laidByText := true, laidKinds := [.sentinel, .sentinel, .sentinel, .sentinel, .sentinel], laidTests := true, laidLooks := .later }
def FnDataIsCardSaid : Prop := Claim7.holds Tryd.pinned (.plain (OpenSpec.ofChange fnDataIsSpec)) fnDataIsCard

/-- THE TIED CARD OF 'laws.FnDataUser'. -/
def fnDataUserCard : Claim7 := { stood := { row := fnDataUserRow, standIns := [], harness := (true, "5b8b366d6a502180a118a3d40391abafecfc0c836c346ee2e0da411dd3003279"), looks := false }, kinds := [], alts := [], laidByText := true, laidKinds := [.sentinel, .sentinel, .sentinel, .sentinel, .sentinel], laidTests := true, laidLooks := .later }
def FnDataUserCardSaid : Prop := Claim7.holds Tryd.pinned (.plain (OpenSpec.ofChange fnDataUserSpec)) fnDataUserCard

/-- THE SECOND FORM's CARD OF 'laws.FnEmptyIs'. -/
def fnEmptyIsUptoCard : Claim7 := { stood := { row := fnEmptyIsUptoRow, standIns := [], harness := (true, "5b8b366d6a502180a118a3d40391abafecfc0c836c346ee2e0da411dd3003279"), looks := false }, kinds := [], alts := [], laidByText := true, laidKinds := [.sentinel], laidTests := true, laidLooks := .later }
def FnEmptyIsUptoCardSaid : Prop := Claim7.holds Tryd.pinned (.plain (OpenSpec.upto fnEmptyIsSpec)) fnEmptyIsUptoCard

/-- THE SECOND FORM's CARD OF 'laws.FnChunkCut'. -/
def fnChunkCutUptoCard : Claim7 := { stood := { row := fnChunkCutUptoRow, standIns := [], harness := (true, "5b8b366d6a502180a118a3d40391abafecfc0c836c346ee2e0da411dd3003279"), looks := false }, kinds := [], alts := [], laidByText := true, laidKinds := [.sentinel, .sentinel, .sentinel], laidTests := true, laidLooks := .later }
def FnChunkCutUptoCardSaid : Prop := Claim7.holds Tryd.pinned (.plain (OpenSpec.upto fnChunkCutSpec)) fnChunkCutUptoCard

/-- THE SECOND FORM's CARD OF 'laws.FnChunkIs'. -/
def fnChunkIsUptoCard : Claim7 := { stood := { row := fnChunkIsUptoRow, standIns := [], harness := (true, "5b8b366d6a502180a118a3d40391abafecfc0c836c346ee2e0da411dd3003279"), looks := false }, kinds := [], alts := [], laidByText := true, laidKinds := [.sentinel, .sentinel, .sentinel], laidTests := true, laidLooks := .later }
def FnChunkIsUptoCardSaid : Prop := Claim7.holds Tryd.pinned (.plain (OpenSpec.upto fnChunkIsSpec)) fnChunkIsUptoCard

/-- THE SECOND FORM's CARD OF 'laws.FnCookieIs'. -/
def fnCookieIsUptoCard : Claim7 := { stood := { row := fnCookieIsUptoRow, standIns := [], harness := (true, "5b8b366d6a502180a118a3d40391abafecfc0c836c346ee2e0da411dd3003279"), looks := false }, kinds := [], alts := [], laidByText := true, laidKinds := [.sentinel, .sentinel, .sentinel, .sentinel], laidTests := true, laidLooks := .later }
def FnCookieIsUptoCardSaid : Prop := Claim7.holds Tryd.pinned (.plain (OpenSpec.upto fnCookieIsSpec)) fnCookieIsUptoCard

/-- THE SECOND FORM's CARD OF 'laws.FnShutdownIs'. -/
def fnShutdownIsUptoCard : Claim7 := { stood := { row := fnShutdownIsUptoRow, standIns := [], harness := (true, "5b8b366d6a502180a118a3d40391abafecfc0c836c346ee2e0da411dd3003279"), looks := false }, kinds := [], alts := [], laidByText := true, laidKinds := [.sentinel, .sentinel, .sentinel, .sentinel, .sentinel], laidTests := true, laidLooks := .later }
def FnShutdownIsUptoCardSaid : Prop := Claim7.holds Tryd.pinned (.plain (OpenSpec.upto fnShutdownIsSpec)) fnShutdownIsUptoCard

/-- THE SECOND FORM's CARD OF 'laws.FnSackIs'. -/
def fnSackIsUptoCard : Claim7 := { stood := { row := fnSackIsUptoRow, standIns := [], harness := (true, "5b8b366d6a502180a118a3d40391abafecfc0c836c346ee2e0da411dd3003279"), looks := false }, kinds := [], alts := [], laidByText := true, laidKinds := [.sentinel, .sentinel, .sentinel, .sentinel, .sentinel, .sentinel], laidTests := true, laidLooks := .later }
def FnSackIsUptoCardSaid : Prop := Claim7.holds Tryd.pinned (.plain (OpenSpec.upto fnSackIsSpec)) fnSackIsUptoCard

/-- THE SECOND FORM's CARD OF 'laws.FnForwardIs'. -/
def fnForwardIsUptoCard : Claim7 := { stood := { row := fnForwardIsUptoRow, standIns := [], harness := (true, "5b8b366d6a502180a118a3d40391abafecfc0c836c346ee2e0da411dd3003279"), looks := false }, kinds := [], alts := [], laidByText := true, laidKinds := [.sentinel, .sentinel, .sentinel, .sentinel, .sentinel], laidTests := true, laidLooks := .later }
def FnForwardIsUptoCardSaid : Prop := Claim7.holds Tryd.pinned (.plain (OpenSpec.upto fnForwardIsSpec)) fnForwardIsUptoCard

/-- THE SECOND FORM's CARD OF 'laws.FnDataIs'. -/
def fnDataIsUptoCard : Claim7 := { stood := { row := fnDataIsUptoRow, standIns := [], harness := (true, "5b8b366d6a502180a118a3d40391abafecfc0c836c346ee2e0da411dd3003279"), looks := false }, kinds := [], alts := [], laidByText := true, laidKinds := [.sentinel, .sentinel, .sentinel, .sentinel, .sentinel], laidTests := true, laidLooks := .later }
def FnDataIsUptoCardSaid : Prop := Claim7.holds Tryd.pinned (.plain (OpenSpec.upto fnDataIsSpec)) fnDataIsUptoCard

/-- THE SECOND FORM's CARD OF 'laws.FnDataUser'. -/
def fnDataUserUptoCard : Claim7 := { stood := { row := fnDataUserUptoRow, standIns := [], harness := (true, "5b8b366d6a502180a118a3d40391abafecfc0c836c346ee2e0da411dd3003279"), looks := false }, kinds := [], alts := [], laidByText := true, laidKinds := [.sentinel, .sentinel, .sentinel, .sentinel, .sentinel], laidTests := true, laidLooks := .later }
def FnDataUserUptoCardSaid : Prop := Claim7.holds Tryd.pinned (.plain (OpenSpec.upto fnDataUserSpec)) fnDataUserUptoCard
end Rows
end Go.Proofs.YtnaihmmfnffejaaDoor
