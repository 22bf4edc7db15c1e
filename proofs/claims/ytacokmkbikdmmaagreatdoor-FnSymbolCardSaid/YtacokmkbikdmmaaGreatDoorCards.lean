/-
  DERIVED. GIVEN WITH THE SEED: THE CARDS: each row of YtacokmkbikdmmaaGreatDoorRows.lean that lists a variable, with what it lists TIED to the program's text (the seventh form; the later family's looks); each row that meets fmt, with fmt's text TOLD by the authors' own Lean function (tested against real Go, not proved from fmt's source: count such statements apart). THE CARD IS WHAT COUNTS. Prove the row's statement (the work); the ties are given (YtacokmkbikdmmaaGreatDoorTie.lean); close each card by the builder's one call (the guide's Derived/Test/ToyasCard.lean, 'card_holds'). Laid BY PROGRAM, IN A SANDBOX (cutbox-door.mjs). By AI agents, Wed Nov 11 2026. No macro, syntax, notation, axiom, sorry.
-/
import Derived.Test.YtacokmkbikdmmaaGreatDoorRows
import GoSem.ClaimSeven
namespace Go.Proofs.YtacokmkbikdmmaaGreatDoor
namespace Rows

/-- THE TIED CARD OF 'laws.FnChains'. -/
def fnChainsCard : Claim7 := { stood := { row := fnChainsRow, standIns := [], harness := (true, "c8eeaec9cb220fba493476f76fa3e8362dae3480f30ab66b46ec7cde9183151b"), looks := true }, kinds := [], alts := [], laidByText := true, laidKinds := [.data], laidTests := true, laidLooks := .later }
def FnChainsCardSaid : Prop := Claim7.holds Tryz.pinned (.plain (OpenSpec.ofChange fnChainsSpec)) fnChainsCard

/-- THE TIED CARD OF 'laws.FnSymbol'. -/
def fnSymbolCard : Claim7 := { stood := { row := fnSymbolRow, standIns := [], harness := (true, "c8eeaec9cb220fba493476f76fa3e8362dae3480f30ab66b46ec7cde9183151b"), looks := true }, kinds := [], alts := [], laidByText := true, laidKinds := [.data], laidTests := true, laidLooks := .later }
def FnSymbolCardSaid : Prop := Claim7.holds Tryz.pinned (.plain (OpenSpec.ofChange fnSymbolSpec)) fnSymbolCard

/-- THE TIED CARD OF 'laws.FnBack'. -/
def fnBackCard : Claim7 := { stood := { row := fnBackRow, standIns := [], harness := (true, "c8eeaec9cb220fba493476f76fa3e8362dae3480f30ab66b46ec7cde9183151b"), looks := true }, kinds := [], alts := [], laidByText := true, laidKinds := [.data], laidTests := true, laidLooks := .later }
def FnBackCardSaid : Prop := Claim7.holds Tryz.pinned (.plain (OpenSpec.ofChange fnBackSpec)) fnBackCard

/-- THE SECOND FORM's CARD OF 'laws.FnChains'. -/
def fnChainsUptoCard : Claim7 := { stood := { row := fnChainsUptoRow, standIns := [], harness := (true, "c8eeaec9cb220fba493476f76fa3e8362dae3480f30ab66b46ec7cde9183151b"), looks := true }, kinds := [], alts := [], laidByText := true, laidKinds := [.data], laidTests := true, laidLooks := .later }
def FnChainsUptoCardSaid : Prop := Claim7.holds Tryz.pinned (.plain (OpenSpec.upto fnChainsSpec)) fnChainsUptoCard

/-- THE SECOND FORM's CARD OF 'laws.FnSymbol'. -/
def fnSymbolUptoCard : Claim7 := { stood := { row := fnSymbolUptoRow, standIns := [], harness := (true, "c8eeaec9cb220fba493476f76fa3e8362dae3480f30ab66b46ec7cde9183151b"), looks := true }, kinds := [], alts := [], laidByText := true, laidKinds := [.data], laidTests := true, laidLooks := .later }
def FnSymbolUptoCardSaid : Prop := Claim7.holds Tryz.pinned (.plain (OpenSpec.upto fnSymbolSpec)) fnSymbolUptoCard

/-- THE SECOND FORM's CARD OF 'laws.FnBack'. -/
def fnBackUptoCard : Claim7 := { stood := { row := fnBackUptoRow, standIns := [], harness := (true, "c8eeaec9cb220fba493476f76fa3e8362dae3480f30ab66b46ec7cde9183151b"), looks := true }, kinds := [], alts := [], laidByText := true, laidKinds := [.data], laidTests := true, laidLooks := .later }
def FnBackUptoCardSaid : Prop := Claim7.holds Tryz.pinned (.plain (OpenSpec.upto fnBackSpec)) fnBackUptoCard
end Rows
end Go.Proofs.YtacokmkbikdmmaaGreatDoor
