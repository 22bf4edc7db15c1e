/-
  DERIVED. GIVEN WITH THE SEED: THE CARDS: each row of YtgflhmihmdflcaaDoorRows.lean that lists a variable, with what it lists TIED to the program's text (the seventh form; the later family's looks); each row that meets fmt, with fmt's text TOLD by the authors' own Lean function (tested against real Go, not proved from fmt's source: count such statements apart). THE CARD IS WHAT COUNTS. Prove the row's statement (the work); the ties are given (YtgflhmihmdflcaaDoorTie.lean); close each card by the builder's one call (the guide's Derived/Test/ToyasCard.lean, 'card_holds'). Laid BY PROGRAM, IN A SANDBOX (cutbox-door.mjs). By AI agents, Wed Nov 11 2026. No macro, syntax, notation, axiom, sorry.
-/
import Derived.Test.YtgflhmihmdflcaaDoorRows
import GoSem.ClaimSeven
namespace Go.Proofs.YtgflhmihmdflcaaDoor
namespace Rows

/-- THE TIED CARD OF 'laws.FnExportNames'. -/
def fnExportNamesCard : Claim7 := { stood := { row := fnExportNamesRow, standIns := [], harness := (true, "e89cb886fb0f6261f5140525b17fe4b83c28789e1d261bc7533c2a8f1f279ebb"), looks := false }, kinds := [], alts := [], laidByText := true, laidKinds := [.data, .data, .data, .wider], laidTests := true, laidLooks := .later }
def FnExportNamesCardSaid : Prop := Claim7.holds Tryd.pinned (.plain (OpenSpec.ofChange fnExportNamesSpec)) fnExportNamesCard

/-- THE SECOND FORM's CARD OF 'laws.FnExportNames'. -/
def fnExportNamesUptoCard : Claim7 := { stood := { row := fnExportNamesUptoRow, standIns := [], harness := (true, "e89cb886fb0f6261f5140525b17fe4b83c28789e1d261bc7533c2a8f1f279ebb"), looks := false }, kinds := [], alts := [], laidByText := true, laidKinds := [.data, .data, .data, .wider], laidTests := true, laidLooks := .later }
def FnExportNamesUptoCardSaid : Prop := Claim7.holds Tryd.pinned (.plain (OpenSpec.upto fnExportNamesSpec)) fnExportNamesUptoCard
end Rows
end Go.Proofs.YtgflhmihmdflcaaDoor
