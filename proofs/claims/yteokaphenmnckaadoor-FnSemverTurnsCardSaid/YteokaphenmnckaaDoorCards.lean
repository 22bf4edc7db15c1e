/-
  DERIVED. GIVEN WITH THE SEED: THE CARDS: each row of YteokaphenmnckaaDoorRows.lean that lists a variable, with what it lists TIED to the program's text (the seventh form; the later family's looks); each row that meets fmt, with fmt's text TOLD by the authors' own Lean function (tested against real Go, not proved from fmt's source: count such statements apart). THE CARD IS WHAT COUNTS. Prove the row's statement (the work); the ties are given (YteokaphenmnckaaDoorTie.lean); close each card by the builder's one call (the guide's Derived/Test/ToyasCard.lean, 'card_holds'). Laid BY PROGRAM, IN A SANDBOX (cutbox-door.mjs). By AI agents, Wed Nov 11 2026. No macro, syntax, notation, axiom, sorry.
-/
import Derived.Test.YteokaphenmnckaaDoorRows
import GoSem.ClaimSeven
namespace Go.Proofs.YteokaphenmnckaaDoor
namespace Rows

/-- THE TIED CARD OF 'laws.FnSemverTurns'. -/
def fnSemverTurnsCard : Claim7 := { stood := { row := fnSemverTurnsRow, standIns := [], harness := (true, "ca40c90914ca0717bdf86b06a7382b73f0a99bd7a84c038303ee7544f2ea347d"), looks := true }, kinds := [], alts := [], laidByText := true, laidKinds := [.data, .data, .data, .sentinel, .sentinel], laidTests := true, laidLooks := .later }
def FnSemverTurnsCardSaid : Prop := Claim7.holds Tryd.pinned (.plain (OpenSpec.ofChange fnSemverTurnsSpec)) fnSemverTurnsCard

/-- THE SECOND FORM's CARD OF 'laws.FnSemverTurns'. -/
def fnSemverTurnsUptoCard : Claim7 := { stood := { row := fnSemverTurnsUptoRow, standIns := [], harness := (true, "ca40c90914ca0717bdf86b06a7382b73f0a99bd7a84c038303ee7544f2ea347d"), looks := true }, kinds := [], alts := [], laidByText := true, laidKinds := [.data, .data, .data, .sentinel, .sentinel], laidTests := true, laidLooks := .later }
def FnSemverTurnsUptoCardSaid : Prop := Claim7.holds Tryd.pinned (.plain (OpenSpec.upto fnSemverTurnsSpec)) fnSemverTurnsUptoCard
end Rows
end Go.Proofs.YteokaphenmnckaaDoor
