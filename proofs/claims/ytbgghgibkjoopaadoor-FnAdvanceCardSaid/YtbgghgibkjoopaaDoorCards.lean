/-
  DERIVED. GIVEN WITH THE SEED: THE CARDS: each row of YtbgghgibkjoopaaDoorRows.lean that lists a variable, with what it lists TIED to the program's text (the seventh form; the later family's looks); each row that meets fmt, with fmt's text TOLD by the authors' own Lean function (tested against real Go, not proved from fmt's source: count such statements apart). THE CARD IS WHAT COUNTS. Prove the row's statement (the work); the ties are given (YtbgghgibkjoopaaDoorTie.lean); close each card by the builder's one call (the guide's Derived/Test/ToyasCard.lean, 'card_holds'). Laid BY PROGRAM, IN A SANDBOX (cutbox-door.mjs). By AI agents, Wed Nov 11 2026. No macro, syntax, notation, axiom, sorry.
-/
import Derived.Test.YtbgghgibkjoopaaDoorRows
import GoSem.ClaimSeven
namespace Go.Proofs.YtbgghgibkjoopaaDoor
namespace Rows

/-- THE TIED CARD OF 'laws.FnAdvance'. -/
def fnAdvanceCard : Claim7 := { stood := { row := fnAdvanceRow, standIns := [], harness := (true, "e68e1380d8f97870fefb8bf87c99e613e8e8323b3270ee4112d0a494a0a21ca8"), looks := false }, kinds := [], alts := [], laidByText := true, laidKinds := [.data, .pinned], laidTests := true, laidLooks := .later }
def FnAdvanceCardSaid : Prop := Claim7.holds Tryd.pinned (.plain (OpenSpec.ofChange fnAdvanceSpec)) fnAdvanceCard

/-- THE SECOND FORM's CARD OF 'laws.FnAdvance'. -/
def fnAdvanceUptoCard : Claim7 := { stood := { row := fnAdvanceUptoRow, standIns := [], harness := (true, "e68e1380d8f97870fefb8bf87c99e613e8e8323b3270ee4112d0a494a0a21ca8"), looks := false }, kinds := [], alts := [], laidByText := true, laidKinds := [.data, .pinned], laidTests := true, laidLooks := .later }
def FnAdvanceUptoCardSaid : Prop := Claim7.holds Tryd.pinned (.plain (OpenSpec.upto fnAdvanceSpec)) fnAdvanceUptoCard
end Rows
end Go.Proofs.YtbgghgibkjoopaaDoor
