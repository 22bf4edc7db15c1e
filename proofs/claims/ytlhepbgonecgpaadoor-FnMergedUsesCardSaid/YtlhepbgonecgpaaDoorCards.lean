/-
  DERIVED. GIVEN WITH THE SEED: THE CARDS: each row of YtlhepbgonecgpaaDoorRows.lean that lists a variable, with what it lists TIED to the program's text (the seventh form; the later family's looks); each row that meets fmt, with fmt's text TOLD by the authors' own Lean function (tested against real Go, not proved from fmt's source: count such statements apart). THE CARD IS WHAT COUNTS. Prove the row's statement (the work); the ties are given (YtlhepbgonecgpaaDoorTie.lean); close each card by the builder's one call (the guide's Derived/Test/ToyasCard.lean, 'card_holds'). Laid BY PROGRAM, IN A SANDBOX (cutbox-door.mjs). By AI agents, Wed Nov 11 2026. No macro, syntax, notation, axiom, sorry.
-/
import Derived.Test.YtlhepbgonecgpaaDoorRows
import GoSem.ClaimSeven
namespace Go.Proofs.YtlhepbgonecgpaaDoor
namespace Rows

/-- THE TIED CARD OF 'laws.FnMergedUses'. -/
def fnMergedUsesCard : Claim7 := { stood := { row := fnMergedUsesRow, standIns := [], harness := (true, "647d7218f5bc32f8f43024f4b3a158a56b8cbe0dc3ebf6c3f9aedd5bb36b8e09"), looks := false }, kinds := [], alts := [], laidByText := true, laidKinds := [.data], laidTests := true, laidLooks := .later }
def FnMergedUsesCardSaid : Prop := Claim7.holds Tryd.pinned (.plain (OpenSpec.ofChange fnMergedUsesSpec)) fnMergedUsesCard

/-- THE SECOND FORM's CARD OF 'laws.FnMergedUses'. -/
def fnMergedUsesUptoCard : Claim7 := { stood := { row := fnMergedUsesUptoRow, standIns := [], harness := (true, "647d7218f5bc32f8f43024f4b3a158a56b8cbe0dc3ebf6c3f9aedd5bb36b8e09"), looks := false }, kinds := [], alts := [], laidByText := true, laidKinds := [.data], laidTests := true, laidLooks := .later }
def FnMergedUsesUptoCardSaid : Prop := Claim7.holds Tryd.pinned (.plain (OpenSpec.upto fnMergedUsesSpec)) fnMergedUsesUptoCard
end Rows
end Go.Proofs.YtlhepbgonecgpaaDoor
