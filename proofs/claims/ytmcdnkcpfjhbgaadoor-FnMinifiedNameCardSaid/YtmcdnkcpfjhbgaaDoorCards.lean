/-
  DERIVED. GIVEN WITH THE SEED: THE CARDS: each row of YtmcdnkcpfjhbgaaDoorRows.lean that lists a variable, with what it lists TIED to the program's text (the seventh form; the later family's looks); each row that meets fmt, with fmt's text TOLD by the authors' own Lean function (tested against real Go, not proved from fmt's source: count such statements apart). THE CARD IS WHAT COUNTS. Prove the row's statement (the work); the ties are given (YtmcdnkcpfjhbgaaDoorTie.lean); close each card by the builder's one call (the guide's Derived/Test/ToyasCard.lean, 'card_holds'). Laid BY PROGRAM, IN A SANDBOX (cutbox-door.mjs). By AI agents, Wed Nov 11 2026. No macro, syntax, notation, axiom, sorry.
-/
import Derived.Test.YtmcdnkcpfjhbgaaDoorRows
import GoSem.ClaimSeven
namespace Go.Proofs.YtmcdnkcpfjhbgaaDoor
namespace Rows

/-- THE TIED CARD OF 'laws.FnMinifiedName'. -/
def fnMinifiedNameCard : Claim7 := { stood := { row := fnMinifiedNameRow, standIns := [], harness := (true, "595813d7cc6d05a9d36fe6c6940413b4ec9924bc770f613a2f66237f01361805"), looks := false }, kinds := [], alts := [], laidByText := true, laidKinds := [.wider], laidTests := true, laidLooks := .later }
def FnMinifiedNameCardSaid : Prop := Claim7.holds Tryd.pinned (.plain (OpenSpec.ofChange fnMinifiedNameSpec)) fnMinifiedNameCard

/-- THE SECOND FORM's CARD OF 'laws.FnMinifiedName'. -/
def fnMinifiedNameUptoCard : Claim7 := { stood := { row := fnMinifiedNameUptoRow, standIns := [], harness := (true, "595813d7cc6d05a9d36fe6c6940413b4ec9924bc770f613a2f66237f01361805"), looks := false }, kinds := [], alts := [], laidByText := true, laidKinds := [.wider], laidTests := true, laidLooks := .later }
def FnMinifiedNameUptoCardSaid : Prop := Claim7.holds Tryd.pinned (.plain (OpenSpec.upto fnMinifiedNameSpec)) fnMinifiedNameUptoCard
end Rows
end Go.Proofs.YtmcdnkcpfjhbgaaDoor
