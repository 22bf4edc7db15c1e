/-
  NARROWER THAN 'FOR EVERY INPUT', by the rows' own cells (each row's printed sentence says how): FnMinifiedName: laid.
  DERIVED. THE GIVEN ROWS OF THIS SEAT. 1 by the template 'for every input the law returns true; each argument reads behind the call as it read before'; 0 by the template 'total and deterministic' (their statements: YtmcdnkcpfjhbgaaDoorTotals.lean).
  GIVEN WITH THE SEED: the statements are not yours to turn. If you find one false, say at which input.
  Laid BY PROGRAM, IN A SANDBOX (cutbox-rows.mjs): the forced cells as the released guide's own fill.sh prints them over the translation 8cd239bb75998f5f… (all of the seat's roots in one cut). By AI agents, Wed Nov 11 2026. No macro, syntax, notation, axiom, sorry.
-/
import Derived.Test.YtmcdnkcpfjhbgaaDoorChecked
import GoSem.Claim
import GoSem.ClaimJoined
import GoSem.ClaimMapViews
import Derived.JoinedTies
import Derived.KernelRfl
namespace Go.Proofs.YtmcdnkcpfjhbgaaDoor
/- THE CELL 'sum', in the pinned program and in every row, IS THE sha256 OF THE DUMP (.gsa) THAT YtmcdnkcpfjhbgaaDoorProg.lean LOADS. Nothing in Lean hashes anything: it is a label: what it is worth is what the hold of that sum in a sandbox is worth. -/
noncomputable def Tryd.pinned : Pinned := { name := "ytmcdnkcpfjhbgaadoor", sum := "8cd239bb75998f5fb9ca775bf1f5ce7327f8ba4f011e27d1ae5665dc4565e45d", checked := Tryd.checked }
namespace Rows
def none {H : Type} : Left H := { results := [], args := [] }

/- WHAT THE LISTED PACKAGE-LEVEL VARIABLES READ AS WHEN THE CALL BEGINS. Each datum BY PROGRAM (the guide's laid-datum.mjs) off the statement by which the dump's own 'gosem.cut.vars' lays the variable. In a bare row this is a premise. The card (YtmcdnkcpfjhbgaaDoorCards.lean) ties it to the program's text. -/
def laid_given_example_pub_frisket_pub_esbuild_inner_ast_DefaultNameMinifierJS {H : Type} : DataW H := .agg [.lit (.string [97, 98, 99, 100, 101, 102, 103, 104, 105, 106, 107, 108, 109, 110, 111, 112, 113, 114, 115, 116, 117, 118, 119, 120, 121, 122, 65, 66, 67, 68, 69, 70, 71, 72, 73, 74, 75, 76, 77, 78, 79, 80, 81, 82, 83, 84, 85, 86, 87, 88, 89, 90, 95, 36]), .lit (.string [97, 98, 99, 100, 101, 102, 103, 104, 105, 106, 107, 108, 109, 110, 111, 112, 113, 114, 115, 116, 117, 118, 119, 120, 121, 122, 65, 66, 67, 68, 69, 70, 71, 72, 73, 74, 75, 76, 77, 78, 79, 80, 81, 82, 83, 84, 85, 86, 87, 88, 89, 90, 48, 49, 50, 51, 52, 53, 54, 55, 56, 57, 95, 36])]

/-- 'laws.FnMinifiedName': WHATEVER THE INPUT: true; the input reads as it did. -/
def fnMinifiedNameSpec : ChangeSpec := { name := "fnMinifiedName", vars := ["given.example/pub-frisket/pub/esbuild/inner/ast.DefaultNameMinifierJS"], fn := fun _ => fun
  | [d1, d2, g1] => { results := [.lit (.bool true)], args := [d1, d2], vars := [g1] }
  | _ => none }
def fnMinifiedNameRow : OpenClaim := { program := "ytmcdnkcpfjhbgaadoor", sum := "8cd239bb75998f5fb9ca775bf1f5ce7327f8ba4f011e27d1ae5665dc4565e45d", func := "given.example/pub-frisket/laws.FnMinifiedName", spec := "fnMinifiedName", inPlace := ["internal/abi.NoEscape"], named := ["given.example/pub-frisket/pub/esbuild/inner/ast.DefaultNameMinifierJS"], apart := false, laid := [("given.example/pub-frisket/pub/esbuild/inner/ast.DefaultNameMinifierJS", laid_given_example_pub_frisket_pub_esbuild_inner_ast_DefaultNameMinifierJS)] }
def FnMinifiedNameSaid : Prop := fnMinifiedNameRow.holds Tryd.pinned (OpenSpec.ofChange fnMinifiedNameSpec)

/-- ITS FALSE NEIGHBOUR: 'it returns false'. Refute it at one input. -/
def fnMinifiedNameWrong : ChangeSpec := { name := "fnMinifiedName", vars := ["given.example/pub-frisket/pub/esbuild/inner/ast.DefaultNameMinifierJS"], fn := fun _ => fun
  | [d1, d2, g1] => { results := [.lit (.bool false)], args := [d1, d2], vars := [g1] }
  | _ => none }
def FnMinifiedNameWrongFalsely : Prop := fnMinifiedNameRow.holds Tryd.pinned (OpenSpec.ofChange fnMinifiedNameWrong)

/- THE SECOND FORM. 'bulk': how many values and letters a reading holds, each counted each time it is reached (what is shared counts as often as it is met; a slice's spare places count too). A statement '..UptoSaid' is the law's where the arguments, and the package variables that the reading takes, are together of bulk at most 1048576: NARROWER than '..Said'. Prove '..Said' where nothing that the law and all that it calls make is longer than what came in: it says more and counts as full. Else prove '..UptoSaid'. A law counts once. -/
mutual
def uptoBulk {H : Type} : DataW H → Nat
  | .lit (.string bytes) => bytes.length + 1
  | .lit _ => 1
  | .nil => 1
  | .ptr d => uptoBulk d + 1
  | .slice elems spare => uptoBulkAll elems + uptoBulkAll spare + 1
  | .agg parts => uptoBulkAll parts + 1
  | .iface _ d => uptoBulk d + 1
  | .map entries => uptoBulkEntries entries + 1
  | .held _ => 1
def uptoBulkAll {H : Type} : List (DataW H) → Nat
  | [] => 0
  | d :: r => uptoBulk d + uptoBulkAll r
def uptoBulkEntries {H : Type} : List (Lit × DataW H) → Nat
  | [] => 0
  | x :: r => uptoBulkEntry x + uptoBulkEntries r
def uptoBulkEntry {H : Type} : Lit × DataW H → Nat
  | (.string bytes, d) => bytes.length + uptoBulk d + 1
  | (_, d) => uptoBulk d + 1
 end
def uptoSmall : (H : Type) → List (DataW H) → Bool := fun _ ds => decide (uptoBulkAll ds ≤ 1048576)
def OpenSpec.upto (s : _root_.Go.ChangeSpec) : _root_.Go.OpenSpec := { _root_.Go.OpenSpec.ofChange s with cond := some uptoSmall }

/-- 'laws.FnMinifiedName', WHERE WHAT IT READS IS OF BULK AT MOST 1048576: true; the input reads as it did. -/
def fnMinifiedNameUptoRow : OpenClaim := { program := "ytmcdnkcpfjhbgaadoor", sum := "8cd239bb75998f5fb9ca775bf1f5ce7327f8ba4f011e27d1ae5665dc4565e45d", func := "given.example/pub-frisket/laws.FnMinifiedName", spec := "fnMinifiedName", inPlace := ["internal/abi.NoEscape"], named := ["given.example/pub-frisket/pub/esbuild/inner/ast.DefaultNameMinifierJS"], apart := false, laid := [("given.example/pub-frisket/pub/esbuild/inner/ast.DefaultNameMinifierJS", laid_given_example_pub_frisket_pub_esbuild_inner_ast_DefaultNameMinifierJS)], narrowed := true }
def FnMinifiedNameUptoSaid : Prop := fnMinifiedNameUptoRow.holds Tryd.pinned (OpenSpec.upto fnMinifiedNameSpec)

end Rows
end Go.Proofs.YtmcdnkcpfjhbgaaDoor
