/-
  NARROWER THAN 'FOR EVERY INPUT', by the rows' own cells (each row's printed sentence says how): FnChains: loops, laid · FnSymbol: loops, laid · FnBack: loops, laid.
  DERIVED. THE GIVEN ROWS OF THIS SEAT. 3 by the template 'for every input the law returns true; each argument reads behind the call as it read before'; 0 by the template 'total and deterministic' (their statements: YtacokmkbikdmmaaGreatDoorTotals.lean).
  GIVEN WITH THE SEED: the statements are not yours to turn. If you find one false, say at which input.
  Laid BY PROGRAM, IN A SANDBOX (cutbox-rows.mjs): the forced cells as the released guide's own fill.sh prints them over the translation 25159c94b994ccfc… (all of the seat's roots in one cut). By AI agents, Wed Nov 11 2026. No macro, syntax, notation, axiom, sorry.
-/
import Derived.Test.YtacokmkbikdmmaaGreatDoorChecked
import GoSem.Claim
import GoSem.ClaimJoined
import GoSem.ClaimMapViews
import Derived.JoinedTies
import Derived.KernelRfl
namespace Go.Proofs.YtacokmkbikdmmaaGreatDoor
/- THE CELL 'sum', in the pinned program and in every row, IS THE sha256 OF THE DUMP (.gsa) THAT YtacokmkbikdmmaaGreatDoorProg.lean LOADS. Nothing in Lean hashes anything: it is a label: what it is worth is what the hold of that sum in a sandbox is worth. -/
noncomputable def Tryz.pinned : Pinned := { name := "ytacokmkbikdmmaagreatdoor", sum := "25159c94b994ccfc82534b86d819eb219ba1d30d96cee3b8c70bad2b0a46501f", checked := Tryz.checked }
namespace Rows
def none {H : Type} : Left H := { results := [], args := [] }

/- WHAT THE LISTED PACKAGE-LEVEL VARIABLES READ AS WHEN THE CALL BEGINS. Each datum BY PROGRAM (the guide's laid-datum.mjs) off the statement by which the dump's own 'gosem.cut.vars' lays the variable. In a bare row this is a premise. The card (YtacokmkbikdmmaaGreatDoorCards.lean) ties it to the program's text. -/
def laid_given_example_pub_frisket_pub_esbuild_inner_ast_InvalidRef {H : Type} : DataW H := .agg [.lit (.int .u32 4294967295), .lit (.int .u32 4294967295)]

/-- 'laws.FnChains': WHATEVER THE INPUT: true; the input reads as it did. -/
def fnChainsSpec : ChangeSpec := { name := "fnChains", vars := ["given.example/pub-frisket/pub/esbuild/inner/ast.InvalidRef"], fn := fun _ => fun
  | [d, g1] => { results := [.lit (.bool true)], args := [d], vars := [g1] }
  | _ => none }
def fnChainsRow : OpenClaim := { program := "ytacokmkbikdmmaagreatdoor", sum := "25159c94b994ccfc82534b86d819eb219ba1d30d96cee3b8c70bad2b0a46501f", func := "given.example/pub-frisket/laws.FnChains", spec := "fnChains", inPlace := ["math.Float64bits"], recurses := true, named := ["given.example/pub-frisket/pub/esbuild/inner/ast.InvalidRef"], loops := true, apart := false, laid := [("given.example/pub-frisket/pub/esbuild/inner/ast.InvalidRef", laid_given_example_pub_frisket_pub_esbuild_inner_ast_InvalidRef)] }
def FnChainsSaid : Prop := fnChainsRow.holds Tryz.pinned (OpenSpec.ofChange fnChainsSpec)

/-- ITS FALSE NEIGHBOUR: 'it returns false'. Refute it at one input. -/
def fnChainsWrong : ChangeSpec := { name := "fnChains", vars := ["given.example/pub-frisket/pub/esbuild/inner/ast.InvalidRef"], fn := fun _ => fun
  | [d, g1] => { results := [.lit (.bool false)], args := [d], vars := [g1] }
  | _ => none }
def FnChainsWrongFalsely : Prop := fnChainsRow.holds Tryz.pinned (OpenSpec.ofChange fnChainsWrong)

/-- 'laws.FnSymbol': WHATEVER THE INPUT: true; the input reads as it did. -/
def fnSymbolSpec : ChangeSpec := { name := "fnSymbol", vars := ["given.example/pub-frisket/pub/esbuild/inner/ast.InvalidRef"], fn := fun _ => fun
  | [d, g1] => { results := [.lit (.bool true)], args := [d], vars := [g1] }
  | _ => none }
def fnSymbolRow : OpenClaim := { program := "ytacokmkbikdmmaagreatdoor", sum := "25159c94b994ccfc82534b86d819eb219ba1d30d96cee3b8c70bad2b0a46501f", func := "given.example/pub-frisket/laws.FnSymbol", spec := "fnSymbol", inPlace := ["math.Float64bits"], recurses := true, named := ["given.example/pub-frisket/pub/esbuild/inner/ast.InvalidRef"], loops := true, apart := false, laid := [("given.example/pub-frisket/pub/esbuild/inner/ast.InvalidRef", laid_given_example_pub_frisket_pub_esbuild_inner_ast_InvalidRef)] }
def FnSymbolSaid : Prop := fnSymbolRow.holds Tryz.pinned (OpenSpec.ofChange fnSymbolSpec)

/-- ITS FALSE NEIGHBOUR: 'it returns false'. Refute it at one input. -/
def fnSymbolWrong : ChangeSpec := { name := "fnSymbol", vars := ["given.example/pub-frisket/pub/esbuild/inner/ast.InvalidRef"], fn := fun _ => fun
  | [d, g1] => { results := [.lit (.bool false)], args := [d], vars := [g1] }
  | _ => none }
def FnSymbolWrongFalsely : Prop := fnSymbolRow.holds Tryz.pinned (OpenSpec.ofChange fnSymbolWrong)

/-- 'laws.FnBack': WHATEVER THE INPUT: true; the input reads as it did. -/
def fnBackSpec : ChangeSpec := { name := "fnBack", vars := ["given.example/pub-frisket/pub/esbuild/inner/ast.InvalidRef"], fn := fun _ => fun
  | [d, g1] => { results := [.lit (.bool true)], args := [d], vars := [g1] }
  | _ => none }
def fnBackRow : OpenClaim := { program := "ytacokmkbikdmmaagreatdoor", sum := "25159c94b994ccfc82534b86d819eb219ba1d30d96cee3b8c70bad2b0a46501f", func := "given.example/pub-frisket/laws.FnBack", spec := "fnBack", inPlace := ["math.Float64bits"], recurses := true, named := ["given.example/pub-frisket/pub/esbuild/inner/ast.InvalidRef"], loops := true, apart := false, laid := [("given.example/pub-frisket/pub/esbuild/inner/ast.InvalidRef", laid_given_example_pub_frisket_pub_esbuild_inner_ast_InvalidRef)] }
def FnBackSaid : Prop := fnBackRow.holds Tryz.pinned (OpenSpec.ofChange fnBackSpec)

/-- ITS FALSE NEIGHBOUR: 'it returns false'. Refute it at one input. -/
def fnBackWrong : ChangeSpec := { name := "fnBack", vars := ["given.example/pub-frisket/pub/esbuild/inner/ast.InvalidRef"], fn := fun _ => fun
  | [d, g1] => { results := [.lit (.bool false)], args := [d], vars := [g1] }
  | _ => none }
def FnBackWrongFalsely : Prop := fnBackRow.holds Tryz.pinned (OpenSpec.ofChange fnBackWrong)

/- THE SECOND FORM. 'bulk': how many values and letters a reading holds, each counted each time it is reached (what is shared counts as often as it is met; a slice's spare places count too). A statement '..UptoSaid' is the law's where the arguments, and the package variables that the reading takes, are together of bulk at most 1048576: NARROWER than '..Said'. Prove '..Said' where nothing that the law and all that it calls make is longer than what came in: it says more and counts as full. Else prove '..UptoSaid'. A law counts once. -/
mutual
def uptoBulk {H : Type} : DataW H → Nat
  | .lit (.string bytes) => bytes.length + 1
  | .lit _ => 1
  | .nil => 1
  | .ptr d => uptoBulk d + 1
  | .slice elems spare => uptoBulkAll elems + uptoBulkAll spare + 1
  | .agg parts => uptoBulkAll parts + 1
  | .iface _ d => uptoBulk d + 1
  | .map entries => uptoBulkEntries entries + 1
  | .held _ => 1
def uptoBulkAll {H : Type} : List (DataW H) → Nat
  | [] => 0
  | d :: r => uptoBulk d + uptoBulkAll r
def uptoBulkEntries {H : Type} : List (Lit × DataW H) → Nat
  | [] => 0
  | x :: r => uptoBulkEntry x + uptoBulkEntries r
def uptoBulkEntry {H : Type} : Lit × DataW H → Nat
  | (.string bytes, d) => bytes.length + uptoBulk d + 1
  | (_, d) => uptoBulk d + 1
 end
def uptoSmall : (H : Type) → List (DataW H) → Bool := fun _ ds => decide (uptoBulkAll ds ≤ 1048576)
def OpenSpec.upto (s : _root_.Go.ChangeSpec) : _root_.Go.OpenSpec := { _root_.Go.OpenSpec.ofChange s with cond := some uptoSmall }

/-- 'laws.FnChains', WHERE WHAT IT READS IS OF BULK AT MOST 1048576: true; the input reads as it did. -/
def fnChainsUptoRow : OpenClaim := { program := "ytacokmkbikdmmaagreatdoor", sum := "25159c94b994ccfc82534b86d819eb219ba1d30d96cee3b8c70bad2b0a46501f", func := "given.example/pub-frisket/laws.FnChains", spec := "fnChains", inPlace := ["math.Float64bits"], recurses := true, named := ["given.example/pub-frisket/pub/esbuild/inner/ast.InvalidRef"], loops := true, apart := false, laid := [("given.example/pub-frisket/pub/esbuild/inner/ast.InvalidRef", laid_given_example_pub_frisket_pub_esbuild_inner_ast_InvalidRef)], narrowed := true }
def FnChainsUptoSaid : Prop := fnChainsUptoRow.holds Tryz.pinned (OpenSpec.upto fnChainsSpec)

/-- 'laws.FnSymbol', WHERE WHAT IT READS IS OF BULK AT MOST 1048576: true; the input reads as it did. -/
def fnSymbolUptoRow : OpenClaim := { program := "ytacokmkbikdmmaagreatdoor", sum := "25159c94b994ccfc82534b86d819eb219ba1d30d96cee3b8c70bad2b0a46501f", func := "given.example/pub-frisket/laws.FnSymbol", spec := "fnSymbol", inPlace := ["math.Float64bits"], recurses := true, named := ["given.example/pub-frisket/pub/esbuild/inner/ast.InvalidRef"], loops := true, apart := false, laid := [("given.example/pub-frisket/pub/esbuild/inner/ast.InvalidRef", laid_given_example_pub_frisket_pub_esbuild_inner_ast_InvalidRef)], narrowed := true }
def FnSymbolUptoSaid : Prop := fnSymbolUptoRow.holds Tryz.pinned (OpenSpec.upto fnSymbolSpec)

/-- 'laws.FnBack', WHERE WHAT IT READS IS OF BULK AT MOST 1048576: true; the input reads as it did. -/
def fnBackUptoRow : OpenClaim := { program := "ytacokmkbikdmmaagreatdoor", sum := "25159c94b994ccfc82534b86d819eb219ba1d30d96cee3b8c70bad2b0a46501f", func := "given.example/pub-frisket/laws.FnBack", spec := "fnBack", inPlace := ["math.Float64bits"], recurses := true, named := ["given.example/pub-frisket/pub/esbuild/inner/ast.InvalidRef"], loops := true, apart := false, laid := [("given.example/pub-frisket/pub/esbuild/inner/ast.InvalidRef", laid_given_example_pub_frisket_pub_esbuild_inner_ast_InvalidRef)], narrowed := true }
def FnBackUptoSaid : Prop := fnBackUptoRow.holds Tryz.pinned (OpenSpec.upto fnBackSpec)

end Rows
end Go.Proofs.YtacokmkbikdmmaaGreatDoor
