/-
  No cell of these rows narrows 'for every input' (looked for: loops, veiled, ifaces, maps, wideKeys, modest, calm, conditions, laid).
  DERIVED. THE GIVEN ROWS OF THIS SEAT. 3 by the template 'for every input the law returns true; each argument reads behind the call as it read before'; 0 by the template 'total and deterministic' (their statements: YtapbhbhaandedaaRRRTotals.lean).
  GIVEN WITH THE SEED: the statements are not yours to turn. If you find one false, say at which input.
  Laid BY PROGRAM, IN A SANDBOX (cutbox-rows.mjs): the forced cells as the released guide's own fill.sh prints them over the translation db97960ab43e8b07… (all of the seat's roots in one cut). By AI agents, Wed Nov 11 2026. No macro, syntax, notation, axiom, sorry.
-/
import Derived.Test.YtapbhbhaandedaaRRRChecked
import GoSem.Claim
import GoSem.ClaimJoined
import GoSem.ClaimMapViews
import Derived.JoinedTies
import Derived.KernelRfl
namespace Go.Proofs.YtapbhbhaandedaaRRR
/- THE CELL 'sum', in the pinned program and in every row, IS THE sha256 OF THE DUMP (.gsa) THAT YtapbhbhaandedaaRRRProg.lean LOADS. Nothing in Lean hashes anything: it is a label: what it is worth is what the hold of that sum in a sandbox is worth. -/
noncomputable def Try.pinned : Pinned := { name := "ytapbhbhaandedaarrr", sum := "db97960ab43e8b077ad43a78f3d9126cdcd6f61ed54cead00731947708e10e95", checked := Try.checked }
namespace Rows
def none {H : Type} : Left H := { results := [], args := [] }

/-- 'laws.FnPathParts': WHATEVER THE INPUT: true; the input reads as it did. -/
def fnPathPartsSpec : ChangeSpec := { name := "fnPathParts", fn := fun _ => fun
  | [d] => { results := [.lit (.bool true)], args := [d] }
  | _ => none }
def fnPathPartsRow : OpenClaim := { program := "ytapbhbhaandedaarrr", sum := "db97960ab43e8b077ad43a78f3d9126cdcd6f61ed54cead00731947708e10e95", func := "given.example/pub-frisket/laws.FnPathParts", spec := "fnPathParts", apart := false }
def FnPathPartsSaid : Prop := fnPathPartsRow.holds Try.pinned (OpenSpec.ofChange fnPathPartsSpec)

/-- ITS FALSE NEIGHBOUR: 'it returns false'. Refute it at one input. -/
def fnPathPartsWrong : ChangeSpec := { name := "fnPathParts", fn := fun _ => fun
  | [d] => { results := [.lit (.bool false)], args := [d] }
  | _ => none }
def FnPathPartsWrongFalsely : Prop := fnPathPartsRow.holds Try.pinned (OpenSpec.ofChange fnPathPartsWrong)

/-- 'laws.FnEscapeClosing': WHATEVER THE INPUT: true; the input reads as it did. -/
def fnEscapeClosingSpec : ChangeSpec := { name := "fnEscapeClosing", fn := fun _ => fun
  | [d1, d2] => { results := [.lit (.bool true)], args := [d1, d2] }
  | _ => none }
def fnEscapeClosingRow : OpenClaim := { program := "ytapbhbhaandedaarrr", sum := "db97960ab43e8b077ad43a78f3d9126cdcd6f61ed54cead00731947708e10e95", func := "given.example/pub-frisket/laws.FnEscapeClosing", spec := "fnEscapeClosing", inPlace := ["internal/abi.NoEscape"], apart := false }
def FnEscapeClosingSaid : Prop := fnEscapeClosingRow.holds Try.pinned (OpenSpec.ofChange fnEscapeClosingSpec)

/-- ITS FALSE NEIGHBOUR: 'it returns false'. Refute it at one input. -/
def fnEscapeClosingWrong : ChangeSpec := { name := "fnEscapeClosing", fn := fun _ => fun
  | [d1, d2] => { results := [.lit (.bool false)], args := [d1, d2] }
  | _ => none }
def FnEscapeClosingWrongFalsely : Prop := fnEscapeClosingRow.holds Try.pinned (OpenSpec.ofChange fnEscapeClosingWrong)

/-- 'laws.FnGlobBack': WHATEVER THE INPUT: true; the input reads as it did. -/
def fnGlobBackSpec : ChangeSpec := { name := "fnGlobBack", fn := fun _ => fun
  | [d] => { results := [.lit (.bool true)], args := [d] }
  | _ => none }
def fnGlobBackRow : OpenClaim := { program := "ytapbhbhaandedaarrr", sum := "db97960ab43e8b077ad43a78f3d9126cdcd6f61ed54cead00731947708e10e95", func := "given.example/pub-frisket/laws.FnGlobBack", spec := "fnGlobBack", inPlace := ["internal/bytealg.IndexByteString", "internal/abi.NoEscape"], apart := false }
def FnGlobBackSaid : Prop := fnGlobBackRow.holds Try.pinned (OpenSpec.ofChange fnGlobBackSpec)

/-- ITS FALSE NEIGHBOUR: 'it returns false'. Refute it at one input. -/
def fnGlobBackWrong : ChangeSpec := { name := "fnGlobBack", fn := fun _ => fun
  | [d] => { results := [.lit (.bool false)], args := [d] }
  | _ => none }
def FnGlobBackWrongFalsely : Prop := fnGlobBackRow.holds Try.pinned (OpenSpec.ofChange fnGlobBackWrong)

/- THE SECOND FORM. 'bulk': how many values and letters a reading holds, each counted each time it is reached (what is shared counts as often as it is met; a slice's spare places count too). A statement '..UptoSaid' is the law's where the arguments, and the package variables that the reading takes, are together of bulk at most 1048576: NARROWER than '..Said'. Prove '..Said' where nothing that the law and all that it calls make is longer than what came in: it says more and counts as full. Else prove '..UptoSaid'. A law counts once. -/
mutual
def uptoBulk {H : Type} : DataW H → Nat
  | .lit (.string bytes) => bytes.length + 1
  | .lit _ => 1
  | .nil => 1
  | .ptr d => uptoBulk d + 1
  | .slice elems spare => uptoBulkAll elems + uptoBulkAll spare + 1
  | .agg parts => uptoBulkAll parts + 1
  | .iface _ d => uptoBulk d + 1
  | .map entries => uptoBulkEntries entries + 1
  | .held _ => 1
def uptoBulkAll {H : Type} : List (DataW H) → Nat
  | [] => 0
  | d :: r => uptoBulk d + uptoBulkAll r
def uptoBulkEntries {H : Type} : List (Lit × DataW H) → Nat
  | [] => 0
  | x :: r => uptoBulkEntry x + uptoBulkEntries r
def uptoBulkEntry {H : Type} : Lit × DataW H → Nat
  | (.string bytes, d) => bytes.length + uptoBulk d + 1
  | (_, d) => uptoBulk d + 1
 end
def uptoSmall : (H : Type) → List (DataW H) → Bool := fun _ ds => decide (uptoBulkAll ds ≤ 1048576)
def OpenSpec.upto (s : _root_.Go.ChangeSpec) : _root_.Go.OpenSpec := { _root_.Go.OpenSpec.ofChange s with cond := some uptoSmall }

/-- 'laws.FnPathParts', WHERE WHAT IT READS IS OF BULK AT MOST 1048576: true; the input reads as it did. -/
def fnPathPartsUptoRow : OpenClaim := { program := "ytapbhbhaandedaarrr", sum := "db97960ab43e8b077ad43a78f3d9126cdcd6f61ed54cead00731947708e10e95", func := "given.example/pub-frisket/laws.FnPathParts", spec := "fnPathParts", apart := false, narrowed := true }
def FnPathPartsUptoSaid : Prop := fnPathPartsUptoRow.holds Try.pinned (OpenSpec.upto fnPathPartsSpec)

/-- 'laws.FnEscapeClosing', WHERE WHAT IT READS IS OF BULK AT MOST 1048576: true; the input reads as it did. -/
def fnEscapeClosingUptoRow : OpenClaim := { program := "ytapbhbhaandedaarrr", sum := "db97960ab43e8b077ad43a78f3d9126cdcd6f61ed54cead00731947708e10e95", func := "given.example/pub-frisket/laws.FnEscapeClosing", spec := "fnEscapeClosing", inPlace := ["internal/abi.NoEscape"], apart := false, narrowed := true }
def FnEscapeClosingUptoSaid : Prop := fnEscapeClosingUptoRow.holds Try.pinned (OpenSpec.upto fnEscapeClosingSpec)

/-- 'laws.FnGlobBack', WHERE WHAT IT READS IS OF BULK AT MOST 1048576: true; the input reads as it did. -/
def fnGlobBackUptoRow : OpenClaim := { program := "ytapbhbhaandedaarrr", sum := "db97960ab43e8b077ad43a78f3d9126cdcd6f61ed54cead00731947708e10e95", func := "given.example/pub-frisket/laws.FnGlobBack", spec := "fnGlobBack", inPlace := ["internal/bytealg.IndexByteString", "internal/abi.NoEscape"], apart := false, narrowed := true }
def FnGlobBackUptoSaid : Prop := fnGlobBackUptoRow.holds Try.pinned (OpenSpec.upto fnGlobBackSpec)

end Rows
end Go.Proofs.YtapbhbhaandedaaRRR
