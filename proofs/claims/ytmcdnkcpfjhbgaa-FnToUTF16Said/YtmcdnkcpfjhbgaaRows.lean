/-
  No cell of these rows narrows 'for every input' (looked for: loops, veiled, ifaces, maps, wideKeys, modest, calm, conditions, laid).
  DERIVED. THE GIVEN ROWS OF THIS SEAT. 5 by the template 'for every input the law returns true; each argument reads behind the call as it read before'; 0 by the template 'total and deterministic' (their statements: YtmcdnkcpfjhbgaaTotals.lean).
  GIVEN WITH THE SEED: the statements are not yours to turn. If you find one false, say at which input.
  Laid BY PROGRAM, IN A SANDBOX (cutbox-rows.mjs): the forced cells as the released guide's own fill.sh prints them over the translation e24d00c2cd2b67a0… (all of the seat's roots in one cut). By AI agents, Wed Nov 11 2026. No macro, syntax, notation, axiom, sorry.
-/
import Derived.Test.YtmcdnkcpfjhbgaaChecked
import GoSem.Claim
import GoSem.ClaimJoined
import GoSem.ClaimMapViews
import Derived.JoinedTies
import Derived.KernelRfl
namespace Go.Proofs.Ytmcdnkcpfjhbgaa
/- THE CELL 'sum', in the pinned program and in every row, IS THE sha256 OF THE DUMP (.gsa) THAT YtmcdnkcpfjhbgaaProg.lean LOADS. Nothing in Lean hashes anything: it is a label: what it is worth is what the hold of that sum in a sandbox is worth. -/
noncomputable def Try.pinned : Pinned := { name := "ytmcdnkcpfjhbgaa", sum := "e24d00c2cd2b67a07eab3f8036b3cff323df8c5790aa0fe7e9cc54caab7a079f", checked := Try.checked }
namespace Rows
def none {H : Type} : Left H := { results := [], args := [] }

/-- 'laws.FnFeatures': WHATEVER THE INPUT: true; the input reads as it did. -/
def fnFeaturesSpec : ChangeSpec := { name := "fnFeatures", fn := fun _ => fun
  | [d1, d2, d3, d4] => { results := [.lit (.bool true)], args := [d1, d2, d3, d4] }
  | _ => none }
def fnFeaturesRow : OpenClaim := { program := "ytmcdnkcpfjhbgaa", sum := "e24d00c2cd2b67a07eab3f8036b3cff323df8c5790aa0fe7e9cc54caab7a079f", func := "given.example/pub-frisket/laws.FnFeatures", spec := "fnFeatures", apart := false }
def FnFeaturesSaid : Prop := fnFeaturesRow.holds Try.pinned (OpenSpec.ofChange fnFeaturesSpec)

/-- ITS FALSE NEIGHBOUR: 'it returns false'. Refute it at one input. -/
def fnFeaturesWrong : ChangeSpec := { name := "fnFeatures", fn := fun _ => fun
  | [d1, d2, d3, d4] => { results := [.lit (.bool false)], args := [d1, d2, d3, d4] }
  | _ => none }
def FnFeaturesWrongFalsely : Prop := fnFeaturesRow.holds Try.pinned (OpenSpec.ofChange fnFeaturesWrong)

/-- 'laws.FnTextForRange': WHATEVER THE INPUT: true; the input reads as it did. -/
def fnTextForRangeSpec : ChangeSpec := { name := "fnTextForRange", fn := fun _ => fun
  | [d1, d2, d3] => { results := [.lit (.bool true)], args := [d1, d2, d3] }
  | _ => none }
def fnTextForRangeRow : OpenClaim := { program := "ytmcdnkcpfjhbgaa", sum := "e24d00c2cd2b67a07eab3f8036b3cff323df8c5790aa0fe7e9cc54caab7a079f", func := "given.example/pub-frisket/laws.FnTextForRange", spec := "fnTextForRange", apart := false }
def FnTextForRangeSaid : Prop := fnTextForRangeRow.holds Try.pinned (OpenSpec.ofChange fnTextForRangeSpec)

/-- ITS FALSE NEIGHBOUR: 'it returns false'. Refute it at one input. -/
def fnTextForRangeWrong : ChangeSpec := { name := "fnTextForRange", fn := fun _ => fun
  | [d1, d2, d3] => { results := [.lit (.bool false)], args := [d1, d2, d3] }
  | _ => none }
def FnTextForRangeWrongFalsely : Prop := fnTextForRangeRow.holds Try.pinned (OpenSpec.ofChange fnTextForRangeWrong)

/-- 'laws.FnToUTF16': WHATEVER THE INPUT: true; the input reads as it did. -/
def fnToUTF16Spec : ChangeSpec := { name := "fnToUTF16", fn := fun _ => fun
  | [d] => { results := [.lit (.bool true)], args := [d] }
  | _ => none }
def fnToUTF16Row : OpenClaim := { program := "ytmcdnkcpfjhbgaa", sum := "e24d00c2cd2b67a07eab3f8036b3cff323df8c5790aa0fe7e9cc54caab7a079f", func := "given.example/pub-frisket/laws.FnToUTF16", spec := "fnToUTF16", apart := false }
def FnToUTF16Said : Prop := fnToUTF16Row.holds Try.pinned (OpenSpec.ofChange fnToUTF16Spec)

/-- ITS FALSE NEIGHBOUR: 'it returns false'. Refute it at one input. -/
def fnToUTF16Wrong : ChangeSpec := { name := "fnToUTF16", fn := fun _ => fun
  | [d] => { results := [.lit (.bool false)], args := [d] }
  | _ => none }
def FnToUTF16WrongFalsely : Prop := fnToUTF16Row.holds Try.pinned (OpenSpec.ofChange fnToUTF16Wrong)

/-- 'laws.FnUnusedImports': WHATEVER THE INPUT: true; the input reads as it did. -/
def fnUnusedImportsSpec : ChangeSpec := { name := "fnUnusedImports", fn := fun _ => fun
  | [d1, d2, d3] => { results := [.lit (.bool true)], args := [d1, d2, d3] }
  | _ => none }
def fnUnusedImportsRow : OpenClaim := { program := "ytmcdnkcpfjhbgaa", sum := "e24d00c2cd2b67a07eab3f8036b3cff323df8c5790aa0fe7e9cc54caab7a079f", func := "given.example/pub-frisket/laws.FnUnusedImports", spec := "fnUnusedImports", apart := false }
def FnUnusedImportsSaid : Prop := fnUnusedImportsRow.holds Try.pinned (OpenSpec.ofChange fnUnusedImportsSpec)

/-- ITS FALSE NEIGHBOUR: 'it returns false'. Refute it at one input. -/
def fnUnusedImportsWrong : ChangeSpec := { name := "fnUnusedImports", fn := fun _ => fun
  | [d1, d2, d3] => { results := [.lit (.bool false)], args := [d1, d2, d3] }
  | _ => none }
def FnUnusedImportsWrongFalsely : Prop := fnUnusedImportsRow.holds Try.pinned (OpenSpec.ofChange fnUnusedImportsWrong)

/-- 'laws.FnScanBack': WHATEVER THE INPUT: true; the input reads as it did. -/
def fnScanBackSpec : ChangeSpec := { name := "fnScanBack", fn := fun _ => fun
  | [d1, d2, d3] => { results := [.lit (.bool true)], args := [d1, d2, d3] }
  | _ => none }
def fnScanBackRow : OpenClaim := { program := "ytmcdnkcpfjhbgaa", sum := "e24d00c2cd2b67a07eab3f8036b3cff323df8c5790aa0fe7e9cc54caab7a079f", func := "given.example/pub-frisket/laws.FnScanBack", spec := "fnScanBack", apart := false }
def FnScanBackSaid : Prop := fnScanBackRow.holds Try.pinned (OpenSpec.ofChange fnScanBackSpec)

/-- ITS FALSE NEIGHBOUR: 'it returns false'. Refute it at one input. -/
def fnScanBackWrong : ChangeSpec := { name := "fnScanBack", fn := fun _ => fun
  | [d1, d2, d3] => { results := [.lit (.bool false)], args := [d1, d2, d3] }
  | _ => none }
def FnScanBackWrongFalsely : Prop := fnScanBackRow.holds Try.pinned (OpenSpec.ofChange fnScanBackWrong)

/- THE SECOND FORM. 'bulk': how many values and letters a reading holds, each counted each time it is reached (what is shared counts as often as it is met; a slice's spare places count too). A statement '..UptoSaid' is the law's where the arguments, and the package variables that the reading takes, are together of bulk at most 1048576: NARROWER than '..Said'. Prove '..Said' where nothing that the law and all that it calls make is longer than what came in: it says more and counts as full. Else prove '..UptoSaid'. A law counts once. -/
mutual
def uptoBulk {H : Type} : DataW H → Nat
  | .lit (.string bytes) => bytes.length + 1
  | .lit _ => 1
  | .nil => 1
  | .ptr d => uptoBulk d + 1
  | .slice elems spare => uptoBulkAll elems + uptoBulkAll spare + 1
  | .agg parts => uptoBulkAll parts + 1
  | .iface _ d => uptoBulk d + 1
  | .map entries => uptoBulkEntries entries + 1
  | .held _ => 1
def uptoBulkAll {H : Type} : List (DataW H) → Nat
  | [] => 0
  | d :: r => uptoBulk d + uptoBulkAll r
def uptoBulkEntries {H : Type} : List (Lit × DataW H) → Nat
  | [] => 0
  | x :: r => uptoBulkEntry x + uptoBulkEntries r
def uptoBulkEntry {H : Type} : Lit × DataW H → Nat
  | (.string bytes, d) => bytes.length + uptoBulk d + 1
  | (_, d) => uptoBulk d + 1
 end
def uptoSmall : (H : Type) → List (DataW H) → Bool := fun _ ds => decide (uptoBulkAll ds ≤ 1048576)
def OpenSpec.upto (s : _root_.Go.ChangeSpec) : _root_.Go.OpenSpec := { _root_.Go.OpenSpec.ofChange s with cond := some uptoSmall }

/-- 'laws.FnFeatures', WHERE WHAT IT READS IS OF BULK AT MOST 1048576: true; the input reads as it did. -/
def fnFeaturesUptoRow : OpenClaim := { program := "ytmcdnkcpfjhbgaa", sum := "e24d00c2cd2b67a07eab3f8036b3cff323df8c5790aa0fe7e9cc54caab7a079f", func := "given.example/pub-frisket/laws.FnFeatures", spec := "fnFeatures", apart := false, narrowed := true }
def FnFeaturesUptoSaid : Prop := fnFeaturesUptoRow.holds Try.pinned (OpenSpec.upto fnFeaturesSpec)

/-- 'laws.FnTextForRange', WHERE WHAT IT READS IS OF BULK AT MOST 1048576: true; the input reads as it did. -/
def fnTextForRangeUptoRow : OpenClaim := { program := "ytmcdnkcpfjhbgaa", sum := "e24d00c2cd2b67a07eab3f8036b3cff323df8c5790aa0fe7e9cc54caab7a079f", func := "given.example/pub-frisket/laws.FnTextForRange", spec := "fnTextForRange", apart := false, narrowed := true }
def FnTextForRangeUptoSaid : Prop := fnTextForRangeUptoRow.holds Try.pinned (OpenSpec.upto fnTextForRangeSpec)

/-- 'laws.FnToUTF16', WHERE WHAT IT READS IS OF BULK AT MOST 1048576: true; the input reads as it did. -/
def fnToUTF16UptoRow : OpenClaim := { program := "ytmcdnkcpfjhbgaa", sum := "e24d00c2cd2b67a07eab3f8036b3cff323df8c5790aa0fe7e9cc54caab7a079f", func := "given.example/pub-frisket/laws.FnToUTF16", spec := "fnToUTF16", apart := false, narrowed := true }
def FnToUTF16UptoSaid : Prop := fnToUTF16UptoRow.holds Try.pinned (OpenSpec.upto fnToUTF16Spec)

/-- 'laws.FnUnusedImports', WHERE WHAT IT READS IS OF BULK AT MOST 1048576: true; the input reads as it did. -/
def fnUnusedImportsUptoRow : OpenClaim := { program := "ytmcdnkcpfjhbgaa", sum := "e24d00c2cd2b67a07eab3f8036b3cff323df8c5790aa0fe7e9cc54caab7a079f", func := "given.example/pub-frisket/laws.FnUnusedImports", spec := "fnUnusedImports", apart := false, narrowed := true }
def FnUnusedImportsUptoSaid : Prop := fnUnusedImportsUptoRow.holds Try.pinned (OpenSpec.upto fnUnusedImportsSpec)

/-- 'laws.FnScanBack', WHERE WHAT IT READS IS OF BULK AT MOST 1048576: true; the input reads as it did. -/
def fnScanBackUptoRow : OpenClaim := { program := "ytmcdnkcpfjhbgaa", sum := "e24d00c2cd2b67a07eab3f8036b3cff323df8c5790aa0fe7e9cc54caab7a079f", func := "given.example/pub-frisket/laws.FnScanBack", spec := "fnScanBack", apart := false, narrowed := true }
def FnScanBackUptoSaid : Prop := fnScanBackUptoRow.holds Try.pinned (OpenSpec.upto fnScanBackSpec)

end Rows
end Go.Proofs.Ytmcdnkcpfjhbgaa
