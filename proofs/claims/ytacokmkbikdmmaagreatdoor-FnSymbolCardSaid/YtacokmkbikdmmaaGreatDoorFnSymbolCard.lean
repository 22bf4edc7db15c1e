/-
  FnSymbol: the row's statement out of the law's walk, and its tied card.
  Conditions: the row's own.
-/
import Derived.Test.YtacokmkbikdmmaaGreatDoorCards
import Derived.Test.YtacokmkbikdmmaaGreatDoorTie
import Derived.Test.YtacokmkbikdmmaaGreatDoorFnSymbolLaw
import Derived.WalkKit
import Derived.ProofKit
import Derived.OpenShut
import Derived.OpenVars
import Derived.ShutString
import Derived.ChangeSlices
import Derived.ChangeVars
import Derived.Carry
import Derived.Deep.Slices
import Derived.Deep.Fields
import Derived.Deep.DeepHandedRow
import Derived.Lib.LaidTab
namespace Go.Proofs.YtacokmkbikdmmaaGreatDoor.fnSymbol
open Go.ChangeShapes Go.WideShapes Go.ChangeAt Go.RowKit Go.Proofs.YtacokmkbikdmmaaGreatDoor.trees
set_option linter.unusedVariables false

theorem own : ownKnob Tryz.prog.godebug = none := by kernel_rfl
theorem laidOut : laidOutB Tryz.prog = true := by kernel_rfl
def put (vs : Array Value) : Obj → Obj
  | .cells _ t frozen => .cells vs t frozen
  | o => o
def z0 : Value := .agg #[.int .i64 0, .int .i64 0, .int .i64 0, .int .i64 0, .int .i64 0, .float .f64 0, .slice none 0 0, .string ⟨#[]⟩, .slice none 0 0, .slice none 0 0, .slice none 0 0, .slice none 0 0, .slice none 0 0]
/-- a world for the witness: the settled one, the variable laid -/
noncomputable def laidWorld (os : Os) : World :=
  { World.holding Tryz.prog os ⟨#[], #[], []⟩ with heap := (World.holding Tryz.prog os ⟨#[], #[], []⟩).heap.modify 1 (put #[.int .u32 4294967295, .int .u32 4294967295]) }
theorem laid_met (os : Os) : laidMet Tryz.prog Rows.fnSymbolRow.laid ((laidWorld os).forCall (fun _ _ => 0) ⟨#[], #[z0], []⟩).memory :=
  laidMet_of_run' 8 (by kernel_rfl) (by kernel_rfl)
theorem reads (os : Os) {H : Type} (enc : TypeId × Value → H) : ∃ gs places, DataW.whole enc Tryz.prog ((laidWorld os).forCall (fun _ _ => 0) ⟨#[], #[z0], []⟩).memory Tryz.f4.params.toList Rows.fnSymbolSpec.vars false #[z0].toList 8 = some ([.agg [.lit (.int .i64 0), .lit (.int .i64 0), .lit (.int .i64 0), .lit (.int .i64 0), .lit (.int .i64 0), .lit (.float .f64 0), .nil, .lit (.string []), .nil, .nil, .nil, .nil, .nil]], gs, places) :=
  ⟨[.agg [.lit (.int .u32 4294967295), .lit (.int .u32 4294967295)]], [.cell 1 0, .cell 1 1], by kernel_rfl⟩
theorem agg_of {v : Value} {x : X} (h : v.cells.toList = x.cells) : v = .agg x.cells.toArray := by
  have hl := congrArg List.length h
  cases v with
  | agg cs =>
    have e : cs.toList = x.cells := h
    rw [← e]
  | _ => exact absurd (show (1 : Nat) = 13 from hl) (by decide)

set_option maxRecDepth 100000 in
theorem lifted (os : Os) (started : os.Started) (H : Type) (enc : TypeId × Value → H) (F : Stop.Interp) :
    ReturnsInHanded {} Tryz.checked os 4 .any ((OpenSpec.ofChange Rows.fnSymbolSpec).preRow enc Tryz.prog Tryz.f4 Rows.fnSymbolRow.domain false Rows.fnSymbolRow.laid) (((OpenSpec.ofChange Rows.fnSymbolSpec).at F).post enc Tryz.prog Tryz.f4 false true false false) := by
  obtain ⟨gs, places, hx⟩ := reads os enc
  refine returnsInHanded_of_row (C := Tryz.checked) (s := OpenSpec.ofChange Rows.fnSymbolSpec) own started (by kernel_rfl) Tryz.func4
    (witness_row_at (enc := enc) (C := Tryz.checked) false (laidWorld os) #[z0] rfl (by kernel_rfl) (by kernel_rfl) (by kernel_rfl)
      (OpenSpec.preRow_of_cond 8 hx (by kernel_rfl) (fun k hk => by cases hk) (by kernel_rfl) (laid_met os))) ?_
  intro W base args ds gs before hval0 hW _ _ hz hL _ _
  have hval : ∀ (j : Nat) t v, Tryz.f4.params[j]? = some t → args[j]? = some v → Value.okWide Tryz.prog W .any base t v := hval0
  have hW' := hW
  obtain ⟨p, q, hA0, hV, rfl, hfz, hnd⟩ := hW
  have hA : DataW.TrodAll enc Tryz.prog W 0 (fun _ => true) true Tryz.f4.params.toList args.toList ds p := hA0
  rw [Tryz.params4] at hA hval
  obtain ⟨v0, vs0, d0, ds0, p0, q0, hargs, rfl, rfl, h0, r0⟩ := trodAll_cons hA
  obtain ⟨rfl, rfl, rfl⟩ := trodAll_nil r0
  obtain rfl : args = #[v0] := by cases args; simp_all
  have hV1 : DataW.TrodVars enc Tryz.prog W (fun _ => true) ["given.example/pub-frisket/pub/esbuild/inner/ast.InvalidRef"] gs q := hV
  obtain ⟨d2, rfl⟩ : ∃ d2, gs = [d2] := by
    obtain ⟨g, t, cs, fuel, d, p, h, _⟩ := trodVars_one hV1
    exact ⟨d, h⟩
  have k0 := h0
  have lt0 : ∀ x ∈ p0, x.block < W.heap.size := by obtain ⟨m, hm⟩ := k0; exact DataW.trod_lt m _ _ _ hm
  obtain ⟨fuel, hf⟩ := h0
  have hz' : (DataW.weightsEach Tryz.prog (Tryz.f4.params.toList ++ (OpenSpec.ofChange Rows.fnSymbolSpec).bare.plain.varTypes Tryz.prog) ([d0] ++ [d2])).all (· ≤ reachBytes) = true := hz
  rw [Tryz.params4] at hz'
  have hwb : Wb Tryz.prog 30 d0 := fun m hm => by
    have := List.all_eq_true.1 hz' m (DataW.weights_mem_each (j := 0) (t := 30) (d := d0) rfl rfl m hm)
    simpa using this
  have hex := open_expr fuel _ _ hf hwb
  obtain ⟨x, hxc⟩ := hex.cells
  rw [hxc] at hex
  obtain rfl := agg_of hxc
  clear hA0 hval0
  refine (symbol fuel x W hex).mono fun e W' ⟨he, hb⟩ => ?_
  subst he
  exact ⟨_, rfl, _, _, _, [], _, q, hW', trodAll_mk1 (shut_bool Tryz.underlying4 _), (trodAll_cons_mk (Below.trod laidOut (by kernel_rfl) (of_decide_eq_true (by kernel_rfl)) k0 hb lt0) trodAll_mk0), Below.trodVars laidOut hb (by kernel_rfl) hV1, hb.frame _, fun h => by cases h⟩

theorem said : Rows.FnSymbolSaid :=
  OpenClaim.holds_of_cond 4 Tryz.f4 rfl rfl rfl rfl rfl rfl rfl ⟨rfl, rfl, rfl, rfl, rfl⟩ rfl rfl rfl rfl rfl (by kernel_rfl) Tryz.func4 (by kernel_rfl)
    (of_decide_eq_true (by kernel_rfl)) (by unfold Func.isWrapper; first | (rw [if_pos (by decide +kernel)]; kernel_rfl) | (rw [if_neg (by decide +kernel)]; exact ⟨rfl, rfl⟩))
    (fun os started H enc _ F => by rw [OpenClaim.pre_eq_preRow]; exact lifted os started H enc F)

theorem plain (f : FuncId) (fn : Func) (hf : Tryz.pinned.checked.prog.funcNamed "given.example/pub-frisket/laws.FnSymbol" = some f) (hfn : Tryz.pinned.checked.prog.funcs[f]? = some fn) :
    true = Tryz.pinned.checked.prog.looks [] ∧ ∀ (j : Nat) t, fn.params[j]? = some t → Tryz.pinned.checked.prog.wantsStandIn t = false := by
  obtain rfl : f = 4 := Option.some.inj ((show Tryz.prog.funcNamed "given.example/pub-frisket/laws.FnSymbol" = some 4 by kernel_rfl).symm.trans hf) |>.symm
  obtain rfl : fn = Tryz.f4 := (Option.some.inj (Tryz.func4.symm.trans hfn)).symm
  refine ⟨by kernel_rfl, fun j t ht => ?_⟩
  rw [Tryz.params4] at ht
  have hm : t ∈ [30] := by simpa using Array.mem_of_getElem? ht
  simp only [List.mem_cons, List.not_mem_nil, or_false] at hm
  obtain rfl := hm
  exact (show Tryz.prog.wantsStandIn 30 = false by kernel_rfl)

/-- the tied card -/
theorem card : Rows.FnSymbolCardSaid :=
  Claim7.holds_tied_plain_at .later [] _ _ _ _ said (fun _ h => by cases h) (by kernel_rfl) (fun _ h => by cases h) fnSymbol_row_tie rfl ⟨rfl, rfl⟩ (by kernel_rfl) rfl plain (by kernel_rfl)
#print axioms card
end Go.Proofs.YtacokmkbikdmmaaGreatDoor.fnSymbol
