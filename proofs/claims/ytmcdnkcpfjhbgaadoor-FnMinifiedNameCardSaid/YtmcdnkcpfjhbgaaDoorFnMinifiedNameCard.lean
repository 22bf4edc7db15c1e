/-
  FnMinifiedName: the row's statement out of the law's walk, and its tied card.
  Conditions: the row's own.
-/
import Derived.Test.YtmcdnkcpfjhbgaaDoorCards
import Derived.Test.YtmcdnkcpfjhbgaaDoorTie
import Derived.Test.YtmcdnkcpfjhbgaaDoorFnMinifiedNameWalk
import Derived.WalkKit
import Derived.ProofKit
import Derived.OpenShut
import Derived.OpenVars
import Derived.Deep.DeepHandedRow
import Derived.Lib.LaidTab
namespace Go.Proofs.YtmcdnkcpfjhbgaaDoor.fnMinifiedName
open Go.ChangeShapes Go.WideShapes Go.ChangeAt Go.RowKit
set_option linter.unusedVariables false

theorem own : ownKnob Tryd.prog.godebug = none := by kernel_rfl

theorem table {W : World} (h : laidMetH Tryd.prog Rows.fnMinifiedNameRow.laid W) : Table W := by
  have h : laidMet Tryd.prog Rows.fnMinifiedNameRow.laid W := h
  obtain ⟨ps, ⟨g, t, cs, fuel, p, q, hg, ht, hv, hd, _, _⟩, _, _⟩ := h
  obtain rfl := Option.some.inj ((show Tryd.prog.globalNamed "given.example/pub-frisket/pub/esbuild/inner/ast.DefaultNameMinifierJS" = some 0 by kernel_rfl).symm.trans hg)
  obtain rfl := Option.some.inj ((show (Tryd.prog.globals[0]?).map (·.type) = some 27 by kernel_rfl).symm.trans ht)
  obtain ⟨y0, y1, n, e, hl, d0, d1⟩ := trod_struct2 Tryd.underlying27 hd
  obtain ⟨s0, c0, x0, _⟩ := DataW.trod_string Tryd.underlying9 d0
  obtain ⟨s1, c1, x1, _⟩ := DataW.trod_string Tryd.underlying9 d1
  subst x0 x1
  have ed : Rows.laid_given_example_pub_frisket_pub_esbuild_inner_ast_DefaultNameMinifierJS = (.agg [.lit (.string s0.data.toList), .lit (.string s1.data.toList)] : DataW Unit) := (Prod.mk.inj e).1
  simp only [Rows.laid_given_example_pub_frisket_pub_esbuild_inner_ast_DefaultNameMinifierJS, DataW.agg.injEq, List.cons.injEq, DataW.lit.injEq, Lit.string.injEq, and_true] at ed
  have cz : Tryd.prog.cellsOf 9 = 1 := by kernel_rfl
  have hs0 : s0 = H := by
    have : s0.data = hb.toArray := by rw [show hb = s0.data.toList from ed.1]
    cases s0; simp only at this; subst this; rfl
  have hs1 : s1 = T := by
    have : s1.data = tb.toArray := by rw [show tb = s1.data.toList from ed.2]
    cases s1; simp only at this; subst this; rfl
  subst hs0 hs1
  simp only [cz] at c0 c1
  have g0 : cs[0]? = some (.string H) := by
    have h0 : ((cs.toList.drop 0).take 1)[0]? = some (.string H) := by rw [show (cs.toList.drop 0).take 1 = [.string H] from c0]; rfl
    simpa using h0
  have g1 : cs[1]? = some (.string T) := by
    have h0 : ((cs.toList.drop 1).take 1)[0]? = some (.string T) := by rw [show (cs.toList.drop 1).take 1 = [.string T] from c1]; rfl
    simpa using h0
  exact ⟨(World.var?_cell hg hv 0).trans g0, (World.var?_cell hg hv 1).trans g1⟩

/-- a world for the witness: the settled one, the minifier holding its two strings -/
noncomputable def laidWorld (os : Os) : World :=
  { World.holding Tryd.prog os ⟨#[], #[], []⟩ with heap := (World.holding Tryd.prog os ⟨#[], #[], []⟩).heap.modify 0 fun
      | .cells _ t frozen => .cells #[.string H, .string T] t frozen
      | o => o }
theorem laid_met (os : Os) : laidMet Tryd.prog Rows.fnMinifiedNameRow.laid ((laidWorld os).forCall (fun _ _ => 0) ⟨#[], #[.int .i64 0, .int .i64 0], []⟩).memory :=
  laidMet_of_run' 8 (by kernel_rfl) (by kernel_rfl)
theorem reads (os : Os) {H : Type} (enc : TypeId × Value → H) : ∃ gs places, DataW.whole enc Tryd.prog ((laidWorld os).forCall (fun _ _ => 0) ⟨#[], #[.int .i64 0, .int .i64 0], []⟩).memory Tryd.f3.params.toList Rows.fnMinifiedNameSpec.vars false #[Value.int .i64 0, .int .i64 0].toList 8 = some ([.lit (.int .i64 0), .lit (.int .i64 0)], gs, places) :=
  ⟨[.agg [.lit (.string hb), .lit (.string tb)]], [.cell 0 0, .cell 0 1], by kernel_rfl⟩

set_option maxRecDepth 100000 in
theorem lifted (os : Os) (started : os.Started) (H : Type) (enc : TypeId × Value → H) (F : Stop.Interp) :
    ReturnsInHanded {} Tryd.checked os 3 .any ((OpenSpec.ofChange Rows.fnMinifiedNameSpec).preRow enc Tryd.prog Tryd.f3 Rows.fnMinifiedNameRow.domain false Rows.fnMinifiedNameRow.laid) (((OpenSpec.ofChange Rows.fnMinifiedNameSpec).at F).post enc Tryd.prog Tryd.f3 false true false false) := by
  obtain ⟨gs, places, hx⟩ := reads os enc
  refine returnsInHanded_of_row (C := Tryd.checked) (s := OpenSpec.ofChange Rows.fnMinifiedNameSpec) own started (by kernel_rfl) Tryd.func3
    (witness_row_at (enc := enc) (C := Tryd.checked) false (laidWorld os) #[.int .i64 0, .int .i64 0] rfl (by kernel_rfl) (by kernel_rfl) (by kernel_rfl)
      (OpenSpec.preRow_of_cond 8 hx (by kernel_rfl) (fun k hk => by cases hk) (by kernel_rfl) (laid_met os))) ?_
  intro W base args ds gs before hval0 hW _ _ _ hL _ _
  have hval : ∀ (j : Nat) t v, Tryd.f3.params[j]? = some t → args[j]? = some v → Value.okWide Tryd.prog W .any base t v := hval0
  have hW' := hW
  obtain ⟨p, q, hA0, hV, rfl, hfz, hnd⟩ := hW
  have hA : DataW.TrodAll enc Tryd.prog W 0 (fun _ => true) true Tryd.f3.params.toList args.toList ds p := hA0
  rw [Tryd.params3] at hA hval
  obtain ⟨v0, vs0, d0, ds0, p0, q0, hargs, rfl, rfl, h0, r0⟩ := trodAll_cons hA
  obtain ⟨v1, vs1, d1, ds1, p1, q1, rfl, rfl, rfl, h1, r1⟩ := trodAll_cons r0
  obtain ⟨rfl, rfl, rfl⟩ := trodAll_nil r1
  obtain rfl : args = #[v0, v1] := by cases args; simp_all
  obtain ⟨a0, rfl, rfl, rfl, w0⟩ := open_int Tryd.underlying3 (hval 0 3 v0 rfl rfl) h0
  obtain ⟨a1, rfl, rfl, rfl, w1⟩ := open_int Tryd.underlying3 (hval 1 3 v1 rfl rfl) h1
  obtain ⟨g1, rfl⟩ : ∃ g1, gs = [g1] := by
    match gs, hV with
    | [g1], _ => exact ⟨g1, rfl⟩
    | [], h => exact h.elim
    | _ :: _ :: _, h => obtain ⟨_, _, _, _, _, _, _, _, _, _, hs, _⟩ := h; exact hs.elim
  clear hA0 hval0
  simp only [List.append_nil] at hW'
  refine (law a0 a1 W (table hL)).mono fun e W' ⟨he, hb⟩ => ?_
  subst he
  exact ⟨_, rfl, _, _, _, [], [], q, hW', trodAll_cons_mk (shut_bool Tryd.underlying4 _) trodAll_mk0, trodAll_cons_mk (shut_int Tryd.underlying3 w0) (trodAll_cons_mk (shut_int Tryd.underlying3 w1) trodAll_mk0),
    Below.trodVars (by kernel_rfl) hb (by kernel_rfl) hV, hb.frame _, fun h => by cases h⟩

theorem said : Rows.FnMinifiedNameSaid :=
  OpenClaim.holds_of_cond 3 Tryd.f3 rfl rfl rfl rfl rfl rfl rfl ⟨rfl, rfl, rfl, rfl, rfl⟩ rfl rfl rfl rfl rfl (by kernel_rfl) Tryd.func3 (by kernel_rfl)
    (of_decide_eq_true (by kernel_rfl)) (by unfold Func.isWrapper; first | (rw [if_pos (by decide +kernel)]; kernel_rfl) | (rw [if_neg (by decide +kernel)]; exact ⟨rfl, rfl⟩))
    (fun os started H enc _ F => by rw [OpenClaim.pre_eq_preRow]; exact lifted os started H enc F)

theorem plain (f : FuncId) (fn : Func) (hf : Tryd.pinned.checked.prog.funcNamed "given.example/pub-frisket/laws.FnMinifiedName" = some f) (hfn : Tryd.pinned.checked.prog.funcs[f]? = some fn) :
    false = Tryd.pinned.checked.prog.looks [] ∧ ∀ (j : Nat) t, fn.params[j]? = some t → Tryd.pinned.checked.prog.wantsStandIn t = false := by
  obtain rfl : f = 3 := Option.some.inj ((show Tryd.prog.funcNamed "given.example/pub-frisket/laws.FnMinifiedName" = some 3 by kernel_rfl).symm.trans hf) |>.symm
  obtain rfl : fn = Tryd.f3 := (Option.some.inj (Tryd.func3.symm.trans hfn)).symm
  refine ⟨by kernel_rfl, fun j t ht => ?_⟩
  rw [Tryd.params3] at ht
  have hm : t ∈ [3, 3] := by simpa using Array.mem_of_getElem? ht
  obtain rfl : t = 3 := by simpa using hm
  exact (show Tryd.prog.wantsStandIn 3 = false by kernel_rfl)

/-- ████ THE CARD ████ -/
theorem card : Rows.FnMinifiedNameCardSaid :=
  Claim7.holds_tied_plain_at .later [] _ _ _ _ said (fun _ h => by cases h) (by kernel_rfl) (fun _ h => by cases h) fnMinifiedName_row_tie rfl ⟨rfl, rfl⟩ (by kernel_rfl) rfl plain (by kernel_rfl)
#print axioms card
end Go.Proofs.YtmcdnkcpfjhbgaaDoor.fnMinifiedName
