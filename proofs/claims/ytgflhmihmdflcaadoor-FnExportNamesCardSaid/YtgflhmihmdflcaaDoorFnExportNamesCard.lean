/-
  FnExportNames: the row's statement out of the law's walk, and its tied card.
  Conditions: the row's own.
-/
import Derived.Test.YtgflhmihmdflcaaDoorCards
import Derived.Test.YtgflhmihmdflcaaDoorTie
import Derived.Test.YtgflhmihmdflcaaDoorFnExportNamesLaw
import Derived.WalkKit
import Derived.ProofKit
import Derived.OpenShut
import Derived.OpenVars
import Derived.ShutString
import Derived.ChangeSlices
import Derived.SliceStrings
import Derived.ChangeVars
import Derived.Carry
import Derived.Stop.LaidErr
import Derived.Deep.DeepHandedRow
import Derived.Lib.LaidTab
namespace Go.Proofs.YtgflhmihmdflcaaDoor.fnExportNames
open Go.ChangeShapes Go.WideShapes Go.ChangeAt Go.RowKit Go.Proofs.YtgflhmihmdflcaaDoorW.PrintWords Go.Proofs.YtgflhmihmdflcaaDoor.PFnExportNames
set_option linter.unusedVariables false

theorem own : ownKnob Tryd.prog.godebug = none := by kernel_rfl
theorem laidOut : laidOutB Tryd.prog = true := by kernel_rfl
/-- Itoa's table -/
theorem tab10 {W : World} (h : laidMetH Tryd.prog Rows.fnExportNamesRow.laid W) : Tb W := by
  have h : laidMet Tryd.prog Rows.fnExportNamesRow.laid W := h
  have h2 : laidMet Tryd.prog [("internal/strconv.uint64pow10", Rows.laid_internal_strconv_uint64pow10), ("given.example/pub-frisket/pub/esbuild/inner/ast.DefaultNameMinifierJS", Rows.laid_given_example_pub_frisket_pub_esbuild_inner_ast_DefaultNameMinifierJS)] W := h.tail.tail
  have e : (Rows.laid_internal_strconv_uint64pow10 : DataW Unit) = Lib.tabData .u64 Lib.pow10Tab := by kernel_rfl
  rw [e] at h2
  exact Lib.tabIs_of_head g10 (show (Tryd.prog.globals[1]?).map (·.type) = some 92 by kernel_rfl) Tryd.underlying92 Tryd.underlying40 (by kernel_rfl) (by kernel_rfl) h2
/-- the minifier's two texts -/
theorem minifier {W : World} (h : laidMetH Tryd.prog Rows.fnExportNamesRow.laid W) : Mn W := by
  have h : laidMet Tryd.prog Rows.fnExportNamesRow.laid W := h
  obtain ⟨ps, ⟨g, t, cs, fuel, p, q, hg, ht, hv, hd, _, _⟩, _, _⟩ := h.tail.tail.tail
  obtain rfl := Option.some.inj ((show Tryd.prog.globalNamed "given.example/pub-frisket/pub/esbuild/inner/ast.DefaultNameMinifierJS" = some 0 by kernel_rfl).symm.trans hg)
  obtain rfl := Option.some.inj ((show (Tryd.prog.globals[0]?).map (·.type) = some 39 by kernel_rfl).symm.trans ht)
  obtain ⟨y0, y1, n, e, hl, d0, d1⟩ := trod_struct2 Tryd.underlying39 hd
  obtain ⟨s0, c0, x0, _⟩ := DataW.trod_string Tryd.underlying9 d0
  obtain ⟨s1, c1, x1, _⟩ := DataW.trod_string Tryd.underlying9 d1
  subst x0 x1
  have ed : Rows.laid_given_example_pub_frisket_pub_esbuild_inner_ast_DefaultNameMinifierJS = (.agg [.lit (.string s0.data.toList), .lit (.string s1.data.toList)] : DataW Unit) := (Prod.mk.inj e).1
  simp only [Rows.laid_given_example_pub_frisket_pub_esbuild_inner_ast_DefaultNameMinifierJS, DataW.agg.injEq, List.cons.injEq, DataW.lit.injEq, Lit.string.injEq, and_true] at ed
  have cz : Tryd.prog.cellsOf 9 = 1 := by kernel_rfl
  have hs0 : s0 = H := by
    have : s0.data = hb.toArray := by rw [show hb = s0.data.toList from ed.1]
    cases s0; simp only at this; subst this; rfl
  have hs1 : s1 = T := by
    have : s1.data = tb.toArray := by rw [show tb = s1.data.toList from ed.2]
    cases s1; simp only at this; subst this; rfl
  subst hs0 hs1
  simp only [cz] at c0 c1
  have g0 : cs[0]? = some (.string H) := by
    have h0 : ((cs.toList.drop 0).take 1)[0]? = some (.string H) := by rw [show (cs.toList.drop 0).take 1 = [.string H] from c0]; rfl
    simpa using h0
  have g1 : cs[1]? = some (.string T) := by
    have h0 : ((cs.toList.drop 1).take 1)[0]? = some (.string T) := by rw [show (cs.toList.drop 1).take 1 = [.string T] from c1]; rfl
    simpa using h0
  exact ⟨(World.var?_cell hg hv 0).trans g0, (World.var?_cell hg hv 1).trans g1⟩
section
variable {H : Type} {enc : TypeId × Value → H} {W : World} {base : Nat} {held : Bool}
/-- the argument, opened: a list of texts that lies where the slice says -/
theorem open_texts {a0 : Option Addr} {len0 cap0 : Nat} {x : DataW H × List MemPlace} {fuel : Nat} (h : DataW.trod enc Tryd.prog W base (fun _ => true) held fuel 22 [.slice a0 len0 cap0] = some x) :
    ∃ ss : List ByteArray, ss.length = len0 ∧ Kd.C Kd.string W a0 len0 ss ∧ len0 ≤ cap0 := by
  rcases open_strings Tryd.underlying22 Tryd.underlying9 (by kernel_rfl) h with ⟨hcs, _⟩ | ⟨a, l, c, zs, hcs, _, hl, hm, hz, _, hcell, _⟩
  · simp only [List.cons.injEq, Value.slice.injEq, and_true] at hcs
    obtain ⟨rfl, rfl, rfl⟩ := hcs
    exact ⟨[], rfl, Kd.C_nil _ _, Nat.le_refl _⟩
  · simp only [List.cons.injEq, Value.slice.injEq, and_true] at hcs
    obtain ⟨rfl, rfl, rfl⟩ := hcs
    have hz : zs.length = cap0 := by simpa using hz
    have hlen : (zs.take len0).length = len0 := by rw [List.length_take]; omega
    refine ⟨zs.take len0, hlen, ⟨hlen, by unfold maxLen at hm; omega, fun _ => ⟨a, rfl, fun j p hp => ?_⟩⟩, hl⟩
    have hj : j < len0 := by have := (List.getElem?_eq_some_iff.1 hp).1; omega
    refine ⟨[.string p], rfl, rfl, fun i u hu => ?_⟩
    have hi : i = 0 := by
      have := (List.getElem?_eq_some_iff.1 hu).1
      simp at this
      exact this
    subst hi
    have hcc := hcell j (by omega)
    rw [List.getElem?_take, if_pos hj] at hp
    simp only [List.getD, hp, Option.getD_some] at hcc
    rw [show Kd.string.sz = 1 from rfl, Nat.mul_one, Nat.add_zero, hcc]
    exact hu
end
def put (vs : Array Value) : Obj → Obj
  | .cells _ t frozen => .cells vs t frozen
  | o => o
/-- the numbers of a table of plain numbers -/
def nums_ : DataW Unit → List Value
  | .agg l => l.map fun
    | .lit (.int k n) => .int k n
    | _ => .nilIface
  | _ => []
/-- a world for the witness: the settled one, the variables laid -/
noncomputable def laidWorld (os : Os) : World :=
  let w0 := World.holding Tryd.prog os ⟨#[], #[], []⟩
  { w0 with heap := (((w0.heap.modify 0 (put #[.string H, .string T])).modify 1 (put (nums_ Rows.laid_internal_strconv_uint64pow10).toArray)).modify 2 (put (nums_ Rows.laid_math_bits_deBruijn32tab).toArray)).modify 3 (put (nums_ Rows.laid_math_bits_deBruijn64tab).toArray) }
theorem laid_met (os : Os) : laidMet Tryd.prog Rows.fnExportNamesRow.laid ((laidWorld os).forCall (fun _ _ => 0) ⟨#[], #[.slice none 0 0], []⟩).memory :=
  laidMet_of_run' 8 (by kernel_rfl) (by kernel_rfl)
theorem reads (os : Os) {H : Type} (enc : TypeId × Value → H) : ∃ gs places, DataW.whole enc Tryd.prog ((laidWorld os).forCall (fun _ _ => 0) ⟨#[], #[.slice none 0 0], []⟩).memory Tryd.f3.params.toList Rows.fnExportNamesSpec.vars false #[Value.slice none 0 0].toList 8 = some ([.nil], gs, places) :=
  ⟨[.agg [.lit (.string hb), .lit (.string tb)]], [.cell 0 0, .cell 0 1], by kernel_rfl⟩

set_option maxRecDepth 100000 in
theorem lifted (os : Os) (started : os.Started) (H : Type) (enc : TypeId × Value → H) (F : Stop.Interp) :
    ReturnsInHanded {} Tryd.checked os 3 .any ((OpenSpec.ofChange Rows.fnExportNamesSpec).preRow enc Tryd.prog Tryd.f3 Rows.fnExportNamesRow.domain false Rows.fnExportNamesRow.laid) (((OpenSpec.ofChange Rows.fnExportNamesSpec).at F).post enc Tryd.prog Tryd.f3 false true false false) := by
  obtain ⟨gs, places, hx⟩ := reads os enc
  refine returnsInHanded_of_row (C := Tryd.checked) (s := OpenSpec.ofChange Rows.fnExportNamesSpec) own started (by kernel_rfl) Tryd.func3
    (witness_row_at (enc := enc) (C := Tryd.checked) false (laidWorld os) #[.slice none 0 0] rfl (by kernel_rfl) (by kernel_rfl) (by kernel_rfl)
      (OpenSpec.preRow_of_cond 8 hx (by kernel_rfl) (fun k hk => by cases hk) (by kernel_rfl) (laid_met os))) ?_
  intro W base args ds gs before hval0 hW _ _ _ hL _ _
  have hval : ∀ (j : Nat) t v, Tryd.f3.params[j]? = some t → args[j]? = some v → Value.okWide Tryd.prog W .any base t v := hval0
  have hW' := hW
  obtain ⟨p, q, hA0, hV, rfl, hfz, hnd⟩ := hW
  have hA : DataW.TrodAll enc Tryd.prog W 0 (fun _ => true) true Tryd.f3.params.toList args.toList ds p := hA0
  rw [Tryd.params3] at hA hval
  obtain ⟨v0, vs0, d0, ds0, p0, q0, hargs, rfl, rfl, h0, r0⟩ := trodAll_cons hA
  obtain ⟨rfl, rfl, rfl⟩ := trodAll_nil r0
  obtain rfl : args = #[v0] := by cases args; simp_all
  have hV1 : DataW.TrodVars enc Tryd.prog W (fun _ => true) ["given.example/pub-frisket/pub/esbuild/inner/ast.DefaultNameMinifierJS"] gs q := hV
  obtain ⟨d2, rfl⟩ : ∃ d2, gs = [d2] := by
    obtain ⟨g, t, cs, fuel, d, p, h, _⟩ := trodVars_one hV1
    exact ⟨d, h⟩
  obtain ⟨a0, len0, cap0, rfl⟩ := okWide_slice Tryd.underlying22 (hval 0 22 v0 rfl rfl)
  have k0 := h0
  have lt0 : ∀ x ∈ p0, x.block < W.heap.size := by obtain ⟨m, hm⟩ := k0; exact DataW.trod_lt m _ _ _ hm
  obtain ⟨xs, rfl, hC0, hl0⟩ : ∃ xs : List ByteArray, xs.length = len0 ∧ Kd.C Kd.string W a0 len0 xs ∧ len0 ≤ cap0 := by
    obtain ⟨fuel, hf⟩ := h0
    exact open_texts hf
  clear hA0 hval0
  have hT := tab10 hL
  have hG : 1 < W.heap.size := World.block_lt_of_cell? W _ (Lib.TabIs.cell hT g10 0 (by decide))
  refine (law xs a0 cap0 W hC0 hl0 hT (minifier hL) hG).mono fun e W' ⟨he, hb⟩ => ?_
  subst he
  exact ⟨_, rfl, _, _, _, [], _, q, hW', trodAll_mk1 (shut_bool Tryd.underlying4 _), (trodAll_cons_mk (Below.trod laidOut (by kernel_rfl) (of_decide_eq_true (by kernel_rfl)) k0 hb lt0) trodAll_mk0), Below.trodVars laidOut hb (by kernel_rfl) hV1, hb.frame _, fun h => by cases h⟩

theorem said : Rows.FnExportNamesSaid :=
  OpenClaim.holds_of_cond 3 Tryd.f3 rfl rfl rfl rfl rfl rfl rfl ⟨rfl, rfl, rfl, rfl, rfl⟩ rfl rfl rfl rfl rfl (by kernel_rfl) Tryd.func3 (by kernel_rfl)
    (of_decide_eq_true (by kernel_rfl)) (by unfold Func.isWrapper; first | (rw [if_pos (by decide +kernel)]; kernel_rfl) | (rw [if_neg (by decide +kernel)]; exact ⟨rfl, rfl⟩))
    (fun os started H enc _ F => by rw [OpenClaim.pre_eq_preRow]; exact lifted os started H enc F)

theorem plain (f : FuncId) (fn : Func) (hf : Tryd.pinned.checked.prog.funcNamed "given.example/pub-frisket/laws.FnExportNames" = some f) (hfn : Tryd.pinned.checked.prog.funcs[f]? = some fn) :
    false = Tryd.pinned.checked.prog.looks [] ∧ ∀ (j : Nat) t, fn.params[j]? = some t → Tryd.pinned.checked.prog.wantsStandIn t = false := by
  obtain rfl : f = 3 := Option.some.inj ((show Tryd.prog.funcNamed "given.example/pub-frisket/laws.FnExportNames" = some 3 by kernel_rfl).symm.trans hf) |>.symm
  obtain rfl : fn = Tryd.f3 := (Option.some.inj (Tryd.func3.symm.trans hfn)).symm
  refine ⟨by kernel_rfl, fun j t ht => ?_⟩
  rw [Tryd.params3] at ht
  have hm : t ∈ [22] := by simpa using Array.mem_of_getElem? ht
  simp only [List.mem_cons, List.not_mem_nil, or_false] at hm
  subst hm
  exact (show Tryd.prog.wantsStandIn 22 = false by kernel_rfl)

/-- ████ THE CARD ████ -/
theorem card : Rows.FnExportNamesCardSaid :=
  Claim7.holds_tied_plain_at .later [] _ _ _ _ said (fun _ h => by cases h) (by kernel_rfl) (fun _ h => by cases h) fnExportNames_row_tie rfl ⟨rfl, rfl⟩ (by kernel_rfl) rfl plain (by kernel_rfl)
#print axioms card
end Go.Proofs.YtgflhmihmdflcaaDoor.fnExportNames
