/-
  FnMergedUses: the row's statement out of the law's walk, and its tied card.
  Conditions: the row's own.
-/
import Derived.Test.YtlhepbgonecgpaaDoorCards
import Derived.Test.YtlhepbgonecgpaaDoorTie
import Derived.Test.YtlhepbgonecgpaaDoorFnMergedUsesLaw
import Derived.WalkKit
import Derived.ProofKit
import Derived.OpenShut
import Derived.OpenVars
import Derived.ShutString
import Derived.ChangeSlices
import Derived.ChangeVars
import Derived.Carry
import Derived.Deep.Slices
import Derived.Deep.Fields
import Derived.Deep.DeepHandedRow
import Derived.Lib.LaidTab
namespace Go.Proofs.YtlhepbgonecgpaaDoor.fnMergedUses
open Go.ChangeShapes Go.WideShapes Go.ChangeAt Go.RowKit Go.Proofs.YtlhepbgonecgpaaDoorW.PrintWords Go.Proofs.YtlhepbgonecgpaaDoor.PFnMergedUses
set_option linter.unusedVariables false

theorem own : ownKnob Tryd.prog.godebug = none := by kernel_rfl
theorem laidOut : laidOutB Tryd.prog = true := by kernel_rfl
section
variable {H : Type} {enc : TypeId × Value → H} {W : World} {base : Nat} {spare : Nat → Bool} {held : Bool}
/-- what the variable holds -/
theorem invalid {W : World} (h : laidMetH Tryd.prog Rows.fnMergedUsesRow.laid W) : W.cell? ⟨0, 0, none⟩ = some (.int .u32 4294967295) ∧ W.cell? ⟨0, 1, none⟩ = some (.int .u32 4294967295) := by
  have h : laidMet Tryd.prog Rows.fnMergedUsesRow.laid W := h
  obtain ⟨ps, ⟨g, t, cs, fuel, p, q, hg, ht, hv, hd, _, _⟩, _⟩ := h
  obtain rfl := Option.some.inj ((show Tryd.prog.globalNamed "given.example/pub-frisket/pub/esbuild/inner/ast.InvalidRef" = some 0 by kernel_rfl).symm.trans hg)
  obtain rfl := Option.some.inj ((show (Tryd.prog.globals[0]?).map (·.type) = some 49 by kernel_rfl).symm.trans ht)
  obtain ⟨y0, y1, n, e, hl, d0, d1⟩ := trod_struct2 Tryd.underlying49 hd
  obtain ⟨n0, c0, x0, _⟩ := DataW.trod_int Tryd.underlying28 d0
  obtain ⟨n1, c1, x1, _⟩ := DataW.trod_int Tryd.underlying28 d1
  subst x0 x1
  have e1 := (Prod.mk.inj e).1
  unfold Rows.laid_given_example_pub_frisket_pub_esbuild_inner_ast_InvalidRef at e1
  simp only [DataW.agg.injEq, List.cons.injEq, DataW.lit.injEq, Lit.int.injEq, and_true, true_and] at e1
  obtain ⟨rfl, rfl⟩ := e1
  have cz : Tryd.prog.cellsOf 28 = 1 := by kernel_rfl
  simp only [cz] at c0 c1
  have g0 : cs.toList[0]? = some (.int .u32 4294967295) := by
    have h0 : ((cs.toList.drop 0).take 1)[0]? = some (.int .u32 4294967295) := by rw [show (cs.toList.drop 0).take 1 = [.int .u32 4294967295] from c0]; rfl
    simpa using h0
  have g1 : cs.toList[1]? = some (.int .u32 4294967295) := by
    have h0 : ((cs.toList.drop 1).take 1)[0]? = some (.int .u32 4294967295) := by rw [show (cs.toList.drop 1).take 1 = [.int .u32 4294967295] from c1]; rfl
    simpa using h0
  exact ⟨by rw [World.var?_cell hg hv 0, ← Array.getElem?_toList]; exact g0, by rw [World.var?_cell hg hv 1, ← Array.getElem?_toList]; exact g1⟩
/-- a symbol's cells, opened -/
theorem open_sym {fuel : Nat} {cs : List Value} {x : DataW H × List MemPlace} (h : DataW.trod enc Tryd.prog W base spare held fuel 30 cs = some x) (hl : cs.length = 4) :
    ∃ y : S30, cs = [.string y.f0, .int .u32 y.f1, .int .i64 y.f2, .int .i64 y.f3] ∧ 0 ≤ y.f1 ∧ y.f1 < 4294967296 := by
  obtain ⟨ys, n, hn, hy, hlen, hyl, hf⟩ := DataW.trod_struct Tryd.underlying30 h
  match cs, hl with
  | [c0, c1, c2, c3], _ =>
    have one3 : Tryd.prog.cellsOf 3 = 1 := by kernel_rfl
    have one9 : Tryd.prog.cellsOf 9 = 1 := by kernel_rfl
    have one28 : Tryd.prog.cellsOf 28 = 1 := by kernel_rfl
    have hy4 : ys.length = 4 := hyl
    match ys, hy4, hf with
    | [y0, y1, y2, y3], _, hf =>
      have g0 : DataW.trod enc Tryd.prog W base spare held n 9 [c0] = some y0 := by
        have t := hf 0 _ rfl
        change DataW.trod enc Tryd.prog W base spare held n 9 (List.take (Tryd.prog.cellsOf 9) (List.drop 0 [c0, c1, c2, c3])) = some y0 at t
        rw [one9] at t
        exact t
      obtain ⟨n0, e0, _⟩ := DataW.trod_string Tryd.underlying9 g0
      have g1 : DataW.trod enc Tryd.prog W base spare held n 28 [c1] = some y1 := by
        have t := hf 1 _ rfl
        change DataW.trod enc Tryd.prog W base spare held n 28 (List.take (Tryd.prog.cellsOf 28) (List.drop 1 [c0, c1, c2, c3])) = some y1 at t
        rw [one28] at t
        exact t
      obtain ⟨n1, e1, _, w1⟩ := DataW.trod_int Tryd.underlying28 g1
      have g2 : DataW.trod enc Tryd.prog W base spare held n 3 [c2] = some y2 := by
        have t := hf 2 _ rfl
        change DataW.trod enc Tryd.prog W base spare held n 3 (List.take (Tryd.prog.cellsOf 3) (List.drop 2 [c0, c1, c2, c3])) = some y2 at t
        rw [one3] at t
        exact t
      obtain ⟨n2, e2, _, w2⟩ := DataW.trod_int Tryd.underlying3 g2
      have g3 : DataW.trod enc Tryd.prog W base spare held n 3 [c3] = some y3 := by
        have t := hf 3 _ rfl
        change DataW.trod enc Tryd.prog W base spare held n 3 (List.take (Tryd.prog.cellsOf 3) (List.drop 3 [c0, c1, c2, c3])) = some y3 at t
        rw [one3] at t
        exact t
      obtain ⟨n3, e3, _, w3⟩ := DataW.trod_int Tryd.underlying3 g3
      simp only [List.cons.injEq, and_true] at e0 e1 e2 e3
      subst e0 e1 e2 e3
      refine ⟨⟨n0, n1, n2, n3⟩, rfl, ?_⟩
      simp only [Lit.wf, Bool.and_eq_true, decide_eq_true_eq] at w1
      have h1 : IntKind.u32.min = 0 := by decide
      have h2 : IntKind.u32.max = 4294967295 := by decide
      exact ⟨by show _ ≤ n1; omega, by show n1 < _; omega⟩
/-- the argument, opened: a list of symbols that lies where the slice says -/
theorem open_syms {fuel : Nat} {a0 : Option Addr} {len0 cap0 : Nat} {x : DataW H × List MemPlace} (h : DataW.trod enc Tryd.prog W base spare held fuel 22 [.slice a0 len0 cap0] = some x) :
    ∃ xs : List S30, xs.length = len0 ∧ Kd.C k30 W a0 len0 xs ∧ len0 ≤ cap0 ∧ ∀ x ∈ xs, 0 ≤ x.f1 ∧ x.f1 < 4294967296 := by
  have four : Tryd.prog.cellsOf 30 = 4 := by kernel_rfl
  rcases Go.Deep.open_slice Tryd.underlying22 h with ⟨hcs, _⟩ | ⟨a, len, cap, m, n, D, Pl, hcs, _, hl, hm, hmm, _, hi⟩
  · simp only [List.cons.injEq, Value.slice.injEq, and_true] at hcs
    obtain ⟨rfl, rfl, rfl⟩ := hcs
    exact ⟨[], rfl, Kd.C_nil _ _, Nat.le_refl _, fun x hx => by cases hx⟩
  · simp only [List.cons.injEq, Value.slice.injEq, and_true] at hcs
    obtain ⟨rfl, rfl, rfl⟩ := hcs
    have hlm : len0 ≤ m := by rw [hmm]; split <;> omega
    have hx : ∀ i, i < len0 → ∃ y : S30, (∀ j u, [Value.string y.f0, .int .u32 y.f1, .int .i64 y.f2, .int .i64 y.f3][j]? = some u → W.cell? (a.add (i * 4 + j)) = some u) ∧ 0 ≤ y.f1 ∧ y.f1 < 4294967296 := by
      intro i hil
      obtain ⟨cs', hc, ht⟩ := hi i (by omega)
      rw [four] at hc
      obtain ⟨_, hcl, hat⟩ := World.cells?_some hc
      obtain ⟨y, rfl, hy⟩ := open_sym ht hcl
      refine ⟨y, fun j u hu => ?_, hy⟩
      have hj : j < 4 := (List.getElem?_eq_some_iff.1 hu).1
      rw [← Go.Deep.add_add, hat j hj]
      exact hu
    let f : Nat → S30 := fun i => if h : i < len0 then (hx i h).choose else z30
    have hf : ∀ i, i < len0 → (∀ j u, [Value.string (f i).f0, .int .u32 (f i).f1, .int .i64 (f i).f2, .int .i64 (f i).f3][j]? = some u → W.cell? (a.add (i * 4 + j)) = some u) ∧ 0 ≤ (f i).f1 ∧ (f i).f1 < 4294967296 := by
      intro i h
      have e : f i = (hx i h).choose := dif_pos h
      rw [e]
      exact (hx i h).choose_spec
    refine ⟨(List.range len0).map f, by simp, ⟨by simp, by unfold maxLen at hm; omega, fun _ => ⟨a, rfl, fun j p hp => ?_⟩⟩, hl, fun x hx2 => ?_⟩
    · have hj : j < len0 := by
        have := (List.getElem?_eq_some_iff.1 hp).1
        simpa using this
      have e : p = f j := by simpa [hj] using hp.symm
      subst e
      exact ⟨_, rfl, k30_mk _ _, fun i u hu => (hf j hj).1 i u hu⟩
    · obtain ⟨i, hi2, rfl⟩ := List.mem_map.1 hx2
      rw [List.mem_range] at hi2
      exact (hf i hi2).2
theorem open_nums {a0 : Option Addr} {len0 cap0 : Nat} {x : DataW H × List MemPlace} {fuel : Nat} (h : DataW.trod enc Tryd.prog W base (fun _ => true) held fuel 23 [.slice a0 len0 cap0] = some x) :
    ∃ xs : List Int, xs.length = len0 ∧ Kd.C (Kd.int .i64) W a0 len0 xs ∧ len0 ≤ cap0 := by
  rcases open_ints Tryd.underlying23 Tryd.underlying3 (by kernel_rfl) h with ⟨hcs, _⟩ | ⟨a, l, c, zs, hcs, _, hl, hm, hz, _, hcell, _⟩
  · simp only [List.cons.injEq, Value.slice.injEq, and_true] at hcs
    obtain ⟨rfl, rfl, rfl⟩ := hcs
    exact ⟨[], rfl, Kd.C_nil _ _, Nat.le_refl _⟩
  · simp only [List.cons.injEq, Value.slice.injEq, and_true] at hcs
    obtain ⟨rfl, rfl, rfl⟩ := hcs
    have hz : zs.length = cap0 := by simpa using hz
    have hlen : (zs.take len0).length = len0 := by rw [List.length_take]; omega
    refine ⟨zs.take len0, hlen, ⟨hlen, by unfold maxLen at hm; omega, fun _ => ⟨a, rfl, fun j p hp => ?_⟩⟩, hl⟩
    have hj : j < len0 := by have := (List.getElem?_eq_some_iff.1 hp).1; omega
    refine ⟨[.int .i64 p], rfl, rfl, fun i u hu => ?_⟩
    have hi : i = 0 := by
      have := (List.getElem?_eq_some_iff.1 hu).1
      simp at this
      exact this
    subst hi
    have hcc := hcell j (by omega)
    rw [List.getElem?_take, if_pos hj] at hp
    simp only [List.getD, hp, Option.getD_some] at hcc
    rw [show (Kd.int .i64).sz = 1 from rfl, Nat.mul_one, Nat.add_zero, hcc]
    exact hu
end
def put (vs : Array Value) : Obj → Obj
  | .cells _ t frozen => .cells vs t frozen
  | o => o
/-- a world for the witness: the settled one, the variable laid -/
noncomputable def laidWorld (os : Os) : World :=
  { World.holding Tryd.prog os ⟨#[], #[], []⟩ with heap := (World.holding Tryd.prog os ⟨#[], #[], []⟩).heap.modify 0 (put #[.int .u32 4294967295, .int .u32 4294967295]) }
theorem laid_met (os : Os) : laidMet Tryd.prog Rows.fnMergedUsesRow.laid ((laidWorld os).forCall (fun _ _ => 0) ⟨#[], #[.slice none 0 0, .slice none 0 0], []⟩).memory :=
  laidMet_of_run' 8 (by kernel_rfl) (by kernel_rfl)
theorem reads (os : Os) {H : Type} (enc : TypeId × Value → H) : ∃ gs places, DataW.whole enc Tryd.prog ((laidWorld os).forCall (fun _ _ => 0) ⟨#[], #[.slice none 0 0, .slice none 0 0], []⟩).memory Tryd.f3.params.toList Rows.fnMergedUsesSpec.vars false #[Value.slice none 0 0, .slice none 0 0].toList 8 = some ([.nil, .nil], gs, places) :=
  ⟨[.agg [.lit (.int .u32 4294967295), .lit (.int .u32 4294967295)]], [.cell 0 0, .cell 0 1], by kernel_rfl⟩

set_option maxRecDepth 100000 in
theorem lifted (os : Os) (started : os.Started) (H : Type) (enc : TypeId × Value → H) (F : Stop.Interp) :
    ReturnsInHanded {} Tryd.checked os 3 .any ((OpenSpec.ofChange Rows.fnMergedUsesSpec).preRow enc Tryd.prog Tryd.f3 Rows.fnMergedUsesRow.domain false Rows.fnMergedUsesRow.laid) (((OpenSpec.ofChange Rows.fnMergedUsesSpec).at F).post enc Tryd.prog Tryd.f3 false true false false) := by
  obtain ⟨gs, places, hx⟩ := reads os enc
  refine returnsInHanded_of_row (C := Tryd.checked) (s := OpenSpec.ofChange Rows.fnMergedUsesSpec) own started (by kernel_rfl) Tryd.func3
    (witness_row_at (enc := enc) (C := Tryd.checked) false (laidWorld os) #[.slice none 0 0, .slice none 0 0] rfl (by kernel_rfl) (by kernel_rfl) (by kernel_rfl)
      (OpenSpec.preRow_of_cond 8 hx (by kernel_rfl) (fun k hk => by cases hk) (by kernel_rfl) (laid_met os))) ?_
  intro W base args ds gs before hval0 hW _ _ _ hL _ _
  have hval : ∀ (j : Nat) t v, Tryd.f3.params[j]? = some t → args[j]? = some v → Value.okWide Tryd.prog W .any base t v := hval0
  have hW' := hW
  obtain ⟨p, q, hA0, hV, rfl, hfz, hnd⟩ := hW
  have hA : DataW.TrodAll enc Tryd.prog W 0 (fun _ => true) true Tryd.f3.params.toList args.toList ds p := hA0
  rw [Tryd.params3] at hA hval
  obtain ⟨v0, vs0, d0, ds0, p0, q0, hargs, rfl, rfl, h0, r0⟩ := trodAll_cons hA
  obtain ⟨v1, vs1, d1, ds1, p1, q1, rfl, rfl, rfl, h1, r1⟩ := trodAll_cons r0
  obtain ⟨rfl, rfl, rfl⟩ := trodAll_nil r1
  obtain rfl : args = #[v0, v1] := by cases args; simp_all
  have hV1 : DataW.TrodVars enc Tryd.prog W (fun _ => true) ["given.example/pub-frisket/pub/esbuild/inner/ast.InvalidRef"] gs q := hV
  obtain ⟨d2, rfl⟩ : ∃ d2, gs = [d2] := by
    obtain ⟨g, t, cs, fuel, d, p, h, _⟩ := trodVars_one hV1
    exact ⟨d, h⟩
  obtain ⟨a0, len0, cap0, rfl⟩ := okWide_slice Tryd.underlying22 (hval 0 22 v0 rfl rfl)
  have k0 := h0
  have lt0 : ∀ x ∈ p0, x.block < W.heap.size := by obtain ⟨m, hm⟩ := k0; exact DataW.trod_lt m _ _ _ hm
  obtain ⟨xs, rfl, hC0, hl0, hU⟩ : ∃ xs : List S30, xs.length = len0 ∧ Kd.C k30 W a0 len0 xs ∧ len0 ≤ cap0 ∧ ∀ x ∈ xs, 0 ≤ x.f1 ∧ x.f1 < 4294967296 := by
    obtain ⟨fuel, hf⟩ := h0
    exact open_syms hf
  obtain ⟨a1, len1, cap1, rfl⟩ := okWide_slice Tryd.underlying23 (hval 1 23 v1 rfl rfl)
  have k1 := h1
  have lt1 : ∀ x ∈ p1, x.block < W.heap.size := by obtain ⟨m, hm⟩ := k1; exact DataW.trod_lt m _ _ _ hm
  obtain ⟨ys, rfl, hC1, hl1⟩ : ∃ xs : List Int, xs.length = len1 ∧ Kd.C (Kd.int .i64) W a1 len1 xs ∧ len1 ≤ cap1 := by
    obtain ⟨fuel, hf⟩ := h1
    exact open_nums hf
  clear hA0 hval0
  obtain ⟨c0, c1⟩ := invalid hL
  refine (law xs ys a0 a1 cap0 cap1 W hC0 hl0 hC1 hl1 hU c0 c1).mono fun e W' ⟨he, hb⟩ => ?_
  subst he
  exact ⟨_, rfl, _, _, _, [], _, q, hW', trodAll_mk1 (shut_bool Tryd.underlying4 _), (trodAll_cons_mk (Below.trod laidOut (by kernel_rfl) (of_decide_eq_true (by kernel_rfl)) k0 hb lt0) (trodAll_cons_mk (Below.trod laidOut (by kernel_rfl) (of_decide_eq_true (by kernel_rfl)) k1 hb lt1) trodAll_mk0)), Below.trodVars laidOut hb (by kernel_rfl) hV1, hb.frame _, fun h => by cases h⟩

theorem said : Rows.FnMergedUsesSaid :=
  OpenClaim.holds_of_cond 3 Tryd.f3 rfl rfl rfl rfl rfl rfl rfl ⟨rfl, rfl, rfl, rfl, rfl⟩ rfl rfl rfl rfl rfl (by kernel_rfl) Tryd.func3 (by kernel_rfl)
    (of_decide_eq_true (by kernel_rfl)) (by unfold Func.isWrapper; first | (rw [if_pos (by decide +kernel)]; kernel_rfl) | (rw [if_neg (by decide +kernel)]; exact ⟨rfl, rfl⟩))
    (fun os started H enc _ F => by rw [OpenClaim.pre_eq_preRow]; exact lifted os started H enc F)

theorem plain (f : FuncId) (fn : Func) (hf : Tryd.pinned.checked.prog.funcNamed "given.example/pub-frisket/laws.FnMergedUses" = some f) (hfn : Tryd.pinned.checked.prog.funcs[f]? = some fn) :
    false = Tryd.pinned.checked.prog.looks [] ∧ ∀ (j : Nat) t, fn.params[j]? = some t → Tryd.pinned.checked.prog.wantsStandIn t = false := by
  obtain rfl : f = 3 := Option.some.inj ((show Tryd.prog.funcNamed "given.example/pub-frisket/laws.FnMergedUses" = some 3 by kernel_rfl).symm.trans hf) |>.symm
  obtain rfl : fn = Tryd.f3 := (Option.some.inj (Tryd.func3.symm.trans hfn)).symm
  refine ⟨by kernel_rfl, fun j t ht => ?_⟩
  rw [Tryd.params3] at ht
  have hm : t ∈ [22, 23] := by simpa using Array.mem_of_getElem? ht
  simp only [List.mem_cons, List.not_mem_nil, or_false] at hm
  rcases hm with rfl | rfl
  · exact (show Tryd.prog.wantsStandIn 22 = false by kernel_rfl)
  · exact (show Tryd.prog.wantsStandIn 23 = false by kernel_rfl)

/-- ████ THE CARD ████ -/
theorem card : Rows.FnMergedUsesCardSaid :=
  Claim7.holds_tied_plain_at .later [] _ _ _ _ said (fun _ h => by cases h) (by kernel_rfl) (fun _ h => by cases h) fnMergedUses_row_tie rfl ⟨rfl, rfl⟩ (by kernel_rfl) rfl plain (by kernel_rfl)
#print axioms card
end Go.Proofs.YtlhepbgonecgpaaDoor.fnMergedUses
