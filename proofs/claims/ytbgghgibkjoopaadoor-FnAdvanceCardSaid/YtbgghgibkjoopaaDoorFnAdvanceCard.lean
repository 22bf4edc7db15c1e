/-
  FnAdvance: the row's statement out of the law's walk, and its tied card.
  Conditions: the row's own.
-/
import Derived.Test.YtbgghgibkjoopaaDoorCards
import Derived.Test.YtbgghgibkjoopaaDoorTie
import Derived.Test.YtbgghgibkjoopaaDoorFnAdvanceWalk
import Derived.WalkKit
import Derived.ProofKit
import Derived.OpenShut
import Derived.OpenVars
import Derived.ShutString
import Derived.Deep.DeepHandedRow
import Derived.Lib.LaidTab
namespace Go.Proofs.YtbgghgibkjoopaaDoor.fnAdvance
open Go.ChangeShapes Go.WideShapes Go.ChangeAt Go.RowKit
open Go.ChangeMaps (open_string shut_string)
set_option linter.unusedVariables false

theorem own : ownKnob Tryd.prog.godebug = none := by kernel_rfl

theorem pinned_tab : (Go.Pinned.utf8First : DataW Unit) = Lib.tabData .u8 (Go.Pinned.utf8FirstZ.map fun n : Nat => (n : Int)) := by
  unfold Go.Pinned.utf8First Go.Pinned.numbers Lib.tabData
  rw [List.map_map]
  rfl
theorem first_at : ∀ b : Fin 51, (Go.Pinned.utf8FirstZ.getD (194 + b.val) 0 : Int) = firstOf (194 + b.val) := by decide +kernel
theorem first_len : Go.Pinned.utf8FirstZ.length = 256 := by decide +kernel
/-- what the condition says of a pair of numbers in the table of ranges -/
theorem pair_at {W : World} {fuel : Nat} {cs : List Value} {x : DataW Unit × List MemPlace} {a b : Int} (h : DataW.trod (fun _ => ()) Tryd.prog W 0 (fun _ => true) false fuel 42 cs = some x) (hx : x.1 = .agg [.lit (.int .u8 a), .lit (.int .u8 b)]) : cs[0]? = some (.int .u8 a) ∧ cs[1]? = some (.int .u8 b) := by
  obtain ⟨y0, y1, n, e, hl, d0, d1⟩ := trod_struct2 Tryd.underlying42 h
  obtain ⟨n0, c0, x0, _⟩ := DataW.trod_int Tryd.underlying5 d0
  obtain ⟨n1, c1, x1, _⟩ := DataW.trod_int Tryd.underlying5 d1
  subst x0 x1
  subst e
  simp only [DataW.agg.injEq, List.cons.injEq, DataW.lit.injEq, Lit.int.injEq, and_true, true_and] at hx
  obtain ⟨rfl, rfl⟩ := hx
  have cz : Tryd.prog.cellsOf 5 = 1 := by kernel_rfl
  simp only [cz] at c0 c1
  have g0 : cs[0]? = some (.int .u8 n0) := by
    have h0 : ((cs.drop 0).take 1)[0]? = some (.int .u8 n0) := by rw [show (cs.drop 0).take 1 = [.int .u8 n0] from c0]; rfl
    simpa using h0
  have g1 : cs[1]? = some (.int .u8 n1) := by
    have h0 : ((cs.drop 1).take 1)[0]? = some (.int .u8 n1) := by rw [show (cs.drop 1).take 1 = [.int .u8 n1] from c1]; rfl
    simpa using h0
  exact ⟨g0, g1⟩
theorem lt_of_cell {W : World} {g j : Nat} {v : Value} (h : W.cell? ⟨g, j, none⟩ = some v) : g < W.heap.size := by
  by_cases hc : g < W.heap.size
  · exact hc
  · exfalso
    have e : W.heap[g]? = none := Array.getElem?_eq_none (by omega)
    simp [World.cell?, e] at h
theorem table {W : World} (h : laidMetH Tryd.prog Rows.fnAdvanceRow.laid W) : Tables W := by
  have h : laidMet Tryd.prog Rows.fnAdvanceRow.laid W := h
  obtain ⟨ps, ⟨g, t, cs, fuel, p, q, hg, ht, hv, hd, ⟨g2, t2, cs2, fuel2, p2, q2, hg2, ht2, hv2, hd2, _, _⟩, _⟩, _, _⟩ := h
  obtain rfl := Option.some.inj ((show Tryd.prog.globalNamed "unicode/utf8.acceptRanges" = some 1 by kernel_rfl).symm.trans hg)
  obtain rfl := Option.some.inj ((show (Tryd.prog.globals[1]?).map (·.type) = some 43 by kernel_rfl).symm.trans ht)
  obtain rfl := Option.some.inj ((show Tryd.prog.globalNamed "unicode/utf8.first" = some 0 by kernel_rfl).symm.trans hg2)
  obtain rfl := Option.some.inj ((show (Tryd.prog.globals[0]?).map (·.type) = some 40 by kernel_rfl).symm.trans ht2)
  have hT : ∀ b, 194 ≤ b → b ≤ 244 → W.cell? ⟨0, b, none⟩ = some (.int .u8 (firstOf b)) := by
    intro b b1 b2
    have hd2 : DataW.trod (fun _ => ()) Tryd.prog W 0 (fun _ => true) false fuel2 40 cs2.toList = some (Lib.tabData .u8 (Go.Pinned.utf8FirstZ.map fun n : Nat => (n : Int)), p2) := by rw [← pinned_tab]; exact hd2
    have hc := Lib.cells_of_tab Tryd.underlying40 Tryd.underlying5 (by kernel_rfl) (by kernel_rfl) hd2
    have hcell := World.var?_cell hg2 hv2 b
    rw [hcell, ← Array.getElem?_toList, hc]
    have hb := first_at ⟨b - 194, by omega⟩
    simp only at hb
    rw [show 194 + (b - 194) = b by omega] at hb
    have hl := first_len
    rw [← hb]
    simp only [List.getElem?_map, List.map_map]
    have hlt : b < Go.Pinned.utf8FirstZ.length := by omega
    simp [List.getD, List.getElem?_eq_getElem hlt]
  · obtain ⟨xs, m, _, hx, _, hxl, hi⟩ := DataW.trod_array Tryd.underlying43 hd
    have c42 : Tryd.prog.cellsOf 42 = 2 := by kernel_rfl
    have hm : xs.map (·.1) = _ := (DataW.agg.inj ((Prod.mk.inj hx).1).symm)
    have at_ : ∀ i (hi16 : i < 16) (a b : Int), (xs.map (·.1))[i]? = some (.agg [.lit (.int .u8 a), .lit (.int .u8 b)]) → W.cell? ⟨1, i * 2, none⟩ = some (.int .u8 a) ∧ W.cell? ⟨1, i * 2 + 1, none⟩ = some (.int .u8 b) := by
      intro i hi16 a b hab
      have h1 := hi i hi16
      rw [c42] at h1
      obtain ⟨y, hy⟩ : ∃ y, xs[i]? = some y := ⟨xs[i]'(by omega), List.getElem?_eq_getElem (by omega)⟩
      rw [hy] at h1
      have hy1 : y.1 = .agg [.lit (.int .u8 a), .lit (.int .u8 b)] := by
        rw [List.getElem?_map, hy] at hab
        exact Option.some.inj hab
      obtain ⟨p0, p1⟩ := pair_at h1 hy1
      rw [List.getElem?_take, List.getElem?_drop] at p0 p1
      rw [if_pos (by decide)] at p0 p1
      refine ⟨?_, ?_⟩
      · rw [World.var?_cell hg hv (i * 2), ← Array.getElem?_toList]; exact p0
      · rw [World.var?_cell hg hv (i * 2 + 1), ← Array.getElem?_toList]; exact p1
    have r0 := at_ 0 (by decide) 128 191 (by rw [hm]; rfl)
    have r1 := at_ 1 (by decide) 160 191 (by rw [hm]; rfl)
    have r2 := at_ 2 (by decide) 128 159 (by rw [hm]; rfl)
    have r3 := at_ 3 (by decide) 144 191 (by rw [hm]; rfl)
    have r4 := at_ 4 (by decide) 128 143 (by rw [hm]; rfl)
    have hlt := lt_of_cell r0.1
    exact ⟨hlt, hT, r0.1, r0.2, r1.1, r1.2, r2.1, r2.2, r3.1, r3.2, r4.1, r4.2⟩

def putFirst : Obj → Obj
  | .cells _ t frozen => .cells (Go.Pinned.utf8FirstZ.map fun n : Nat => Value.int .u8 n).toArray t frozen
  | o => o
def putRanges : Obj → Obj
  | .cells _ t frozen => .cells #[.int .u8 128, .int .u8 191, .int .u8 160, .int .u8 191, .int .u8 128, .int .u8 159, .int .u8 144, .int .u8 191, .int .u8 128, .int .u8 143, .int .u8 0, .int .u8 0, .int .u8 0, .int .u8 0, .int .u8 0, .int .u8 0, .int .u8 0, .int .u8 0, .int .u8 0, .int .u8 0, .int .u8 0, .int .u8 0, .int .u8 0, .int .u8 0, .int .u8 0, .int .u8 0, .int .u8 0, .int .u8 0, .int .u8 0, .int .u8 0, .int .u8 0, .int .u8 0] t frozen
  | o => o
/-- a world for the witness: the settled one, the tables laid -/
noncomputable def laidWorld (os : Os) : World :=
  { World.holding Tryd.prog os ⟨#[], #[], []⟩ with heap := ((World.holding Tryd.prog os ⟨#[], #[], []⟩).heap.modify 0 putFirst).modify 1 putRanges }
theorem laid_met (os : Os) : laidMet Tryd.prog Rows.fnAdvanceRow.laid ((laidWorld os).forCall (fun _ _ => 0) ⟨#[], #[.int .i64 0, .int .i64 0, .string ByteArray.empty, .bool false], []⟩).memory :=
  laidMet_of_run' 8 (by kernel_rfl) (by kernel_rfl)
theorem reads (os : Os) {H : Type} (enc : TypeId × Value → H) : ∃ gs places, DataW.whole enc Tryd.prog ((laidWorld os).forCall (fun _ _ => 0) ⟨#[], #[.int .i64 0, .int .i64 0, .string ByteArray.empty, .bool false], []⟩).memory Tryd.f3.params.toList Rows.fnAdvanceSpec.vars false #[Value.int .i64 0, .int .i64 0, .string ByteArray.empty, .bool false].toList 8 = some ([.lit (.int .i64 0), .lit (.int .i64 0), .lit (.string []), .lit (.bool false)], gs, places) :=
  ⟨[], [], by kernel_rfl⟩

set_option maxRecDepth 100000 in
theorem lifted (os : Os) (started : os.Started) (H : Type) (enc : TypeId × Value → H) (F : Stop.Interp) :
    ReturnsInHanded {} Tryd.checked os 3 .any ((OpenSpec.ofChange Rows.fnAdvanceSpec).preRow enc Tryd.prog Tryd.f3 Rows.fnAdvanceRow.domain false Rows.fnAdvanceRow.laid) (((OpenSpec.ofChange Rows.fnAdvanceSpec).at F).post enc Tryd.prog Tryd.f3 false true false false) := by
  obtain ⟨gs, places, hx⟩ := reads os enc
  refine returnsInHanded_of_row (C := Tryd.checked) (s := OpenSpec.ofChange Rows.fnAdvanceSpec) own started (by kernel_rfl) Tryd.func3
    (witness_row_at (enc := enc) (C := Tryd.checked) false (laidWorld os) #[.int .i64 0, .int .i64 0, .string ByteArray.empty, .bool false] rfl (by kernel_rfl) (by kernel_rfl) (by kernel_rfl)
      (OpenSpec.preRow_of_cond 8 hx (by kernel_rfl) (fun k hk => by cases hk) (by kernel_rfl) (laid_met os))) ?_
  intro W base args ds gs before hval0 hW _ _ _ hL _ _
  have hval : ∀ (j : Nat) t v, Tryd.f3.params[j]? = some t → args[j]? = some v → Value.okWide Tryd.prog W .any base t v := hval0
  have hW' := hW
  obtain ⟨p, q, hA0, hV, rfl, hfz, hnd⟩ := hW
  have hA : DataW.TrodAll enc Tryd.prog W 0 (fun _ => true) true Tryd.f3.params.toList args.toList ds p := hA0
  rw [Tryd.params3] at hA hval
  obtain ⟨v0, vs0, d0, ds0, p0, q0, hargs, rfl, rfl, h0, r0⟩ := trodAll_cons hA
  obtain ⟨v1, vs1, d1, ds1, p1, q1, rfl, rfl, rfl, h1, r1⟩ := trodAll_cons r0
  obtain ⟨v2, vs2, d2, ds2, p2, q2, rfl, rfl, rfl, h2, r2⟩ := trodAll_cons r1
  obtain ⟨v3, vs3, d3, ds3, p3, q3, rfl, rfl, rfl, h3, r3⟩ := trodAll_cons r2
  obtain ⟨rfl, rfl, rfl⟩ := trodAll_nil r3
  obtain rfl : args = #[v0, v1, v2, v3] := by cases args; simp_all
  obtain ⟨rfl, rfl⟩ := trodVars_none hV
  obtain ⟨a0, rfl, rfl, rfl, w0⟩ := open_int Tryd.underlying3 (hval 0 3 v0 rfl rfl) h0
  obtain ⟨a1, rfl, rfl, rfl, w1⟩ := open_int Tryd.underlying3 (hval 1 3 v1 rfl rfl) h1
  obtain ⟨a2, rfl, rfl, rfl, w2⟩ := open_string Tryd.underlying9 (hval 2 9 v2 rfl rfl) h2
  obtain ⟨a3, rfl, rfl, rfl⟩ := open_bool Tryd.underlying4 (hval 3 4 v3 rfl rfl) h3
  clear hA0 hval0
  refine (law a0 a1 a2 a3 W (table hL)).mono fun e W' ⟨he, hb⟩ => ?_
  subst he
  exact ⟨_, rfl, _, _, _, [], _, [], hW', trodAll_mk1 (shut_bool Tryd.underlying4 _), trodAll_cons_mk (shut_int Tryd.underlying3 w0) (trodAll_cons_mk (shut_int Tryd.underlying3 w1) (trodAll_cons_mk (shut_string Tryd.underlying9 w2) (trodAll_cons_mk (shut_bool Tryd.underlying4 _) trodAll_mk0))), rfl, hb.frame _, fun h => by cases h⟩

theorem said : Rows.FnAdvanceSaid :=
  OpenClaim.holds_of_cond 3 Tryd.f3 rfl rfl rfl rfl rfl rfl rfl ⟨rfl, rfl, rfl, rfl, rfl⟩ rfl rfl rfl rfl rfl (by kernel_rfl) Tryd.func3 (by kernel_rfl)
    (of_decide_eq_true (by kernel_rfl)) (by unfold Func.isWrapper; first | (rw [if_pos (by decide +kernel)]; kernel_rfl) | (rw [if_neg (by decide +kernel)]; exact ⟨rfl, rfl⟩))
    (fun os started H enc _ F => by rw [OpenClaim.pre_eq_preRow]; exact lifted os started H enc F)

theorem plain (f : FuncId) (fn : Func) (hf : Tryd.pinned.checked.prog.funcNamed "given.example/pub-frisket/laws.FnAdvance" = some f) (hfn : Tryd.pinned.checked.prog.funcs[f]? = some fn) :
    false = Tryd.pinned.checked.prog.looks [] ∧ ∀ (j : Nat) t, fn.params[j]? = some t → Tryd.pinned.checked.prog.wantsStandIn t = false := by
  obtain rfl : f = 3 := Option.some.inj ((show Tryd.prog.funcNamed "given.example/pub-frisket/laws.FnAdvance" = some 3 by kernel_rfl).symm.trans hf) |>.symm
  obtain rfl : fn = Tryd.f3 := (Option.some.inj (Tryd.func3.symm.trans hfn)).symm
  refine ⟨by kernel_rfl, fun j t ht => ?_⟩
  rw [Tryd.params3] at ht
  have hm : t ∈ [3, 3, 9, 4] := by simpa using Array.mem_of_getElem? ht
  simp only [List.mem_cons, List.not_mem_nil, or_false] at hm
  rcases hm with rfl | rfl | rfl | rfl
  · exact (show Tryd.prog.wantsStandIn 3 = false by kernel_rfl)
  · exact (show Tryd.prog.wantsStandIn 3 = false by kernel_rfl)
  · exact (show Tryd.prog.wantsStandIn 9 = false by kernel_rfl)
  · exact (show Tryd.prog.wantsStandIn 4 = false by kernel_rfl)

/-- ████ THE CARD ████ -/
theorem card : Rows.FnAdvanceCardSaid :=
  Claim7.holds_tied_plain_at .later [] _ _ _ _ said (fun _ h => by cases h) (by kernel_rfl) (fun _ h => by cases h) fnAdvance_row_tie rfl ⟨rfl, rfl⟩ (by kernel_rfl) rfl plain (by kernel_rfl)
#print axioms card
end Go.Proofs.YtbgghgibkjoopaaDoor.fnAdvance
