/-
  FnSemverTurns: the row's statement out of the law's walk, and its tied card.
  Conditions: the row's own.
-/
import Derived.Test.YteokaphenmnckaaDoorCards
import Derived.Test.YteokaphenmnckaaDoorTie
import Derived.Test.YteokaphenmnckaaDoorFnSemverTurnsWalk
import Derived.WalkKit
import Derived.ProofKit
import Derived.OpenShut
import Derived.OpenVars
import Derived.ShutString
import Derived.ChangeSlices
import Derived.Carry
import Derived.Stop.LaidErr
import Derived.Deep.DeepHandedRow
import Derived.Lib.LaidTab
namespace Go.Proofs.YteokaphenmnckaaDoor.fnSemverTurns
open Go.ChangeShapes Go.WideShapes Go.ChangeAt Go.RowKit Go.Proofs.YteokaphenmnckaaDoorW.PrintWords
open Go.ChangeMaps (open_string shut_string)
set_option linter.unusedVariables false

theorem own : ownKnob Tryd.prog.godebug = none := by kernel_rfl
theorem laidOut : laidOutB Tryd.prog = true := by kernel_rfl
theorem cells64 : Tryd.prog.cellsOf 64 = 1 := by kernel_rfl
theorem cells9 : Tryd.prog.cellsOf 9 = 1 := by kernel_rfl
theorem star : "*" ++ "errors.errorString" = "*errors.errorString" := by decide
theorem row62 (u : TypeId) (h : Tryd.prog.typeName? 3 u = some "*errors.errorString") : u = 62 :=
  typeName_ptr_named (nm := "errors.errorString") (by rw [star]; kernel_rfl) (by kernel_rfl) (by decide) u (by rw [star]; exact h)
/-- what the condition says of the two errors -/
theorem table {W : World} (h : laidMetH Tryd.prog Rows.fnSemverTurnsRow.laid W) : Errs W := by
  have h : laidMet Tryd.prog Rows.fnSemverTurnsRow.laid W := h
  have hr := h.tail.tail.tail
  have hs := hr.tail
  have gR : Tryd.prog.globalNamed "strconv.ErrRange" = some 2 := by kernel_rfl
  have gS : Tryd.prog.globalNamed "strconv.ErrSyntax" = some 1 := by kernel_rfl
  have tR : (Tryd.prog.globals[2]?).map (·.type) = some 38 := by kernel_rfl
  have tS : (Tryd.prog.globals[1]?).map (·.type) = some 38 := by kernel_rfl
  obtain ⟨a0, s0, hv0, _⟩ := laid_sentinel hr gR tR Tryd.underlying38 row62 Tryd.underlying62 Tryd.underlying64 rfl rfl Tryd.underlying9 cells64 cells9
  obtain ⟨a1, s1, hv1, _⟩ := laid_sentinel hs gS tS Tryd.underlying38 row62 Tryd.underlying62 Tryd.underlying64 rfl rfl Tryd.underlying9 cells64 cells9
  exact ⟨⟨_, by simpa using World.var?_cell gR hv0 0, .inr ⟨_, _, rfl⟩⟩, ⟨_, by simpa using World.var?_cell gS hv1 0, .inr ⟨_, _, rfl⟩⟩⟩

abbrev syntaxS : ByteArray := { data := #[105, 110, 118, 97, 108, 105, 100, 32, 115, 121, 110, 116, 97, 120] }
abbrev rangeS : ByteArray := { data := #[118, 97, 108, 117, 101, 32, 111, 117, 116, 32, 111, 102, 32, 114, 97, 110, 103, 101] }
noncomputable def low : Nat := (World.holding Tryd.prog default ⟨#[], #[], []⟩).heap.size
def put (vs : Array Value) : Obj → Obj
  | .cells _ t frozen => .cells vs t frozen
  | o => o
/-- the numbers of a table of plain numbers -/
def nums_ : DataW Unit → List Value
  | .agg l => l.map fun
    | .lit (.int k n) => .int k n
    | _ => .nilIface
  | _ => []
/-- a world for the witness: the settled one, the variables laid -/
noncomputable def laidWorld (os : Os) : World :=
  let w0 := World.holding Tryd.prog os ⟨#[.cells #[.string syntaxS] 64, .cells #[.string rangeS] 64], #[], []⟩
  { w0 with heap := ((((w0.heap.modify 1 (put #[.iface 62 (.pointer (some ⟨low, 0, none⟩))])).modify 2 (put #[.iface 62 (.pointer (some ⟨low + 1, 0, none⟩))])).modify 3 (put (nums_ Rows.laid_internal_strconv_uint64pow10).toArray)).modify 4 (put (nums_ Rows.laid_math_bits_deBruijn32tab).toArray)).modify 5 (put (nums_ Rows.laid_math_bits_deBruijn64tab).toArray) }
theorem laid_met (os : Os) : laidMet Tryd.prog Rows.fnSemverTurnsRow.laid ((laidWorld os).forCall (fun _ _ => 0) ⟨#[], #[.slice none 0 0, .slice none 0 0, .string ByteArray.empty, .string ByteArray.empty], []⟩).memory :=
  laidMet_of_run' 8 (by kernel_rfl) (by kernel_rfl)
theorem reads (os : Os) {H : Type} (enc : TypeId × Value → H) : ∃ gs places, DataW.whole enc Tryd.prog ((laidWorld os).forCall (fun _ _ => 0) ⟨#[], #[.slice none 0 0, .slice none 0 0, .string ByteArray.empty, .string ByteArray.empty], []⟩).memory Tryd.f3.params.toList Rows.fnSemverTurnsSpec.vars false #[Value.slice none 0 0, .slice none 0 0, .string ByteArray.empty, .string ByteArray.empty].toList 8 = some ([.nil, .nil, .lit (.string []), .lit (.string [])], gs, places) :=
  ⟨[], [], by kernel_rfl⟩
section
variable {H : Type} {enc : TypeId × Value → H} {W : World} {base : Nat} {held : Bool}
theorem open_nums {a0 : Option Addr} {len0 cap0 : Nat} {x : DataW H × List MemPlace} {fuel : Nat} (h : DataW.trod enc Tryd.prog W base (fun _ => true) held fuel 22 [.slice a0 len0 cap0] = some x) :
    ∃ xs : List Int, xs.length = len0 ∧ Kd.C (Kd.int .i64) W a0 len0 xs ∧ len0 ≤ cap0 ∧ (a0 = none → xs = [] ∧ cap0 = 0) := by
  rcases open_ints Tryd.underlying22 Tryd.underlying3 (by kernel_rfl) h with ⟨hcs, _⟩ | ⟨a, l, c, zs, hcs, _, hl, hm, hz, _, hcell, _⟩
  · simp only [List.cons.injEq, Value.slice.injEq, and_true] at hcs
    obtain ⟨rfl, rfl, rfl⟩ := hcs
    exact ⟨[], rfl, Kd.C_nil _ _, Nat.le_refl _, fun _ => ⟨rfl, rfl⟩⟩
  · simp only [List.cons.injEq, Value.slice.injEq, and_true] at hcs
    obtain ⟨rfl, rfl, rfl⟩ := hcs
    have hz : zs.length = cap0 := by simpa using hz
    have hlen : (zs.take len0).length = len0 := by rw [List.length_take]; omega
    refine ⟨zs.take len0, hlen, ⟨hlen, by unfold maxLen at hm; omega, fun _ => ⟨a, rfl, fun j p hp => ?_⟩⟩, hl, fun h => by cases h⟩
    have hj : j < len0 := by have := (List.getElem?_eq_some_iff.1 hp).1; omega
    refine ⟨[.int .i64 p], rfl, rfl, fun i u hu => ?_⟩
    have hi : i = 0 := by
      have := (List.getElem?_eq_some_iff.1 hu).1
      simp at this
      exact this
    subst hi
    have hcc := hcell j (by omega)
    rw [List.getElem?_take, if_pos hj] at hp
    simp only [List.getD, hp, Option.getD_some] at hcc
    rw [show (Kd.int .i64).sz = 1 from rfl, Nat.mul_one, Nat.add_zero, hcc]
    exact hu
end

set_option maxRecDepth 100000 in
theorem lifted (os : Os) (started : os.Started) (H : Type) (enc : TypeId × Value → H) (F : Stop.Interp) :
    ReturnsInHanded {} Tryd.checked os 3 .any ((OpenSpec.ofChange Rows.fnSemverTurnsSpec).preRow enc Tryd.prog Tryd.f3 Rows.fnSemverTurnsRow.domain false Rows.fnSemverTurnsRow.laid) (((OpenSpec.ofChange Rows.fnSemverTurnsSpec).at F).post enc Tryd.prog Tryd.f3 false true false false) := by
  obtain ⟨gs, places, hx⟩ := reads os enc
  refine returnsInHanded_of_row (C := Tryd.checked) (s := OpenSpec.ofChange Rows.fnSemverTurnsSpec) own started (by kernel_rfl) Tryd.func3
    (witness_row_at (enc := enc) (C := Tryd.checked) false (laidWorld os) #[.slice none 0 0, .slice none 0 0, .string ByteArray.empty, .string ByteArray.empty] rfl (by kernel_rfl) (by kernel_rfl) (by kernel_rfl)
      (OpenSpec.preRow_of_cond 8 hx (by kernel_rfl) (fun k hk => by cases hk) (by kernel_rfl) (laid_met os))) ?_
  intro W base args ds gs before hval0 hW _ _ _ hL _ _
  have hval : ∀ (j : Nat) t v, Tryd.f3.params[j]? = some t → args[j]? = some v → Value.okWide Tryd.prog W .any base t v := hval0
  have hW' := hW
  obtain ⟨p, q, hA0, hV, rfl, hfz, hnd⟩ := hW
  have hA : DataW.TrodAll enc Tryd.prog W 0 (fun _ => true) true Tryd.f3.params.toList args.toList ds p := hA0
  rw [Tryd.params3] at hA hval
  obtain ⟨v0, vs0, d0, ds0, p0, q0, hargs, rfl, rfl, h0, r0⟩ := trodAll_cons hA
  obtain ⟨v1, vs1, d1, ds1, p1, q1, rfl, rfl, rfl, h1, r1⟩ := trodAll_cons r0
  obtain ⟨v2, vs2, d2, ds2, p2, q2, rfl, rfl, rfl, h2, r2⟩ := trodAll_cons r1
  obtain ⟨v3, vs3, d3, ds3, p3, q3, rfl, rfl, rfl, h3, r3⟩ := trodAll_cons r2
  obtain ⟨rfl, rfl, rfl⟩ := trodAll_nil r3
  obtain rfl : args = #[v0, v1, v2, v3] := by cases args; simp_all
  obtain ⟨rfl, rfl⟩ := trodVars_none hV
  obtain ⟨a0, len0, cap0, rfl⟩ := okWide_slice Tryd.underlying22 (hval 0 22 v0 rfl rfl)
  have k0 := h0
  have lt0 : ∀ x ∈ p0, x.block < W.heap.size := by obtain ⟨m, hm⟩ := k0; exact DataW.trod_lt m _ _ _ hm
  obtain ⟨xs, rfl, hC0, hl0, hn0⟩ : ∃ xs : List Int, xs.length = len0 ∧ Kd.C (Kd.int .i64) W a0 len0 xs ∧ len0 ≤ cap0 ∧ (a0 = none → xs = [] ∧ cap0 = 0) := by
    obtain ⟨fuel, hf⟩ := h0
    exact open_nums hf
  obtain ⟨a1, len1, cap1, rfl⟩ := okWide_slice Tryd.underlying22 (hval 1 22 v1 rfl rfl)
  have k1 := h1
  have lt1 : ∀ x ∈ p1, x.block < W.heap.size := by obtain ⟨m, hm⟩ := k1; exact DataW.trod_lt m _ _ _ hm
  obtain ⟨ys, rfl, hC1, hl1, hn1⟩ : ∃ xs : List Int, xs.length = len1 ∧ Kd.C (Kd.int .i64) W a1 len1 xs ∧ len1 ≤ cap1 ∧ (a1 = none → xs = [] ∧ cap1 = 0) := by
    obtain ⟨fuel, hf⟩ := h1
    exact open_nums hf
  obtain ⟨a2, rfl, rfl, rfl, w2⟩ := open_string Tryd.underlying9 (hval 2 9 v2 rfl rfl) h2
  obtain ⟨a3, rfl, rfl, rfl, w3⟩ := open_string Tryd.underlying9 (hval 3 9 v3 rfl rfl) h3
  clear hA0 hval0
  refine (law xs ys a0 a1 cap0 cap1 a2 a3 W hC0 hC1 hn0 hn1 hl0 hl1 (table hL)).mono fun e W' ⟨he, hb⟩ => ?_
  subst he
  exact ⟨_, rfl, _, _, _, [], _, [], hW', trodAll_mk1 (shut_bool Tryd.underlying4 _), (trodAll_cons_mk (Below.trod laidOut (by kernel_rfl) (of_decide_eq_true (by kernel_rfl)) k0 hb lt0) (trodAll_cons_mk (Below.trod laidOut (by kernel_rfl) (of_decide_eq_true (by kernel_rfl)) k1 hb lt1) (trodAll_cons_mk (shut_string Tryd.underlying9 w2) (trodAll_cons_mk (shut_string Tryd.underlying9 w3) trodAll_mk0)))), rfl, hb.frame _, fun h => by cases h⟩

theorem said : Rows.FnSemverTurnsSaid :=
  OpenClaim.holds_of_cond 3 Tryd.f3 rfl rfl rfl rfl rfl rfl rfl ⟨rfl, rfl, rfl, rfl, rfl⟩ rfl rfl rfl rfl rfl (by kernel_rfl) Tryd.func3 (by kernel_rfl)
    (of_decide_eq_true (by kernel_rfl)) (by unfold Func.isWrapper; first | (rw [if_pos (by decide +kernel)]; kernel_rfl) | (rw [if_neg (by decide +kernel)]; exact ⟨rfl, rfl⟩))
    (fun os started H enc _ F => by rw [OpenClaim.pre_eq_preRow]; exact lifted os started H enc F)

theorem plain (f : FuncId) (fn : Func) (hf : Tryd.pinned.checked.prog.funcNamed "given.example/pub-frisket/laws.FnSemverTurns" = some f) (hfn : Tryd.pinned.checked.prog.funcs[f]? = some fn) :
    true = Tryd.pinned.checked.prog.looks [] ∧ ∀ (j : Nat) t, fn.params[j]? = some t → Tryd.pinned.checked.prog.wantsStandIn t = false := by
  obtain rfl : f = 3 := Option.some.inj ((show Tryd.prog.funcNamed "given.example/pub-frisket/laws.FnSemverTurns" = some 3 by kernel_rfl).symm.trans hf) |>.symm
  obtain rfl : fn = Tryd.f3 := (Option.some.inj (Tryd.func3.symm.trans hfn)).symm
  refine ⟨by kernel_rfl, fun j t ht => ?_⟩
  rw [Tryd.params3] at ht
  have hm : t ∈ [22, 22, 9, 9] := by simpa using Array.mem_of_getElem? ht
  simp only [List.mem_cons, List.not_mem_nil, or_false] at hm
  rcases hm with rfl | rfl | rfl | rfl
  · exact (show Tryd.prog.wantsStandIn 22 = false by kernel_rfl)
  · exact (show Tryd.prog.wantsStandIn 22 = false by kernel_rfl)
  · exact (show Tryd.prog.wantsStandIn 9 = false by kernel_rfl)
  · exact (show Tryd.prog.wantsStandIn 9 = false by kernel_rfl)

/-- ████ THE CARD ████ -/
theorem card : Rows.FnSemverTurnsCardSaid :=
  Claim7.holds_tied_plain_at .later [] _ _ _ _ said (fun _ h => by cases h) (by kernel_rfl) (fun _ h => by cases h) fnSemverTurns_row_tie rfl ⟨rfl, rfl⟩ (by kernel_rfl) rfl plain (by kernel_rfl)
#print axioms card
end Go.Proofs.YteokaphenmnckaaDoor.fnSemverTurns
