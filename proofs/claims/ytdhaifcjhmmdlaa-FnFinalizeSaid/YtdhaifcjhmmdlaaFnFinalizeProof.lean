/-
  FnFinalize: the given statement out of the law's walk. (The frame is the guide's template, turned to a list of mappings, a list of shifts and two texts.)
  Conditions: none.
-/
import Derived.Test.YtdhaifcjhmmdlaaRows
import Derived.Test.YtdhaifcjhmmdlaaFnFinalizeLaw
import Derived.WalkKit
import Derived.ProofKit
import Derived.OpenShut
import Derived.ShutString
import Derived.ChangeOld
import Derived.Below
import Derived.SizedLaws
import Derived.Deep.Slices
import Derived.Deep.Fields
import Derived.ChangeSame
import Derived.ChangeMaps5
import Derived.Laws.IdiomArrays
namespace Go.Proofs.Ytdhaifcjhmmdlaa.fnFinalize
open Go.ChangeMaps (open_string shut_string)
open Go.ChangeShapes Go.WideShapes Go.ChangeAt Go.RowKit Go.Deep
open Go.Proofs.YtdhaifcjhmmdlaaW.PrintWords Go.Proofs.Ytdhaifcjhmmdlaa.PFnFinalize
set_option linter.unusedVariables false

theorem own : ownKnob Try.prog.godebug = none := by kernel_rfl
theorem laidOut : laidOutB Try.prog = true := by kernel_rfl

section
variable {H : Type} {enc : TypeId × Value → H} {W : World} {base : Nat} {spare : Nat → Bool} {held : Bool}
/-- a mapping's cells, opened -/
theorem open_map {fuel : Nat} {cs : List Value} {x : DataW H × List MemPlace} (h : DataW.trod enc Try.prog W base spare held fuel 27 cs = some x) (hl : cs.length = 6) :
    ∃ y : S27, cs = [.int .i64 y.f0, .int .i64 y.f1, .int .i64 y.f2, .int .i64 y.f3, .int .i64 y.f4, .int .i64 y.f5] ∧ -9223372036854775808 ≤ y.f5 ∧ y.f5 ≤ 9223372036854775807 := by
  obtain ⟨ys, n, hn, hy, hlen, hyl, hf⟩ := DataW.trod_struct Try.underlying27 h
  match cs, hl with
  | [c0, c1, c2, c3, c4, c5], _ =>
    have one : Try.prog.cellsOf 3 = 1 := by kernel_rfl
    have hy6 : ys.length = 6 := hyl
    match ys, hy6, hf with
    | [y0, y1, y2, y3, y4, y5], _, hf =>
      have g0 : DataW.trod enc Try.prog W base spare held n 3 [c0] = some y0 := by
        have t := hf 0 _ rfl
        change DataW.trod enc Try.prog W base spare held n 3 (List.take (Try.prog.cellsOf 3) (List.drop 0 [c0, c1, c2, c3, c4, c5])) = some y0 at t
        rw [one] at t
        exact t
      obtain ⟨n0, e0, _, w0⟩ := DataW.trod_int Try.underlying3 g0
      have g1 : DataW.trod enc Try.prog W base spare held n 3 [c1] = some y1 := by
        have t := hf 1 _ rfl
        change DataW.trod enc Try.prog W base spare held n 3 (List.take (Try.prog.cellsOf 3) (List.drop 1 [c0, c1, c2, c3, c4, c5])) = some y1 at t
        rw [one] at t
        exact t
      obtain ⟨n1, e1, _, w1⟩ := DataW.trod_int Try.underlying3 g1
      have g2 : DataW.trod enc Try.prog W base spare held n 3 [c2] = some y2 := by
        have t := hf 2 _ rfl
        change DataW.trod enc Try.prog W base spare held n 3 (List.take (Try.prog.cellsOf 3) (List.drop 2 [c0, c1, c2, c3, c4, c5])) = some y2 at t
        rw [one] at t
        exact t
      obtain ⟨n2, e2, _, w2⟩ := DataW.trod_int Try.underlying3 g2
      have g3 : DataW.trod enc Try.prog W base spare held n 3 [c3] = some y3 := by
        have t := hf 3 _ rfl
        change DataW.trod enc Try.prog W base spare held n 3 (List.take (Try.prog.cellsOf 3) (List.drop 3 [c0, c1, c2, c3, c4, c5])) = some y3 at t
        rw [one] at t
        exact t
      obtain ⟨n3, e3, _, w3⟩ := DataW.trod_int Try.underlying3 g3
      have g4 : DataW.trod enc Try.prog W base spare held n 3 [c4] = some y4 := by
        have t := hf 4 _ rfl
        change DataW.trod enc Try.prog W base spare held n 3 (List.take (Try.prog.cellsOf 3) (List.drop 4 [c0, c1, c2, c3, c4, c5])) = some y4 at t
        rw [one] at t
        exact t
      obtain ⟨n4, e4, _, w4⟩ := DataW.trod_int Try.underlying3 g4
      have g5 : DataW.trod enc Try.prog W base spare held n 3 [c5] = some y5 := by
        have t := hf 5 _ rfl
        change DataW.trod enc Try.prog W base spare held n 3 (List.take (Try.prog.cellsOf 3) (List.drop 5 [c0, c1, c2, c3, c4, c5])) = some y5 at t
        rw [one] at t
        exact t
      obtain ⟨n5, e5, _, w5⟩ := DataW.trod_int Try.underlying3 g5
      simp only [List.cons.injEq, and_true] at e0 e1 e2 e3 e4 e5
      subst e0 e1 e2 e3 e4 e5
      refine ⟨⟨n0, n1, n2, n3, n4, n5⟩, rfl, ?_⟩
      simp only [Lit.wf, Bool.and_eq_true, decide_eq_true_eq] at w5
      have h1 : IntKind.i64.min = -9223372036854775808 := by decide
      have h2 : IntKind.i64.max = 9223372036854775807 := by decide
      exact ⟨by show _ ≤ n5; omega, by show n5 ≤ _; omega⟩
/-- the argument, opened: a list of mappings that lies where the slice says -/
theorem open_maps {fuel : Nat} {a0 : Option Addr} {len0 cap0 : Nat} {x : DataW H × List MemPlace} (h : DataW.trod enc Try.prog W base spare held fuel 22 [.slice a0 len0 cap0] = some x) :
    ∃ xs : List S27, xs.length = len0 ∧ Kd.C k27 W a0 len0 xs ∧ len0 ≤ cap0 ∧ (∀ i, i < len0 → -9223372036854775808 ≤ (xs.getD i z27).f5 ∧ (xs.getD i z27).f5 ≤ 9223372036854775807) ∧ (a0 = none → xs = [] ∧ cap0 = 0) := by
  have six : Try.prog.cellsOf 27 = 6 := by kernel_rfl
  rcases open_slice Try.underlying22 h with ⟨hcs, _⟩ | ⟨a, len, cap, m, n, D, Pl, hcs, _, hl, hm, hmm, _, hi⟩
  · simp only [List.cons.injEq, Value.slice.injEq, and_true] at hcs
    obtain ⟨rfl, rfl, rfl⟩ := hcs
    exact ⟨[], rfl, Kd.C_nil _ _, Nat.le_refl _, fun i h => by omega, fun _ => ⟨rfl, rfl⟩⟩
  · simp only [List.cons.injEq, Value.slice.injEq, and_true] at hcs
    obtain ⟨rfl, rfl, rfl⟩ := hcs
    have hlm : len0 ≤ m := by rw [hmm]; split <;> omega
    have hx : ∀ i, i < len0 → ∃ y : S27, (∀ j u, [Value.int .i64 y.f0, .int .i64 y.f1, .int .i64 y.f2, .int .i64 y.f3, .int .i64 y.f4, .int .i64 y.f5][j]? = some u → W.cell? (a.add (i * 6 + j)) = some u) ∧ -9223372036854775808 ≤ y.f5 ∧ y.f5 ≤ 9223372036854775807 := by
      intro i hil
      obtain ⟨cs', hc, ht⟩ := hi i (by omega)
      rw [six] at hc
      obtain ⟨_, hcl, hat⟩ := World.cells?_some hc
      obtain ⟨y, rfl, hy⟩ := open_map ht hcl
      refine ⟨y, fun j u hu => ?_, hy⟩
      have hj : j < 6 := (List.getElem?_eq_some_iff.1 hu).1
      rw [← Go.Deep.add_add, hat j hj]
      exact hu
    let f : Nat → S27 := fun i => if h : i < len0 then (hx i h).choose else z27
    have hf : ∀ i, i < len0 → (∀ j u, [Value.int .i64 (f i).f0, .int .i64 (f i).f1, .int .i64 (f i).f2, .int .i64 (f i).f3, .int .i64 (f i).f4, .int .i64 (f i).f5][j]? = some u → W.cell? (a.add (i * 6 + j)) = some u) ∧ -9223372036854775808 ≤ (f i).f5 ∧ (f i).f5 ≤ 9223372036854775807 := by
      intro i h
      have e : f i = (hx i h).choose := dif_pos h
      rw [e]
      exact (hx i h).choose_spec
    have hg : ∀ i, i < len0 → ((List.range len0).map f).getD i z27 = f i := by
      intro i h
      simp [List.getD, h]
    refine ⟨(List.range len0).map f, by simp, ⟨by simp, by unfold maxLen at hm; omega, fun _ => ⟨a, rfl, fun j p hp => ?_⟩⟩, hl, fun i h => ?_, fun h => by cases h⟩
    · have hj : j < len0 := by
        have := (List.getElem?_eq_some_iff.1 hp).1
        simpa using this
      have e : p = f j := by simpa [hj] using hp.symm
      subst e
      exact ⟨_, rfl, k27_mk _ _, fun i u hu => (hf j hj).1 i u hu⟩
    · rw [hg i h]
      exact (hf i h).2
/-- a shift's cells, opened -/
theorem open_quad {fuel : Nat} {cs : List Value} {x : DataW H × List MemPlace} (h : DataW.trod enc Try.prog W base spare held fuel 28 cs = some x) (hl : cs.length = 4) :
    ∃ y : Sh, cs = [.int .i64 y.line, .int .i64 y.col, .int .i64 y.aline, .int .i64 y.acol] := by
  match cs, hl with
  | [c0, c1, c2, c3], _ =>
    obtain ⟨y0, y1, y2, y3, n, _, g0, g1, g2, g3⟩ := trod_array4 Try.underlying28 (by kernel_rfl) h
    obtain ⟨n0, e0, _, _⟩ := DataW.trod_int Try.underlying3 g0
    obtain ⟨n1, e1, _, _⟩ := DataW.trod_int Try.underlying3 g1
    obtain ⟨n2, e2, _, _⟩ := DataW.trod_int Try.underlying3 g2
    obtain ⟨n3, e3, _, _⟩ := DataW.trod_int Try.underlying3 g3
    simp only [List.cons.injEq, and_true] at e0 e1 e2 e3
    subst e0 e1 e2 e3
    exact ⟨⟨n0, n1, n2, n3⟩, rfl⟩
/-- the argument, opened: a list of shifts that lies where the slice says -/
theorem open_shifts {fuel : Nat} {a0 : Option Addr} {len0 cap0 : Nat} {x : DataW H × List MemPlace} (h : DataW.trod enc Try.prog W base spare held fuel 23 [.slice a0 len0 cap0] = some x) :
    ∃ xs : List Sh, xs.length = len0 ∧ (xs ≠ [] → Sl W W.heap.size (.slice a0 len0 cap0) xs) ∧ xs.length ≤ 9223372036854775807 := by
  have four : Try.prog.cellsOf 28 = 4 := by kernel_rfl
  rcases open_slice Try.underlying23 h with ⟨hcs, _⟩ | ⟨a, len, cap, m, n, D, Pl, hcs, _, hl, hm, hmm, _, hi⟩
  · simp only [List.cons.injEq, Value.slice.injEq, and_true] at hcs
    obtain ⟨rfl, rfl, rfl⟩ := hcs
    exact ⟨[], rfl, fun h => absurd rfl h, by simp⟩
  · simp only [List.cons.injEq, Value.slice.injEq, and_true] at hcs
    obtain ⟨rfl, rfl, rfl⟩ := hcs
    have hlm : len0 ≤ m := by rw [hmm]; split <;> omega
    have hx : ∀ i, i < len0 → ∃ y : Sh, ∀ j u, [Value.int .i64 y.line, .int .i64 y.col, .int .i64 y.aline, .int .i64 y.acol][j]? = some u → W.cell? (a.add (i * 4 + j)) = some u := by
      intro i hil
      obtain ⟨cs', hc, ht⟩ := hi i (by omega)
      rw [four] at hc
      obtain ⟨_, hcl, hat⟩ := World.cells?_some hc
      obtain ⟨y, rfl⟩ := open_quad ht hcl
      refine ⟨y, fun j u hu => ?_⟩
      have hj : j < 4 := (List.getElem?_eq_some_iff.1 hu).1
      rw [← Go.Deep.add_add, hat j hj]
      exact hu
    let f : Nat → Sh := fun i => if h : i < len0 then (hx i h).choose else z0
    have hf : ∀ i, i < len0 → ∀ j u, [Value.int .i64 (f i).line, .int .i64 (f i).col, .int .i64 (f i).aline, .int .i64 (f i).acol][j]? = some u → W.cell? (a.add (i * 4 + j)) = some u := by
      intro i h
      have e : f i = (hx i h).choose := dif_pos h
      rw [e]
      exact (hx i h).choose_spec
    refine ⟨(List.range len0).map f, by simp, fun hne => ?_, by unfold maxLen at hm; simp; omega⟩
    have h0 : 0 < len0 := by
      rcases Nat.eq_zero_or_pos len0 with e | e
      · subst e
        exact absurd rfl hne
      · exact e
    have hc0 := hf 0 h0 0 _ rfl
    obtain ⟨g, o, sp⟩ := a
    obtain rfl : sp = none := by
      cases sp with
      | none => rfl
      | some q =>
        rw [show (⟨g, o, some q⟩ : Addr).add (0 * 4 + 0) = ⟨g, o, some q⟩ from rfl] at hc0
        unfold World.cell? at hc0
        split at hc0
        · simp at hc0
        · cases hc0
    have ad : ∀ k, (⟨g, o, none⟩ : Addr).add k = ⟨g, o + k, none⟩ := fun k => by
      unfold Addr.add
      split
      · subst_vars
        rfl
      · rfl
    refine ⟨g, o, cap0, by simp, by simpa using hl, World.block_lt_of_cell? W _ hc0, fun i hi => ?_⟩
    have hi2 : i < len0 := by simpa using hi
    have e : ((List.range len0).map f)[i] = f i := by simp
    rw [e]
    have t0 := hf i hi2 0 _ rfl
    have t1 := hf i hi2 1 _ rfl
    have t2 := hf i hi2 2 _ rfl
    have t3 := hf i hi2 3 _ rfl
    rw [ad] at t0 t1 t2 t3
    exact ⟨t0, t1, t2, t3⟩
end
set_option maxRecDepth 100000 in
theorem lifted (os : Os) (started : os.Started) (H : Type) (enc : TypeId × Value → H) :
    ReturnsInHanded {} Try.checked os 3 .any (Rows.fnFinalizeSpec.pre6 enc Try.prog Try.f3 Rows.fnFinalizeRow.domain false) (Rows.fnFinalizeSpec.post enc Try.prog Try.f3 false true false false) := by
  refine returnsInHanded_of_change (C := Try.checked) own started (by kernel_rfl) Try.func3
    (ChangeSpec.witness6 (enc := enc) (C := Try.checked) false ⟨#[], #[.string ByteArray.empty, .slice none 0 0, .string ByteArray.empty, .slice none 0 0], []⟩ 8 (by kernel_rfl) (by kernel_rfl) (by kernel_rfl) (by kernel_rfl)) ?_
  intro W base args ds gs before hval0 hW hcnd _
  have hval : ∀ (j : Nat) t v, Try.f3.params[j]? = some t → args[j]? = some v → Value.okWide Try.prog W .any base t v := hval0
  have hW' := hW
  obtain ⟨p, q, hA0, hV, rfl, hfz, hnd⟩ := hW
  have hA : DataW.TrodAll enc Try.prog W 0 (fun _ => true) true Try.f3.params.toList args.toList ds p := hA0
  rw [Try.params3] at hA hval
  obtain ⟨v0, vs0, d0, ds0, p0, q0, hargs, rfl, rfl, h0, r0⟩ := trodAll_cons hA
  obtain ⟨v1, vs1, d1, ds1, p1, q1, rfl, rfl, rfl, h1, r1⟩ := trodAll_cons r0
  obtain ⟨v2, vs2, d2, ds2, p2, q2, rfl, rfl, rfl, h2, r2⟩ := trodAll_cons r1
  obtain ⟨v3, vs3, d3, ds3, p3, q3, rfl, rfl, rfl, h3, r3⟩ := trodAll_cons r2
  obtain ⟨rfl, rfl, rfl⟩ := trodAll_nil r3
  obtain rfl : args = #[v0, v1, v2, v3] := by cases args; simp_all
  obtain ⟨rfl, rfl⟩ := trodVars_none hV
  obtain ⟨s0, rfl, rfl, rfl, w0⟩ := open_string Try.underlying9 (hval 0 9 v0 rfl rfl) h0
  obtain ⟨s2, rfl, rfl, rfl, w2⟩ := open_string Try.underlying9 (hval 2 9 v2 rfl rfl) h2
  obtain ⟨a1, len1, cap1, rfl⟩ := okWide_slice Try.underlying22 (hval 1 22 v1 rfl rfl)
  obtain ⟨a3, len3, cap3, rfl⟩ := okWide_slice Try.underlying23 (hval 3 23 v3 rfl rfl)
  have k1 := h1
  have k3 := h3
  have lt1 : ∀ x ∈ p1, x.block < W.heap.size := by obtain ⟨m, hm⟩ := k1; exact DataW.trod_lt m _ _ _ hm
  have lt3 : ∀ x ∈ p3, x.block < W.heap.size := by obtain ⟨m, hm⟩ := k3; exact DataW.trod_lt m _ _ _ hm
  obtain ⟨xs, rfl, hC, hcap, hr, hnil⟩ := (show ∃ xs : List S27, xs.length = len1 ∧ Kd.C k27 W a1 len1 xs ∧ len1 ≤ cap1 ∧ (∀ i, i < len1 → -9223372036854775808 ≤ (xs.getD i z27).f5 ∧ (xs.getD i z27).f5 ≤ 9223372036854775807) ∧ (a1 = none → xs = [] ∧ cap1 = 0) from by
    obtain ⟨fuel, hf⟩ := h1
    exact open_maps hf)
  obtain ⟨SH, rfl, hsh, hsl⟩ := (show ∃ ys : List Sh, ys.length = len3 ∧ (ys ≠ [] → Sl W W.heap.size (.slice a3 len3 cap3) ys) ∧ ys.length ≤ 9223372036854775807 from by
    obtain ⟨fuel, hf⟩ := h3
    exact open_shifts hf)
  clear hA0 hval0
  have hlaw := law W s0.data.toList s2.data.toList (.slice a3 SH.length cap3) a1 cap1 xs SH hC hcap hsh (fun e => ⟨a3, cap3, by rw [e]; rfl⟩) hsl hr ⟨a3, cap3, rfl⟩ hnil
  rw [bs_toList, bs_toList] at hlaw
  refine hlaw.mono fun e W' ⟨he, bel⟩ => ?_
  subst he
  exact ⟨_, rfl, _, _, _, [], _, [], hW', trodAll_mk1 (shut_bool Try.underlying4 _), (trodAll_cons_mk (shut_string Try.underlying9 w0) (trodAll_cons_mk (Below.trod laidOut (by kernel_rfl) (of_decide_eq_true (by kernel_rfl)) k1 bel lt1) (trodAll_cons_mk (shut_string Try.underlying9 w2) (trodAll_cons_mk (Below.trod laidOut (by kernel_rfl) (of_decide_eq_true (by kernel_rfl)) k3 bel lt3) trodAll_mk0)))), rfl, bel.frame _, fun h => by cases h⟩

theorem over : Rows.fnFinalizeRow.holds Try.pinned (OpenSpec.ofChange Rows.fnFinalizeSpec) :=
  OpenClaim.holds_of_wide 3 Try.f3 rfl rfl rfl rfl rfl rfl rfl ⟨rfl, rfl, rfl, rfl, rfl⟩ rfl rfl rfl rfl rfl (by kernel_rfl) Try.func3 (by kernel_rfl)
    (of_decide_eq_true (by kernel_rfl)) (by unfold Func.isWrapper; first | (rw [if_pos (by decide +kernel)]; kernel_rfl) | (rw [if_neg (by decide +kernel)]; exact ⟨rfl, rfl⟩))
    (fun os started H enc _ => lifted os started H enc)

/-- ████ THE STATEMENT ████ -/
theorem proved : Rows.FnFinalizeSaid :=
  over
#print axioms proved
end Go.Proofs.Ytdhaifcjhmmdlaa.fnFinalize
