/-
  FnSemverTurns: the walk of impl.CompareSemver: it compares copies of the two lists.
  Conditions: as at compat.CompareSemver.
-/
import Derived.Test.YteokaphenmnckaaDoorFnSemverTurnsCompare
import Derived.Laws.AppendOwn
import Derived.Laws.AppendOwnNone
namespace Go.Proofs.YteokaphenmnckaaDoor.fnSemverTurns
open Go.RowKit Go.Proofs.YteokaphenmnckaaDoorW.PrintWords
set_option linter.unusedVariables false
set_option linter.unusedSimpArgs false

def cellsOf (zs : List Int) : List Value := zs.map (Value.int .i64)
theorem info3 : (Tryd.prog.info? 3).map (fun i => (i.zero, i.size, i.bytes)) = some (some (.int .i64 0), 1, 8) := by kernel_rfl
theorem one_cells (zs : List Int) : ∀ u ∈ cellsOf zs, u.oneCell' = true := by
  intro u hu
  obtain ⟨z, _, rfl⟩ := List.mem_map.1 hu
  rfl
theorem reps_cells (zs : List Int) : Reps (fun (x : Int) cs => cs = [Value.int .i64 x]) 1 zs (cellsOf zs) := by
  refine ⟨by simp [cellsOf], fun j p h => ?_⟩
  have hj : j < (cellsOf zs).length := by simpa [cellsOf] using (List.getElem?_eq_some_iff.1 h).1
  have hc : (cellsOf zs)[j] = Value.int .i64 p := by
    have := List.getElem?_eq_some_iff.1 h
    obtain ⟨_, h2⟩ := this
    simp [cellsOf, h2]
  rw [Nat.mul_one, List.drop_eq_getElem_cons hj, hc]
  rfl
/-- an append of what a slice of numbers holds to a row of the call's own -/
theorem wp_copy {w : World} {ops : Array Oper} {rest : List Oper} {o : Oper} {a : Act} {Q : Exit → Act → World → Prop} (hgd : o.guard = none) (s x : Operand)
    (ho : o.op = .call { callee := .builtin .append, args := #[s, x], argTypes := #[22, 22] })
    (base : Nat) (v : Value) (hs : a.eval s = v) (hown : w.ownsRow base 3 1 v 0 [])
    (A : Option Addr) (c : Nat) (xs : List Int) (hx : a.eval x = .slice A xs.length c) (hnil : A = none → xs = [] ∧ c = 0) (hC : Kd.C (Kd.int .i64) w A xs.length xs) (hl : xs.length ≤ 2147483647) (hbase : base ≤ w.heap.size)
    (h : ∀ v' w', w'.ownsRow base 3 1 v' xs.length (cellsOf xs) → w.grownBy w' v.ownBlock → wpList Tryd.prog ops Q rest (a.put o.dst v') w') : wpList Tryd.prog ops Q (o :: rest) a w := by
  obtain ⟨i0, hi, hz0, hz1, hz2⟩ := info_parts info3
  cases A with
  | none =>
    obtain ⟨rfl, rfl⟩ := hnil rfl
    exact wpList_append_own_none hgd s x 22 ho base 3 i0 1 Tryd.underlying22 hi v 0 [] hs hown hx (h v w hown (World.grownBy.refl _ _))
  | some ad =>
    refine wpList_append_own w hgd s x 22 ho base 3 i0 (.int .i64 0) 1 8 Tryd.underlying22 hi hz0 hz1 hz2 rfl (by decide) v 0 [] hs hown ad xs.length c (cellsOf xs) hx (by simp [cellsOf]) ?_ (one_cells xs) (by unfold maxLen; omega) (by omega) hbase ?_
    · intro j u hu
      have hj : j < xs.length := by
        have := (List.getElem?_eq_some_iff.1 hu).1
        simpa [cellsOf] using this
      obtain ⟨ad', e, hc⟩ := int_at hC j hj
      obtain rfl : ad = ad' := Option.some.inj e
      rw [hc]
      simp only [cellsOf, List.getElem?_map, List.getElem?_eq_getElem hj, Option.map_some, Option.some.injEq] at hu
      rw [← hu]
      simp [part, List.getD, List.getElem?_eq_getElem hj]
    · intro v' w' h1 h2 _
      exact h v' w' (by simpa using h1) h2
theorem reads_of {w : World} {base : Nat} {v : Value} {xs : List Int} (h : w.ownsRow base 3 1 v xs.length (cellsOf xs)) : ∃ A c, v = .slice A xs.length c ∧ Kd.C (Kd.int .i64) w A xs.length xs :=
  own_reads_row h (reps_cells xs) rfl

set_option maxHeartbeats 4000000 in
set_option maxRecDepth 100000 in
theorem impl (xs ys : List Int) (A B : Option Addr) (ca cb : Nat) (p q : ByteArray) (w : World) (hA : Kd.C (Kd.int .i64) w A xs.length xs) (hB : Kd.C (Kd.int .i64) w B ys.length ys)
    (nA : A = none → xs = [] ∧ ca = 0) (nB : B = none → ys = [] ∧ cb = 0)
    (hxs : xs.length ≤ 2147483647) (hys : ys.length ≤ 2147483647) (hp0 : p.size ≤ 2147483647) (hq0 : q.size ≤ 2147483647) (vx : Vers xs) (vy : Vers ys) (he : Errs w) :
    Calls Tryd.prog 5 #[.slice A xs.length ca, .slice B ys.length cb, .string p, .string q] w (Cmp (cmp xs ys p.data.toList q.data.toList) w) := by
  have HA := Lib.hid hA
  have HB := Lib.hid hB
  have VX := Lib.hid vx
  have VY := Lib.hid vy
  have HE := Lib.hid he
  have NA := Lib.hid nA
  have NB := Lib.hid nB
  clear hA hB vx vy he nA nB
  generalize hT : cmp xs ys p.data.toList q.data.toList = T
  have HT := Lib.hid hT
  clear hT
  have hb0 : Below w.heap.size w (w.alloc (.cells #[] 3)) := (Below.refl _ _).alloc (Nat.le_refl _) _
  have HC0 := Lib.hid (Kd.C_below HA.out hb0)
  have HB0 := Lib.hid hb0
  have HO0 : Hid ((w.alloc (.cells #[] 3)).ownsRow w.heap.size 3 1 (.slice (some ⟨w.heap.size, 0, none⟩) 0 0) 0 []) := Lib.hid ⟨rfl, .inr ⟨w.heap.size, 0, #[], rfl, Nat.le_refl _, heap_alloc_new w _, Nat.le_refl _, by decide, rfl, rfl⟩⟩
  clear hb0
  go_enter Tryd.func5, Tryd.ntmps5
  go_wp2_with (at_builtin; refine wp_copy rfl (.tmp 9) (.tmp 10) rfl w.heap.size _ rfl HO0.out A ca xs rfl NA.out HC0.out hxs HB0.out.size ?_)
  intro v1 w1 ho1 hg1
  have hb1 := HB0.out.grown hg1 HB0.out.size (fun k hk => by simp [Value.ownBlock] at hk; omega)
  obtain ⟨A1, c1, rfl, hC1⟩ := reads_of ho1
  have hbb : Below w1.heap.size w1 (w1.alloc (.cells #[] 3)) := (Below.refl _ _).alloc (Nat.le_refl _) _
  have HC1 := Lib.hid hC1
  have HB1 := Lib.hid hb1
  have HBB := Lib.hid hbb
  have HCB := Lib.hid (Kd.C_below (Kd.C_below HB.out hb1) hbb)
  have HO1 : Hid ((w1.alloc (.cells #[] 3)).ownsRow w1.heap.size 3 1 (.slice (some ⟨w1.heap.size, 0, none⟩) 0 0) 0 []) := Lib.hid ⟨rfl, .inr ⟨w1.heap.size, 0, #[], rfl, Nat.le_refl _, heap_alloc_new w1 _, Nat.le_refl _, by decide, rfl, rfl⟩⟩
  clear ho1 hg1 hb1 hbb hC1
  go_wp2_with (at_builtin; refine wp_copy rfl (.tmp 14) (.tmp 15) rfl w1.heap.size _ rfl HO1.out B cb ys rfl NB.out HCB.out hys HBB.out.size ?_)
  intro v2 w2 ho2 hg2
  have hb2 := HBB.out.grown hg2 HBB.out.size (fun k hk => by simp [Value.ownBlock] at hk; omega)
  obtain ⟨A2, c2, rfl, hC2⟩ := reads_of ho2
  have HC2 := Lib.hid hC2
  have HCA := Lib.hid (Kd.C_below HC1.out hb2)
  have HBW := Lib.hid (HB1.out.trans (hb2.mono HB1.out.size))
  have HEW := Lib.hid (HE.out.below HBW.out)
  clear hb2 hC2 hg2 ho2
  go_wp2_with (fail)
  refine (compare xs ys A1 A2 c1 c2 p q _ HCA.out HC2.out hxs hys hp0 hq0 VX.out VY.out HEW.out).mono ?_
  rintro e w3 ⟨rfl, hb3⟩
  rw [HT.out]
  have HB3 := Lib.hid (HBW.out.trans (hb3.mono HBW.out.size))
  clear hb3
  go_wp2_with (fail)
  go_ret
  exact ⟨rfl, HB3.out⟩
end Go.Proofs.YteokaphenmnckaaDoor.fnSemverTurns
