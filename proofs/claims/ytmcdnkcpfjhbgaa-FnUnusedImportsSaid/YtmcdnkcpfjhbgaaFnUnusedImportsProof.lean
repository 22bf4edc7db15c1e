/-
  FnUnusedImports: at all settings of TypeScript in range (importsNotUsedAsValues 0 to 3, the other two 0 to 2) impl.UnusedImports answers what the law says; at others the law returns true at once; it writes nothing that was there.
  Conditions: none.
-/
import Derived.Test.YtmcdnkcpfjhbgaaRows
import Derived.WalkKit
import Derived.ProofKit
import Derived.OpenShut
import Derived.ShutString
namespace Go.Proofs.Ytmcdnkcpfjhbgaa.fnUnusedImports
open Go.ChangeShapes Go.WideShapes Go.ChangeAt Go.RowKit
open Go.ChangeMaps (open_string shut_string)
set_option linter.unusedVariables false      -- a walk need not use every 'w<i>' (that an integer argument fits its kind)

theorem own : ownKnob Try.prog.godebug = none := by kernel_rfl

/-- what becomes of unused imports -/
def res (i p v : Int) : Int := if v = 1 then 3 else (if p = 1 then 2 else 0) + (if 2 ≤ i then 1 else 0)

theorem b3 : wrap64 (bits .or .u8 (bits .or .u8 0 2) 1) = 3 := by
  have h : bits .or .u8 (bits .or .u8 0 2) 1 = 3 := by decide
  rw [h]; unfold wrap64; omega
theorem b2 : wrap64 (bits .or .u8 0 2) = 2 := by
  have h : bits .or .u8 0 2 = 2 := by decide
  rw [h]; unfold wrap64; omega
theorem b1 : wrap64 (bits .or .u8 0 1) = 1 := by
  have h : bits .or .u8 0 1 = 1 := by decide
  rw [h]; unfold wrap64; omega

set_option maxHeartbeats 1000000 in
/-- function 15, impl.UnusedImports, at settings in range -/
theorem flags (i p v k : Int) (w : World) (hi : 0 ≤ i) (hi' : i ≤ 3) (hp : 0 ≤ p) (hp' : p ≤ 2) (hv : 0 ≤ v) (hv' : v ≤ 2) (hk : k = res i p v) :
    Calls Try.prog 15 #[.int .i64 i, .int .i64 p, .int .i64 v] w fun e w' => e = .returned (.int .i64 k) ∧ Grown w w' := by
  subst hk
  by_cases cv : v = 1
  · subst cv
    go_enter Try.func15, Try.ntmps15
    go_wp2
    go_ret
    exact ⟨by simp [res], by repeat (first | exact Grown.refl _ | apply Grown.drew | apply Grown.alloc)⟩
  · have hc : (v == 1) = false := by simpa using cv
    by_cases cp : p = 1
    · subst cp
      by_cases c2 : i = 2
      · subst c2
        go_enter Try.func15, Try.ntmps15
        go_wp2
        go_ret
        exact ⟨by simp [res, cv, b3], by repeat (first | exact Grown.refl _ | apply Grown.drew | apply Grown.alloc)⟩
      · by_cases c3 : i = 3
        · subst c3
          go_enter Try.func15, Try.ntmps15
          go_wp2
          go_ret
          exact ⟨by simp [res, cv, b3], by repeat (first | exact Grown.refl _ | apply Grown.drew | apply Grown.alloc)⟩
        · have d2 : (i == 2) = false := by simpa using c2
          have d3 : (i == 3) = false := by simpa using c3
          have hlt : i < 2 := by omega
          go_enter Try.func15, Try.ntmps15
          go_wp2
          go_ret
          exact ⟨by simp [res, cv, b2]; omega, by repeat (first | exact Grown.refl _ | apply Grown.drew | apply Grown.alloc)⟩
    · have dp : (p == 1) = false := by simpa using cp
      by_cases c2 : i = 2
      · subst c2
        go_enter Try.func15, Try.ntmps15
        go_wp2
        go_ret
        exact ⟨by simp [res, cv, cp, b1], by repeat (first | exact Grown.refl _ | apply Grown.drew | apply Grown.alloc)⟩
      · by_cases c3 : i = 3
        · subst c3
          go_enter Try.func15, Try.ntmps15
          go_wp2
          go_ret
          exact ⟨by simp [res, cv, cp, b1], by repeat (first | exact Grown.refl _ | apply Grown.drew | apply Grown.alloc)⟩
        · have d2 : (i == 2) = false := by simpa using c2
          have d3 : (i == 3) = false := by simpa using c3
          have hlt : i < 2 := by omega
          go_enter Try.func15, Try.ntmps15
          go_wp2
          go_ret
          exact ⟨by simp [res, cv, cp]; omega, by repeat (first | exact Grown.refl _ | apply Grown.drew | apply Grown.alloc)⟩

theorem grown_trans {a b c : World} (h : Grown a b) (k : Grown b c) : Grown a c :=
  ⟨World.keptBut_trans h.1 k.1, fun x => (k.2.1 x).trans (h.2.1 x), Nat.le_trans h.2.2 k.2.2⟩

set_option maxHeartbeats 2000000 in
theorem walk (i p v : Int) (w : World) :
    Calls Try.prog 6 #[.int .i64 i, .int .i64 p, .int .i64 v] w fun e w' => e = .returned (.bool true) ∧ Grown w w' := by
  by_cases hb : 0 ≤ i ∧ i ≤ 3 ∧ 0 ≤ p ∧ p ≤ 2 ∧ 0 ≤ v ∧ v ≤ 2
  · obtain ⟨hi, hi', hp, hp', hv, hv'⟩ := hb
    by_cases cv : v = 1
    · subst cv
      by_cases ci : 2 ≤ i
      · by_cases cp : p = 1
        · subst cp
          go_enter Try.func6, Try.ntmps6
          go_wp2_with fail
          refine (flags _ _ _ 3 _ (by omega) (by omega) (by omega) (by omega) (by omega) (by omega) (by simp [res])).mono ?_
          rintro e w1 ⟨rfl, hg⟩
          go_wp2_with fail
          refine (flags 2 1 0 3 _ (by omega) (by omega) (by omega) (by omega) (by omega) (by omega) (by decide)).mono ?_
          rintro e w2 ⟨rfl, hg'⟩
          go_wp2_with fail
          go_ret
          exact ⟨rfl, grown_trans hg hg'⟩
        · have dp : (p == 1) = false := by simpa using cp
          go_enter Try.func6, Try.ntmps6
          go_wp2_with fail
          refine (flags _ _ _ 3 _ (by omega) (by omega) (by omega) (by omega) (by omega) (by omega) (by simp [res])).mono ?_
          rintro e w1 ⟨rfl, hg⟩
          go_wp2_with fail
          refine (flags 2 1 0 3 _ (by omega) (by omega) (by omega) (by omega) (by omega) (by omega) (by decide)).mono ?_
          rintro e w2 ⟨rfl, hg'⟩
          go_wp2_with fail
          go_ret
          exact ⟨rfl, grown_trans hg hg'⟩
      · have ci' : i < 2 := by omega
        by_cases cp : p = 1
        · subst cp
          go_enter Try.func6, Try.ntmps6
          go_wp2_with fail
          refine (flags _ _ _ 3 _ (by omega) (by omega) (by omega) (by omega) (by omega) (by omega) (by simp [res])).mono ?_
          rintro e w1 ⟨rfl, hg⟩
          go_wp2_with fail
          refine (flags 2 1 0 3 _ (by omega) (by omega) (by omega) (by omega) (by omega) (by omega) (by decide)).mono ?_
          rintro e w2 ⟨rfl, hg'⟩
          go_wp2_with fail
          go_ret
          exact ⟨rfl, grown_trans hg hg'⟩
        · have dp : (p == 1) = false := by simpa using cp
          go_enter Try.func6, Try.ntmps6
          go_wp2_with fail
          refine (flags _ _ _ 3 _ (by omega) (by omega) (by omega) (by omega) (by omega) (by omega) (by simp [res])).mono ?_
          rintro e w1 ⟨rfl, hg⟩
          go_wp2_with fail
          refine (flags 2 1 0 3 _ (by omega) (by omega) (by omega) (by omega) (by omega) (by omega) (by decide)).mono ?_
          rintro e w2 ⟨rfl, hg'⟩
          go_wp2_with fail
          go_ret
          exact ⟨rfl, grown_trans hg hg'⟩
    · have dv : (v == 1) = false := by simpa using cv
      by_cases ci : 2 ≤ i
      · by_cases cp : p = 1
        · subst cp
          go_enter Try.func6, Try.ntmps6
          go_wp2_with fail
          refine (flags _ _ _ 3 _ (by omega) (by omega) (by omega) (by omega) (by omega) (by omega) (by simp [res, cv]; omega)).mono ?_
          rintro e w1 ⟨rfl, hg⟩
          go_wp2_with fail
          refine (flags 2 1 0 3 _ (by omega) (by omega) (by omega) (by omega) (by omega) (by omega) (by decide)).mono ?_
          rintro e w2 ⟨rfl, hg'⟩
          go_wp2_with fail
          go_ret
          exact ⟨rfl, grown_trans hg hg'⟩
        · have dp : (p == 1) = false := by simpa using cp
          go_enter Try.func6, Try.ntmps6
          go_wp2_with fail
          refine (flags _ _ _ 1 _ (by omega) (by omega) (by omega) (by omega) (by omega) (by omega) (by simp [res, cv, cp]; omega)).mono ?_
          rintro e w1 ⟨rfl, hg⟩
          go_wp2_with fail
          refine (flags 2 1 0 3 _ (by omega) (by omega) (by omega) (by omega) (by omega) (by omega) (by decide)).mono ?_
          rintro e w2 ⟨rfl, hg'⟩
          go_wp2_with fail
          go_ret
          exact ⟨rfl, grown_trans hg hg'⟩
      · have ci' : i < 2 := by omega
        by_cases cp : p = 1
        · subst cp
          go_enter Try.func6, Try.ntmps6
          go_wp2_with fail
          refine (flags _ _ _ 2 _ (by omega) (by omega) (by omega) (by omega) (by omega) (by omega) (by simp [res, cv]; omega)).mono ?_
          rintro e w1 ⟨rfl, hg⟩
          go_wp2_with fail
          refine (flags 2 1 0 3 _ (by omega) (by omega) (by omega) (by omega) (by omega) (by omega) (by decide)).mono ?_
          rintro e w2 ⟨rfl, hg'⟩
          go_wp2_with fail
          go_ret
          exact ⟨rfl, grown_trans hg hg'⟩
        · have dp : (p == 1) = false := by simpa using cp
          go_enter Try.func6, Try.ntmps6
          go_wp2_with fail
          refine (flags _ _ _ 0 _ (by omega) (by omega) (by omega) (by omega) (by omega) (by omega) (by simp [res, cv, cp]; omega)).mono ?_
          rintro e w1 ⟨rfl, hg⟩
          go_wp2_with fail
          refine (flags 2 1 0 3 _ (by omega) (by omega) (by omega) (by omega) (by omega) (by omega) (by decide)).mono ?_
          rintro e w2 ⟨rfl, hg'⟩
          go_wp2_with fail
          go_ret
          exact ⟨rfl, grown_trans hg hg'⟩
  · go_enter Try.func6, Try.ntmps6
    go_wp2_with (fail)
    all_goals
      go_ret
      exact ⟨rfl, Grown.refl _⟩

/-! ### THE ROW's STEP: WRITTEN OUT: LEAVE IT -/
set_option maxRecDepth 100000 in
theorem lifted (os : Os) (started : os.Started) (H : Type) (enc : TypeId × Value → H) :
    ReturnsInHanded {} Try.checked os 6 .any (Rows.fnUnusedImportsSpec.pre6 enc Try.prog Try.f6 Rows.fnUnusedImportsRow.domain false) (Rows.fnUnusedImportsSpec.post enc Try.prog Try.f6 false true false false) := by
  refine returnsInHanded_of_change (C := Try.checked) own started (by kernel_rfl) Try.func6
    (ChangeSpec.witness6 (enc := enc) (C := Try.checked) false ⟨#[], #[.int .i64 0, .int .i64 0, .int .i64 0], []⟩ 8 (by kernel_rfl) (by kernel_rfl) (by kernel_rfl) (by kernel_rfl)) ?_
  intro W base args ds gs before hval0 hW hcnd _
  have hval : ∀ (j : Nat) t v, Try.f6.params[j]? = some t → args[j]? = some v → Value.okWide Try.prog W .any base t v := hval0
  have hW' := hW
  obtain ⟨p, q, hA0, hV, rfl, hfz, hnd⟩ := hW
  have hA : DataW.TrodAll enc Try.prog W 0 (fun _ => true) true Try.f6.params.toList args.toList ds p := hA0
  rw [Try.params6] at hA hval
  obtain ⟨v0, vs0, d0, ds0, p0, q0, hargs, rfl, rfl, h0, r0⟩ := trodAll_cons hA
  obtain ⟨v1, vs1, d1, ds1, p1, q1, rfl, rfl, rfl, h1, r1⟩ := trodAll_cons r0
  obtain ⟨v2, vs2, d2, ds2, p2, q2, rfl, rfl, rfl, h2, r2⟩ := trodAll_cons r1
  obtain ⟨rfl, rfl, rfl⟩ := trodAll_nil r2
  obtain rfl : args = #[v0, v1, v2] := by cases args; simp_all
  obtain ⟨rfl, rfl⟩ := trodVars_none hV
  obtain ⟨a0, rfl, rfl, rfl, w0⟩ := open_int Try.underlying3 (hval 0 3 v0 rfl rfl) h0
  obtain ⟨a1, rfl, rfl, rfl, w1⟩ := open_int Try.underlying3 (hval 1 3 v1 rfl rfl) h1
  obtain ⟨a2, rfl, rfl, rfl, w2⟩ := open_int Try.underlying3 (hval 2 3 v2 rfl rfl) h2
  clear hA0 hval0
  simp only [List.append_nil] at hW'
  refine (walk a0 a1 a2 W).mono fun e W' ⟨he, hg⟩ => ?_
  subst he
  exact ⟨_, rfl, post_of_same (pa := []) (pv := []) hW' (fun _ _ _ => (trodAll_cons_mk (shut_bool Try.underlying4 _) trodAll_mk0)) (fun sp _ => (trodAll_cons_mk (shut_int Try.underlying3 w0) (trodAll_cons_mk (shut_int Try.underlying3 w1) (trodAll_cons_mk (shut_int Try.underlying3 w2) trodAll_mk0)))) (fun _ _ => rfl) rfl
    (hg.frame _) hg.2.1 (ok_one (by kernel_rfl) rfl (okWide_bool_mk Try.underlying4 _))⟩

theorem over : Rows.fnUnusedImportsRow.holds Try.pinned (OpenSpec.ofChange Rows.fnUnusedImportsSpec) :=
  OpenClaim.holds_of_wide 6 Try.f6 rfl rfl rfl rfl rfl rfl rfl ⟨rfl, rfl, rfl, rfl, rfl⟩ rfl rfl rfl rfl rfl (by kernel_rfl) Try.func6 (by kernel_rfl)
    (of_decide_eq_true (by kernel_rfl)) (by unfold Func.isWrapper; first | (rw [if_pos (by decide +kernel)]; kernel_rfl) | (rw [if_neg (by decide +kernel)]; exact ⟨rfl, rfl⟩))
    (fun os started H enc _ => lifted os started H enc)

/-- ████ THE STATEMENT ████ -/
theorem proved : Rows.FnUnusedImportsSaid :=
  over
#print axioms proved
end Go.Proofs.Ytmcdnkcpfjhbgaa.fnUnusedImports
