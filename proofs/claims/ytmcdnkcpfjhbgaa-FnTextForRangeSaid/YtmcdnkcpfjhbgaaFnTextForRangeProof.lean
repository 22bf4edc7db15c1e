/-
  FnTextForRange: at every text of at most 65,536 bytes and every range that stands in it impl.TextForRange returns the bytes that stand there; elsewhere the law returns true at once; it writes nothing that was there.
  Conditions: none.
-/
import Derived.Test.YtmcdnkcpfjhbgaaRows
import Derived.WalkKit
import Derived.ProofKit
import Derived.OpenShut
import Derived.Deep.QuietTactic
import Derived.BigQuiet
import Derived.Deep.RegionWith
import Derived.ShutString
namespace Go.Proofs.Ytmcdnkcpfjhbgaa.fnTextForRange
open Go.ChangeShapes Go.WideShapes Go.ChangeAt Go.RowKit
open Go.ChangeMaps (open_string shut_string)
set_option linter.unusedVariables false      -- a walk need not use every 'w<i>' (that an integer argument fits its kind)

theorem own : ownKnob Try.prog.godebug = none := by kernel_rfl

theorem grown_trans {a b c : World} (h : Grown a b) (k : Grown b c) : Grown a c :=
  ⟨World.keptBut_trans h.1 k.1, fun x => (k.2.1 x).trans (h.2.1 x), Nat.le_trans h.2.2 k.2.2⟩

set_option maxHeartbeats 1000000 in
/-- function 9, impl.TextForRange, of a range that stands in the text -/
theorem tfr (t : ByteArray) (f n : Int) (w : World) (hs : t.size ≤ 65536) (hf : 0 ≤ f) (hf' : f ≤ t.size) (hn : 0 ≤ n) (hn' : f + n ≤ t.size) :
    Calls Try.prog 9 #[.string t, .int .i64 f, .int .i64 n] w fun e w' => e = .returned (.string (t.extract f.toNat (f + n).toNat)) ∧ Grown w w' := by
  have h1 : n ≤ (t.size : Int) - f := by omega
  have h2 : f ≤ f + n := by omega
  go_enter Try.func9, Try.ntmps9
  go_wp2
  go_quiet (fail)
  go_wp2
  go_ret
  exact ⟨by first | rfl | simp, by repeat (first | exact Grown.refl _ | apply Grown.drew | apply Grown.alloc)⟩

theorem walk (a0 : ByteArray) (a1 : Int) (a2 : Int) (w : World) :
    Calls Try.prog 4 #[.string a0, .int .i64 a1, .int .i64 a2] w fun e w' => e = .returned (.bool true) ∧ Grown w w' := by
  by_cases hs : a0.size ≤ 65536
  · by_cases hb : 0 ≤ a1 ∧ a1 ≤ a0.size ∧ 0 ≤ a2 ∧ a1 + a2 ≤ a0.size
    · obtain ⟨h1, h2, h3, h4⟩ := hb
      have h5 : a2 ≤ (a0.size : Int) - a1 := by omega
      have h6 : a1 ≤ a1 + a2 := by omega
      go_enter Try.func4, Try.ntmps4
      go_wp2_with (fail)
      have h7 : 0 ≤ a1 + a2 := by omega
      have h8 : a1 + a2 ≤ (a0.size : Int) := by omega
      have e1 : IntKind.i64.wrap (a1 + a2) = a1 + a2 := IntWalk.i64_in _ (by omega)
      go_region_with (first | (go_at_call_of 9 (a0); refine (tfr a0 a1 a2 _ hs h1 h2 h3 h4).mono ?_; rintro e w1 ⟨rfl, hg⟩) | (go_at_call 9; refine (tfr ⟨#[97, 98]⟩ 1 1 _ (by decide) (by decide) (by decide) (by decide) (by decide)).mono ?_; rintro e w2 ⟨rfl, hg'⟩))
      clear e1
      go_wp2
      go_ret
      exact ⟨by simp [go_sem, Act.put, Array.getD]; kernel_rfl, grown_trans (grown_trans (by repeat (first | exact Grown.refl _ | apply Grown.drew)) hg) hg'⟩
    · go_enter Try.func4, Try.ntmps4
      go_wp2_with (fail)
      all_goals
        go_ret
        exact ⟨rfl, Grown.refl _⟩
  · go_enter Try.func4, Try.ntmps4
    go_wp2_with (fail)
    all_goals
      go_ret
      exact ⟨rfl, Grown.refl _⟩

/-! ### THE ROW's STEP: WRITTEN OUT: LEAVE IT -/
set_option maxRecDepth 100000 in
theorem lifted (os : Os) (started : os.Started) (H : Type) (enc : TypeId × Value → H) :
    ReturnsInHanded {} Try.checked os 4 .any (Rows.fnTextForRangeSpec.pre6 enc Try.prog Try.f4 Rows.fnTextForRangeRow.domain false) (Rows.fnTextForRangeSpec.post enc Try.prog Try.f4 false true false false) := by
  refine returnsInHanded_of_change (C := Try.checked) own started (by kernel_rfl) Try.func4
    (ChangeSpec.witness6 (enc := enc) (C := Try.checked) false ⟨#[], #[.string ByteArray.empty, .int .i64 0, .int .i64 0], []⟩ 8 (by kernel_rfl) (by kernel_rfl) (by kernel_rfl) (by kernel_rfl)) ?_
  intro W base args ds gs before hval0 hW hcnd _
  have hval : ∀ (j : Nat) t v, Try.f4.params[j]? = some t → args[j]? = some v → Value.okWide Try.prog W .any base t v := hval0
  have hW' := hW
  obtain ⟨p, q, hA0, hV, rfl, hfz, hnd⟩ := hW
  have hA : DataW.TrodAll enc Try.prog W 0 (fun _ => true) true Try.f4.params.toList args.toList ds p := hA0
  rw [Try.params4] at hA hval
  obtain ⟨v0, vs0, d0, ds0, p0, q0, hargs, rfl, rfl, h0, r0⟩ := trodAll_cons hA
  obtain ⟨v1, vs1, d1, ds1, p1, q1, rfl, rfl, rfl, h1, r1⟩ := trodAll_cons r0
  obtain ⟨v2, vs2, d2, ds2, p2, q2, rfl, rfl, rfl, h2, r2⟩ := trodAll_cons r1
  obtain ⟨rfl, rfl, rfl⟩ := trodAll_nil r2
  obtain rfl : args = #[v0, v1, v2] := by cases args; simp_all
  obtain ⟨rfl, rfl⟩ := trodVars_none hV
  obtain ⟨a0, rfl, rfl, rfl, w0⟩ := open_string Try.underlying9 (hval 0 9 v0 rfl rfl) h0
  obtain ⟨a1, rfl, rfl, rfl, w1⟩ := open_int Try.underlying3 (hval 1 3 v1 rfl rfl) h1
  obtain ⟨a2, rfl, rfl, rfl, w2⟩ := open_int Try.underlying3 (hval 2 3 v2 rfl rfl) h2
  clear hA0 hval0
  simp only [List.append_nil] at hW'
  refine (walk a0 a1 a2 W).mono fun e W' ⟨he, hg⟩ => ?_
  subst he
  exact ⟨_, rfl, post_of_same (pa := []) (pv := []) hW' (fun _ _ _ => (trodAll_cons_mk (shut_bool Try.underlying4 _) trodAll_mk0)) (fun sp _ => (trodAll_cons_mk (shut_string Try.underlying9 w0) (trodAll_cons_mk (shut_int Try.underlying3 w1) (trodAll_cons_mk (shut_int Try.underlying3 w2) trodAll_mk0)))) (fun _ _ => rfl) rfl
    (hg.frame _) hg.2.1 (ok_one (by kernel_rfl) rfl (okWide_bool_mk Try.underlying4 _))⟩

theorem over : Rows.fnTextForRangeRow.holds Try.pinned (OpenSpec.ofChange Rows.fnTextForRangeSpec) :=
  OpenClaim.holds_of_wide 4 Try.f4 rfl rfl rfl rfl rfl rfl rfl ⟨rfl, rfl, rfl, rfl, rfl⟩ rfl rfl rfl rfl rfl (by kernel_rfl) Try.func4 (by kernel_rfl)
    (of_decide_eq_true (by kernel_rfl)) (by unfold Func.isWrapper; first | (rw [if_pos (by decide +kernel)]; kernel_rfl) | (rw [if_neg (by decide +kernel)]; exact ⟨rfl, rfl⟩))
    (fun os started H enc _ => lifted os started H enc)

/-- ████ THE STATEMENT ████ -/
theorem proved : Rows.FnTextForRangeSaid :=
  over
#print axioms proved
end Go.Proofs.Ytmcdnkcpfjhbgaa.fnTextForRange
