/-
  FnToUTF16: at every text, impl.ToUTF16 of a well-formed text hands back the code units that spec.WtfUnits tells; the law returns true and writes nothing that was there (beyond 2^31 - 1 bytes it returns true by its own first test).
  Conditions: none.
-/
import Derived.Test.YtmcdnkcpfjhbgaaRows
import Derived.WalkKit
import Derived.Lib.Hide
import Derived.Test.YtmcdnkcpfjhbgaaFnToUTF16Units
import Derived.ProofKit
import Derived.OpenShut
import Derived.ShutString
import Derived.ChangeOld
import Derived.Below
import Derived.ShutString
namespace Go.Proofs.Ytmcdnkcpfjhbgaa.fnToUTF16
open Go.ChangeShapes Go.WideShapes Go.ChangeAt Go.RowKit
open Go.ChangeMaps (open_string shut_string)
set_option linter.unusedVariables false      -- a walk need not use every 'w<i>' (that an integer argument fits its kind)

open Go.Proofs.YtmcdnkcpfjhbgaaW.PrintWords Go.Proofs.YtmcdnkcpfjhbgaaW.PrintLast Go.Proofs.YtmcdnkcpfjhbgaaW.PrintMore Go.Proofs.Ytmcdnkcpfjhbgaa.PFnToUTF16 Go.Proofs.Ytmcdnkcpfjhbgaa.unitsPure

theorem own : ownKnob Try.prog.godebug = none := by kernel_rfl

theorem reads16 {w : World} {zs : List Int} {n : Nat} {ad : Addr} (hn : zs.length = n) (hm : n ≤ 9223372036854775807) (h : ∀ j v, (cells16 zs)[j]? = some v → w.cell? (ad.add j) = some v) : Kd.C (Kd.int .u16) w (some ad) n zs := by
  refine ⟨hn, hm, fun _ => ⟨ad, rfl, fun j p hp => ⟨[.int .u16 p], rfl, rfl, fun i u hu => ?_⟩⟩⟩
  have hi : i = 0 := by
    have := (List.getElem?_eq_some_iff.1 hu).1
    simpa using this
  subst hi
  have hu' : u = .int .u16 p := by simpa using hu.symm
  subst hu'
  have := h j (.int .u16 p) (by simp [cells16, hp])
  rw [show (Kd.int .u16).sz = 1 from rfl, Nat.mul_one, Nat.add_zero]
  exact this

/-- code units that are handed back, as they read -/
def UnitsC (us : List Int) (w : World) (e : Ending) (w' : World) : Prop := ∃ A c, e = .returned (.slice A us.length c) ∧ us.length ≤ c ∧ Kd.C (Kd.int .u16) w' A us.length us ∧ Below w.heap.size w w'

theorem unitsC_of {us : List Int} {w w' : World} {e : Ending} (h : Units us w e w') : UnitsC us w e w' := by
  obtain ⟨v, rfl, ⟨hlen, ho⟩, hb⟩ := h
  rcases ho with ⟨rfl, h0⟩ | ⟨g, cap, cur, rfl, hgB, hh, hc, hcm, hcs, htake⟩
  · refine ⟨none, 0, ?_, by omega, ⟨rfl, by omega, fun h => by omega⟩, hb⟩
    rw [h0]
  · unfold maxLen at hcm
    refine ⟨_, cap, rfl, hc, reads16 rfl (by omega) (fun j v hv => ?_), hb⟩
    have e : (⟨g, 0, none⟩ : Addr).add j = ⟨g, j, none⟩ := by unfold Addr.add; split <;> simp_all
    rw [e, blk_cell hh j]
    rw [← htake] at hv
    have := List.getElem?_take (l := cur.toList) (i := us.length * 1) (j := j)
    rw [this] at hv
    split at hv
    · rw [← hv]
      simp
    · cases hv

/-- function 12, impl.ToUTF16 -/
theorem toUTF16 (s : ByteArray) (w : World) (hs : s.size ≤ 2147483647) : Calls Try.prog 12 #[.string s] w fun e w' => UnitsC (units s) w e w' := by
  go_enter Try.func12, Try.ntmps12
  go_wp2_with (fail)
  refine (toUnits s _ hs).mono ?_
  intro e w' h
  obtain ⟨A, c, rfl, h1, h2, h3⟩ := unitsC_of h
  clear h
  go_wp2_with (fail)
  go_ret
  exact ⟨A, c, rfl, h1, h2, h3⟩

theorem eqCall (A0 A1 : Option Addr) (n0 n1 c0 c1 : Nat) (l0 l1 : List Int) (r : Bool) (w : World) (e0 : l0.length = n0) (e1 : l1.length = n1) (hr0 : Kd.C (Kd.int .u16) w A0 n0 l0) (hc0 : n0 ≤ c0) (hr1 : Kd.C (Kd.int .u16) w A1 n1 l1) (hc1 : n1 ≤ c1)
    (h : ∃ k, spec_WtfEqual.f k l0 l1 = some r) : Calls Try.prog 11 #[.slice A0 n0 c0, .slice A1 n1 c1] w fun e w' => e = .returned (.bool r) ∧ Below w.heap.size w w' := by
  subst e0 e1
  obtain ⟨k, h⟩ := h
  exact (spec_WtfEqual.calls k A0 c0 l0 A1 c1 l1 r w hr0 hc0 hr1 hc1 h).mono fun e w' ⟨he, hw⟩ => ⟨he, hw.below⟩

theorem wellCall (s : ByteArray) (w : World) (hs : s.size ≤ 2147483647) (b : Bool) (hb : wfb s s.size 0 = b) : Calls Try.prog 14 #[.string s] w fun e w' => e = .returned (.bool b) ∧ Below w.heap.size w w' := by
  obtain ⟨k, h⟩ := wf_f s (by omega)
  rw [hb] at h
  exact (spec_WellFormed.calls k s b w h).mono fun e w' ⟨he, hw⟩ => ⟨he, hw.below⟩

/-- function 10, spec.WtfUnits: units and whether there are -/
theorem unitsCall (s : ByteArray) (w : World) (r : List Int) (b : Bool) (h : ∃ k, spec_WtfUnits.f k s = some (r, b)) :
    Calls Try.prog 10 #[.string s] w fun e w' => ∃ A c, e = .returned (.tuple #[.slice A r.length c, .bool b]) ∧ r.length ≤ c ∧ Kd.C (Kd.int .u16) w' A r.length r ∧ Below w.heap.size w w' := by
  obtain ⟨k, h⟩ := h
  refine (spec_WtfUnits.calls k s r b w h).mono ?_
  rintro e w' ⟨v, rfl, hR, hb⟩
  obtain ⟨A, c, rfl, h1, h2⟩ := Kd.R_reads hR
  exact ⟨A, c, rfl, h1, h2, hb⟩

/-- function 13, laws.wideA: the first three code units -/
theorem wideCall (w : World) : Calls Try.prog 13 #[] w fun e w' => ∃ A c, e = .returned (.slice A 4 c) ∧ 4 ≤ c ∧ Kd.C (Kd.int .u16) w' A 3 [97, 55357, 56832] ∧ Below w.heap.size w w' := by
  refine (laws_wideA.calls [97, 55357, 56832, 55296] w rfl).mono ?_
  rintro e w' ⟨v, rfl, hR, hb⟩
  obtain ⟨A, c, rfl, h1, h2⟩ := Kd.R_reads hR
  refine ⟨A, c, rfl, h1, ?_, hb⟩
  obtain ⟨e1, e2, e3⟩ := h2
  refine ⟨rfl, by decide, fun _ => ?_⟩
  obtain ⟨ad, ha, hc⟩ := e3 (by decide)
  refine ⟨ad, ha, fun j p hp => hc j p ?_⟩
  have hj : j < 3 := (List.getElem?_eq_some_iff.1 hp).1
  rcases j with _ | _ | _ | j
  · exact hp
  · exact hp
  · exact hp
  · omega

set_option maxHeartbeats 1000000 in
theorem walk (a0 : ByteArray) (w : World) :
    Calls Try.prog 5 #[.string a0] w fun e w' => e = .returned (.bool true) ∧ Below w.heap.size w w' := by
  by_cases hs : 2147483647 < (a0.size : Int)
  · go_enter Try.func5, Try.ntmps5
    go_wp2_with (fail)
    all_goals
      go_ret
      exact ⟨rfl, Below.refl _ _⟩
  · have hs' : a0.size ≤ 2147483647 := by omega
    obtain ⟨r, b, hu, hgood⟩ : ∃ r b, (∃ k, spec_WtfUnits.f k a0 = some (r, b)) ∧ (wfb a0 a0.size 0 = true → r = units a0 ∧ b = true) := by
      by_cases hw : wfb a0 a0.size 0 = true
      · exact ⟨units a0, true, units_f a0 hs' hw, fun _ => ⟨rfl, rfl⟩⟩
      · obtain ⟨k, r, b, h⟩ := units_some a0 hs'
        exact ⟨r, b, ⟨k, h⟩, fun h => absurd h hw⟩
    go_enter Try.func5, Try.ntmps5
    go_wp2_with (fail)
    refine (unitsCall a0 _ r b hu).mono ?_
    rintro e w1 ⟨A1, c1, rfl, hc1, hr1, hb1⟩
    go_wp2_with (fail)
    refine (toUTF16 _ _ (by decide)).mono ?_
    rw [awake]
    rintro e w2 ⟨A2, c2, rfl, hc2, hr2, hb2⟩
    have hw2 : Below w.heap.size w w2 := hb1.trans (hb2.mono hb1.size)
    have hr1' := Kd.C_below hr1 hb2
    clear hr1 hb2
    go_wp2_with (fail)
    refine (wideCall _).mono ?_
    rintro e w3 ⟨A3, c3, rfl, hc3, hr3, hb3⟩
    have hw3 : Below w.heap.size w w3 := hw2.trans (hb3.mono hw2.size)
    have hr1 := Kd.C_below hr1' hb3
    have hr2' := Kd.C_below hr2 hb3
    clear hr1' hr2 hb3 hw2
    go_wp2_with (fail)
    refine (eqCall _ _ 3 3 c2 c3 _ _ true _ rfl rfl hr2' hc2 hr3 (by omega) (eq_self _ (by decide))).mono ?_
    rintro e w4 ⟨rfl, hb4⟩
    have hw4 : Below w.heap.size w w4 := hw3.trans (hb4.mono hw3.size)
    have hr := Kd.C_below hr1 hb4
    clear hr1 hr2' hr3 hb4 hw3 hc3 hc2
    by_cases hw : wfb a0 a0.size 0 = true
    · obtain ⟨rfl, rfl⟩ := hgood hw
      clear hgood hu
      have HW := Lib.hid hw
      clear hw
      go_wp2_with (fail)
      refine (wellCall a0 _ hs' true HW.out).mono ?_
      rintro e w5 ⟨rfl, hb5⟩
      have hw5 : Below w.heap.size w w5 := hw4.trans (hb5.mono hw4.size)
      have hr' := Kd.C_below hr hb5
      clear hb5 hr hw4
      go_wp2_with (fail)
      refine (toUTF16 a0 _ hs').mono ?_
      rintro e w6 ⟨A6, c6, rfl, hc6, hr6, hb6⟩
      have hw6 : Below w.heap.size w w6 := hw5.trans (hb6.mono hw5.size)
      have hr := Kd.C_below hr' hb6
      clear hb6 hr' hw5
      go_wp2_with (fail)
      refine (eqCall _ _ _ _ c6 c1 _ _ true _ rfl rfl hr6 hc6 hr hc1 (eq_self _ (by have := uFrom_len a0 a0.size 0; show (uFrom a0 a0.size 0).length ≤ _; omega))).mono ?_
      rintro e w7 ⟨rfl, hb7⟩
      go_wp2_with (fail)
      go_ret
      exact ⟨rfl, hw6.trans (hb7.mono hw6.size)⟩
    · have hw' : wfb a0 a0.size 0 = false := by simpa using hw
      have HW := Lib.hid hw'
      clear hw hw' hgood hu hr hc1
      cases b
      · go_wp2_with (fail)
        go_ret
        exact ⟨rfl, hw4⟩
      · go_wp2_with (fail)
        refine (wellCall a0 _ hs' false HW.out).mono ?_
        rintro e w5 ⟨rfl, hb5⟩
        go_wp2_with (fail)
        go_ret
        exact ⟨rfl, hw4.trans (hb5.mono hw4.size)⟩

/-! ### THE ROW's STEP: WRITTEN OUT: LEAVE IT -/
set_option maxRecDepth 100000 in
theorem lifted (os : Os) (started : os.Started) (H : Type) (enc : TypeId × Value → H) :
    ReturnsInHanded {} Try.checked os 5 .any (Rows.fnToUTF16Spec.pre6 enc Try.prog Try.f5 Rows.fnToUTF16Row.domain false) (Rows.fnToUTF16Spec.post enc Try.prog Try.f5 false true false false) := by
  refine returnsInHanded_of_change (C := Try.checked) own started (by kernel_rfl) Try.func5
    (ChangeSpec.witness6 (enc := enc) (C := Try.checked) false ⟨#[], #[.string ByteArray.empty], []⟩ 8 (by kernel_rfl) (by kernel_rfl) (by kernel_rfl) (by kernel_rfl)) ?_
  intro W base args ds gs before hval0 hW hcnd _
  have hval : ∀ (j : Nat) t v, Try.f5.params[j]? = some t → args[j]? = some v → Value.okWide Try.prog W .any base t v := hval0
  have hW' := hW
  obtain ⟨p, q, hA0, hV, rfl, hfz, hnd⟩ := hW
  have hA : DataW.TrodAll enc Try.prog W 0 (fun _ => true) true Try.f5.params.toList args.toList ds p := hA0
  rw [Try.params5] at hA hval
  obtain ⟨v0, vs0, d0, ds0, p0, q0, hargs, rfl, rfl, h0, r0⟩ := trodAll_cons hA
  obtain ⟨rfl, rfl, rfl⟩ := trodAll_nil r0
  obtain rfl : args = #[v0] := by cases args; simp_all
  obtain ⟨rfl, rfl⟩ := trodVars_none hV
  obtain ⟨a0, rfl, rfl, rfl, w0⟩ := open_string Try.underlying9 (hval 0 9 v0 rfl rfl) h0
  clear hA0 hval0
  refine (walk a0 W).mono fun e W' ⟨he, bel⟩ => ?_
  subst he
  exact ⟨_, rfl, _, _, _, [], _, [], hW', trodAll_mk1 (shut_bool Try.underlying4 _), (trodAll_cons_mk (shut_string Try.underlying9 w0) trodAll_mk0), rfl, bel.frame _, fun h => by cases h⟩

theorem over : Rows.fnToUTF16Row.holds Try.pinned (OpenSpec.ofChange Rows.fnToUTF16Spec) :=
  OpenClaim.holds_of_wide 5 Try.f5 rfl rfl rfl rfl rfl rfl rfl ⟨rfl, rfl, rfl, rfl, rfl⟩ rfl rfl rfl rfl rfl (by kernel_rfl) Try.func5 (by kernel_rfl)
    (of_decide_eq_true (by kernel_rfl)) (by unfold Func.isWrapper; first | (rw [if_pos (by decide +kernel)]; kernel_rfl) | (rw [if_neg (by decide +kernel)]; exact ⟨rfl, rfl⟩))
    (fun os started H enc _ => lifted os started H enc)

/-- ████ THE STATEMENT ████ -/
theorem proved : Rows.FnToUTF16Said :=
  over
#print axioms proved
end Go.Proofs.Ytmcdnkcpfjhbgaa.fnToUTF16
