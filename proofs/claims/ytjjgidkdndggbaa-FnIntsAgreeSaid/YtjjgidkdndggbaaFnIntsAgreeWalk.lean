/-
  FnIntsAgree: the walks of js_ast.ToInt32 and of the functions around it.
  Conditions: none.
-/
import Derived.Test.YtjjgidkdndggbaaFnIntsAgreeMod
namespace Go.Proofs.Ytjjgidkdndggbaa.fnIntsAgree
open Go.RowKit Go.IntWalk Ieee
set_option linter.unusedVariables false
set_option linter.unusedSimpArgs false

/-- what is left of an absolute value, cut: from 0 to 2^32 - 1 -/
def cut (b : Nat) : Int := (floatToIntVal .f64 (left (rung b)) .u32).getD 0
theorem left_small (r : Nat) (h : r < 9218868437227405312) : left r < 4751297606875873280 := by
  induction r using Nat.strongRecOn with
  | _ r ih =>
    by_cases hge : 4751297606875873280 ≤ r
    · rw [left_step hge h]
      have := step_less hge h
      exact ih _ this (by omega)
    · rw [left_less (by omega)]; omega
theorem cut_some (b : Nat) (h : rung b < 9218868437227405312) : floatToIntVal .f64 (left (rung b)) .u32 = some (cut b) := by
  obtain ⟨n, hn, hlt⟩ := toInt_small (left (rung b)) (left_small _ h)
  have e : floatToIntVal .f64 (left (rung b)) .u32 = some (n : Int) := by
    unfold floatToIntVal
    have hn' : (FloatKind.f64.decode (left (rung b))).toInt .zero = some (n : Int) := hn
    rw [hn']
    have : IntKind.u32.min ≤ (n : Int) ∧ (n : Int) ≤ IntKind.u32.max := by
      have h1 : IntKind.u32.min = 0 := by decide
      have h2 : IntKind.u32.max = 4294967295 := by decide
      omega
    simp only [this, and_self, if_true]
  unfold cut
  rw [e]
  rfl
theorem cut_range (b : Nat) (h : rung b < 9218868437227405312) : 0 ≤ cut b ∧ cut b ≤ 4294967295 := by
  have hc := cut_some b h
  have := floatToIntVal_wf hc
  simp only [Lit.wf, Bool.and_eq_true, decide_eq_true_eq] at this
  have h1 : IntKind.u32.min = 0 := by decide
  have h2 : IntKind.u32.max = 4294967295 := by decide
  omega
def hard32 (b : Nat) : Int := if sgn b then wrap32 (-wrap32 (cut b)) else wrap32 (cut b)
/-- ToInt32 -/
def toI32 (b : Nat) : Int :=
  match floatToIntVal .f64 b .i32 with
  | some n => if (FloatKind.f64.format.order (floatOfInt .f64 n) b == some .eq) = true then n else hard32 b
  | none => if rung b < 9218868437227405312 then hard32 b else 0
theorem i32_range {b : Nat} {n : Int} (h : floatToIntVal .f64 b .i32 = some n) : -2147483648 ≤ n ∧ n ≤ 2147483647 := by
  have := floatToIntVal_wf h
  simp only [Lit.wf, Bool.and_eq_true, decide_eq_true_eq] at this
  have h1 : IntKind.i32.min = -2147483648 := by decide
  have h2 : IntKind.i32.max = 2147483647 := by decide
  omega
theorem val_some {b : Nat} {n : Int} (h : (double.read b).toInt .zero = some n) (h1 : -2147483648 ≤ n) (h2 : n ≤ 2147483647) : floatToIntVal .f64 b .i32 = some n := by
  unfold floatToIntVal
  have hn' : (FloatKind.f64.decode b).toInt .zero = some n := h
  rw [hn']
  have : IntKind.i32.min ≤ n ∧ n ≤ IntKind.i32.max := by
    have h1 : IntKind.i32.min = -2147483648 := by decide
    have h2 : IntKind.i32.max = 2147483647 := by decide
    omega
  simp only [this, and_self, if_true]
theorem fin_of_some {b : Nat} {n : Int} (h : floatToIntVal .f64 b .i32 = some n) : rung b < 9218868437227405312 := by
  by_cases hb : rung b < 9218868437227405312
  · exact hb
  · have h0 : (FloatKind.f64.decode b).toInt .zero = none := toInt_none b (by omega)
    unfold floatToIntVal at h
    rw [h0] at h
    cases h
/-- what is drawn for a number out of range is not that number -/
theorem drawn_ne (b : Nat) (i : Int) (h1 : -2147483648 ≤ i) (h2 : i ≤ 2147483647) (hn : floatToIntVal .f64 b .i32 = none) : (FloatKind.f64.format.order (floatOfInt .f64 i) b == some .eq) = false := by
  obtain ⟨hf, hi⟩ := int_back i (by omega) (by omega)
  have hf' : rung (floatOfInt .f64 i) < 9218868437227405312 := hf
  have hi' : (double.read (floatOfInt .f64 i)).toInt .zero = some i := hi
  generalize floatOfInt .f64 i = x at hf' hi'
  rw [fo]
  by_cases hN : 9218868437227405312 < rung b
  · rw [order_nan _ _ (.inr hN)]; rfl
  · rw [order_key _ _ (by omega) (by omega)]
    by_cases hk : key x = key b
    · by_cases hI : rung b = 9218868437227405312
      · exfalso
        unfold key at hk
        rw [hI] at hk
        cases hs : sgn x <;> cases ht : sgn b <;> simp only [hs, ht, Bool.false_eq_true, if_false, if_true] at hk <;> omega
      · have := toInt_key x b hf' (by omega) hk
        rw [hi'] at this
        have := val_some this.symm h1 h2
        rw [hn] at this
        cases this
    · by_cases hl : key x < key b
      · rw [cmp_lt hl]; rfl
      · rw [cmp_gt (by omega)]; rfl
theorem isNaN_nan (b : Nat) (h : 9218868437227405312 < rung b) (w : World) : Calls Try.prog 8 #[.float .f64 b] w fun e w' => e = .returned (.bool true) ∧ w' = w := by
  refine (isNaN b w).mono ?_
  rintro e w' ⟨rfl, h2⟩
  rw [fo, order_nan b b (.inl h)]
  exact ⟨rfl, h2⟩
theorem isInf_inf (b : Nat) (hb : b < 18446744073709551616) (h : rung b = 9218868437227405312) (w : World) : Calls Try.prog 9 #[.float .f64 b, .int .i64 0] w fun e w' => e = .returned (.bool true) ∧ w' = w := by
  refine (isInf b hb w).mono ?_
  rintro e w' ⟨rfl, h2⟩
  rw [h]
  exact ⟨by rw [show (FloatKind.f64.format.order 9218868437227405312 9218868437227405311 == some .gt) = true by decide], h2⟩
theorem run_whole (b : Nat) (n : Int) (w : World) (h : floatToIntVal .f64 b .i32 = some n) : (convert 22 21 (.float .f64 b)).run Try.prog w = .ok (.int .i32 n) w :=
  run_convert_float_int w 22 21 .f64 .i32 b n (by rw [Try.underlying22]; rfl) Try.underlying21 h
theorem i32_wrap (z : Int) : -2147483648 ≤ IntKind.i32.wrap z ∧ IntKind.i32.wrap z ≤ 2147483647 := by
  have e : IntKind.i32.wrap z = wrap32 z := i32_left z
  rw [e]
  unfold wrap32
  omega
theorem run_drawn (b : Nat) (w : World) (h : floatToIntVal .f64 b .i32 = none) : ∃ (i : Int) (w' : World), -2147483648 ≤ i ∧ i ≤ 2147483647 ∧ (w' = w ∨ w' = w.drew) ∧ (convert 22 21 (.float .f64 b)).run Try.prog w = .ok (.int .i32 i) w' := by
  have key : (convert 22 21 (.float .f64 b)).run Try.prog w = (do pure (Value.int .i32 (IntKind.i32.wrap (← choose (.floatToInt .f64 b .i32)))) : Sem Value).run Try.prog w := by
    unfold floatToIntVal at h
    split at h
    · rename_i m he
      split at h
      · cases h
      · rename_i hb
        simp [convert, run_underlying Try.underlying22, run_underlying Try.underlying21, Conv.floatToInt, he, hb]
    · rename_i he
      simp [convert, run_underlying Try.underlying22, run_underlying Try.underlying21, Conv.floatToInt, he]
  rw [key]
  have hr : ∀ z, -2147483648 ≤ IntKind.i32.wrap z ∧ IntKind.i32.wrap z ≤ 2147483647 := i32_wrap
  by_cases hf : (Question.floatToInt FloatKind.f64 b IntKind.i32).forced = true
  · exact ⟨IntKind.i32.wrap 0, w, (hr _).1, (hr _).2, .inl rfl, by simp [hf]⟩
  · exact ⟨IntKind.i32.wrap ((Question.floatToInt FloatKind.f64 b IntKind.i32).cut (w.tape w.drawn (Question.floatToInt FloatKind.f64 b IntKind.i32))), w.drew, (hr _).1, (hr _).2, .inr rfl, by simp [hf]⟩
set_option maxHeartbeats 2000000 in
set_option maxRecDepth 100000 in
theorem toInt32 (b : Nat) (hb : b < 18446744073709551616) (w : World) : Calls Try.prog 6 #[.float .f64 b] w fun e w' => e = .returned (.int .i32 (toI32 b)) ∧ ∃ n, w' = w.drewN n := by
  have HS := Lib.hid (cut_some b)
  have HR := Lib.hid (cut_range b)
  cases hv : floatToIntVal .f64 b .i32 with
  | some n =>
    have hf := fin_of_some hv
    obtain ⟨n1, n2⟩ := i32_range hv
    go_enter Try.func6, Try.ntmps6
    go_wp2_with (fail)
    rw [run_whole b n _ hv]
    have HF := Lib.hid hf
    by_cases heq : (FloatKind.f64.format.order (floatOfInt .f64 n) b == some .eq) = true
    · have HE := Lib.hid (show toI32 b = n by unfold toI32; rw [hv]; simp only [heq, if_true])
      go_wp2_with (fail)
      go_ret
      rw [HE.out]
      exact ⟨rfl, 0, rfl⟩
    · have HE := Lib.hid (show toI32 b = hard32 b by unfold toI32; rw [hv]; simp only [heq]; rfl)
      have heq : (FloatKind.f64.format.order (floatOfInt .f64 n) b == some .eq) = false := by simpa using heq
      go_wp2_with (fail)
      refine (isNaN_fin b (by have := HF.out; omega) _).mono ?_
      rintro e w1 ⟨rfl, hw⟩
      have hw := hw.symm
      subst hw
      go_wp2_with (fail)
      refine (isInf_fin b hb HF.out _).mono ?_
      rintro e w1 ⟨rfl, hw⟩
      have hw := hw.symm
      subst hw
      go_wp2_with (fail)
      refine (abs b hb _).mono ?_
      rintro e w1 ⟨rfl, hw⟩
      have hw := hw.symm
      subst hw
      go_wp2_with (fail)
      refine (Mod (rung b) HF.out _).mono ?_
      rintro e w1 ⟨rfl, hw⟩
      have hw := hw.symm
      subst hw
      go_wp2_with (fail)
      rw [run_convert_float_int _ 22 23 .f64 .u32 _ _ (by rw [Try.underlying22]; rfl) Try.underlying23 (HS.out HF.out)]
      go_wp2_with (fail)
      refine (signbit b hb _).mono ?_
      rintro e w1 ⟨rfl, hw⟩
      have hw := hw.symm
      subst hw
      cases hs : sgn b
      · have HH := Lib.hid (show hard32 b = wrap32 (cut b) by unfold hard32; rw [hs]; rfl)
        go_wp2_with (fail)
        go_ret
        rw [HE.out, HH.out]
        exact ⟨rfl, 0, rfl⟩
      · have HH := Lib.hid (show hard32 b = wrap32 (-wrap32 (cut b)) by unfold hard32; rw [hs]; rfl)
        go_wp2_with (fail)
        go_ret
        rw [HE.out, HH.out]
        exact ⟨rfl, 0, rfl⟩
  | none =>
    have HD := Lib.hid (drawn_ne b)
    obtain ⟨i, w2, i1, i2, hw2, hrun⟩ := run_drawn b w hv
    have heq := drawn_ne b i i1 i2 hv
    have hN : ∃ n, w2 = w.drewN n := by
      rcases hw2 with rfl | rfl
      · exact ⟨0, rfl⟩
      · exact ⟨1, rfl⟩
    go_enter Try.func6, Try.ntmps6
    go_wp2_with (fail)
    by_cases hf : rung b < 9218868437227405312
    · have HF := Lib.hid hf
      have HE := Lib.hid (show toI32 b = hard32 b by unfold toI32; rw [hv]; simp only [hf, if_true])
      clear hf
      refine (isNaN_fin b (by have := HF.out; omega) _).mono ?_
      rintro e w1 ⟨rfl, hw⟩
      have hw := hw.symm
      subst hw
      go_wp2_with (fail)
      refine (isInf_fin b hb HF.out _).mono ?_
      rintro e w1 ⟨rfl, hw⟩
      have hw := hw.symm
      subst hw
      go_wp2_with (fail)
      refine (abs b hb _).mono ?_
      rintro e w1 ⟨rfl, hw⟩
      have hw := hw.symm
      subst hw
      go_wp2_with (fail)
      refine (Mod (rung b) HF.out _).mono ?_
      rintro e w1 ⟨rfl, hw⟩
      have hw := hw.symm
      subst hw
      go_wp2_with (fail)
      rw [run_convert_float_int _ 22 23 .f64 .u32 _ _ (by rw [Try.underlying22]; rfl) Try.underlying23 (HS.out HF.out)]
      go_wp2_with (fail)
      refine (signbit b hb _).mono ?_
      rintro e w1 ⟨rfl, hw⟩
      have hw := hw.symm
      subst hw
      cases hs : sgn b
      · have HH := Lib.hid (show hard32 b = wrap32 (cut b) by unfold hard32; rw [hs]; rfl)
        go_wp2_with (fail)
        go_ret
        rw [HE.out, HH.out]
        exact ⟨rfl, hN⟩
      · have HH := Lib.hid (show hard32 b = wrap32 (-wrap32 (cut b)) by unfold hard32; rw [hs]; rfl)
        go_wp2_with (fail)
        go_ret
        rw [HE.out, HH.out]
        exact ⟨rfl, hN⟩
    · have HE := Lib.hid (show toI32 b = 0 by unfold toI32; rw [hv]; simp only [hf, if_false])
      by_cases hN2 : 9218868437227405312 < rung b
      · refine (isNaN_nan b hN2 _).mono ?_
        rintro e w1 ⟨rfl, hw⟩
        have hw := hw.symm
        subst hw
        go_wp2_with (fail)
        go_ret
        rw [HE.out]
        exact ⟨rfl, hN⟩
      · refine (isNaN_fin b (by omega) _).mono ?_
        rintro e w1 ⟨rfl, hw⟩
        have hw := hw.symm
        subst hw
        go_wp2_with (fail)
        refine (isInf_inf b hb (by omega) _).mono ?_
        rintro e w1 ⟨rfl, hw⟩
        have hw := hw.symm
        subst hw
        go_wp2_with (fail)
        go_ret
        rw [HE.out]
        exact ⟨rfl, hN⟩
theorem implI (b : Nat) (hb : b < 18446744073709551616) (w : World) : Calls Try.prog 4 #[.float .f64 b] w fun e w' => e = .returned (.int .i32 (toI32 b)) ∧ ∃ n, w' = w.drewN n := by
  go_enter Try.func4, Try.ntmps4
  go_wp2_with (fail)
  refine (toInt32 b hb _).mono ?_
  rintro e w1 ⟨rfl, hw⟩
  go_wp2_with (fail)
  go_ret
  exact ⟨rfl, hw⟩
theorem toUint32 (b : Nat) (hb : b < 18446744073709551616) (w : World) : Calls Try.prog 7 #[.float .f64 b] w fun e w' => e = .returned (.int .u32 (toI32 b % 4294967296)) ∧ ∃ n, w' = w.drewN n := by
  go_enter Try.func7, Try.ntmps7
  go_wp2_with (fail)
  refine (toInt32 b hb _).mono ?_
  rintro e w1 ⟨rfl, hw⟩
  go_wp2_with (fail)
  go_ret
  exact ⟨rfl, hw⟩
theorem implU (b : Nat) (hb : b < 18446744073709551616) (w : World) : Calls Try.prog 5 #[.float .f64 b] w fun e w' => e = .returned (.int .u32 (toI32 b % 4294967296)) ∧ ∃ n, w' = w.drewN n := by
  go_enter Try.func5, Try.ntmps5
  go_wp2_with (fail)
  refine (toUint32 b hb _).mono ?_
  rintro e w1 ⟨rfl, hw⟩
  go_wp2_with (fail)
  go_ret
  exact ⟨rfl, hw⟩
theorem seven : toI32 4620580627691444634 % 4294967296 = 7 := by decide +kernel
theorem law (b : Nat) (hb : b < 18446744073709551616) (w : World) : Calls Try.prog 3 #[.float .f64 b] w fun e w' => e = .returned (.bool true) ∧ Below w.heap.size w w' := by
  go_enter Try.func3, Try.ntmps3
  have h7 := seven
  go_wp2_with (fail)
  refine (implI b hb _).mono ?_
  rintro e w1 ⟨rfl, n, rfl⟩
  go_wp2_with (fail)
  refine (implU b hb _).mono ?_
  rintro e w2 ⟨rfl, m, rfl⟩
  go_wp2_with (fail)
  refine (implU 4620580627691444634 (by decide) _).mono ?_
  rintro e w3 ⟨rfl, k, rfl⟩
  rw [h7]
  go_wp2_with (fail)
  go_ret
  exact ⟨rfl, below_drewN (Below.refl _ _) _⟩
end Go.Proofs.Ytjjgidkdndggbaa.fnIntsAgree
