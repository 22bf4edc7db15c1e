/-
  FnIntsAgree: the walks of the functions of package math that ToInt32 runs (IsNaN, IsInf, Abs, Signbit, Frexp, Ldexp, Mod by 2^32), over doubles as words.
  Conditions: Frexp, Ldexp and Mod at the arguments that Mod by 2^32 of a finite number gives.
-/
import Derived.Test.YtjjgidkdndggbaaFnIntsAgreePure
import Derived.Test.YtjjgidkdndggbaaRows
import Derived.WalkKit
import Derived.WalkSmall
import Derived.Laws.BitsAllLaws
import Derived.WalkLawsBesides
import Derived.Lib.Hide
namespace Go.Proofs.Ytjjgidkdndggbaa.fnIntsAgree
open Go.RowKit Ieee
set_option linter.unusedVariables false
set_option linter.unusedSimpArgs false

theorem fo (x y : Nat) : FloatKind.f64.format.order x y = double.order x y := rfl
theorem isNaN (b : Nat) (w : World) : Calls Try.prog 8 #[.float .f64 b] w fun e w' => e = .returned (.bool (FloatKind.f64.format.order b b != some .eq)) ∧ w' = w := by
  go_enter Try.func8, Try.ntmps8
  go_wp2
  go_ret
  exact ⟨rfl, rfl⟩
theorem run16 (b : Nat) (w : World) : Sem.run Try.prog (callFunc 16 #[.float .f64 b]) w = Result.ok (Next.value (.int .u64 b)) w := by
  rw [run_callFunc_extern Try.func16 (by kernel_rfl) (by kernel_rfl) (by kernel_rfl) (e := Extern.MathFloatBits.float64bits) (by kernel_rfl)]
  rfl
theorem run15 (n : Int) (w : World) : Sem.run Try.prog (callFunc 15 #[.int .u64 n]) w = Result.ok (Next.value (.float .f64 n.toNat)) w := by
  rw [run_callFunc_extern Try.func15 (by kernel_rfl) (by kernel_rfl) (by kernel_rfl) (e := Extern.MathFloatBits.float64frombits) (by kernel_rfl)]
  rfl
theorem clear_sign (b : Nat) (hb : b < 18446744073709551616) : bits BinOp.andNot IntKind.u64 (b : Int) 9223372036854775808 = (rung b : Int) := by
  have h := u64_andNot_nat b 9223372036854775808 hb (by decide)
  have e : b &&& (18446744073709551615 - 9223372036854775808) = rung b := Nat.and_two_pow_sub_one_eq_mod b 63
  rw [e] at h
  exact h
theorem abs (b : Nat) (hb : b < 18446744073709551616) (w : World) : Calls Try.prog 11 #[.float .f64 b] w fun e w' => e = .returned (.float .f64 (rung b)) ∧ w' = w := by
  have hc := clear_sign b hb
  go_enter Try.func11, Try.ntmps11
  go_wp2
  rw [run16, Oper.upon_value]
  go_wp2
  rw [run15, Oper.upon_value]
  go_wp2
  go_ret
  refine ⟨?_, rfl⟩
  rfl
theorem isInf (b : Nat) (hb : b < 18446744073709551616) (w : World) : Calls Try.prog 9 #[.float .f64 b, .int .i64 0] w fun e w' => e = .returned (.bool (FloatKind.f64.format.order (rung b) 9218868437227405311 == some .gt)) ∧ w' = w := by
  go_enter Try.func9, Try.ntmps9
  go_wp2_with (go_at_call 11; refine (abs b hb _).mono ?_)
  rintro e w1 ⟨rfl, hw⟩
  have hw := hw.symm
  subst hw
  go_wp2_with (fail)
  go_ret
  exact ⟨rfl, rfl⟩
theorem nan_false (b : Nat) (h : rung b ≤ 9218868437227405312) : (FloatKind.f64.format.order b b != some .eq) = false := by
  rw [fo, order_key b b h h, cmp_eq rfl]
  rfl
theorem inf_false (b : Nat) (h : rung b < 9218868437227405312) : (FloatKind.f64.format.order (rung b) 9218868437227405311 == some .gt) = false := by
  have hr : rung (rung b) = rung b := rung_small (by omega)
  have hs : sgn (rung b) = false := sgn_small (by omega)
  rw [fo, order_key _ _ (by rw [hr]; omega) (by decide)]
  have k1 : key (rung b) = rung b := by unfold key; rw [hs, hr]; rfl
  have k2 : key 9218868437227405311 = 9218868437227405311 := by decide
  rw [k1, k2]
  by_cases e : (rung b : Int) = 9218868437227405311
  · rw [cmp_eq e]; rfl
  · rw [cmp_lt (by omega)]; rfl
theorem key_small {r : Nat} (h : r < 9223372036854775808) : key r = r := by unfold key; rw [sgn_small h, rung_small h]; rfl
theorem isNaN_fin (b : Nat) (h : rung b ≤ 9218868437227405312) (w : World) : Calls Try.prog 8 #[.float .f64 b] w fun e w' => e = .returned (.bool false) ∧ w' = w := by
  refine (isNaN b w).mono ?_
  rintro e w' ⟨rfl, h2⟩
  rw [nan_false b h]
  exact ⟨rfl, h2⟩
theorem isInf_fin (b : Nat) (hb : b < 18446744073709551616) (h : rung b < 9218868437227405312) (w : World) : Calls Try.prog 9 #[.float .f64 b, .int .i64 0] w fun e w' => e = .returned (.bool false) ∧ w' = w := by
  refine (isInf b hb w).mono ?_
  rintro e w' ⟨rfl, h2⟩
  rw [inf_false b h]
  exact ⟨rfl, h2⟩
theorem wrap_sgn (b : Nat) (hb : b < 18446744073709551616) : decide (wrap64 (b : Int) < 0) = sgn b := by
  unfold sgn
  by_cases h : b < 9223372036854775808
  · have e : b / 9223372036854775808 % 2 = 0 := by omega
    have e2 : ¬ wrap64 (b : Int) < 0 := by unfold wrap64; omega
    rw [e]
    simp [e2]
  · have e : b / 9223372036854775808 % 2 = 1 := by omega
    have e2 : wrap64 (b : Int) < 0 := by unfold wrap64; omega
    rw [e]
    simp [e2]
theorem signbit (b : Nat) (hb : b < 18446744073709551616) (w : World) : Calls Try.prog 12 #[.float .f64 b] w fun e w' => e = .returned (.bool (sgn b)) ∧ w' = w := by
  go_enter Try.func12, Try.ntmps12
  go_wp2
  rw [run16, Oper.upon_value]
  go_wp2
  go_ret
  refine ⟨?_, rfl⟩
  show Ending.returned (Value.bool (decide (wrap64 (b : Int) < 0))) = _
  rw [wrap_sgn b hb]
theorem not_less (r : Nat) (h1 : 4503599627370496 ≤ r) (h2 : r < 9218868437227405312) : (FloatKind.f64.format.order r 4503599627370496 == some .lt) = false := by
  rw [fo, order_key _ _ (by rw [rung_small (by omega)]; omega) (by decide), key_small (by omega), key_small (by decide)]
  by_cases e : (r : Int) = ((4503599627370496 : Nat) : Int)
  · rw [cmp_eq e]; rfl
  · rw [cmp_gt (by omega)]; rfl
theorem normalize (r : Nat) (h1 : 4503599627370496 ≤ r) (h2 : r < 9218868437227405312) (w : World) : Calls Try.prog 24 #[.float .f64 r] w fun e w' => e = .returned (.tuple #[.float .f64 r, .int .i64 0]) ∧ w' = w := by
  have hr : rung r = r := rung_small (by omega)
  have hl := not_less r h1 h2
  go_enter Try.func24, Try.ntmps24
  go_wp2_with (go_at_call 11; refine (abs r (by omega) _).mono ?_)
  rintro e w1 ⟨rfl, hw⟩
  have hw := hw.symm
  subst hw
  rw [hr]
  go_wp2_with (fail)
  go_ret2
  exact ⟨rfl, rfl⟩
theorem mask_exp (r : Nat) (h : r < 9223372036854775808) : bits BinOp.andNot IntKind.u64 (r : Int) 9218868437227405312 = ((r % 4503599627370496 : Nat) : Int) := by
  have h1 := u64_andNot_nat r 9218868437227405312 (by omega) (by decide)
  have e : r &&& (18446744073709551615 - 9218868437227405312) = r % 4503599627370496 := by
    have m : (18446744073709551615 - 9218868437227405312 : Nat) = 2 ^ 63 ||| (2 ^ 52 - 1) := by decide
    have z : r &&& 2 ^ 63 = 0 := by
      apply Nat.eq_of_testBit_eq
      intro i
      rw [Nat.testBit_and, Nat.testBit_two_pow, Nat.zero_testBit]
      by_cases hi : 63 = i
      · subst hi
        rw [Nat.testBit_lt_two_pow (show r < 2 ^ 63 from h)]
        rfl
      · simp [hi]
    rw [m, Nat.and_or_distrib_left, Nat.and_two_pow_sub_one_eq_mod, z, Nat.zero_or]
  rw [e] at h1
  exact h1
theorem or_exp (m : Nat) (h : m < 4503599627370496) : bits BinOp.or IntKind.u64 (m : Int) 4602678819172646912 = ((4602678819172646912 + m : Nat) : Int) := by
  have h1 := u64_or_nat m 4602678819172646912 (by omega) (by decide)
  have e : m ||| 4602678819172646912 = 4602678819172646912 + m := by
    have := Nat.shiftLeft_add_eq_or_of_lt (show m < 2 ^ 52 from h) 1022
    rw [Nat.or_comm]
    exact this.symm
  rw [e] at h1
  exact h1
theorem and_exp (E : Nat) (h : E < 2048) : bits BinOp.and IntKind.u64 (E : Int) 2047 = (E : Int) := by
  have h1 := u64_and_nat E 2047 (by omega) (by decide)
  have e : E &&& 2047 = E := by
    have := Nat.and_two_pow_sub_one_eq_mod E 11
    rw [Nat.mod_eq_of_lt (by simpa using h)] at this
    exact this
  rw [e] at h1
  exact h1
theorem not_zero (r : Nat) (h1 : 0 < r) (h2 : r < 9218868437227405312) : (FloatKind.f64.format.order r 0 == some .eq) = false := by
  rw [fo, order_key _ _ (by rw [rung_small (by omega)]; omega) (by decide), key_small (by omega), key_small (by decide), cmp_gt (by omega)]
  rfl
theorem frexp (r : Nat) (h1 : 4503599627370496 ≤ r) (h2 : r < 9218868437227405312) (w : World) : Calls Try.prog 21 #[.float .f64 r] w fun e w' => e = .returned (.tuple #[.float .f64 (4602678819172646912 + r % 4503599627370496), .int .i64 ((r / 4503599627370496 : Nat) - 1022)]) ∧ w' = w := by
  have hr : rung r = r := rung_small (by omega)
  have hz := not_zero r (by omega) h2
  have ha := mask_exp r (by omega)
  have ho : bits BinOp.or IntKind.u64 ((r : Int) % 4503599627370496) 4602678819172646912 = 4602678819172646912 + (r : Int) % 4503599627370496 := by
    have h := or_exp (r % 4503599627370496) (Nat.mod_lt _ (by decide))
    rw [show ((r % 4503599627370496 : Nat) : Int) = (r : Int) % 4503599627370496 by omega] at h
    rw [h]; omega
  have he : bits BinOp.and IntKind.u64 ((r : Int) / 4503599627370496) 2047 = (r : Int) / 4503599627370496 := by
    have h := and_exp (r / 4503599627370496) (by omega)
    rw [show ((r / 4503599627370496 : Nat) : Int) = (r : Int) / 4503599627370496 by omega] at h
    exact h
  have b1 : (r : Int) / 4503599627370496 < 2047 := by omega
  have b2 : 1 ≤ (r : Int) / 4503599627370496 := by omega
  go_enter Try.func21, Try.ntmps21
  go_wp2_with (go_at_call 9; refine (isInf_fin r (by omega) (by omega) _).mono ?_)
  rintro e w1 ⟨rfl, hw⟩
  have hw := hw.symm
  subst hw
  go_wp2_with (go_at_call 8; refine (isNaN_fin r (by omega) _).mono ?_)
  rintro e w1 ⟨rfl, hw⟩
  have hw := hw.symm
  subst hw
  go_wp2_with (go_at_call 24; refine (normalize r h1 h2 _).mono ?_)
  rintro e w1 ⟨rfl, hw⟩
  have hw := hw.symm
  subst hw
  go_wp2_with (fail)
  rw [run16, Oper.upon_value]
  go_wp2
  rw [run15, Oper.upon_value]
  go_wp2
  go_ret2
  refine ⟨?_, rfl⟩
  have e : (r : Int) / 4503599627370496 - 1023 + 1 = ((r / 4503599627370496 : Nat) : Int) - 1022 := by omega
  rw [← e]
  rfl
theorem or_zero (X : Nat) (h : X < 18446744073709551616) : bits BinOp.or IntKind.u64 0 (X : Int) = (X : Int) := by
  have h1 := u64_or_nat 0 X (by decide) h
  rw [Nat.zero_or] at h1
  exact h1
theorem ldexp (n : Int) (k : Nat) (hn : n = k) (hk : k ≤ 991) (w : World) : Calls Try.prog 23 #[.float .f64 4751297606875873280, .int .i64 n] w fun e w' => e = .returned (.float .f64 ((k + 1055) * 4503599627370496)) ∧ w' = w := by
  subst hn
  have hz := not_zero 4751297606875873280 (by decide) (by decide)
  have c1 : bits BinOp.and IntKind.i64 1055 2047 = 1055 := by decide
  have c2 : bits BinOp.andNot IntKind.u64 4751297606875873280 9218868437227405312 = 0 := by decide
  have k0 : (0 : Int) ≤ k := by omega
  have k1 : (k : Int) ≤ 991 := by omega
  have c3 : bits BinOp.or IntKind.u64 0 (((k : Int) + 32 + 1023) * 4503599627370496) = ((k : Int) + 32 + 1023) * 4503599627370496 := by
    have h := or_zero ((k + 32 + 1023) * 4503599627370496) (by omega)
    rw [show (((k + 32 + 1023) * 4503599627370496 : Nat) : Int) = ((k : Int) + 32 + 1023) * 4503599627370496 by omega] at h
    exact h
  go_enter Try.func23, Try.ntmps23
  go_wp2_with (go_at_call 9; refine (isInf_fin 4751297606875873280 (by decide) (by decide) _).mono ?_)
  rintro e w1 ⟨rfl, hw⟩
  have hw := hw.symm
  subst hw
  go_wp2_with (go_at_call 8; refine (isNaN_fin 4751297606875873280 (by decide) _).mono ?_)
  rintro e w1 ⟨rfl, hw⟩
  have hw := hw.symm
  subst hw
  go_wp2_with (go_at_call 24; refine (normalize 4751297606875873280 (by decide) (by decide) _).mono ?_)
  rintro e w1 ⟨rfl, hw⟩
  have hw := hw.symm
  subst hw
  go_wp2_with (fail)
  rw [run16, Oper.upon_value]
  set_option maxRecDepth 100000 in
  go_wp2
  rw [run15, Oper.upon_value, show (((k : Int) + 32 + 1023) * 4503599627370496).toNat = (k + 1055) * 4503599627370496 by omega]
  have hm : floatBits .mul .f64 4607182418800017408 ((k + 1055) * 4503599627370496) = some ((k + 1055) * 4503599627370496) := one_times (k + 1055) (by omega) (by omega)
  set_option maxRecDepth 100000 in
  go_wp2
  rw [run_float_arith _ .mul 22 .f64 _ _ _ hm]
  go_wp2
  go_ret
  exact ⟨rfl, rfl⟩
theorem not_less2 (m : Nat) (h : m < 4503599627370496) : (FloatKind.f64.format.order (4602678819172646912 + m) 4602678819172646912 == some .lt) = false := by
  rw [fo, order_key _ _ (by rw [rung_small (by omega)]; omega) (by decide), key_small (by omega), key_small (by decide)]
  by_cases e : ((4602678819172646912 + m : Nat) : Int) = ((4602678819172646912 : Nat) : Int)
  · rw [cmp_eq e]; rfl
  · rw [cmp_gt (by omega)]; rfl
theorem order_ge (r s : Nat) (h1 : r < 9218868437227405312) (h2 : s < 9218868437227405312) (h : s ≤ r) : (FloatKind.f64.format.order r s == some .gt || FloatKind.f64.format.order r s == some .eq) = true := by
  rw [fo, order_key _ _ (by rw [rung_small (by omega)]; omega) (by rw [rung_small (by omega)]; omega), key_small (by omega), key_small (by omega)]
  by_cases e : (r : Int) = (s : Int)
  · rw [cmp_eq e]; rfl
  · rw [cmp_gt (by omega)]; rfl
theorem order_less (r s : Nat) (h1 : r < 9218868437227405312) (h2 : s < 9218868437227405312) (h : r < s) : (FloatKind.f64.format.order r s == some .gt || FloatKind.f64.format.order r s == some .eq) = false := by
  rw [fo, order_key _ _ (by rw [rung_small (by omega)]; omega) (by rw [rung_small (by omega)]; omega), key_small (by omega), key_small (by omega), cmp_lt (by omega)]
  rfl
theorem order_pos (r : Nat) (h1 : r < 9218868437227405312) : (FloatKind.f64.format.order r 0 == some .lt) = false := by
  rw [fo, order_key _ _ (by rw [rung_small (by omega)]; omega) (by decide), key_small (by omega), key_small (by decide)]
  by_cases e : (r : Int) = ((0 : Nat) : Int)
  · rw [cmp_eq e]; rfl
  · rw [cmp_gt (by omega)]; rfl
theorem frexp' (r : Nat) (h1 : 4503599627370496 ≤ r) (h2 : r < 9218868437227405312) (w : World) : Calls Try.prog 18 #[.float .f64 r] w fun e w' => e = .returned (.tuple #[.float .f64 (4602678819172646912 + r % 4503599627370496), .int .i64 ((r / 4503599627370496 : Nat) - 1022)]) ∧ w' = w := by
  go_enter Try.func18, Try.ntmps18
  go_wp2_with (go_at_call 21; refine (frexp r h1 h2 _).mono ?_)
  rintro e w1 ⟨rfl, hw⟩
  have hw := hw.symm
  subst hw
  go_wp2_with (fail)
  go_ret2
  exact ⟨rfl, rfl⟩
theorem frexpY (w : World) : Calls Try.prog 18 #[.float .f64 4751297606875873280] w fun e w' => e = .returned (.tuple #[.float .f64 4602678819172646912, .int .i64 33]) ∧ w' = w := by
  refine (frexp' 4751297606875873280 (by decide) (by decide) w).mono ?_
  rintro e w' ⟨rfl, h⟩
  exact ⟨by rw [show (4751297606875873280 % 4503599627370496 : Nat) = 0 by decide, show (4751297606875873280 / 4503599627370496 : Nat) = 1055 by decide]; rfl, h⟩
theorem ldexp23 (n : Int) (k p : Nat) (hn : n = k) (hk : k ≤ 991) (hp : (k + 1055) * 4503599627370496 = p) (w : World) : Calls Try.prog 23 #[.float .f64 4751297606875873280, .int .i64 n] w fun e w' => e = .returned (.float .f64 p) ∧ w' = w := by
  subst hp
  exact ldexp n k hn hk w
theorem ldexp' (n : Int) (p : Nat) (h : ∀ w, Calls Try.prog 23 #[.float .f64 4751297606875873280, .int .i64 n] w fun e w' => e = .returned (.float .f64 p) ∧ w' = w) (w : World) : Calls Try.prog 19 #[.float .f64 4751297606875873280, .int .i64 n] w fun e w' => e = .returned (.float .f64 p) ∧ w' = w := by
  have H := Lib.hid h
  clear h
  go_enter Try.func19, Try.ntmps19
  go_wp2_with (fail)
  refine (H.out _).mono ?_
  rintro e w1 ⟨rfl, hw⟩
  have hw := hw.symm
  subst hw
  go_wp2_with (fail)
  go_ret
  exact ⟨rfl, rfl⟩
set_option maxHeartbeats 2000000 in
set_option maxRecDepth 100000 in
theorem mod (x : Nat) (hx : x < 9218868437227405312) (w : World) : Calls Try.prog 14 #[.float .f64 x, .float .f64 4751297606875873280] w fun e w' => e = .returned (.float .f64 (left x)) ∧ w' = w := by
  have hz := not_zero 4751297606875873280 (by decide) (by decide)
  have hp := order_pos x hx
  have ry : rung 4751297606875873280 = 4751297606875873280 := by decide
  go_enter Try.func14, Try.ntmps14
  go_wp2_with (go_at_call 9; refine (isInf_fin x (by omega) (by rw [rung_small (by omega)]; exact hx) _).mono ?_)
  rintro e w1 ⟨rfl, hw⟩
  have hw := hw.symm
  subst hw
  go_wp2_with (go_at_call 8; refine (isNaN_fin x (by rw [rung_small (by omega)]; omega) _).mono ?_)
  rintro e w1 ⟨rfl, hw⟩
  have hw := hw.symm
  subst hw
  go_wp2_with (go_at_call 8; refine (isNaN_fin 4751297606875873280 (by decide) _).mono ?_)
  rintro e w1 ⟨rfl, hw⟩
  have hw := hw.symm
  subst hw
  go_wp2_with (go_at_call 11; refine (abs 4751297606875873280 (by decide) _).mono ?_)
  rintro e w1 ⟨rfl, hw⟩
  have hw := hw.symm
  subst hw
  rw [ry]
  go_wp2_with (go_at_call 18; refine (frexpY _).mono ?_)
  rintro e w1 ⟨rfl, hw⟩
  have hw := hw.symm
  subst hw
  clear hz ry
  go_wp2_with (fail)
  go_loopw [7, 8, 9] (fun v7 v8 v9 wr => ∃ r : Nat, v7 = .float .f64 r ∧ r < 9218868437227405312 ∧ Hid (left r = left x) ∧ wr = w) (fun v7 _ _ _ => match v7 with | .float _ r => r | _ => 0)
  case atStart => exact ⟨x, rfl, hx, Lib.hid rfl, rfl⟩
  case round =>
    obtain ⟨r, rfl, hr, HL, rfl⟩ := hrel
    by_cases hge : 4751297606875873280 ≤ r
    · have ho := order_ge r 4751297606875873280 hr (by decide) hge
      have HS := Lib.hid (step_some r (by omega) hr)
      have HLT := Lib.hid (step_less hge hr)
      have HST := Lib.hid (left_step hge hr)
      have hnl := not_less2 (r % 4503599627370496) (Nat.mod_lt _ (by decide))
      go_wp2_with (fail)
      refine (frexp' r (by omega) hr _).mono ?_
      rintro e w1 ⟨rfl, hw⟩
      have hw := hw.symm
      subst hw
      have e0 : (0 : Int) ≤ ((r / 4503599627370496 : Nat) : Int) := by omega
      have e1 : ((r / 4503599627370496 : Nat) : Int) ≤ 2047 := by omega
      go_wp2_with (fail)
      refine (ldexp' _ (r / 4503599627370496 * 4503599627370496) (ldexp23 _ (r / 4503599627370496 - 1055) _ (by omega) (by omega) (by omega)) _).mono ?_
      rintro e w1 ⟨rfl, hw⟩
      have hw := hw.symm
      subst hw
      have hsub : floatBits .sub .f64 r (r / 4503599627370496 * 4503599627370496) = some (step r) := HS.out
      go_wp2
      rw [run_float_arith _ .sub 22 .f64 _ _ _ hsub]
      go_wp2
      go_roundw
      case rel => exact ⟨step r, rfl, by have := HLT.out; omega, Lib.hid (by rw [← HST.out]; exact HL.out), trivial⟩
      case measure => exact HLT.out
    · have ho := order_less r 4751297606875873280 hr (by decide) (by omega)
      have HE := Lib.hid (left_less (show r < 4751297606875873280 by omega))
      go_wp2_with (fail)
      go_ret
      rw [← HL.out, HE.out]
      exact ⟨rfl, rfl⟩
theorem Mod (x : Nat) (hx : x < 9218868437227405312) (w : World) : Calls Try.prog 10 #[.float .f64 x, .float .f64 4751297606875873280] w fun e w' => e = .returned (.float .f64 (left x)) ∧ w' = w := by
  go_enter Try.func10, Try.ntmps10
  go_wp2_with (go_at_call 14; refine (mod x hx _).mono ?_)
  rintro e w1 ⟨rfl, hw⟩
  have hw := hw.symm
  subst hw
  go_wp2_with (fail)
  go_ret
  exact ⟨rfl, rfl⟩
end Go.Proofs.Ytjjgidkdndggbaa.fnIntsAgree
