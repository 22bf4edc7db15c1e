/-
  FnRangeOfString: the walk of the scanner's octal: it passes one digit or more, and digits alone.
  Conditions: texts of at most 2^12 bytes; a digit from 0 to 7 stands at the place.
-/
import Derived.Test.YtnciphcnkbcncaaFnRangeOfStringPoint
namespace Go.Proofs.Ytnciphcnkbcncaa.fnRangeOfString
open Go.RowKit Go.Proofs.YtnciphcnkbcncaaW.PrintWords Go.Proofs.YtnciphcnkbcncaaW.PrintLast Go.Proofs.YtnciphcnkbcncaaW.PrintMore Go.Proofs.Ytnciphcnkbcncaa.PFnRangeOfString Go.Proofs.Ytnciphcnkbcncaa.runes
set_option linter.unusedVariables false
set_option linter.unusedSimpArgs false

theorem betweenC (a b c : Int) : ∃ r : Bool, (r = true ↔ a ≤ b ∧ b ≤ c) ∧ ∀ w, Calls Try.prog 28 #[.int .i64 a, .int .i64 b, .int .i64 c] w fun e w' => e = .returned (.bool r) ∧ ∃ n, w' = w.drewN n := by
  by_cases h : a ≤ b
  · refine ⟨decide (b ≤ c), by simp [h], fun w => (spec_between.calls a b c _ w (by unfold spec_between.f; rw [if_pos h])).mono fun e w' ⟨he, n, hw⟩ => ⟨he, n, hw⟩⟩
  · refine ⟨false, by simp [h], fun w => (spec_between.calls a b c _ w (by unfold spec_between.f; rw [if_neg h])).mono fun e w' ⟨he, n, hw⟩ => ⟨he, n, hw⟩⟩
/-- what octal leaves -/
def Octs (w0 w : World) (g : Nat) (s : ByteArray) (a : Nat) (b2 b3 : Bool) (b4 : Int) (e : Ending) (w' : World) : Prop := ∃ (r : Int) (a' : Nat), e = .returned (.int .i64 r) ∧ 0 ≤ r ∧ r ≤ 255 ∧ a < a' ∧ a' ≤ s.size ∧ Calm s a a' ∧ Sc w0 w w' g s a' b2 b3 b4
set_option maxHeartbeats 16000000 in
set_option maxRecDepth 100000 in
theorem octal (w0 w : World) (g : Nat) (s : ByteArray) (a0 : Nat) (b2 b3 : Bool) (b4 : Int) (hs : s.size ≤ 4096) (ha : a0 < s.size) (hd : 48 ≤ nb s a0 ∧ nb s a0 ≤ 55) (hI : IsS51 w0 w g s a0 b2 b3 b4) (hB : Below w0.heap.size w0 w) :
    Calls Try.prog 55 #[.pointer (some ⟨g, 0, none⟩)] w (Octs w0 w g s a0 b2 b3 b4) := by
  have HS0 := Lib.hid (Sc.start hI hB)
  have HD := Lib.hid hd
  clear hI hB hd
  have s1 : (s.size : Int) ≤ 4096 := by omega
  go_enter Try.func55, Try.ntmps55
  go_wp2_with (fail)
  go_loopw [3, 4] (fun v3 v4 wr => ∃ (v : Int) (d a : Nat), v3 = .int .i64 v ∧ v4 = .int .i64 d ∧ 0 ≤ v ∧ v ≤ 255 ∧ d ≤ 3 ∧ a0 ≤ a ∧ a ≤ s.size ∧ Hid (d = 0 → a = a0 ∧ v = 0) ∧ Hid (0 < d → a0 < a) ∧ Hid (Calm s a0 a) ∧ Hid (Sc w0 w wr g s a b2 b3 b4)) (fun _ _ wr => s.size - posOf g wr)
  case atStart => exact ⟨0, 0, a0, rfl, rfl, by decide, by decide, by decide, by omega, by omega, Lib.hid (fun _ => ⟨rfl, rfl⟩), Lib.hid (fun h => by omega), Lib.hid (Calm.refl _ _), HS0⟩
  case round =>
    clear HS0
    obtain ⟨v, d, a, rfl, rfl, v0, v1, d3, ha0, has, HZ, HP, HC, HS⟩ := hrel
    have a0i : (0 : Int) ≤ a := by omega
    have d0i : (0 : Int) ≤ d := by omega
    have d3i : (d : Int) ≤ 3 := by omega
    have c0 := HS.out.c0
    have c1 := HS.out.c1
    have f1 := HS.out.fz 1
    by_cases hin : a < s.size
    · have hin' : (a : Int) < s.size := by omega
      have b0 : (0 : Int) ≤ ((s[a]'hin).toNat : Int) := by omega
      have b1 : ((s[a]'hin).toNat : Int) ≤ 255 := by have := (s[a]'hin).toNat_lt; omega
      have e1 : IntKind.i64.wrap ((s[a]'hin).toNat : Int) = ((s[a]'hin).toNat : Int) := IntWalk.i64_in _ (by omega)
      obtain ⟨r, hr1, hr⟩ := betweenC 48 ((s[a]'hin).toNat : Int) 55
      have HR := Lib.hid hr
      clear hr
      cases r
      · have hno : ¬ (48 ≤ nb s a ∧ nb s a ≤ 55) := by rw [← byte_nb s a hin]; intro h; have := hr1.2 (by omega); cases this
        have hdp : a0 < a := HP.out (by
          by_cases h : d = 0
          · exact absurd (by rw [(HZ.out h).1]; exact HD.out) hno
          · omega)
        have HDP := Lib.hid hdp
        clear hr1 hno hdp
        go_wp2_with (fail)
        go_quiet (first | (go_at_call 28; refine Calls.quiet_of (HR.out _)))
        go_wp2_with (fail)
        go_ret
        exact ⟨v, a, rfl, v0, v1, HDP.out, has, HC.out, HS.out.drew _⟩
      · obtain ⟨o1, o2⟩ := hr1.1 rfl
        clear hr1
        have HO : Hid (48 ≤ nb s a ∧ nb s a ≤ 55) := Lib.hid (by rw [← byte_nb s a hin]; omega)
        by_cases hd3 : d = 3
        · subst hd3
          have HDP := Lib.hid (HP.out (by decide))
          go_wp2_with (fail)
          go_quiet (first | (go_at_call 28; refine Calls.quiet_of (HR.out _)))
          go_wp2_with (fail)
          go_ret
          exact ⟨v, a, rfl, v0, v1, HDP.out, has, HC.out, HS.out.drew _⟩
        · have hd3i : (d : Int) < 3 := by omega
          have m0 : 0 ≤ ((s[a]'hin).toNat : Int) - 48 := by omega
          have m1 : ((s[a]'hin).toNat : Int) - 48 ≤ 7 := by omega
          have e2 : IntKind.u8.wrap (((s[a]'hin).toNat : Int) - 48) = ((s[a]'hin).toNat : Int) - 48 := by rw [IntKind.wrap_u8]; omega
          have e3 : IntKind.i64.wrap (((s[a]'hin).toNat : Int) - 48) = ((s[a]'hin).toNat : Int) - 48 := IntWalk.i64_in _ (by omega)
          have m2 : 0 ≤ 8 * v := by omega
          have m3 : 8 * v ≤ 2040 := by omega
          have e4 : IntKind.i64.wrap (8 * v) = 8 * v := IntWalk.i64_in _ (by omega)
          have e5 : IntKind.i64.wrap (8 * v + (((s[a]'hin).toNat : Int) - 48)) = 8 * v + (((s[a]'hin).toNat : Int) - 48) := IntWalk.i64_in _ (by omega)
          by_cases hlt : 8 * v + (((s[a]'hin).toNat : Int) - 48) < 256
          · have HLT := Lib.hid hlt
            have HSQ := Lib.hid (show 0 ≤ 8 * v + (((s[a]'hin).toNat : Int) - 48) by omega)
            go_wp2_with (fail)
            go_quiet (first | (go_at_call 28; refine Calls.quiet_of (HR.out _)))
            have hs1 := HS.out.drew nq
            have HM0 := Lib.hid (posOf_eq HS.out)
            generalize wr.drewN nq = W2 at hs1 ⊢
            have HS1 := Lib.hid hs1
            clear hs1 c0 c1 f1 HS
            have c0 := HS1.out.c0
            have c1 := HS1.out.c1
            have f1 := HS1.out.fz 1
            go_wp2_with (fail)
            go_quiet (fail)
            have hs3 := HS1.out.drew nq
            generalize W2.drewN nq = W3 at hs3 ⊢
            have HS3 := Lib.hid hs3
            clear hs3 c0 c1 f1 HS1
            have c0 := HS3.out.c0
            have c1 := HS3.out.c1
            have f1 := HS3.out.fz 1
            generalize 8 * v + (((s[a]'hin).toNat : Int) - 48) = y at HLT HSQ hlt e5 ⊢
            clear e1 e2 e3 e4 e5 m0 m1 m2 m3 o1 o2 b0 b1 hlt HR
            go_wp2_with (fail)
            go_roundw
            case rel => exact ⟨y, d + 1, a + 1, rfl, by go_num, HSQ.out, by have := HLT.out; omega, by omega, by omega, by omega, Lib.hid (fun h => by omega), Lib.hid (fun _ => by omega), Lib.hid (HC.out.trans (Calm.one (by have := HO.out; omega))), Lib.hid (HS3.out.set1 (a + 1))⟩
            case measure =>
              have e := posOf_eq (HS3.out.set1 (a + 1))
              rw [show ((a + 1 : Nat) : Int) = (a : Int) + 1 by omega] at e
              rw [e, HM0.out]
              omega
          · have hdp : a0 < a := HP.out (by
              by_cases h : d = 0
              · have := (HZ.out h).2; omega
              · omega)
            have HDP := Lib.hid hdp
            clear hdp
            go_wp2_with (fail)
            go_quiet (first | (go_at_call 28; refine Calls.quiet_of (HR.out _)))
            go_wp2_with (fail)
            go_ret
            exact ⟨v, a, rfl, v0, v1, HDP.out, has, HC.out, HS.out.drew _⟩
    · have hin' : ¬ (a : Int) < s.size := by omega
      have hdp : a0 < a := HP.out (by
        by_cases h : d = 0
        · have := (HZ.out h).1; omega
        · omega)
      have HDP := Lib.hid hdp
      clear hdp
      go_wp2_with (fail)
      go_quiet (fail)
      go_wp2_with (fail)
      go_ret
      exact ⟨v, a, rfl, v0, v1, HDP.out, has, HC.out, HS.out.drew _⟩
end Go.Proofs.Ytnciphcnkbcncaa.fnRangeOfString
