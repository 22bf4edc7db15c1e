/-
  FnRangeOfString: the walk of the scanner's escape: what it passes behind the first byte holds no quote and no backslash.
  Conditions: texts of at most 2^12 bytes; no template.
-/
import Derived.Test.YtnciphcnkbcncaaFnRangeOfStringOctal
namespace Go.Proofs.Ytnciphcnkbcncaa.fnRangeOfString
open Go.RowKit Go.Proofs.YtnciphcnkbcncaaW.PrintWords Go.Proofs.YtnciphcnkbcncaaW.PrintLast Go.Proofs.YtnciphcnkbcncaaW.PrintMore Go.Proofs.Ytnciphcnkbcncaa.PFnRangeOfString Go.Proofs.Ytnciphcnkbcncaa.runes
set_option linter.unusedVariables false
set_option linter.unusedSimpArgs false

theorem unit_f (n : Int) : ∃ u, spec_Unit.f 3 n = some u ∧ u.size = 2 := by
  refine ⟨strOfNums [(Go.bits .and .i64 (n / 256) 255) % 256, (Go.bits .and .i64 n 255) % 256], ?_, by simp [strOfNums, ByteArray.size]⟩
  generalize hx : Go.bits .and .i64 (n / 256) 255 = x
  generalize hy : Go.bits .and .i64 n 255 = y
  unfold spec_Unit.f
  rw [hx, hy]
  have h0 : spec_bytesOf.f 3 [x, y] = some (strOfNums [x % 256, y % 256]) := by
    unfold spec_bytesOf.f
    rw [if_pos (by simp), if_pos (by simp)]
    simp [spec_bytesOf.l0, wrap64, rd, List.set]
  rw [h0]
  rfl
theorem unitC (n : Int) : ∃ u : ByteArray, u.size ≤ 4 ∧ ∀ w, Calls Try.prog 41 #[.int .i64 n] w fun e w' => e = .returned (.string u) ∧ Below w.heap.size w w' := by
  obtain ⟨u, h, hs⟩ := unit_f n
  exact ⟨u, by omega, fun w => spec_Unit.calls 3 n u w h⟩
theorem unitsC (r : Int) : ∃ u : ByteArray, u.size ≤ 4 ∧ ∀ w, Calls Try.prog 38 #[.int .i64 r] w fun e w' => e = .returned (.string u) ∧ Below w.heap.size w w' := by
  by_cases h : r < 65536
  · obtain ⟨u, hu, hs⟩ := unit_f r
    exact ⟨u, by omega, fun w => spec_Units.calls 3 r u w (by unfold spec_Units.f; rw [if_pos h, hu]; rfl)⟩
  · obtain ⟨u, hu, hs⟩ := unit_f (wrap64 (55296 + ((wrap64 (r - 65536)) / 1024)))
    obtain ⟨v, hv, hs2⟩ := unit_f (wrap64 (56320 + (Go.bits .and .i64 (wrap64 (r - 65536)) 1023)))
    refine ⟨u ++ v, by rw [ByteArray.size_append]; omega, fun w => spec_Units.calls 3 r (u ++ v) w ?_⟩
    unfold spec_Units.f
    rw [if_neg h, hu]
    simp only [Option.bind_some]
    rw [hv]
    simp only [Option.bind_some]
    rw [if_pos (by omega)]
theorem digitC (b : Int) : ∃ r : Bool, (r = true ↔ 48 ≤ b ∧ b ≤ 57) ∧ ∀ w, Calls Try.prog 20 #[.int .i64 b] w fun e w' => e = .returned (.bool r) ∧ ∃ n, w' = w.drewN n := by
  by_cases h : 48 ≤ b
  · refine ⟨decide (b ≤ 57), by simp [h], fun w => (spec_Digit.calls b _ w (by unfold spec_Digit.f spec_between.f; rw [if_pos h]; rfl)).mono fun e w' ⟨he, n, hw⟩ => ⟨he, n, hw⟩⟩
  · refine ⟨false, by simp [h], fun w => (spec_Digit.calls b _ w (by unfold spec_Digit.f spec_between.f; rw [if_neg h]; rfl)).mono fun e w' ⟨he, n, hw⟩ => ⟨he, n, hw⟩⟩
/-- what escape leaves -/
def Esc (w0 w : World) (g : Nat) (s : ByteArray) (a : Nat) (b2 b3 : Bool) (b4 : Int) (e : Ending) (w' : World) : Prop := ∃ (u : ByteArray) (old is : Bool) (a' : Nat), e = .returned (.tuple #[.string u, .bool old, .bool is]) ∧ u.size ≤ 4 ∧ a' ≤ s.size ∧ (is = true → a < a' ∧ Calm s (a + 1) a') ∧ Sc w0 w w' g s a' b2 b3 b4

set_option maxHeartbeats 32000000 in
set_option maxRecDepth 100000 in
theorem escape (w0 w : World) (g : Nat) (s : ByteArray) (a0 : Nat) (b2 b3 : Bool) (b4 : Int) (hs : s.size ≤ 4096) (ha : a0 ≤ s.size) (hI : IsS51 w0 w g s a0 b2 b3 b4) (hB : Below w0.heap.size w0 w) :
    Calls Try.prog 39 #[.pointer (some ⟨g, 0, none⟩), .bool false] w (Esc w0 w g s a0 b2 b3 b4) := by
  have HS0 := Lib.hid (Sc.start hI hB)
  clear hI hB
  have s1 : (s.size : Int) ≤ 4096 := by omega
  have c0 := HS0.out.c0
  have c1 := HS0.out.c1
  have a0i : (0 : Int) ≤ a0 := by omega
  have a1i : (a0 : Int) ≤ 4096 := by omega
  by_cases hin : a0 < s.size
  · obtain ⟨r, n, hrn, hR⟩ := rune_in s a0 hs hin
    have HR := Lib.hid (hR g w c0 c1)
    clear hR
    rcases hrn with rfl | ⟨n1, n4, nfit, rmax, hlo, hhi⟩
    · clear hin
      go_enter Try.func39, Try.ntmps39
      go_wp2_with (fail)
      refine (HR.out).mono ?_
      rintro e w1 ⟨rfl, n1, rfl⟩
      have HS1 := Lib.hid (HS0.out.drew n1)
      clear HR HS0 c0 c1
      go_wp2_with (fail)
      go_ret3
      exact ⟨_, _, _, a0, rfl, by decide, ha, (fun h => by cases h), HS1.out⟩
    · have n1i : (1 : Int) ≤ n := by omega
      have n4i : (n : Int) ≤ 4 := by omega
      have hnz : ((n : Int) == 0) = false := by simpa using (show n ≠ 0 by omega)
      have r0i : (0 : Int) ≤ r := by omega
      have HSUM := Lib.hid (show (a0 : Int) + n = ((a0 + n : Nat) : Int) by omega)
      by_cases hb : nb s a0 < 128
      · obtain ⟨rfl, rfl⟩ := hlo hb
        clear hhi rmax hlo n1 n4 n1i n4i hnz HSUM r0i
        have hr0 : (0 : Int) ≤ (nb s a0 : Int) := by omega
        have hr1 : (nb s a0 : Int) < 128 := by omega
        have HNB : Hid (nb s a0 = nb s a0) := Lib.hid rfl
        generalize hrr : nb s a0 = r at HR hr0 hr1
        have HRR := Lib.hid hrr
        clear hrr hb HNB
        by_cases h98 : r = 98
        · subst h98
          obtain ⟨u, hu, hU⟩ := unitC (8 : Int)
          have HU := Lib.hid hU
          clear hU
          go_enter Try.func39, Try.ntmps39
          go_wp2_with (fail)
          refine (HR.out).mono ?_
          rintro e w1 ⟨rfl, m1, rfl⟩
          have hs1 := HS0.out.drew m1
          generalize w.drewN m1 = W1 at hs1 ⊢
          have HS1 := Lib.hid hs1
          clear hs1 HS0 c0 c1 HR
          have c0 := HS1.out.c0
          have c1 := HS1.out.c1
          have f1 := HS1.out.fz 1
          go_wp2_with (fail)
          have HS9 := Lib.hid (HS1.out.set1 (a0 + 1))
          refine (HU.out _).mono ?_
          rintro e w5 ⟨rfl, hb5⟩
          have HS5 := Lib.hid (HS9.out.below hb5)
          clear hb5 HU
          go_wp2_with (fail)
          go_ret3
          exact ⟨u, _, _, a0 + 1, rfl, hu, by omega, fun _ => ⟨by omega, Calm.refl _ _⟩, HS5.out⟩
        by_cases h116 : r = 116
        · subst h116
          obtain ⟨u, hu, hU⟩ := unitC (9 : Int)
          have HU := Lib.hid hU
          clear hU
          go_enter Try.func39, Try.ntmps39
          go_wp2_with (fail)
          refine (HR.out).mono ?_
          rintro e w1 ⟨rfl, m1, rfl⟩
          have hs1 := HS0.out.drew m1
          generalize w.drewN m1 = W1 at hs1 ⊢
          have HS1 := Lib.hid hs1
          clear hs1 HS0 c0 c1 HR
          have c0 := HS1.out.c0
          have c1 := HS1.out.c1
          have f1 := HS1.out.fz 1
          go_wp2_with (fail)
          have HS9 := Lib.hid (HS1.out.set1 (a0 + 1))
          refine (HU.out _).mono ?_
          rintro e w5 ⟨rfl, hb5⟩
          have HS5 := Lib.hid (HS9.out.below hb5)
          clear hb5 HU
          go_wp2_with (fail)
          go_ret3
          exact ⟨u, _, _, a0 + 1, rfl, hu, by omega, fun _ => ⟨by omega, Calm.refl _ _⟩, HS5.out⟩
        by_cases h110 : r = 110
        · subst h110
          obtain ⟨u, hu, hU⟩ := unitC (10 : Int)
          have HU := Lib.hid hU
          clear hU
          go_enter Try.func39, Try.ntmps39
          go_wp2_with (fail)
          refine (HR.out).mono ?_
          rintro e w1 ⟨rfl, m1, rfl⟩
          have hs1 := HS0.out.drew m1
          generalize w.drewN m1 = W1 at hs1 ⊢
          have HS1 := Lib.hid hs1
          clear hs1 HS0 c0 c1 HR
          have c0 := HS1.out.c0
          have c1 := HS1.out.c1
          have f1 := HS1.out.fz 1
          go_wp2_with (fail)
          have HS9 := Lib.hid (HS1.out.set1 (a0 + 1))
          refine (HU.out _).mono ?_
          rintro e w5 ⟨rfl, hb5⟩
          have HS5 := Lib.hid (HS9.out.below hb5)
          clear hb5 HU
          go_wp2_with (fail)
          go_ret3
          exact ⟨u, _, _, a0 + 1, rfl, hu, by omega, fun _ => ⟨by omega, Calm.refl _ _⟩, HS5.out⟩
        by_cases h118 : r = 118
        · subst h118
          obtain ⟨u, hu, hU⟩ := unitC (11 : Int)
          have HU := Lib.hid hU
          clear hU
          go_enter Try.func39, Try.ntmps39
          go_wp2_with (fail)
          refine (HR.out).mono ?_
          rintro e w1 ⟨rfl, m1, rfl⟩
          have hs1 := HS0.out.drew m1
          generalize w.drewN m1 = W1 at hs1 ⊢
          have HS1 := Lib.hid hs1
          clear hs1 HS0 c0 c1 HR
          have c0 := HS1.out.c0
          have c1 := HS1.out.c1
          have f1 := HS1.out.fz 1
          go_wp2_with (fail)
          have HS9 := Lib.hid (HS1.out.set1 (a0 + 1))
          refine (HU.out _).mono ?_
          rintro e w5 ⟨rfl, hb5⟩
          have HS5 := Lib.hid (HS9.out.below hb5)
          clear hb5 HU
          go_wp2_with (fail)
          go_ret3
          exact ⟨u, _, _, a0 + 1, rfl, hu, by omega, fun _ => ⟨by omega, Calm.refl _ _⟩, HS5.out⟩
        by_cases h102 : r = 102
        · subst h102
          obtain ⟨u, hu, hU⟩ := unitC (12 : Int)
          have HU := Lib.hid hU
          clear hU
          go_enter Try.func39, Try.ntmps39
          go_wp2_with (fail)
          refine (HR.out).mono ?_
          rintro e w1 ⟨rfl, m1, rfl⟩
          have hs1 := HS0.out.drew m1
          generalize w.drewN m1 = W1 at hs1 ⊢
          have HS1 := Lib.hid hs1
          clear hs1 HS0 c0 c1 HR
          have c0 := HS1.out.c0
          have c1 := HS1.out.c1
          have f1 := HS1.out.fz 1
          go_wp2_with (fail)
          have HS9 := Lib.hid (HS1.out.set1 (a0 + 1))
          refine (HU.out _).mono ?_
          rintro e w5 ⟨rfl, hb5⟩
          have HS5 := Lib.hid (HS9.out.below hb5)
          clear hb5 HU
          go_wp2_with (fail)
          go_ret3
          exact ⟨u, _, _, a0 + 1, rfl, hu, by omega, fun _ => ⟨by omega, Calm.refl _ _⟩, HS5.out⟩
        by_cases h114 : r = 114
        · subst h114
          obtain ⟨u, hu, hU⟩ := unitC (13 : Int)
          have HU := Lib.hid hU
          clear hU
          go_enter Try.func39, Try.ntmps39
          go_wp2_with (fail)
          refine (HR.out).mono ?_
          rintro e w1 ⟨rfl, m1, rfl⟩
          have hs1 := HS0.out.drew m1
          generalize w.drewN m1 = W1 at hs1 ⊢
          have HS1 := Lib.hid hs1
          clear hs1 HS0 c0 c1 HR
          have c0 := HS1.out.c0
          have c1 := HS1.out.c1
          have f1 := HS1.out.fz 1
          go_wp2_with (fail)
          have HS9 := Lib.hid (HS1.out.set1 (a0 + 1))
          refine (HU.out _).mono ?_
          rintro e w5 ⟨rfl, hb5⟩
          have HS5 := Lib.hid (HS9.out.below hb5)
          clear hb5 HU
          go_wp2_with (fail)
          go_ret3
          exact ⟨u, _, _, a0 + 1, rfl, hu, by omega, fun _ => ⟨by omega, Calm.refl _ _⟩, HS5.out⟩
        by_cases h120 : r = 120
        · subst h120
          go_enter Try.func39, Try.ntmps39
          go_wp2_with (fail)
          refine (HR.out).mono ?_
          rintro e w1 ⟨rfl, m1, rfl⟩
          have hs1 := HS0.out.drew m1
          generalize w.drewN m1 = W1 at hs1 ⊢
          have HS1 := Lib.hid hs1
          clear hs1 HS0 c0 c1 HR
          have c0 := HS1.out.c0
          have c1 := HS1.out.c1
          have f1 := HS1.out.fz 1
          go_wp2_with (fail)
          have HS9 := Lib.hid (HS1.out.set1 (a0 + 1))
          rw [show ((a0 + 1 : Nat) : Int) = (a0 : Int) + 1 by omega] at HS9
          refine (hex w0 _ g s (a0 + 1) b2 b3 b4 2 (by decide) hs (by omega) HS9.out.1 HS9.out.2.1).mono ?_
          rintro e w2 ⟨v, ok, a', rfl, q0, q1, q2, q3, q4, q5⟩
          have HSA := Lib.hid (HS9.out.trans q5)
          have HQ := Lib.hid q4
          clear q4 q5 HS9 HS1 c0 c1 f1
          obtain ⟨u, hu, hU⟩ := unitC v
          have HU := Lib.hid hU
          clear hU
          go_wp2_with (fail)
          refine (HU.out _).mono ?_
          rintro e w5 ⟨rfl, hb5⟩
          have HS5 := Lib.hid (HSA.out.below hb5)
          clear hb5 HU
          go_wp2_with (fail)
          go_ret3
          exact ⟨u, _, ok, a', rfl, hu, q3, fun _ => ⟨by omega, HQ.out⟩, HS5.out⟩
        by_cases h117 : r = 117
        · subst h117
          go_enter Try.func39, Try.ntmps39
          go_wp2_with (fail)
          refine (HR.out).mono ?_
          rintro e w1 ⟨rfl, m1, rfl⟩
          have hs1 := HS0.out.drew m1
          generalize w.drewN m1 = W1 at hs1 ⊢
          have HS1 := Lib.hid hs1
          clear hs1 HS0 c0 c1 HR
          have c0 := HS1.out.c0
          have c1 := HS1.out.c1
          have f1 := HS1.out.fz 1
          go_wp2_with (fail)
          have HS9 := Lib.hid (HS1.out.set1 (a0 + 1))
          refine (point w0 _ g s (a0 + 1) b2 b3 b4 hs (by omega) HS9.out.1 HS9.out.2.1).mono ?_
          rintro e w2 ⟨v, ok, a', rfl, q0, q1, q2, q3, q4, q5⟩
          have HSA := Lib.hid (HS9.out.trans q5)
          have HQ := Lib.hid q4
          clear q4 q5 HS9 HS1 c0 c1 f1
          obtain ⟨u, hu, hU⟩ := unitsC v
          have HU := Lib.hid hU
          clear hU
          go_wp2_with (fail)
          refine (HU.out _).mono ?_
          rintro e w5 ⟨rfl, hb5⟩
          have HS5 := Lib.hid (HSA.out.below hb5)
          clear hb5 HU
          go_wp2_with (fail)
          go_ret3
          exact ⟨u, _, ok, a', rfl, hu, q3, fun _ => ⟨by omega, HQ.out⟩, HS5.out⟩
        by_cases h13 : r = 13
        · subst h13
          go_enter Try.func39, Try.ntmps39
          go_wp2_with (fail)
          refine (HR.out).mono ?_
          rintro e w1 ⟨rfl, m1, rfl⟩
          have hs1 := HS0.out.drew m1
          generalize w.drewN m1 = W1 at hs1 ⊢
          have HS1 := Lib.hid hs1
          clear hs1 HS0 c0 c1 HR
          have c0 := HS1.out.c0
          have c1 := HS1.out.c1
          have f1 := HS1.out.fz 1
          have hs9 := HS1.out.set1 (a0 + 1)
          have ec : ((a0 + 1 : Nat) : Int) = (a0 : Int) + 1 := by omega
          rw [ec] at hs9
          go_wp2_with (fail)
          generalize W1.setCell ⟨g, 1, none⟩ (.int .i64 ((a0 : Int) + 1)) = W9 at hs9 ⊢
          have HS9 := Lib.hid hs9
          clear hs9 HS1 c0 c1 f1
          have c0 := HS9.out.c0
          have c1 := HS9.out.c1
          have f1 := HS9.out.fz 1
          have his := isC g s ⟨#[10]⟩ (a0 + 1) W9 hs (by omega) (by decide) c0 c1
          rw [isb_one] at his
          rw [ec] at c1
          clear ec
          by_cases hbr : a0 + 1 < s.size ∧ nb s (a0 + 1) = 10
          · rw [decide_eq_true (show a0 + 1 < s.size ∧ nb s (a0 + 1) = (10 : UInt8).toNat from hbr)] at his
            have HIS := Lib.hid his
            have HC2 := Lib.hid (Calm.one (s := s) (a := a0 + 1) (by omega))
            have HL := Lib.hid hbr.1
            clear his hbr
            refine (HIS.out).mono ?_
            rintro e w1 ⟨rfl, n1, rfl⟩
            have hs4 := HS9.out.drew n1
            generalize W9.drewN n1 = W4 at hs4 ⊢
            have HS4 := Lib.hid hs4
            clear hs4 c0 c1 f1 HIS HS9
            have c0 := HS4.out.c0
            have c1 := HS4.out.c1
            have f1 := HS4.out.fz 1
            have ec : ((a0 + 1 : Nat) : Int) = (a0 : Int) + 1 := by omega
            rw [ec] at c1
            have HS5 := Lib.hid (HS4.out.set1 (a0 + 1 + 1))
            rw [show ((a0 + 1 + 1 : Nat) : Int) = (a0 : Int) + 1 + 1 by omega] at HS5
            have k1 : 0 ≤ (a0 : Int) + 1 := by omega
            have k2 : (a0 : Int) + 1 ≤ 4097 := by omega
            clear ec
            go_wp2_with (fail)
            go_ret3
            exact ⟨⟨#[]⟩, _, _, a0 + 1 + 1, rfl, by decide, HL.out, fun _ => ⟨by omega, HC2.out⟩, by have := HS5.out; first | exact this | (simpa [Int.add_assoc] using this)⟩
          · rw [decide_eq_false (show ¬ (a0 + 1 < s.size ∧ nb s (a0 + 1) = (10 : UInt8).toNat) from hbr)] at his
            have HIS := Lib.hid his
            clear his hbr
            refine (HIS.out).mono ?_
            rintro e w1 ⟨rfl, n1, rfl⟩
            have hs4 := HS9.out.drew n1
            generalize W9.drewN n1 = W4 at hs4 ⊢
            have HS4 := Lib.hid hs4
            clear hs4 c0 c1 f1 HIS HS9
            go_wp2_with (fail)
            go_ret3
            exact ⟨⟨#[]⟩, _, _, a0 + 1, rfl, by decide, by omega, fun _ => ⟨by omega, Calm.refl _ _⟩, HS4.out⟩
        by_cases h10 : r = 10
        · subst h10
          go_enter Try.func39, Try.ntmps39
          go_wp2_with (fail)
          refine (HR.out).mono ?_
          rintro e w1 ⟨rfl, m1, rfl⟩
          have hs1 := HS0.out.drew m1
          generalize w.drewN m1 = W1 at hs1 ⊢
          have HS1 := Lib.hid hs1
          clear hs1 HS0 c0 c1 HR
          have c0 := HS1.out.c0
          have c1 := HS1.out.c1
          have f1 := HS1.out.fz 1
          have HS9 := Lib.hid (HS1.out.set1 (a0 + 1))
          go_wp2_with (fail)
          go_ret3
          exact ⟨⟨#[]⟩, _, _, a0 + 1, rfl, by decide, by omega, fun _ => ⟨by omega, Calm.refl _ _⟩, HS9.out⟩
        have f98 : ((r : Int) == 98) = false := by simpa using (show ¬ (r : Int) = 98 by omega)
        have f116 : ((r : Int) == 116) = false := by simpa using (show ¬ (r : Int) = 116 by omega)
        have f110 : ((r : Int) == 110) = false := by simpa using (show ¬ (r : Int) = 110 by omega)
        have f118 : ((r : Int) == 118) = false := by simpa using (show ¬ (r : Int) = 118 by omega)
        have f102 : ((r : Int) == 102) = false := by simpa using (show ¬ (r : Int) = 102 by omega)
        have f114 : ((r : Int) == 114) = false := by simpa using (show ¬ (r : Int) = 114 by omega)
        have f120 : ((r : Int) == 120) = false := by simpa using (show ¬ (r : Int) = 120 by omega)
        have f117 : ((r : Int) == 117) = false := by simpa using (show ¬ (r : Int) = 117 by omega)
        have f13 : ((r : Int) == 13) = false := by simpa using (show ¬ (r : Int) = 13 by omega)
        have f10 : ((r : Int) == 10) = false := by simpa using (show ¬ (r : Int) = 10 by omega)
        have f8232 : ((r : Int) == 8232) = false := by simpa using (show ¬ (r : Int) = 8232 by omega)
        have f8233 : ((r : Int) == 8233) = false := by simpa using (show ¬ (r : Int) = 8233 by omega)
        clear h98 h116 h110 h118 h102 h114 h120 h117 h13 h10
        obtain ⟨dg, hdg, hD⟩ := digitC (r : Int)
        have HD := Lib.hid hD
        clear hD
        cases dg
        · clear hdg
          obtain ⟨u, hu, hU⟩ := unitsC (r : Int)
          have HU := Lib.hid hU
          clear hU
          go_enter Try.func39, Try.ntmps39
          go_wp2_with (fail)
          refine (HR.out).mono ?_
          rintro e w1 ⟨rfl, m1, rfl⟩
          have hs1 := HS0.out.drew m1
          generalize w.drewN m1 = W1 at hs1 ⊢
          have HS1 := Lib.hid hs1
          clear hs1 HS0 c0 c1 HR
          have c0 := HS1.out.c0
          have c1 := HS1.out.c1
          have f1 := HS1.out.fz 1
          have HS9 := Lib.hid ((HS1.out.set1 (a0 + 1)).drew 0)
          have hs9 := HS1.out.set1 (a0 + 1)
          rw [show ((a0 + 1 : Nat) : Int) = (a0 : Int) + 1 by omega] at hs9
          clear HS9
          go_wp2_with (fail)
          generalize W1.setCell ⟨g, 1, none⟩ (.int .i64 ((a0 : Int) + 1)) = W9 at hs9 ⊢
          refine (HD.out _).mono ?_
          rintro e w6 ⟨rfl, m6, rfl⟩
          have HS9 := Lib.hid (hs9.drew m6)
          clear hs9 HS1 c0 c1 f1 HD
          go_wp2_with (fail)
          refine (HU.out _).mono ?_
          rintro e w5 ⟨rfl, hb5⟩
          have HS5 := Lib.hid (HS9.out.below hb5)
          clear hb5 HU
          go_wp2_with (fail)
          go_ret3
          exact ⟨u, _, _, a0 + 1, rfl, hu, by omega, fun _ => ⟨by omega, Calm.refl _ _⟩, HS5.out⟩
        obtain ⟨d0, d1⟩ := hdg.1 rfl
        clear hdg
        by_cases hi1 : a0 + 1 < s.size
        · have hi2 : (a0 : Int) + 1 < s.size := by omega
          have b0 : (0 : Int) ≤ ((s[a0 + 1]'hi1).toNat : Int) := by omega
          have b1 : ((s[a0 + 1]'hi1).toNat : Int) ≤ 255 := by have := (s[a0 + 1]'hi1).toNat_lt; omega
          have e1 : IntKind.i64.wrap ((s[a0 + 1]'hi1).toNat : Int) = ((s[a0 + 1]'hi1).toNat : Int) := IntWalk.i64_in _ (by omega)
          have e2 : ((a0 : Int) + 1).toNat = a0 + 1 := by omega
          have e3 : (0 : Int) ≤ (a0 : Int) + 1 := by omega
          by_cases h48 : r = 48
          · subst h48
            obtain ⟨d2, hd2, hD2⟩ := digitC ((s[a0 + 1]'hi1).toNat : Int)
            have HD2 := Lib.hid hD2
            clear hD2
            cases d2
            · clear hd2
              go_enter Try.func39, Try.ntmps39
              go_wp2_with (fail)
              refine (HR.out).mono ?_
              rintro e w1 ⟨rfl, m1, rfl⟩
              have hs1 := HS0.out.drew m1
              generalize w.drewN m1 = W1 at hs1 ⊢
              have HS1 := Lib.hid hs1
              clear hs1 HS0 c0 c1 HR
              have c0 := HS1.out.c0
              have c1 := HS1.out.c1
              have f1 := HS1.out.fz 1
              have hs9 := HS1.out.set1 (a0 + 1)
              rw [show ((a0 + 1 : Nat) : Int) = (a0 : Int) + 1 by omega] at hs9
              go_wp2_with (fail)
              generalize W1.setCell ⟨g, 1, none⟩ (.int .i64 ((a0 : Int) + 1)) = W9 at hs9 ⊢
              refine (HD.out _).mono ?_
              rintro e w6 ⟨rfl, m6, rfl⟩
              have hs8 := hs9.drew m6
              generalize W9.drewN m6 = W8 at hs8 ⊢
              have HS8 := Lib.hid hs8
              clear hs8 hs9 HS1 c0 c1 f1 HD
              have c0 := HS8.out.c0
              have c1 := HS8.out.c1
              have ec : ((a0 + 1 : Nat) : Int) = (a0 : Int) + 1 := by omega
              rw [ec] at c1
              clear ec
              go_wp2_with (fail)
              go_quiet (fail)
              have hs7 := HS8.out.drew nq
              generalize W8.drewN nq = W7 at hs7 ⊢
              have HS7 := Lib.hid hs7
              clear hs7 HS8 c0 c1
              have c0 := HS7.out.c0
              have c1 := HS7.out.c1
              have ec : ((a0 + 1 : Nat) : Int) = (a0 : Int) + 1 := by omega
              rw [ec] at c1
              clear ec
              have f1 := HS7.out.fz 1
              go_wp2_with (fail)
              go_quiet (fail)
              have hs6 := HS7.out.drew nq
              generalize W7.drewN nq = W6 at hs6 ⊢
              have HS6 := Lib.hid hs6
              clear hs6 HS7 c0 c1 f1
              have c0 := HS6.out.c0
              have c1 := HS6.out.c1
              have ec : ((a0 + 1 : Nat) : Int) = (a0 : Int) + 1 := by omega
              rw [ec] at c1
              clear ec
              have f1 := HS6.out.fz 1
              go_wp2_with (fail)
              refine (HD2.out _).mono ?_
              rintro e w3 ⟨rfl, m3, rfl⟩
              have hs5 := HS6.out.drew m3
              generalize W6.drewN m3 = W5 at hs5 ⊢
              have HS6 := Lib.hid hs5
              clear hs5 HD2 c0 c1 f1
              have c0 := HS6.out.c0
              have c1 := HS6.out.c1
              have f1 := HS6.out.fz 1
              go_wp2_with (fail)
              obtain ⟨u, hu, hU⟩ := unitC (0 : Int)
              have HU := Lib.hid hU
              clear hU
              have HS9 := HS6
              refine (HU.out _).mono ?_
              rintro e w5 ⟨rfl, hb5⟩
              have HS5 := Lib.hid (HS9.out.below hb5)
              clear hb5 HU
              go_wp2_with (fail)
              go_ret3
              exact ⟨u, _, _, a0 + 1, rfl, hu, by omega, fun _ => ⟨by omega, Calm.refl _ _⟩, HS5.out⟩
            · clear hd2
              go_enter Try.func39, Try.ntmps39
              go_wp2_with (fail)
              refine (HR.out).mono ?_
              rintro e w1 ⟨rfl, m1, rfl⟩
              have hs1 := HS0.out.drew m1
              generalize w.drewN m1 = W1 at hs1 ⊢
              have HS1 := Lib.hid hs1
              clear hs1 HS0 c0 c1 HR
              have c0 := HS1.out.c0
              have c1 := HS1.out.c1
              have f1 := HS1.out.fz 1
              have hs9 := HS1.out.set1 (a0 + 1)
              rw [show ((a0 + 1 : Nat) : Int) = (a0 : Int) + 1 by omega] at hs9
              go_wp2_with (fail)
              generalize W1.setCell ⟨g, 1, none⟩ (.int .i64 ((a0 : Int) + 1)) = W9 at hs9 ⊢
              refine (HD.out _).mono ?_
              rintro e w6 ⟨rfl, m6, rfl⟩
              have hs8 := hs9.drew m6
              generalize W9.drewN m6 = W8 at hs8 ⊢
              have HS8 := Lib.hid hs8
              clear hs8 hs9 HS1 c0 c1 f1 HD
              have c0 := HS8.out.c0
              have c1 := HS8.out.c1
              have ec : ((a0 + 1 : Nat) : Int) = (a0 : Int) + 1 := by omega
              rw [ec] at c1
              clear ec
              go_wp2_with (fail)
              go_quiet (fail)
              have hs7 := HS8.out.drew nq
              generalize W8.drewN nq = W7 at hs7 ⊢
              have HS7 := Lib.hid hs7
              clear hs7 HS8 c0 c1
              have c0 := HS7.out.c0
              have c1 := HS7.out.c1
              have ec : ((a0 + 1 : Nat) : Int) = (a0 : Int) + 1 := by omega
              rw [ec] at c1
              clear ec
              have f1 := HS7.out.fz 1
              go_wp2_with (fail)
              go_quiet (fail)
              have hs6 := HS7.out.drew nq
              generalize W7.drewN nq = W6 at hs6 ⊢
              have HS6 := Lib.hid hs6
              clear hs6 HS7 c0 c1 f1
              have c0 := HS6.out.c0
              have c1 := HS6.out.c1
              have ec : ((a0 + 1 : Nat) : Int) = (a0 : Int) + 1 := by omega
              rw [ec] at c1
              clear ec
              have f1 := HS6.out.fz 1
              go_wp2_with (fail)
              refine (HD2.out _).mono ?_
              rintro e w3 ⟨rfl, m3, rfl⟩
              have hs5 := HS6.out.drew m3
              generalize W6.drewN m3 = W5 at hs5 ⊢
              have HS6 := Lib.hid hs5
              clear hs5 HD2 c0 c1 f1
              have c0 := HS6.out.c0
              have c1 := HS6.out.c1
              have f1 := HS6.out.fz 1
              go_wp2_with (fail)
              have HSA := Lib.hid (HS6.out.set1 a0)
              refine (octal w0 _ g s a0 b2 b3 b4 hs hin (by have := HRR.out; omega) HSA.out.1 HSA.out.2.1).mono ?_
              rintro e w2 ⟨v, a', rfl, q0, q1, q2, q3, q4, q5⟩
              have HSB := Lib.hid (HSA.out.trans q5)
              have HQ := Lib.hid (show Calm s (a0 + 1) a' from fun j j1 j2 => q4 j (by omega) j2)
              clear q4 q5 HSA HS6 c0 c1 f1
              obtain ⟨u, hu, hU⟩ := unitC v
              have HU := Lib.hid hU
              clear hU
              go_wp2_with (fail)
              refine (HU.out _).mono ?_
              rintro e w5 ⟨rfl, hb5⟩
              have HS5 := Lib.hid (HSB.out.below hb5)
              clear hb5 HU
              go_wp2_with (fail)
              go_ret3
              exact ⟨u, _, _, a', rfl, hu, q3, fun _ => ⟨by omega, HQ.out⟩, HS5.out⟩
          · have f48 : ((r : Int) == 48) = false := by simpa using (show ¬ (r : Int) = 48 by omega)
            by_cases h56 : (56 : Int) ≤ r
            · clear h48
              go_enter Try.func39, Try.ntmps39
              go_wp2_with (fail)
              refine (HR.out).mono ?_
              rintro e w1 ⟨rfl, m1, rfl⟩
              have hs1 := HS0.out.drew m1
              generalize w.drewN m1 = W1 at hs1 ⊢
              have HS1 := Lib.hid hs1
              clear hs1 HS0 c0 c1 HR
              have c0 := HS1.out.c0
              have c1 := HS1.out.c1
              have f1 := HS1.out.fz 1
              have hs9 := HS1.out.set1 (a0 + 1)
              rw [show ((a0 + 1 : Nat) : Int) = (a0 : Int) + 1 by omega] at hs9
              go_wp2_with (fail)
              generalize W1.setCell ⟨g, 1, none⟩ (.int .i64 ((a0 : Int) + 1)) = W9 at hs9 ⊢
              refine (HD.out _).mono ?_
              rintro e w6 ⟨rfl, m6, rfl⟩
              have hs8 := hs9.drew m6
              generalize W9.drewN m6 = W8 at hs8 ⊢
              have HS8 := Lib.hid hs8
              clear hs8 hs9 HS1 c0 c1 f1 HD
              have c0 := HS8.out.c0
              have c1 := HS8.out.c1
              have ec : ((a0 + 1 : Nat) : Int) = (a0 : Int) + 1 := by omega
              rw [ec] at c1
              clear ec
              go_wp2_with (fail)
              go_quiet (fail)
              have hs7 := HS8.out.drew nq
              generalize W8.drewN nq = W7 at hs7 ⊢
              have HS7 := Lib.hid hs7
              clear hs7 HS8 c0 c1
              have c0 := HS7.out.c0
              have c1 := HS7.out.c1
              have ec : ((a0 + 1 : Nat) : Int) = (a0 : Int) + 1 := by omega
              rw [ec] at c1
              clear ec
              have f1 := HS7.out.fz 1
              go_wp2_with (fail)
              go_quiet (fail)
              have hs6 := HS7.out.drew nq
              generalize W7.drewN nq = W6 at hs6 ⊢
              have HS6 := Lib.hid hs6
              clear hs6 HS7 c0 c1 f1
              have c0 := HS6.out.c0
              have c1 := HS6.out.c1
              have ec : ((a0 + 1 : Nat) : Int) = (a0 : Int) + 1 := by omega
              rw [ec] at c1
              clear ec
              have f1 := HS6.out.fz 1
              go_wp2_with (fail)
              obtain ⟨u, hu, hU⟩ := unitsC (r : Int)
              have HU := Lib.hid hU
              clear hU
              have HS9 := HS6
              refine (HU.out _).mono ?_
              rintro e w5 ⟨rfl, hb5⟩
              have HS5 := Lib.hid (HS9.out.below hb5)
              clear hb5 HU
              go_wp2_with (fail)
              go_ret3
              exact ⟨u, _, _, a0 + 1, rfl, hu, by omega, fun _ => ⟨by omega, Calm.refl _ _⟩, HS5.out⟩
            · have h57 : (r : Int) < 56 := by omega
              go_enter Try.func39, Try.ntmps39
              go_wp2_with (fail)
              refine (HR.out).mono ?_
              rintro e w1 ⟨rfl, m1, rfl⟩
              have hs1 := HS0.out.drew m1
              generalize w.drewN m1 = W1 at hs1 ⊢
              have HS1 := Lib.hid hs1
              clear hs1 HS0 c0 c1 HR
              have c0 := HS1.out.c0
              have c1 := HS1.out.c1
              have f1 := HS1.out.fz 1
              have hs9 := HS1.out.set1 (a0 + 1)
              rw [show ((a0 + 1 : Nat) : Int) = (a0 : Int) + 1 by omega] at hs9
              go_wp2_with (fail)
              generalize W1.setCell ⟨g, 1, none⟩ (.int .i64 ((a0 : Int) + 1)) = W9 at hs9 ⊢
              refine (HD.out _).mono ?_
              rintro e w6 ⟨rfl, m6, rfl⟩
              have hs8 := hs9.drew m6
              generalize W9.drewN m6 = W8 at hs8 ⊢
              have HS8 := Lib.hid hs8
              clear hs8 hs9 HS1 c0 c1 f1 HD
              have c0 := HS8.out.c0
              have c1 := HS8.out.c1
              have ec : ((a0 + 1 : Nat) : Int) = (a0 : Int) + 1 := by omega
              rw [ec] at c1
              clear ec
              go_wp2_with (fail)
              go_quiet (fail)
              have hs7 := HS8.out.drew nq
              generalize W8.drewN nq = W7 at hs7 ⊢
              have HS7 := Lib.hid hs7
              clear hs7 HS8 c0 c1
              have c0 := HS7.out.c0
              have c1 := HS7.out.c1
              have ec : ((a0 + 1 : Nat) : Int) = (a0 : Int) + 1 := by omega
              rw [ec] at c1
              clear ec
              have f1 := HS7.out.fz 1
              go_wp2_with (fail)
              go_quiet (fail)
              have hs6 := HS7.out.drew nq
              generalize W7.drewN nq = W6 at hs6 ⊢
              have HS6 := Lib.hid hs6
              clear hs6 HS7 c0 c1 f1
              have c0 := HS6.out.c0
              have c1 := HS6.out.c1
              have ec : ((a0 + 1 : Nat) : Int) = (a0 : Int) + 1 := by omega
              rw [ec] at c1
              clear ec
              have f1 := HS6.out.fz 1
              go_wp2_with (fail)
              have HSA := Lib.hid (HS6.out.set1 a0)
              refine (octal w0 _ g s a0 b2 b3 b4 hs hin (by have := HRR.out; omega) HSA.out.1 HSA.out.2.1).mono ?_
              rintro e w2 ⟨v, a', rfl, q0, q1, q2, q3, q4, q5⟩
              have HSB := Lib.hid (HSA.out.trans q5)
              have HQ := Lib.hid (show Calm s (a0 + 1) a' from fun j j1 j2 => q4 j (by omega) j2)
              clear q4 q5 HSA HS6 c0 c1 f1
              obtain ⟨u, hu, hU⟩ := unitC v
              have HU := Lib.hid hU
              clear hU
              go_wp2_with (fail)
              refine (HU.out _).mono ?_
              rintro e w5 ⟨rfl, hb5⟩
              have HS5 := Lib.hid (HSB.out.below hb5)
              clear hb5 HU
              go_wp2_with (fail)
              go_ret3
              exact ⟨u, _, _, a', rfl, hu, q3, fun _ => ⟨by omega, HQ.out⟩, HS5.out⟩
        · have hi2 : ¬ (a0 : Int) + 1 < s.size := by omega
          by_cases h48 : r = 48
          · subst h48
            obtain ⟨d2, hd2, hD2⟩ := digitC (0 : Int)
            have HD2 := Lib.hid hD2
            clear hD2
            cases d2
            · clear hd2
              go_enter Try.func39, Try.ntmps39
              go_wp2_with (fail)
              refine (HR.out).mono ?_
              rintro e w1 ⟨rfl, m1, rfl⟩
              have hs1 := HS0.out.drew m1
              generalize w.drewN m1 = W1 at hs1 ⊢
              have HS1 := Lib.hid hs1
              clear hs1 HS0 c0 c1 HR
              have c0 := HS1.out.c0
              have c1 := HS1.out.c1
              have f1 := HS1.out.fz 1
              have hs9 := HS1.out.set1 (a0 + 1)
              rw [show ((a0 + 1 : Nat) : Int) = (a0 : Int) + 1 by omega] at hs9
              go_wp2_with (fail)
              generalize W1.setCell ⟨g, 1, none⟩ (.int .i64 ((a0 : Int) + 1)) = W9 at hs9 ⊢
              refine (HD.out _).mono ?_
              rintro e w6 ⟨rfl, m6, rfl⟩
              have hs8 := hs9.drew m6
              generalize W9.drewN m6 = W8 at hs8 ⊢
              have HS8 := Lib.hid hs8
              clear hs8 hs9 HS1 c0 c1 f1 HD
              have c0 := HS8.out.c0
              have c1 := HS8.out.c1
              have ec : ((a0 + 1 : Nat) : Int) = (a0 : Int) + 1 := by omega
              rw [ec] at c1
              clear ec
              go_wp2_with (fail)
              go_quiet (fail)
              have hs7 := HS8.out.drew nq
              generalize W8.drewN nq = W7 at hs7 ⊢
              have HS7 := Lib.hid hs7
              clear hs7 HS8 c0 c1
              have c0 := HS7.out.c0
              have c1 := HS7.out.c1
              have ec : ((a0 + 1 : Nat) : Int) = (a0 : Int) + 1 := by omega
              rw [ec] at c1
              clear ec
              have f1 := HS7.out.fz 1
              go_wp2_with (fail)
              have HS6 := HS7
              clear HS7
              refine (HD2.out _).mono ?_
              rintro e w3 ⟨rfl, m3, rfl⟩
              have hs5 := HS6.out.drew m3
              generalize W7.drewN m3 = W5 at hs5 ⊢
              have HS6 := Lib.hid hs5
              clear hs5 HD2 c0 c1 f1
              have c0 := HS6.out.c0
              have c1 := HS6.out.c1
              have f1 := HS6.out.fz 1
              go_wp2_with (fail)
              obtain ⟨u, hu, hU⟩ := unitC (0 : Int)
              have HU := Lib.hid hU
              clear hU
              have HS9 := HS6
              refine (HU.out _).mono ?_
              rintro e w5 ⟨rfl, hb5⟩
              have HS5 := Lib.hid (HS9.out.below hb5)
              clear hb5 HU
              go_wp2_with (fail)
              go_ret3
              exact ⟨u, _, _, a0 + 1, rfl, hu, by omega, fun _ => ⟨by omega, Calm.refl _ _⟩, HS5.out⟩
            · exact absurd (hd2.1 rfl) (by omega)
          · have f48 : ((r : Int) == 48) = false := by simpa using (show ¬ (r : Int) = 48 by omega)
            by_cases h56 : (56 : Int) ≤ r
            · clear h48
              go_enter Try.func39, Try.ntmps39
              go_wp2_with (fail)
              refine (HR.out).mono ?_
              rintro e w1 ⟨rfl, m1, rfl⟩
              have hs1 := HS0.out.drew m1
              generalize w.drewN m1 = W1 at hs1 ⊢
              have HS1 := Lib.hid hs1
              clear hs1 HS0 c0 c1 HR
              have c0 := HS1.out.c0
              have c1 := HS1.out.c1
              have f1 := HS1.out.fz 1
              have hs9 := HS1.out.set1 (a0 + 1)
              rw [show ((a0 + 1 : Nat) : Int) = (a0 : Int) + 1 by omega] at hs9
              go_wp2_with (fail)
              generalize W1.setCell ⟨g, 1, none⟩ (.int .i64 ((a0 : Int) + 1)) = W9 at hs9 ⊢
              refine (HD.out _).mono ?_
              rintro e w6 ⟨rfl, m6, rfl⟩
              have hs8 := hs9.drew m6
              generalize W9.drewN m6 = W8 at hs8 ⊢
              have HS8 := Lib.hid hs8
              clear hs8 hs9 HS1 c0 c1 f1 HD
              have c0 := HS8.out.c0
              have c1 := HS8.out.c1
              have ec : ((a0 + 1 : Nat) : Int) = (a0 : Int) + 1 := by omega
              rw [ec] at c1
              clear ec
              go_wp2_with (fail)
              go_quiet (fail)
              have hs7 := HS8.out.drew nq
              generalize W8.drewN nq = W7 at hs7 ⊢
              have HS7 := Lib.hid hs7
              clear hs7 HS8 c0 c1
              have c0 := HS7.out.c0
              have c1 := HS7.out.c1
              have ec : ((a0 + 1 : Nat) : Int) = (a0 : Int) + 1 := by omega
              rw [ec] at c1
              clear ec
              have f1 := HS7.out.fz 1
              go_wp2_with (fail)
              have HS6 := HS7
              clear HS7
              obtain ⟨u, hu, hU⟩ := unitsC (r : Int)
              have HU := Lib.hid hU
              clear hU
              have HS9 := HS6
              refine (HU.out _).mono ?_
              rintro e w5 ⟨rfl, hb5⟩
              have HS5 := Lib.hid (HS9.out.below hb5)
              clear hb5 HU
              go_wp2_with (fail)
              go_ret3
              exact ⟨u, _, _, a0 + 1, rfl, hu, by omega, fun _ => ⟨by omega, Calm.refl _ _⟩, HS5.out⟩
            · have h57 : (r : Int) < 56 := by omega
              go_enter Try.func39, Try.ntmps39
              go_wp2_with (fail)
              refine (HR.out).mono ?_
              rintro e w1 ⟨rfl, m1, rfl⟩
              have hs1 := HS0.out.drew m1
              generalize w.drewN m1 = W1 at hs1 ⊢
              have HS1 := Lib.hid hs1
              clear hs1 HS0 c0 c1 HR
              have c0 := HS1.out.c0
              have c1 := HS1.out.c1
              have f1 := HS1.out.fz 1
              have hs9 := HS1.out.set1 (a0 + 1)
              rw [show ((a0 + 1 : Nat) : Int) = (a0 : Int) + 1 by omega] at hs9
              go_wp2_with (fail)
              generalize W1.setCell ⟨g, 1, none⟩ (.int .i64 ((a0 : Int) + 1)) = W9 at hs9 ⊢
              refine (HD.out _).mono ?_
              rintro e w6 ⟨rfl, m6, rfl⟩
              have hs8 := hs9.drew m6
              generalize W9.drewN m6 = W8 at hs8 ⊢
              have HS8 := Lib.hid hs8
              clear hs8 hs9 HS1 c0 c1 f1 HD
              have c0 := HS8.out.c0
              have c1 := HS8.out.c1
              have ec : ((a0 + 1 : Nat) : Int) = (a0 : Int) + 1 := by omega
              rw [ec] at c1
              clear ec
              go_wp2_with (fail)
              go_quiet (fail)
              have hs7 := HS8.out.drew nq
              generalize W8.drewN nq = W7 at hs7 ⊢
              have HS7 := Lib.hid hs7
              clear hs7 HS8 c0 c1
              have c0 := HS7.out.c0
              have c1 := HS7.out.c1
              have ec : ((a0 + 1 : Nat) : Int) = (a0 : Int) + 1 := by omega
              rw [ec] at c1
              clear ec
              have f1 := HS7.out.fz 1
              go_wp2_with (fail)
              have HS6 := HS7
              clear HS7
              have HSA := Lib.hid (HS6.out.set1 a0)
              refine (octal w0 _ g s a0 b2 b3 b4 hs hin (by have := HRR.out; omega) HSA.out.1 HSA.out.2.1).mono ?_
              rintro e w2 ⟨v, a', rfl, q0, q1, q2, q3, q4, q5⟩
              have HSB := Lib.hid (HSA.out.trans q5)
              have HQ := Lib.hid (show Calm s (a0 + 1) a' from fun j j1 j2 => q4 j (by omega) j2)
              clear q4 q5 HSA HS6 c0 c1 f1
              obtain ⟨u, hu, hU⟩ := unitC v
              have HU := Lib.hid hU
              clear hU
              go_wp2_with (fail)
              refine (HU.out _).mono ?_
              rintro e w5 ⟨rfl, hb5⟩
              have HS5 := Lib.hid (HSB.out.below hb5)
              clear hb5 HU
              go_wp2_with (fail)
              go_ret3
              exact ⟨u, _, _, a', rfl, hu, q3, fun _ => ⟨by omega, HQ.out⟩, HS5.out⟩
      · obtain ⟨r1, hcn⟩ := hhi (by omega)
        have hcalm : Calm s (a0 + 1) (a0 + n) := fun j j1 j2 => by have := hcn j (by omega) j2; omega
        have HCA := Lib.hid hcalm
        have r1i : (128 : Int) ≤ r := by omega
        have r2i : (r : Int) ≤ 1114111 := by omega
        clear hcn hcalm hhi hlo hb
        have f98 : ((r : Int) == 98) = false := by simpa using (show ¬ (r : Int) = 98 by omega)
        have f116 : ((r : Int) == 116) = false := by simpa using (show ¬ (r : Int) = 116 by omega)
        have f110 : ((r : Int) == 110) = false := by simpa using (show ¬ (r : Int) = 110 by omega)
        have f118 : ((r : Int) == 118) = false := by simpa using (show ¬ (r : Int) = 118 by omega)
        have f102 : ((r : Int) == 102) = false := by simpa using (show ¬ (r : Int) = 102 by omega)
        have f114 : ((r : Int) == 114) = false := by simpa using (show ¬ (r : Int) = 114 by omega)
        have f120 : ((r : Int) == 120) = false := by simpa using (show ¬ (r : Int) = 120 by omega)
        have f117 : ((r : Int) == 117) = false := by simpa using (show ¬ (r : Int) = 117 by omega)
        have f13 : ((r : Int) == 13) = false := by simpa using (show ¬ (r : Int) = 13 by omega)
        have f10 : ((r : Int) == 10) = false := by simpa using (show ¬ (r : Int) = 10 by omega)
        by_cases h8232 : r = 8232
        · subst h8232
          go_enter Try.func39, Try.ntmps39
          go_wp2_with (fail)
          refine (HR.out).mono ?_
          rintro e w1 ⟨rfl, m1, rfl⟩
          have hs1 := HS0.out.drew m1
          generalize w.drewN m1 = W1 at hs1 ⊢
          have HS1 := Lib.hid hs1
          clear hs1 HS0 c0 c1 HR
          have c0 := HS1.out.c0
          have c1 := HS1.out.c1
          have f1 := HS1.out.fz 1
          have hs9 := HS1.out.set1 (a0 + n)
          rw [← HSUM.out] at hs9
          have HS9 := Lib.hid hs9
          clear hs9
          go_wp2_with (fail)
          go_ret3
          exact ⟨⟨#[]⟩, _, _, a0 + n, rfl, by decide, by omega, fun _ => ⟨by omega, HCA.out⟩, HS9.out⟩
        by_cases h8233 : r = 8233
        · subst h8233
          go_enter Try.func39, Try.ntmps39
          go_wp2_with (fail)
          refine (HR.out).mono ?_
          rintro e w1 ⟨rfl, m1, rfl⟩
          have hs1 := HS0.out.drew m1
          generalize w.drewN m1 = W1 at hs1 ⊢
          have HS1 := Lib.hid hs1
          clear hs1 HS0 c0 c1 HR
          have c0 := HS1.out.c0
          have c1 := HS1.out.c1
          have f1 := HS1.out.fz 1
          have hs9 := HS1.out.set1 (a0 + n)
          rw [← HSUM.out] at hs9
          have HS9 := Lib.hid hs9
          clear hs9
          go_wp2_with (fail)
          go_ret3
          exact ⟨⟨#[]⟩, _, _, a0 + n, rfl, by decide, by omega, fun _ => ⟨by omega, HCA.out⟩, HS9.out⟩
        have f8232 : ((r : Int) == 8232) = false := by simpa using (show ¬ (r : Int) = 8232 by omega)
        have f8233 : ((r : Int) == 8233) = false := by simpa using (show ¬ (r : Int) = 8233 by omega)
        obtain ⟨dg, hdg, hD⟩ := digitC (r : Int)
        have HD := Lib.hid hD
        clear hD
        cases dg
        · clear hdg
          obtain ⟨u, hu, hU⟩ := unitsC (r : Int)
          have HU := Lib.hid hU
          clear hU
          go_enter Try.func39, Try.ntmps39
          go_wp2_with (fail)
          refine (HR.out).mono ?_
          rintro e w1 ⟨rfl, m1, rfl⟩
          have hs1 := HS0.out.drew m1
          generalize w.drewN m1 = W1 at hs1 ⊢
          have HS1 := Lib.hid hs1
          clear hs1 HS0 c0 c1 HR
          have c0 := HS1.out.c0
          have c1 := HS1.out.c1
          have f1 := HS1.out.fz 1
          have hs9 := HS1.out.set1 (a0 + n)
          rw [← HSUM.out] at hs9
          go_wp2_with (fail)
          generalize W1.setCell ⟨g, 1, none⟩ (.int .i64 ((a0 : Int) + n)) = W9 at hs9 ⊢
          refine (HD.out _).mono ?_
          rintro e w6 ⟨rfl, m6, rfl⟩
          have HS9 := Lib.hid (hs9.drew m6)
          clear hs9 HS1 c0 c1 f1 HD
          go_wp2_with (fail)
          refine (HU.out _).mono ?_
          rintro e w5 ⟨rfl, hb5⟩
          have HS5 := Lib.hid (HS9.out.below hb5)
          clear hb5 HU
          go_wp2_with (fail)
          go_ret3
          exact ⟨u, _, _, a0 + n, rfl, hu, by omega, fun _ => ⟨by omega, HCA.out⟩, HS5.out⟩
        · exact absurd (hdg.1 rfl) (by omega)
  · have hR := rune_out s a0 hin g w c0 c1
    have HR := Lib.hid hR
    clear hR
    go_enter Try.func39, Try.ntmps39
    go_wp2_with (fail)
    refine (HR.out).mono ?_
    rintro e w1 ⟨rfl, n1, rfl⟩
    have HS1 := Lib.hid (HS0.out.drew n1)
    clear HR HS0 c0 c1
    go_wp2_with (fail)
    go_ret3
    exact ⟨_, _, _, a0, rfl, by decide, ha, (fun h => by cases h), HS1.out⟩
end Go.Proofs.Ytnciphcnkbcncaa.fnRangeOfString
