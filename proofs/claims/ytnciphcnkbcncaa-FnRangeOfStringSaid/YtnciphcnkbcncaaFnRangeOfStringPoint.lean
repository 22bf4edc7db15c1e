/-
  FnRangeOfString: the walks of the scanner's point and octal: they pass digits and braces alone.
  Conditions: texts of at most 2^12 bytes.
-/
import Derived.Test.YtnciphcnkbcncaaFnRangeOfStringSmall
namespace Go.Proofs.Ytnciphcnkbcncaa.fnRangeOfString
open Go.RowKit Go.Proofs.YtnciphcnkbcncaaW.PrintWords Go.Proofs.YtnciphcnkbcncaaW.PrintLast Go.Proofs.YtnciphcnkbcncaaW.PrintMore Go.Proofs.Ytnciphcnkbcncaa.PFnRangeOfString Go.Proofs.Ytnciphcnkbcncaa.runes
set_option linter.unusedVariables false
set_option linter.unusedSimpArgs false

theorem ret2_int {a : Int} {b c : Bool} (h : b = c) : Ending.returned (.tuple #[.int .i64 a, .bool b]) = .returned (.tuple #[.int .i64 a, .bool c]) := by rw [h]
def posOf (g : Nat) (w : World) : Nat := (intOf ((w.cell? ⟨g, 1, none⟩).getD (.int .i64 0))).toNat
theorem posOf_eq {w0 W W' : World} {g : Nat} {s : ByteArray} {a : Nat} {b2 b3 : Bool} {b4 : Int} (h : Sc w0 W W' g s a b2 b3 b4) : posOf g W' = a := by
  unfold posOf
  rw [h.c1]
  simp [intOf]
set_option maxHeartbeats 16000000 in
set_option maxRecDepth 100000 in
theorem point (w0 w : World) (g : Nat) (s : ByteArray) (a0 : Nat) (b2 b3 : Bool) (b4 : Int) (hs : s.size ≤ 4096) (ha : a0 ≤ s.size) (hI : IsS51 w0 w g s a0 b2 b3 b4) (hB : Below w0.heap.size w0 w) :
    Calls Try.prog 54 #[.pointer (some ⟨g, 0, none⟩)] w (Digs w0 w g s a0 b2 b3 b4 1114111) := by
  have HS0 := Lib.hid (Sc.start hI hB)
  clear hI hB
  have s1 : (s.size : Int) ≤ 4096 := by omega
  have c0 := HS0.out.c0
  have c1 := HS0.out.c1
  have his := isC g s ⟨#[123]⟩ a0 w hs ha (by decide) c0 c1
  rw [isb_one] at his
  by_cases hbr : a0 < s.size ∧ nb s a0 = 123
  · rw [decide_eq_true (show a0 < s.size ∧ nb s a0 = (123 : UInt8).toNat from hbr)] at his
    have HIS := Lib.hid his
    obtain ⟨hin, hb⟩ := hbr
    have HC1 := Lib.hid (Calm.one (s := s) (a := a0) (by omega))
    clear his hb
    have a0i : (0 : Int) ≤ a0 := by omega
    have a1i : (a0 : Int) < s.size := by omega
    go_enter Try.func54, Try.ntmps54
    go_wp2_with (fail)
    refine (HIS.out).mono ?_
    rintro e w1 ⟨rfl, n1, rfl⟩
    have hs1 := HS0.out.drew n1
    generalize w.drewN n1 = W1 at hs1 ⊢
    have HS1 := Lib.hid hs1
    clear hs1 c0 c1 HS0 HIS
    have c0 := HS1.out.c0
    have c1 := HS1.out.c1
    have f1 := HS1.out.fz 1
    go_wp2_with (fail)
    go_loopw [4, 5] (fun v4 v5 wr => ∃ (v : Int) (i a : Nat), v4 = .int .i64 v ∧ v5 = .int .i64 i ∧ 0 ≤ v ∧ v ≤ 1114112 ∧ a0 < a ∧ a ≤ s.size ∧ Hid (i ≤ a) ∧ Hid (Calm s a0 a) ∧ Hid (Sc w0 w wr g s a b2 b3 b4)) (fun _ _ wr => s.size - posOf g wr)
    case atStart => exact ⟨0, 0, a0 + 1, rfl, rfl, by decide, by decide, by omega, by omega, Lib.hid (by omega), HC1, Lib.hid (HS1.out.set1 (a0 + 1))⟩
    case round =>
      clear HS1 c0 c1 f1 HC1
      obtain ⟨v, i, a, rfl, rfl, v0, v1, ha0, has, HIA, HC, HS⟩ := hrel
      have a2i : (0 : Int) ≤ a := by omega
      have i0 : (0 : Int) ≤ i := by omega
      have i1 : (i : Int) ≤ 4096 := by have := HIA.out; omega
      have c0 := HS.out.c0
      have c1 := HS.out.c1
      have f1 := HS.out.fz 1
      by_cases hin : a < s.size
      · have hin' : (a : Int) < s.size := by omega
        obtain ⟨x, x1, x2, x3, hx⟩ := hexC (s[a]'hin).toNat ((s[a]'hin).toNat_lt)
        have HX := Lib.hid hx
        have b0 : (0 : Int) ≤ ((s[a]'hin).toNat : Int) := by omega
        have b1 : ((s[a]'hin).toNat : Int) ≤ 255 := by have := (s[a]'hin).toNat_lt; omega
        have e1 : IntKind.i64.wrap ((s[a]'hin).toNat : Int) = ((s[a]'hin).toNat : Int) := IntWalk.i64_in _ (by omega)
        clear hx
        by_cases hneg : 0 ≤ x
        · have HH : Hid (isHex (nb s a)) := Lib.hid (by rw [← byte_nb s a hin]; exact x3 hneg)
          have v4 : 0 ≤ 16 * v := by omega
          have v5 : 16 * v ≤ 17825792 := by omega
          have v6 : 0 ≤ 16 * v + x := by omega
          have v7 : 16 * v + x ≤ 17825807 := by omega
          have e2 : IntKind.i64.wrap (16 * v) = 16 * v := IntWalk.i64_in _ (by omega)
          have e3 : IntKind.i64.wrap (16 * v + x) = 16 * v + x := IntWalk.i64_in _ (by omega)
          clear x3
          go_wp2_with (fail)
          go_quiet (first | (go_at_call 46; refine Calls.quiet_of (HX.out _)))
          have hs1 := HS.out.drew nq
          have HM0 := Lib.hid (posOf_eq HS.out)
          generalize wr.drewN nq = W2 at hs1 ⊢
          have HS1 := Lib.hid hs1
          clear hs1 c0 c1 f1 HS
          have c0 := HS1.out.c0
          have c1 := HS1.out.c1
          have f1 := HS1.out.fz 1
          go_wp2_with (fail)
          go_quiet (first | (go_at_call 46; refine Calls.quiet_of (HX.out _)))
          obtain ⟨y, hy⟩ : ∃ y, y = (if 1114112 < 16 * v + x then 1114112 else 16 * v + x) := ⟨_, rfl⟩
          rw [← hy]
          have y0 : 0 ≤ y := by rw [hy]; split <;> omega
          have y1 : y ≤ 1114112 := by rw [hy]; split <;> omega
          have hs3 := HS1.out.drew nq
          generalize W2.drewN nq = W3 at hs3 ⊢
          have HS3 := Lib.hid hs3
          clear hs3 c0 c1 f1 HS1 hy v4 v5 v6 v7 e2 e3
          have c0 := HS3.out.c0
          have c1 := HS3.out.c1
          have f1 := HS3.out.fz 1
          go_wp2_with (fail)
          go_roundw
          case rel => exact ⟨y, i + 1, a + 1, rfl, by go_num, y0, y1, by omega, by omega, Lib.hid (by have := HIA.out; omega), Lib.hid (HC.out.trans HH.out.calm), Lib.hid (HS3.out.set1 (a + 1))⟩
          case measure =>
            have e := posOf_eq (HS3.out.set1 (a + 1))
            rw [show ((a + 1 : Nat) : Int) = (a : Int) + 1 by omega] at e
            rw [e, HM0.out]
            omega
        · have hneg' : x < 0 := by omega
          clear x3
          go_wp2_with (fail)
          go_quiet (first | (go_at_call 46; refine Calls.quiet_of (HX.out _)))
          have hs1 := HS.out.drew nq
          generalize wr.drewN nq = W2 at hs1 ⊢
          have HS1 := Lib.hid hs1
          clear hs1 c0 c1 f1 HS HX b0 b1 e1 x1
          have HIN := Lib.hid has
          have c0 := HS1.out.c0
          have c1 := HS1.out.c1
          have f1 := HS1.out.fz 1
          by_cases hi0 : i = 0
          · subst hi0
            go_wp2_with (fail)
            go_ret2
            exact ⟨0, false, a, rfl, by decide, by decide, by omega, has, HC.out, HS1.out⟩
          · have hi1 : ((i : Int) == 0) = false := by simpa using hi0
            have hi2 : ¬ (i : Int) = 0 := by omega
            by_cases hv : (1114111 : Int) < v
            · go_wp2_with (fail)
              go_ret2
              exact ⟨0, false, a, rfl, by decide, by decide, by omega, has, HC.out, HS1.out⟩
            · have hv1 : v ≤ 1114111 := by omega
              have his := isC g s ⟨#[125]⟩ a W2 hs has (by decide) c0 c1
              rw [isb_one] at his
              by_cases hbr : a < s.size ∧ nb s a = 125
              · rw [decide_eq_true (show a < s.size ∧ nb s a = (125 : UInt8).toNat from hbr)] at his
                have HIS := Lib.hid his
                have HC2 := Lib.hid (HC.out.trans (Calm.one (s := s) (a := a) (by omega)))
                have hal : a + 1 ≤ s.size := by omega
                have HAL := Lib.hid hal
                clear his hbr hal
                go_wp2_with (fail)
                refine (HIS.out).mono ?_
                rintro e w1 ⟨rfl, n1, rfl⟩
                have hs4 := HS1.out.drew n1
                generalize W2.drewN n1 = W4 at hs4 ⊢
                have HS4 := Lib.hid hs4
                clear hs4 c0 c1 f1 HIS HS1
                have c0 := HS4.out.c0
                have c1 := HS4.out.c1
                have f1 := HS4.out.fz 1
                go_wp2_with (fail)
                go_ret2
                exact ⟨v, true, a + 1, rfl, v0, hv1, by omega, HAL.out, HC2.out, HS4.out.set1 (a + 1)⟩
              · rw [decide_eq_false (show ¬ (a < s.size ∧ nb s a = (125 : UInt8).toNat) from hbr)] at his
                have HIS := Lib.hid his
                clear his hbr
                go_wp2_with (fail)
                refine (HIS.out).mono ?_
                rintro e w1 ⟨rfl, n1, rfl⟩
                have hs4 := HS1.out.drew n1
                generalize W2.drewN n1 = W4 at hs4 ⊢
                have HS4 := Lib.hid hs4
                clear hs4 c0 c1 f1 HIS HS1
                go_wp2_with (fail)
                go_ret2
                exact ⟨0, false, a, rfl, by decide, by decide, by omega, has, HC.out, HS4.out⟩
      · have hin' : ¬ (a : Int) < s.size := by omega
        go_wp2_with (fail)
        go_quiet (fail)
        have hs1 := HS.out.drew nq
        generalize wr.drewN nq = W2 at hs1 ⊢
        have HS1 := Lib.hid hs1
        clear hs1 c0 c1 f1 HS
        have c0 := HS1.out.c0
        have c1 := HS1.out.c1
        have f1 := HS1.out.fz 1
        by_cases hi0 : i = 0
        · subst hi0
          go_wp2_with (fail)
          go_ret2
          exact ⟨0, false, a, rfl, by decide, by decide, by omega, has, HC.out, HS1.out⟩
        · have hi1 : ((i : Int) == 0) = false := by simpa using hi0
          have hi2 : ¬ (i : Int) = 0 := by omega
          by_cases hv : (1114111 : Int) < v
          · go_wp2_with (fail)
            go_ret2
            exact ⟨0, false, a, rfl, by decide, by decide, by omega, has, HC.out, HS1.out⟩
          · have hv1 : v ≤ 1114111 := by omega
            have his := isC g s ⟨#[125]⟩ a W2 hs has (by decide) c0 c1
            rw [isb_one] at his
            by_cases hbr : a < s.size ∧ nb s a = 125
            · rw [decide_eq_true (show a < s.size ∧ nb s a = (125 : UInt8).toNat from hbr)] at his
              have HIS := Lib.hid his
              have HC2 := Lib.hid (HC.out.trans (Calm.one (s := s) (a := a) (by omega)))
              have hal : a + 1 ≤ s.size := by omega
              have HAL := Lib.hid hal
              clear his hbr hal
              go_wp2_with (fail)
              refine (HIS.out).mono ?_
              rintro e w1 ⟨rfl, n1, rfl⟩
              have hs4 := HS1.out.drew n1
              generalize W2.drewN n1 = W4 at hs4 ⊢
              have HS4 := Lib.hid hs4
              clear hs4 c0 c1 f1 HIS HS1
              have c0 := HS4.out.c0
              have c1 := HS4.out.c1
              have f1 := HS4.out.fz 1
              go_wp2_with (fail)
              go_ret2
              exact ⟨v, true, a + 1, rfl, v0, hv1, by omega, HAL.out, HC2.out, HS4.out.set1 (a + 1)⟩
            · rw [decide_eq_false (show ¬ (a < s.size ∧ nb s a = (125 : UInt8).toNat) from hbr)] at his
              have HIS := Lib.hid his
              clear his hbr
              go_wp2_with (fail)
              refine (HIS.out).mono ?_
              rintro e w1 ⟨rfl, n1, rfl⟩
              have hs4 := HS1.out.drew n1
              generalize W2.drewN n1 = W4 at hs4 ⊢
              have HS4 := Lib.hid hs4
              clear hs4 c0 c1 f1 HIS HS1
              go_wp2_with (fail)
              go_ret2
              exact ⟨0, false, a, rfl, by decide, by decide, by omega, has, HC.out, HS4.out⟩
  · rw [decide_eq_false (show ¬ (a0 < s.size ∧ nb s a0 = (123 : UInt8).toNat) from hbr)] at his
    have HIS := Lib.hid his
    clear his hbr
    go_enter Try.func54, Try.ntmps54
    go_wp2_with (fail)
    refine (HIS.out).mono ?_
    rintro e w1 ⟨rfl, n1, rfl⟩
    have hs1 := HS0.out.drew n1
    generalize w.drewN n1 = W1 at hs1 ⊢
    have HS1 := Lib.hid hs1
    clear hs1 c0 c1 HS0 HIS
    go_wp2_with (fail)
    refine (hex w0 W1 g s a0 b2 b3 b4 4 (by decide) hs ha HS1.out.1 HS1.out.2.1).mono ?_
    rintro e w2 ⟨r, ok, a', rfl, r0, r1, q1, q2, q3, q4⟩
    have HQ := Lib.hid (HS1.out.trans q4)
    have HC := Lib.hid q3
    clear q3 q4
    go_wp2_with (fail)
    go_ret2
    exact ⟨r, ok, a', rfl, r0, by omega, q1, q2, HC.out, HQ.out⟩
end Go.Proofs.Ytnciphcnkbcncaa.fnRangeOfString
