/-
  FnRangeOfString: the walks of the scanner's hex and point: they pass hexadecimal digits and braces alone.
  Conditions: texts of at most 2^12 bytes.
-/
import Derived.Test.YtnciphcnkbcncaaFnRangeOfStringPure
namespace Go.Proofs.Ytnciphcnkbcncaa.fnRangeOfString
open Go.RowKit Go.Proofs.YtnciphcnkbcncaaW.PrintWords Go.Proofs.YtnciphcnkbcncaaW.PrintLast Go.Proofs.YtnciphcnkbcncaaW.PrintMore Go.Proofs.Ytnciphcnkbcncaa.PFnRangeOfString Go.Proofs.Ytnciphcnkbcncaa.runes
set_option linter.unusedVariables false
set_option linter.unusedSimpArgs false

/-- what a call that passes digits leaves -/
def Digs (w0 w : World) (g : Nat) (s : ByteArray) (a : Nat) (b2 b3 : Bool) (b4 m : Int) (e : Ending) (w' : World) : Prop := ∃ (r : Int) (ok : Bool) (a' : Nat), e = .returned (.tuple #[.int .i64 r, .bool ok]) ∧ 0 ≤ r ∧ r ≤ m ∧ a ≤ a' ∧ a' ≤ s.size ∧ Calm s a a' ∧ Sc w0 w w' g s a' b2 b3 b4
theorem byte_nb (s : ByteArray) (a : Nat) (h : a < s.size) : (s[a]'h).toNat = nb s a := (nb_in s a h).symm
def cap16 (i : Nat) : Int := 16 ^ i - 1

set_option maxHeartbeats 8000000 in
set_option maxRecDepth 100000 in
theorem hex (w0 w : World) (g : Nat) (s : ByteArray) (a0 : Nat) (b2 b3 : Bool) (b4 : Int) (d : Nat) (hd : d ≤ 4) (hs : s.size ≤ 4096) (ha : a0 ≤ s.size) (hI : IsS51 w0 w g s a0 b2 b3 b4) (hB : Below w0.heap.size w0 w) :
    Calls Try.prog 53 #[.pointer (some ⟨g, 0, none⟩), .int .i64 d] w (Digs w0 w g s a0 b2 b3 b4 65535) := by
  have HS0 := Lib.hid (Sc.start hI hB)
  clear hI hB
  have hd1 : (d : Int) ≤ 4 := by omega
  have s1 : (s.size : Int) ≤ 4096 := by omega
  go_enter Try.func53, Try.ntmps53
  go_wp2_with (fail)
  go_loopw [6, 7] (fun v6 v7 wr => ∃ (v : Int) (i a : Nat), v6 = .int .i64 v ∧ v7 = .int .i64 i ∧ i ≤ d ∧ 0 ≤ v ∧ v ≤ 65535 ∧ Hid (v < 16 ^ i) ∧ a0 ≤ a ∧ a ≤ s.size ∧ Hid (Calm s a0 a) ∧ Hid (Sc w0 w wr g s a b2 b3 b4)) (fun _ v7 _ => d - (intOf v7).toNat)
  case atStart => exact ⟨0, 0, a0, rfl, rfl, Nat.zero_le _, by decide, by decide, Lib.hid (by decide), Nat.le_refl _, ha, Lib.hid (Calm.refl _ _), HS0⟩
  case round =>
    clear HS0
    obtain ⟨v, i, a, rfl, rfl, hi, v0, v1, HV, ha0, has, HC, HS⟩ := hrel
    by_cases hid : i < d
    · have hid' : (i : Int) < d := by omega
      have hi4 : (i : Int) ≤ 4 := by omega
      have a0i : (0 : Int) ≤ a := by omega
      have c0 := HS.out.c0
      have c1 := HS.out.c1
      have f1 := HS.out.fz 1
      by_cases hin : a < s.size
      · have hin' : (a : Int) < s.size := by omega
        have hin2 : ¬ (s.size : Int) ≤ a := by omega
        obtain ⟨x, x1, x2, x3, hx⟩ := hexC (s[a]'hin).toNat ((s[a]'hin).toNat_lt)
        have HX := Lib.hid hx
        have b0 : (0 : Int) ≤ ((s[a]'hin).toNat : Int) := by omega
        have b1 : ((s[a]'hin).toNat : Int) ≤ 255 := by have := (s[a]'hin).toNat_lt; omega
        clear hx
        by_cases hneg : x < 0
        · have e1 : IntKind.i64.wrap ((s[a]'hin).toNat : Int) = ((s[a]'hin).toNat : Int) := IntWalk.i64_in _ (by omega)
          clear x3
          go_wp2_with (fail)
          go_quiet (first | (go_at_call 46; refine Calls.quiet_of (HX.out _)))
          go_wp2_with (fail)
          go_ret2
          exact ⟨0, false, a, rfl, by decide, by decide, ha0, has, HC.out, HS.out.drew _⟩
        · have hx0 : 0 ≤ x := by omega
          have hhex : isHex (nb s a) := by rw [← byte_nb s a hin]; exact x3 hx0
          have hp : (16 : Int) ^ (i + 1) = 16 ^ i * 16 := Int.pow_succ 16 i
          have hp3 : (16 : Int) ^ (i + 1) ≤ 16 ^ 4 := by
            have := Nat.pow_le_pow_right (show 0 < 16 by decide) (show i + 1 ≤ 4 by omega)
            exact_mod_cast this
          have hp4 : (16 : Int) ^ 4 = 65536 := by decide
          have hV2 : 16 * v + x < 16 ^ (i + 1) := by have := HV.out; omega
          have v2 : 16 * v + x ≤ 65535 := by omega
          have v3 : 0 ≤ 16 * v + x := by omega
          have v4 : 0 ≤ 16 * v := by omega
          have v5 : 16 * v ≤ 65535 := by omega
          have HV2 := Lib.hid hV2
          have HH := Lib.hid hhex
          clear hp hp3 hp4 hV2 hhex x3
          have e1 : IntKind.i64.wrap ((s[a]'hin).toNat : Int) = ((s[a]'hin).toNat : Int) := IntWalk.i64_in _ (by omega)
          have e2 : IntKind.i64.wrap (16 * v) = 16 * v := IntWalk.i64_in _ (by omega)
          have e3 : IntKind.i64.wrap (16 * v + x) = 16 * v + x := IntWalk.i64_in _ (by omega)
          go_wp2_with (fail)
          go_quiet (first | (go_at_call 46; refine Calls.quiet_of (HX.out _)))
          have hs1 := HS.out.drew nq
          generalize wr.drewN nq = W1 at hs1 ⊢
          have HS1 := Lib.hid hs1
          clear hs1 c0 c1 f1 HS
          have c0 := HS1.out.c0
          have c1 := HS1.out.c1
          have f1 := HS1.out.fz 1
          go_wp2_with (fail)
          go_quiet (first | (go_at_call 46; refine Calls.quiet_of (HX.out _)))
          go_wp2_with (fail)
          go_roundw
          case rel => exact ⟨16 * v + x, i + 1, a + 1, rfl, by go_num, by omega, v3, v2, Lib.hid HV2.out, by omega, by omega, Lib.hid (HC.out.trans HH.out.calm), Lib.hid ((HS1.out.drew _).set1 (a + 1))⟩
          case measure => simp [intOf]; omega
      · have hin' : ¬ (a : Int) < s.size := by omega
        have hin2 : (s.size : Int) ≤ a := by omega
        go_wp2_with (fail)
        go_quiet (fail)
        go_wp2_with (fail)
        go_ret2
        exact ⟨0, false, a, rfl, by decide, by decide, ha0, has, HC.out, HS.out.drew _⟩
    · have hid' : ¬ (i : Int) < d := by omega
      go_wp2_with (fail)
      go_ret2
      exact ⟨v, true, a, rfl, v0, v1, ha0, has, HC.out, HS.out⟩
end Go.Proofs.Ytnciphcnkbcncaa.fnRangeOfString
