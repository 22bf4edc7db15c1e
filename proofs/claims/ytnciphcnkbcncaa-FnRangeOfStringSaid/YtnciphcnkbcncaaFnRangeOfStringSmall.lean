/-
  FnRangeOfString: the walks of the scanner's is, rune and fail.
  Conditions: texts of at most 2^12 bytes.
-/
import Derived.Test.YtnciphcnkbcncaaFnRangeOfStringHex
namespace Go.Proofs.Ytnciphcnkbcncaa.fnRangeOfString
open Go.RowKit Go.Proofs.YtnciphcnkbcncaaW.PrintWords Go.Proofs.YtnciphcnkbcncaaW.PrintLast Go.Proofs.YtnciphcnkbcncaaW.PrintMore Go.Proofs.Ytnciphcnkbcncaa.PFnRangeOfString Go.Proofs.Ytnciphcnkbcncaa.runes
set_option linter.unusedVariables false
set_option linter.unusedSimpArgs false

/-- the text goes on with t -/
def isb (s : ByteArray) (a : Nat) (t : ByteArray) : Bool := decide (a + t.size ≤ s.size) && ((s.extract a (a + t.size)).toList == t.toList)
set_option maxHeartbeats 8000000 in
set_option maxRecDepth 100000 in
theorem isC (g : Nat) (s t : ByteArray) (a : Nat) (w : World) (hs : s.size ≤ 4096) (ha : a ≤ s.size) (ht : t.size ≤ 10) (c0 : w.cell? ⟨g, 0, none⟩ = some (.string s)) (c1 : w.cell? ⟨g, 1, none⟩ = some (.int .i64 a)) :
    Calls Try.prog 13 #[.pointer (some ⟨g, 0, none⟩), .string t] w fun e w' => e = .returned (.bool (isb s a t)) ∧ ∃ n, w' = w.drewN n := by
  have s1 : (s.size : Int) ≤ 4096 := by omega
  have a1 : (a : Int) ≤ s.size := by omega
  have a2 : (0 : Int) ≤ a := by omega
  have t1 : (t.size : Int) ≤ 10 := by omega
  have e1 : IntKind.i64.wrap ((s.size : Int) - a) = (s.size : Int) - a := IntWalk.i64_in _ (by omega)
  by_cases h : a + t.size ≤ s.size
  · have h1 : (t.size : Int) ≤ (s.size : Int) - a := by omega
    have h2 : (a : Int) + t.size ≤ s.size := by omega
    have h3 : (a : Int) ≤ (a : Int) + t.size := by omega
    have e2 : IntKind.i64.wrap ((a : Int) + t.size) = (a : Int) + t.size := IntWalk.i64_in _ (by omega)
    have e3 : ((a : Int) + (t.size : Int)).toNat = a + t.size := by omega
    cases hq : ((s.extract a (a + t.size)).toList == t.toList)
    · have HR := Lib.hid (show isb s a t = false by unfold isb; rw [hq]; simp)
      go_enter Try.func13, Try.ntmps13
      go_wp2_with (fail)
      go_quiet (fail)
      go_wp2_with (fail)
      go_ret
      exact ⟨by rw [HR.out]; rfl, _, rfl⟩
    · have HR := Lib.hid (show isb s a t = true by unfold isb; rw [hq]; simp; omega)
      go_enter Try.func13, Try.ntmps13
      go_wp2_with (fail)
      go_quiet (fail)
      go_wp2_with (fail)
      go_ret
      exact ⟨by rw [HR.out]; rfl, _, rfl⟩
  · have h1 : (s.size : Int) - a < (t.size : Int) := by omega
    have h4 : decide ((t.size : Int) ≤ (s.size : Int) - a) = false := decide_eq_false (by omega)
    have HR := Lib.hid (show isb s a t = false by unfold isb; rw [decide_eq_false h]; rfl)
    go_enter Try.func13, Try.ntmps13
    go_wp2_with (fail)
    go_quiet (fail)
    go_wp2_with (fail)
    go_ret
    exact ⟨by rw [HR.out]; rfl, _, rfl⟩
/-- a single byte -/
theorem isb_one (s : ByteArray) (a : Nat) (c : UInt8) : isb s a ⟨#[c]⟩ = decide (a < s.size ∧ nb s a = c.toNat) := by
  unfold isb
  have e1 : (⟨#[c]⟩ : ByteArray).size = 1 := rfl
  rw [e1]
  by_cases h : a < s.size
  · have e2 : (s.extract a (a + 1)).toList = [s[a]'h] := by
      rw [ByteArray.toList_eq, ByteArray.data_extract, Array.toList_extract]
      show ((s.data.toList.drop a).take (a + 1 - a)) = _
      have hl : a < s.data.toList.length := by simpa using h
      rw [Nat.add_sub_cancel_left, List.drop_eq_getElem_cons hl]
      rfl
    rw [e2, nb_in s a h, show (⟨#[c]⟩ : ByteArray).toList = [c] from by rw [ByteArray.toList_eq]]
    rw [Bool.eq_iff_iff]
    simp only [Bool.and_eq_true, decide_eq_true_eq, beq_iff_eq, List.cons.injEq, and_true]
    constructor
    · intro ⟨_, h2⟩
      exact ⟨h, by rw [h2]⟩
    · intro ⟨_, h2⟩
      exact ⟨h, UInt8.toNat_inj.1 h2⟩
  · rw [decide_eq_false (by omega), decide_eq_false (by omega)]
    rfl
/-- a first byte that is another one -/
theorem isb_other (s t : ByteArray) (a : Nat) (h0 : 0 < t.size) (h : nb s a ≠ nb t 0) (ha : a < s.size) : isb s a t = false := by
  unfold isb
  by_cases h1 : a + t.size ≤ s.size
  · rw [Bool.and_eq_false_iff]
    refine .inr ?_
    rw [beq_eq_false_iff_ne]
    intro e
    apply h
    have hl : a < s.data.toList.length := by simpa using ha
    have ht : 0 < t.data.toList.length := by simpa using h0
    have e2 : (s.extract a (a + t.size)).toList = s.data.toList[a] :: (s.data.toList.drop (a + 1)).take (t.size - 1) := by
      rw [ByteArray.toList_eq, ByteArray.data_extract, Array.toList_extract]
      show ((s.data.toList.drop a).take (a + t.size - a)) = _
      rw [Nat.add_sub_cancel_left, List.drop_eq_getElem_cons hl]
      obtain ⟨k, hk⟩ : ∃ k, t.size = k + 1 := ⟨t.size - 1, by omega⟩
      rw [hk, List.take_succ_cons, Nat.add_sub_cancel]
    have e3 : t.toList = t.data.toList[0] :: t.data.toList.drop 1 := by
      rw [ByteArray.toList_eq]
      have := List.drop_eq_getElem_cons ht
      rwa [List.drop_zero] at this
    rw [e2, e3] at e
    injection e with e4 _
    rw [nb_in s a ha, nb_in t 0 h0]
    show (s.data.toList[a]).toNat = (t.data.toList[0]).toNat
    rw [e4]
  · rw [decide_eq_false h1]; rfl

set_option maxHeartbeats 8000000 in
set_option maxRecDepth 100000 in
theorem runeC (g : Nat) (s : ByteArray) (a : Nat) (r n : Int) (w : World) (k : Nat) (h : spec_Rune.f k s a = some (r, n)) (c0 : w.cell? ⟨g, 0, none⟩ = some (.string s)) (c1 : w.cell? ⟨g, 1, none⟩ = some (.int .i64 a)) :
    Calls Try.prog 15 #[.pointer (some ⟨g, 0, none⟩)] w fun e w' => e = .returned (.tuple #[.int .i64 r, .int .i64 n]) ∧ ∃ n, w' = w.drewN n := by
  have hR : ∀ w, Calls Try.prog 9 #[.string s, .int .i64 a] w fun e w' => e = .returned (.tuple #[.int .i64 r, .int .i64 n]) ∧ ∃ n, w' = w.drewN n := fun w => (spec_Rune.calls k s a r n w h).mono fun e w' ⟨he, m, hm⟩ => ⟨he, m, hm⟩
  have HR := Lib.hid hR
  clear hR h
  go_enter Try.func15, Try.ntmps15
  go_wp2_with (fail)
  go_quiet (first | (go_at_call 9; refine Calls.quiet_of (HR.out _)))
  go_wp2_with (fail)
  go_ret2
  exact ⟨rfl, _, rfl⟩
/-- a rune in the text -/
def RuneIs (s : ByteArray) (a : Nat) (r n : Nat) : Prop := n = 0 ∨ (1 ≤ n ∧ n ≤ 4 ∧ a + n ≤ s.size ∧ r ≤ 1114111 ∧ (nb s a < 128 → r = nb s a ∧ n = 1) ∧ (128 ≤ nb s a → 128 ≤ r ∧ ∀ j, a ≤ j → j < a + n → 128 ≤ nb s j))
theorem rune_in (s : ByteArray) (a : Nat) (hs : s.size ≤ 4096) (ha : a < s.size) : ∃ r n : Nat, RuneIs s a r n ∧ ∀ g w, w.cell? ⟨g, 0, none⟩ = some (.string s) → w.cell? ⟨g, 1, none⟩ = some (.int .i64 a) → Calls Try.prog 15 #[.pointer (some ⟨g, 0, none⟩)] w fun e w' => e = .returned (.tuple #[.int .i64 r, .int .i64 n]) ∧ ∃ n, w' = w.drewN n := by
  obtain ⟨r, n, h, hr⟩ := rune_at s a ha
  refine ⟨r, n, hr, fun g w c0 c1 => runeC g s a r n w 10 ?_ c0 c1⟩
  rw [rune_ge s a 10 (Nat.le_refl _) (by omega) ha, h]
theorem rune_out (s : ByteArray) (a : Nat) (ha : ¬ a < s.size) (g : Nat) (w : World) (c0 : w.cell? ⟨g, 0, none⟩ = some (.string s)) (c1 : w.cell? ⟨g, 1, none⟩ = some (.int .i64 a)) : Calls Try.prog 15 #[.pointer (some ⟨g, 0, none⟩)] w fun e w' => e = .returned (.tuple #[.int .i64 0, .int .i64 0]) ∧ ∃ n, w' = w.drewN n := by
  refine runeC g s a 0 0 w 10 ?_ c0 c1
  unfold spec_Rune.f
  rw [if_neg (by omega), decide_eq_true (by omega)]
  rfl
set_option maxHeartbeats 8000000 in
theorem failC (w0 w W : World) (g : Nat) (s : ByteArray) (a : Nat) (b2 b3 : Bool) (what : Int) (h : Sc w0 W w g s a b2 b3 0) :
    Calls Try.prog 16 #[.pointer (some ⟨g, 0, none⟩), .int .i64 what] w fun e w' => e = .returned (.tuple #[]) ∧ Sc w0 W w' g s a b2 b3 what := by
  have c4 := h.c4
  have f4 := h.fz 4
  have HS := Lib.hid h
  clear h
  go_enter Try.func16, Try.ntmps16
  go_wp2_with (fail)
  first | go_end0 | ((try simp only [Exit.inBlock, Exit.then]); refine bodyPost_ret (results_none rfl _ _ _) rfl ?_)
  exact ⟨rfl, HS.out.1.set_4 what, below_set HS.out.2.1 HS.out.1.ge, HS.out.2.2.set_ _ _⟩
end Go.Proofs.Ytnciphcnkbcncaa.fnRangeOfString
