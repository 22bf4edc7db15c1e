/-
  FnEscapeClosing: the law's walk.
  Conditions: none.
-/
import Derived.Test.YtapbhbhaandedaaRRRFnEscapeClosingEscape
import Derived.Test.YtapbhbhaandedaaRRRFnEscapeClosingFinds
namespace Go.Proofs.YtapbhbhaandedaaRRR.fnEscapeClosing
open Go.RowKit
set_option linter.unusedVariables false
set_option linter.unusedSimpArgs false

def out (s t : ByteArray) : ByteArray := ⟨(esc (by' t) (by' s)).toArray⟩
theorem by_out (s t : ByteArray) : by' (out s t) = esc (by' t) (by' s) := rfl
theorem out_size (s t : ByteArray) : (out s t).size ≤ 2 * s.size := by
  have := esc_len (by' t) (by' s)
  rw [by_len] at this
  have e : (out s t).size = (esc (by' t) (by' s)).length := by simp [out, ByteArray.size]
  omega
theorem impl (s t : ByteArray) (w : World) (hs : s.size ≤ 2147483647) (ht : t.size ≤ 2147483647) (htag : Tag (by' t)) :
    Calls Try.prog 11 #[.string s, .string t] w fun e w' => e = .returned (.string (out s t)) ∧ Below w.heap.size w w' := by
  have HT := Lib.hid htag
  clear htag
  go_enter Try.func11, Try.ntmps11
  go_wp2_with (go_at_call 16; refine (escape s t _ hs ht HT.out).mono ?_; rintro e w' ⟨rfl, hb⟩)
  go_ret
  exact ⟨rfl, hb⟩

def s0 : ByteArray := ⟨#[97, 60, 47, 115, 99, 114, 105, 112, 116, 62]⟩
def t0 : ByteArray := ⟨#[47, 115, 99, 114, 105, 112, 116]⟩
def l0 : ByteArray := ⟨#[60, 47, 115, 99, 114, 105, 112, 116]⟩
def o0 : ByteArray := ⟨#[97, 60, 92, 47, 115, 99, 114, 105, 112, 116, 62]⟩
theorem out0 : out s0 t0 = o0 := by
  show ByteArray.mk _ = ByteArray.mk _
  exact congrArg ByteArray.mk (congrArg List.toArray (by decide))
theorem tag0 : Tag (by' t0) := ⟨[115, 99, 114, 105, 112, 116], rfl, by simp, by decide⟩
theorem impl0 (w : World) : Calls Try.prog 11 #[.string ⟨#[97, 60, 47, 115, 99, 114, 105, 112, 116, 62]⟩, .string ⟨#[47, 115, 99, 114, 105, 112, 116]⟩] w fun e w' => e = .returned (.string ⟨#[97, 60, 92, 47, 115, 99, 114, 105, 112, 116, 62]⟩) ∧ Below w.heap.size w w' := by
  have := impl s0 t0 w (by decide) (by decide) tag0
  rw [out0] at this
  exact this
theorem finds0 (w : World) : Calls Try.prog 12 #[.string ⟨#[97, 60, 92, 47, 115, 99, 114, 105, 112, 116, 62]⟩, .string ⟨#[60, 47, 115, 99, 114, 105, 112, 116]⟩] w fun e w' => e = .returned (.int .i64 (-1)) ∧ Below w.heap.size w w' := by
  refine (finds o0 l0 w (by decide) (by decide)).mono ?_
  rintro e w' ⟨h, hb⟩
  rcases h with ⟨h, _⟩ | ⟨k, h, hk⟩
  · exact ⟨h, hb⟩
  · have : has (by' t0) (by' o0) = true := (has_iff _ _).2 ⟨k, hk⟩
    exact absurd this (by decide)

set_option maxHeartbeats 4000000 in
theorem awake (w : World) : Calls Try.prog 10 #[] w fun e w' => e = .returned (.bool true) ∧ Below w.heap.size w w' := by
  go_enter Try.func10, Try.ntmps10
  go_wp2_with (go_at_call 11; refine (impl0 _).mono ?_)
  rintro e w1 ⟨rfl, hb1⟩
  have HB1 := Lib.hid hb1
  clear hb1
  go_wp2_with (go_at_call 12; refine (finds0 _).mono ?_)
  rintro e w2 ⟨rfl, hb2⟩
  have HB2 := Lib.hid (HB1.out.trans (hb2.mono HB1.out.size))
  clear hb2
  go_wp2_with (fail)
  all_goals go_ret
  all_goals exact ⟨rfl, HB2.out⟩

theorem by_lt (t : ByteArray) : by' ((⟨#[60]⟩ : ByteArray) ++ t) = 60 :: by' t := by
  unfold by'
  rw [ByteArray.data_append, Array.toList_append]
  rfl
theorem lt_size (t : ByteArray) : ((⟨#[60]⟩ : ByteArray) ++ t).size = t.size + 1 := by
  rw [← by_len, by_lt, List.length_cons, by_len]
theorem findsOut (s t : ByteArray) (w : World) (hs : s.size ≤ 2147483647) (ht : t.size ≤ 2147483647) (htag : Tag (by' t)) :
    Calls Try.prog 12 #[.string (out s t), .string ((⟨#[60]⟩ : ByteArray) ++ t)] w fun e w' => e = .returned (.int .i64 (-1)) ∧ Below w.heap.size w w' := by
  have h1 := out_size s t
  have h2 := lt_size t
  refine (finds (out s t) _ w (by omega) (by omega)).mono ?_
  rintro e w' ⟨h, hb⟩
  rcases h with ⟨h, _⟩ | ⟨k, h, hk⟩
  · exact ⟨h, hb⟩
  · rw [by_lt, by_out] at hk
    have := (has_iff (by' t) _).2 ⟨k, hk⟩
    rw [no_more htag] at this
    cases this
theorem findsText (s t : ByteArray) (w : World) (hs : s.size ≤ 2147483647) (ht : t.size ≤ 2147483647) (htag : Tag (by' t)) :
    Calls Try.prog 12 #[.string s, .string ((⟨#[60]⟩ : ByteArray) ++ t)] w fun e w' => ((e = .returned (.int .i64 (-1)) ∧ out s t = s) ∨ ∃ k : Nat, e = .returned (.int .i64 k)) ∧ Below w.heap.size w w' := by
  have h2 := lt_size t
  refine (finds s _ w (by omega) (by omega)).mono ?_
  rintro e w' ⟨h, hb⟩
  rcases h with ⟨h, hn⟩ | ⟨k, h, hk⟩
  · refine ⟨.inl ⟨h, ?_⟩, hb⟩
    have hh : has (by' t) (by' s) = false := by
      cases hp : has (by' t) (by' s)
      · rfl
      · obtain ⟨j, hj⟩ := (has_iff (by' t) _).1 hp
        have hl := ((pre_iff _ _).1 hj).1
        rw [List.length_cons, List.length_drop, by_len, by_len] at hl
        have := hn j (by omega)
        rw [by_lt, hj] at this
        cases this
    have he := stays (by' s) hh
    unfold out
    rw [he]
    show ByteArray.mk s.data.toList.toArray = s
    rw [Array.toArray_toList]
  · exact ⟨.inr ⟨k, h⟩, hb⟩

set_option maxHeartbeats 4000000 in
theorem law (s t : ByteArray) (w : World) : Calls Try.prog 4 #[.string s, .string t] w fun e w' => e = .returned (.bool true) ∧ Below w.heap.size w w' := by
  by_cases hsz : s.size ≤ 2147483647 ∧ t.size ≤ 2147483647
  · obtain ⟨hs, ht⟩ := hsz
    have hs1 : (s.size:Int) ≤ 2147483647 := by omega
    have ht1 : (t.size:Int) ≤ 2147483647 := by omega
    go_enter Try.func4, Try.ntmps4
    go_wp2_with (go_at_call 9; refine (slash t _ ht).mono ?_)
    rintro e w1 ⟨⟨b, rfl, hb⟩, hw⟩
    have hw := hw.symm
    subst hw
    cases b
    · clear hb
      go_wp2_with (go_at_call 10; refine (awake _).mono ?_)
      rintro e w2 ⟨rfl, hb2⟩
      have HB2 := Lib.hid hb2
      clear hb2
      go_wp2_with (fail)
      go_ret
      exact ⟨rfl, HB2.out⟩
    · have HT := Lib.hid (hb rfl)
      clear hb
      go_wp2_with (go_at_call 11; refine (impl s t _ hs ht HT.out).mono ?_)
      rintro e w2 ⟨rfl, hb2⟩
      have HB2 := Lib.hid hb2
      clear hb2
      go_wp2_with (go_at_call 12; refine (findsOut s t _ hs ht HT.out).mono ?_)
      rintro e w3 ⟨rfl, hb3⟩
      have HB3 := Lib.hid (HB2.out.trans (hb3.mono HB2.out.size))
      clear hb3
      go_wp2_with (go_at_call 12; refine (findsText s t _ hs ht HT.out).mono ?_)
      intro e w4 h4
      obtain ⟨h4, hb4⟩ := h4
      have HB4 := Lib.hid (HB3.out.trans (hb4.mono HB3.out.size))
      clear hb4
      rcases h4 with ⟨rfl, ho⟩ | ⟨k, rfl⟩
      · have hq : ((out s t).toList == s.toList) = true := by rw [ho]; simp
        clear ho
        go_wp2_with (go_at_call 10; refine (awake _).mono ?_)
        rintro e w5 ⟨rfl, hb5⟩
        have HB5 := Lib.hid (HB4.out.trans (hb5.mono HB4.out.size))
        clear hb5
        go_wp2_with (fail)
        go_ret
        exact ⟨rfl, HB5.out⟩
      · have k0 : (0:Int) ≤ k := by omega
        go_wp2_with (go_at_call 10; refine (awake _).mono ?_)
        rintro e w5 ⟨rfl, hb5⟩
        have HB5 := Lib.hid (HB4.out.trans (hb5.mono HB4.out.size))
        clear hb5
        go_wp2_with (fail)
        go_ret
        exact ⟨rfl, HB5.out⟩
  · have h : ¬ (s.size:Int) ≤ 2147483647 ∨ ¬ (t.size:Int) ≤ 2147483647 := by omega
    have HH := Lib.hid h
    clear h hsz
    go_enter Try.func4, Try.ntmps4
    go_wp2_with (fail)
    all_goals first | (go_ret; exact ⟨rfl, Below.refl _ _⟩) | (exfalso; have := HH.out; omega)
end Go.Proofs.YtapbhbhaandedaaRRR.fnEscapeClosing
