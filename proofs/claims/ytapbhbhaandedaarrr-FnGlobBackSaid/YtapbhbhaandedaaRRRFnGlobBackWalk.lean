/-
  FnGlobBack: the law's own walk: what the parts tell has the parts again; it answers true at every text.
  Conditions: none.
-/
import Derived.Test.YtapbhbhaandedaaRRRFnGlobBackTold
namespace Go.Proofs.YtapbhbhaandedaaRRR.fnGlobBack
open Go.RowKit Go.Proofs.YtapbhbhaandedaaRRRW.PrintWords
set_option linter.unusedVariables false
set_option linter.unusedSimpArgs false

/-- a text's parts, told -/
def out (s : ByteArray) : ByteArray := str (tell (parse s.size (by' s)))
theorem by_str (l : List UInt8) : by' (str l) = l := by
  show l.toArray.toList = l
  simp
theorem by_out (s : ByteArray) : by' (out s) = tell (parse s.size (by' s)) := by_str _
theorem out_size (s : ByteArray) : (out s).size ≤ 2 * s.size := by
  rw [← by_len, by_out, ← by_len s]
  exact tell_length _ _
theorem out_out (s : ByteArray) : out (out s) = out s := by
  show str (tell (parse (out s).size (by' (out s)))) = str (tell (parse s.size (by' s)))
  have h : (tell (parse s.size (by' s))).length = (out s).size := by rw [← by_len (out s), by_out]
  rw [by_out, told_back _ _ _ (by rw [by_len]; exact Nat.le_refl _) (by rw [h]; exact Nat.le_refl _)]
theorem text (s : ByteArray) (v : Value) (B : Nat) (w : World) (hs : s.size ≤ 4294967296) (h : w.ownsRow B 35 2 v (parse s.size (by' s)).length (cells .i64 (parse s.size (by' s)))) :
    Calls Try.prog 13 #[v] w fun e w' => e = .returned (.string (out s)) ∧ Below w.heap.size w w' :=
  globText _ v B w h (parse_ne _ _) (parse_wild _ _) (by have := tell_length s.size (by' s); rw [by_len] at this; omega) (by have := parse_len s.size (by' s); omega)
def ab : ByteArray := ⟨#[97, 47, 42, 98]⟩
theorem ab_eq : (ab.toList == [97, 47, 42, 98]) = true := by
  rw [ByteArray.toList_eq]
  decide
theorem out_ab : out ab = ab := by decide +kernel

set_option maxHeartbeats 8000000 in
theorem law (s : ByteArray) (w : World) : Calls Try.prog 5 #[.string s] w fun e w' => e = .returned (.bool true) ∧ Below w.heap.size w w' := by
  by_cases hsz : s.size ≤ 2147483647
  · have hs1 : (s.size:Int) ≤ 2147483647 := by omega
    have ho := out_size s
    go_enter Try.func5, Try.ntmps5
    go_wp2_with (go_at_call 14; refine (glob s _ (by omega)).mono ?_)
    rintro e w1 ⟨v, rfl, hown1, hb1⟩
    have HO1 := Lib.hid hown1
    have HB1 := Lib.hid hb1
    clear hown1 hb1
    go_wp2_with (go_at_call 13; refine (text s _ w.heap.size _ (by omega) HO1.out).mono ?_)
    rintro e w2 ⟨rfl, hb2⟩
    have HB2 := Lib.hid (HB1.out.trans (hb2.mono HB1.out.size))
    clear hb2
    go_wp2_with (go_at_call 14; refine (glob (out s) _ (by omega)).mono ?_)
    rintro e w3 ⟨v3, rfl, hown3, hb3⟩
    have HO3 := Lib.hid hown3
    have HB3 := Lib.hid (HB2.out.trans (hb3.mono HB2.out.size))
    clear hown3 hb3
    go_wp2_with (go_at_call 13; refine (text (out s) _ w2.heap.size _ (by omega) HO3.out).mono ?_)
    rintro e w4 ⟨rfl, hb4⟩
    have HB4 := Lib.hid (HB3.out.trans (hb4.mono HB3.out.size))
    clear hb4
    rw [out_out]
    go_wp2_with (go_at_call 14; refine (glob ab _ (by decide)).mono ?_)
    rintro e w5 ⟨v5, rfl, hown5, hb5⟩
    have HO5 := Lib.hid hown5
    have HB5 := Lib.hid (HB4.out.trans (hb5.mono HB4.out.size))
    clear hown5 hb5
    go_wp2_with (go_at_call 13; refine (text ab _ w4.heap.size _ (by decide) HO5.out).mono ?_)
    rintro e w6 ⟨rfl, hb6⟩
    have HB6 := Lib.hid (HB5.out.trans (hb6.mono HB5.out.size))
    clear hb6
    rw [out_ab]
    have hab := ab_eq
    go_wp2_with (fail)
    go_ret
    exact ⟨rfl, HB6.out⟩
  · have hs1 : ¬ (s.size:Int) ≤ 2147483647 := by omega
    have hs2 : (2147483647:Int) < s.size := by omega
    go_enter Try.func5, Try.ntmps5
    go_wp2
    go_ret
    exact ⟨rfl, Below.refl _ _⟩
end Go.Proofs.YtapbhbhaandedaaRRR.fnGlobBack
