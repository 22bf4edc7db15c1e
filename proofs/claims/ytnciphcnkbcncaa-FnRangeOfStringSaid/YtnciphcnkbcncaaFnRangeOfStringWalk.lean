/-
  FnRangeOfString: the walks of impl.RangeOfString and of the law: it returns true at every input.
  Conditions: none.
-/
import Derived.Test.YtnciphcnkbcncaaFnRangeOfStringAt
import Derived.Test.YtnciphcnkbcncaaPFnRangeOfStringx3
namespace Go.Proofs.Ytnciphcnkbcncaa.fnRangeOfString
open Go.RowKit Go.Proofs.YtnciphcnkbcncaaW.PrintWords Go.Proofs.YtnciphcnkbcncaaW.PrintLast Go.Proofs.YtnciphcnkbcncaaW.PrintMore Go.Proofs.Ytnciphcnkbcncaa.PFnRangeOfString Go.Proofs.Ytnciphcnkbcncaa.runes
set_option linter.unusedVariables false
set_option linter.unusedSimpArgs false

theorem within (s : ByteArray) (a : Nat) (w : World) (hs : s.size ≤ 4096) (ha : a ≤ s.size) : Calls Try.prog 7 #[.string s, .int .i64 a, .int .i64 0] w fun e w' => e = .returned (.bool true) ∧ ∃ n, w' = w.drewN n := by
  have s1 : (s.size : Int) ≤ 4096 := by omega
  have a0 : (0 : Int) ≤ a := by omega
  have a1 : (a : Int) ≤ s.size := by omega
  have a2 : 0 ≤ (s.size : Int) - a := by omega
  go_enter Try.func7, Try.ntmps7
  go_wp2_with (fail)
  go_ret
  exact ⟨rfl, 0, rfl⟩
/-- a source that holds a text alone -/
def src (s : ByteArray) : Array Value := #[.string ⟨#[]⟩, .string ⟨#[]⟩, .string ⟨#[]⟩, .string s, .string ⟨#[]⟩, .string ⟨#[]⟩, .string ⟨#[]⟩, .string ⟨#[]⟩, .int .u8 0, .int .u32 0]
set_option maxHeartbeats 16000000 in
set_option maxRecDepth 100000 in
theorem implRange (w : World) (s : ByteArray) (a t : Nat) (hs : s.size ≤ 4096) (h1 : a < t) (h2 : t ≤ s.size) (h3 : nb s a = 34 ∨ nb s a = 39) (h4 : nb s (t - 1) = nb s a) (h5 : Reach s (nb s a) (a + 1) (t - 1)) :
    Calls Try.prog 4 #[.string s, .int .i64 a] w fun e w' => e = .returned (.tuple #[.int .i64 a, .int .i64 ((t : Int) - a)]) ∧ Below w.heap.size w w' := by
  have H := Lib.hid (fun w g hc => sourceRange w g s a t hs hc h1 h2 h3 h4 h5)
  have HW := Lib.hid (fun w => within s a w hs (by omega))
  have a0 : (0 : Int) ≤ a := by omega
  have a1 : (a : Int) ≤ 4096 := by omega
  have n0 : 0 ≤ (t : Int) - a := by omega
  have n1 : (t : Int) - a ≤ 4096 := by omega
  clear h1 h2 h3 h4 h5
  generalize (t : Int) - a = n at H n0 n1 ⊢
  go_enter Try.func4, Try.ntmps4
  go_wp2_with (fail)
  refine (HW.out _).mono ?_
  rintro e w1 ⟨rfl, m, rfl⟩
  have hb1 := pw_below_drewN (Below.refl w.heap.size w) m
  generalize w.drewN m = W1 at hb1 ⊢
  have HB1 := Lib.hid hb1
  clear hb1 HW
  go_wp2_with (fail)
  refine (H.out _ _ ?hc).mono ?_
  case hc => exact blk_cell (heap_alloc_new W1 (.cells (src s) 37)) 3
  rintro e w2 ⟨rfl, hb2⟩
  have hb3 : Below w.heap.size w w2 := (HB1.out.alloc HB1.out.size (.cells (src s) 37)).trans (hb2.mono (by have := HB1.out.size; simp; omega))
  have HB3 := Lib.hid (hb3.alloc hb3.size (.cells #[.int .i32 a, .int .i32 n] 41))
  have hh := heap_alloc_new w2 (.cells #[.int .i32 a, .int .i32 n] 41)
  have x0 : (w2.alloc (.cells #[.int .i32 a, .int .i32 n] 41)).cell? ⟨w2.heap.size, 0, none⟩ = some (.int .i32 a) := blk_cell hh 0
  have x1 : (w2.alloc (.cells #[.int .i32 a, .int .i32 n] 41)).cell? ⟨w2.heap.size, 1, none⟩ = some (.int .i32 n) := blk_cell hh 1
  have e1 : IntKind.i64.wrap (a : Int) = a := IntWalk.i64_in _ (by omega)
  have e2 : IntKind.i64.wrap n = n := IntWalk.i64_in _ (by omega)
  clear hb2 hb3 hh H
  go_wp2_with (fail)
  go_quiet (fail)
  go_wp2_with (fail)
  go_ret2
  exact ⟨rfl, pw_below_drewN HB3.out _⟩
def tA : ByteArray := ⟨#[39, 97, 39]⟩
theorem awakeC (w : World) : Calls Try.prog 4 #[.string tA, .int .i64 0] w fun e w' => e = .returned (.tuple #[.int .i64 0, .int .i64 3]) ∧ Below w.heap.size w w' :=
  implRange w tA 0 3 (by decide) (by decide) (by decide) (by decide) (by decide) (.plain (by decide) (by decide) (by decide) (.refl _))

set_option maxHeartbeats 16000000 in
set_option maxRecDepth 100000 in
theorem law (s : ByteArray) (at_ : Int) (w : World) : Calls Try.prog 3 #[.string s, .int .i64 at_] w fun e w' => e = .returned (.bool true) ∧ Below w.heap.size w w' := by
  by_cases hbig : (2147483647 : Int) < s.size
  · go_enter Try.func3, Try.ntmps3
    go_wp2_with (fail)
    go_ret
    exact ⟨rfl, Below.refl _ _⟩
  by_cases h4 : (4096 : Int) < s.size
  · have hbig' : (s.size : Int) ≤ 2147483647 := by omega
    go_enter Try.func3, Try.ntmps3
    go_wp2_with (fail)
    refine (awakeC _).mono ?_
    rintro e w1 ⟨rfl, hb⟩
    have HB := Lib.hid hb
    clear hb
    go_wp2_with (fail)
    go_ret
    exact ⟨rfl, HB.out⟩
  have hs : s.size ≤ 4096 := by omega
  have s1 : (s.size : Int) ≤ 4096 := by omega
  obtain ⟨k, hk⟩ := wf_f s (by omega)
  have HK := Lib.hid hk
  clear hk
  cases hw : wfb s s.size 0
  · rw [hw] at HK
    go_enter Try.func3, Try.ntmps3
    go_wp2_with (fail)
    refine (awakeC _).mono ?_
    rintro e w1 ⟨rfl, hb⟩
    have HB := Lib.hid hb
    clear hb
    go_wp2_with (fail)
    refine (spec_WellFormed.calls k s false _ HK.out).mono ?_
    rintro e w2 ⟨rfl, m, rfl⟩
    have HB2 := Lib.hid (pw_below_drewN HB.out m)
    clear HB
    go_wp2_with (fail)
    go_ret
    exact ⟨rfl, HB2.out⟩
  · rw [hw] at HK
    go_enter Try.func3, Try.ntmps3
    go_wp2_with (fail)
    refine (awakeC _).mono ?_
    rintro e w1 ⟨rfl, hb⟩
    have HB := Lib.hid hb
    clear hb
    go_wp2_with (fail)
    refine (spec_WellFormed.calls k s true _ HK.out).mono ?_
    rintro e w2 ⟨rfl, m, rfl⟩
    have HB2 := Lib.hid (pw_below_drewN HB.out m)
    clear HB
    go_wp2_with (fail)
    refine (stringAt _ s at_ hs).mono ?_
    rintro e w3 ⟨n, rfl, hl, hb3⟩
    have HB3 := Lib.hid (HB2.out.trans (hb3.mono HB2.out.size))
    clear hb3 HB2
    rcases hl with rfl | ⟨a, t, rfl, rfl, g1, g2, g3, g4, g5⟩
    · go_wp2_with (fail)
      go_ret
      exact ⟨rfl, HB3.out⟩
    · have HI := Lib.hid (fun w => implRange w s a t hs g1 g2 g3 g4 g5)
      have n0 : ((t : Int) - a == 0) = false := by rw [beq_eq_false_iff_ne]; omega
      clear g2 g3 g4 g5
      generalize (t : Int) - a = n at HI n0 ⊢
      go_wp2_with (fail)
      refine (HI.out _).mono ?_
      rintro e w4 ⟨rfl, hb4⟩
      have HB4 := Lib.hid (HB3.out.trans (hb4.mono HB3.out.size))
      clear hb4 HB3
      go_wp2_with (fail)
      go_ret
      exact ⟨rfl, HB4.out⟩
end Go.Proofs.Ytnciphcnkbcncaa.fnRangeOfString
