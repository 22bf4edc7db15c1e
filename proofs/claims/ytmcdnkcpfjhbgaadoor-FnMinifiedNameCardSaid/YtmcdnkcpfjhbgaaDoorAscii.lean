/-
  What spec.NameAscii says of a name of ASCII: true.
  Conditions: the text begins with a letter and goes on with letters and digits.
-/
import Derived.Test.YtmcdnkcpfjhbgaaDoorRows
import Derived.WalkKit
import Derived.Lib.Hide
import Derived.Deep.QuietTactic
import Derived.BigQuiet
namespace Go.Proofs.YtmcdnkcpfjhbgaaDoor.ascii
open Go.RowKit
set_option linter.unusedVariables false

def Letter (c : Int) : Prop := 97 ≤ c ∧ c ≤ 122 ∨ 65 ≤ c ∧ c ≤ 90 ∨ c = 36 ∨ c = 95
def Part (c : Int) : Prop := Letter c ∨ 48 ≤ c ∧ c ≤ 57

set_option maxHeartbeats 1000000 in
theorem begins (c : Int) (w : World) (h : Letter c) : Calls Tryd.prog 9 #[.int .i64 c] w fun e w' => e = .returned (.bool true) ∧ w' = w := by
  rcases h with ⟨h1, h2⟩ | ⟨h1, h2⟩ | rfl | rfl
  · go_enter Tryd.func9, Tryd.ntmps9
    go_wp2
    go_ret
    exact ⟨rfl, rfl⟩
  · have h3 : c < 97 := by omega
    go_enter Tryd.func9, Tryd.ntmps9
    go_wp2
    go_ret
    exact ⟨rfl, rfl⟩
  · go_enter Tryd.func9, Tryd.ntmps9
    go_wp2
    go_ret
    exact ⟨rfl, rfl⟩
  · go_enter Tryd.func9, Tryd.ntmps9
    go_wp2
    go_ret
    exact ⟨rfl, rfl⟩
set_option maxHeartbeats 1000000 in
theorem goesOn (c : Int) (w : World) (h : Part c) : Calls Tryd.prog 8 #[.int .i64 c] w fun e w' => e = .returned (.bool true) ∧ w' = w := by
  rcases h with h | ⟨h1, h2⟩
  · go_enter Tryd.func8, Tryd.ntmps8
    go_wp2_with (go_at_call 9; refine (begins _ _ h).mono ?_; rintro e w' ⟨rfl, rfl⟩)
    go_ret
    exact ⟨rfl, rfl⟩
  · have h3 : c < 65 := by omega
    have h4 : c < 97 := by omega
    have h5 : (c == 36) = false := by simp; omega
    have h6 : (c == 95) = false := by simp; omega
    go_enter Tryd.func8, Tryd.ntmps8
    go_wp2
    go_ret
    exact ⟨rfl, rfl⟩

theorem w8 (b : UInt8) : wrap64 (b.toNat : Int) = (b.toNat : Int) := by
  have := b.toNat_lt
  unfold wrap64; omega
theorem begins8 (b : UInt8) (w : World) (h : Letter b.toNat) : Calls Tryd.prog 9 #[.int .i64 (wrap64 b.toNat)] w fun e w' => e = .returned (.bool true) ∧ w' = w := by rw [w8]; exact begins _ w h
theorem goesOn8 (b : UInt8) (w : World) (h : Part b.toNat) : Calls Tryd.prog 8 #[.int .i64 (wrap64 b.toNat)] w fun e w' => e = .returned (.bool true) ∧ w' = w := by rw [w8]; exact goesOn _ w h

/-- a name of ASCII -/
def Name (s : ByteArray) : Prop := 0 < s.size ∧ ∀ (k : Nat) (h : k < s.size), Part ((s[k]'h).toNat : Int) ∧ (k = 0 → Letter ((s[k]'h).toNat : Int))

set_option maxHeartbeats 1000000 in
theorem nameAscii (s : ByteArray) (w : World) (hs : s.size ≤ maxLen) (h : Name s) : Calls Tryd.prog 6 #[.string s] w fun e w' => e = .returned (.bool true) ∧ w' = w := by
  unfold maxLen at hs
  obtain ⟨hpos, hall⟩ := h
  have hne : ¬ s.toList = [] := by
    intro e
    rw [ByteArray.toList_eq] at e
    have : s.data.toList.length = 0 := by rw [e]; rfl
    rw [Array.length_toList] at this
    exact absurd this (by show s.size ≠ 0; omega)
  have hne2 : (!s.toList.isEmpty) = true := by simpa using hne
  go_enter Tryd.func6, Tryd.ntmps6
  go_wp2
  go_loop [3] (fun i => ∃ k : Nat, k ≤ s.size ∧ i = .int .i64 k) (fun i => s.size - (intOf i).toNat)
  case atStart => exact ⟨0, Nat.zero_le _, rfl⟩
  case round =>
    obtain ⟨k, hk, rfl⟩ := hrel
    by_cases hlt : k < s.size
    · have hp := (hall k hlt).1
      have hl := (hall k hlt).2
      have HP := Lib.hid hp
      have HL := Lib.hid hl
      have HA := Lib.hid hall
      have HN := Lib.hid hne
      have HN2 := Lib.hid hne2
      clear hp hl hall hne hne2
      by_cases h0 : k = 0
      · subst h0
        go_wp2_with (fail)
        refine (goesOn8 _ _ HP.out).mono ?_
        rintro e w' ⟨rfl, rfl⟩
        go_wp2_with (fail)
        refine (begins8 _ _ (HL.out (by first | rfl | trivial))).mono ?_
        rintro e w' ⟨rfl, rfl⟩
        go_wp2_with (fail)
        go_round
        case rel => exact ⟨1, by omega, by go_num⟩
        case measure => simp [intOf]; omega
      · have hk0 : ((k : Int) == 0) = false := by simp; omega
        go_wp2_with (fail)
        refine (goesOn8 _ _ HP.out).mono ?_
        rintro e w' ⟨rfl, rfl⟩
        go_wp2_with (fail)
        go_round
        case rel => exact ⟨k + 1, by omega, by go_num⟩
        case measure => simp [intOf]; omega
    · go_wp2
      go_ret
      exact ⟨rfl, rfl⟩
end Go.Proofs.YtmcdnkcpfjhbgaaDoor.ascii
