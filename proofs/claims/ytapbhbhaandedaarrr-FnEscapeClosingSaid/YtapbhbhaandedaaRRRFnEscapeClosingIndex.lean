/-
  FnEscapeClosing: the search for the first place of a text in another (the stand-in for strings.Index in the package helpers).
  Conditions: texts of at most 2^31 - 1 bytes.
-/
import Derived.Test.YtapbhbhaandedaaRRRRows

import Derived.WalkKit
import Derived.WalkSmall
import Derived.Lib.Hide
import Derived.Lib.LastIndexLaws

namespace Go.Proofs.YtapbhbhaandedaaRRR.fnEscapeClosing
open Go.RowKit
set_option linter.unusedVariables false
set_option linter.unusedSimpArgs false

/-- op stands in s at j -/
def occ (s op : ByteArray) (j : Nat) : Bool := Lib.occAt s.data.toList op.data.toList j

theorem occ_test (s op : ByteArray) (j : Nat) (h : j + op.size ≤ s.size) : ((s.extract j (j + op.size)).toList == op.toList) = occ s op j := by
  rw [ByteArray.toList_eq, ByteArray.toList_eq]
  unfold occ Lib.occAt
  have e : (s.extract j (j + op.size)).data.toList = (s.data.toList.drop j).take op.data.toList.length := by
    rw [ByteArray.data_extract, Array.toList_extract]
    show ((s.data.toList.drop j).take (j + op.size - j)) = _
    rw [Nat.add_sub_cancel_left, Array.length_toList]
    rfl
  rw [e, Bool.eq_iff_iff]
  simp only [beq_iff_eq, List.isPrefixOf_iff_prefix]
  rw [List.prefix_iff_eq_take]
  exact ⟨fun h => h.symm, fun h => h.symm⟩

/-- the first place of op in s, or -1 -/
def First (s op : ByteArray) (r : Int) : Prop := (r = -1 ∧ ∀ j, j + op.size ≤ s.size → occ s op j = false) ∨ (∃ k : Nat, r = k ∧ k + op.size ≤ s.size ∧ occ s op k = true ∧ ∀ j, j < k → occ s op j = false)

set_option maxHeartbeats 4000000 in
theorem index (s op : ByteArray) (w : World) (hs : s.size ≤ 2147483647) (ho : op.size ≤ 2147483647) :
    Calls Try.prog 21 #[.string s, .string op] w fun e w' => (∃ r : Int, e = .returned (.int .i64 r) ∧ First s op r) ∧ w' = w := by
  go_enter Try.func21, Try.ntmps21
  go_wp2
  go_loopw [5] (fun v wr => ∃ n : Nat, v = .int .i64 n ∧ n ≤ s.size + 1 ∧ wr = w ∧ ∀ j, j < n → occ s op j = false) (fun v _ => s.size + 1 - (intOf v).toNat)
  case atStart => exact ⟨0, rfl, by omega, rfl, fun j h => by omega⟩
  case round =>
    obtain ⟨n, rfl, hn, rfl, hno⟩ := hrel
    have HNO := Lib.hid hno
    clear hno
    by_cases h : n + op.size ≤ s.size
    · have h1 : (n:Int) + op.size ≤ s.size := by omega
      have h0 : (0:Int) ≤ n := by omega
      have h2 : (n:Int) ≤ (n:Int) + op.size := by omega
      have ht := occ_test s op n h
      cases ho : occ s op n
      · rw [ho] at ht
        go_wp2_with (fail)
        go_roundw
        case rel =>
          refine ⟨n + 1, by simp, by omega, trivial, fun j hj => ?_⟩
          by_cases e : j = n
          · subst e; exact ho
          · exact HNO.out j (by omega)
        case measure =>
          simp only [intOf]
          omega
      · rw [ho] at ht
        go_wp2_with (fail)
        go_ret
        exact ⟨⟨n, rfl, .inr ⟨n, rfl, h, ho, HNO.out⟩⟩, rfl⟩
    · have h1 : ¬ (n:Int) + op.size ≤ s.size := by omega
      go_wp2_with (fail)
      go_ret
      exact ⟨⟨-1, rfl, .inl ⟨rfl, fun j hj => HNO.out j (by omega)⟩⟩, rfl⟩
end Go.Proofs.YtapbhbhaandedaaRRR.fnEscapeClosing
