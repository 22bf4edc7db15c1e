/-
  FnSemverTurns: the walk of splitOffNextPreReleasePart: the part ahead of the first dot, and what stands behind it.
  Conditions: texts of at most 2^31 - 1 bytes.
-/
import Derived.Test.YteokaphenmnckaaDoorFnSemverTurnsNumber
import Derived.Lib.IndexLaws
namespace Go.Proofs.YteokaphenmnckaaDoor.fnSemverTurns
open Go.RowKit Go.Proofs.YteokaphenmnckaaDoorW.PrintWords
set_option linter.unusedVariables false
set_option linter.unusedSimpArgs false

theorem split_none : ∀ l : List UInt8, Lib.indexByte l 46 = -1 → headOf l = l ∧ tailOf l = [] := by
  intro l
  induction l with
  | nil => intro _; exact ⟨rfl, rfl⟩
  | cons c r ih =>
    intro h
    unfold Lib.indexByte at h
    split at h
    · omega
    · rename_i hc
      have hc' : (c != 46) = true := by simpa using hc
      split at h
      · rename_i h1
        obtain ⟨i1, i2⟩ := ih (by simpa using h1)
        unfold headOf at i1 ⊢
        unfold tailOf at i2 ⊢
        rw [List.takeWhile_cons_of_pos (by exact hc'), List.dropWhile_cons_of_pos (by exact hc'), i1]
        exact ⟨rfl, i2⟩
      · have := Lib.indexByte_ge r 46
        omega
theorem split_some : ∀ (l : List UInt8) (i : Nat), Lib.indexByte l 46 = i → i < l.length ∧ headOf l = l.take i ∧ tailOf l = l.drop (i + 1) := by
  intro l
  induction l with
  | nil => intro i h; simp [Lib.indexByte] at h
  | cons c r ih =>
    intro i h
    unfold Lib.indexByte at h
    split at h
    · rename_i hc
      obtain rfl : i = 0 := by omega
      have hc' : ¬ (c != 46) = true := by simpa using hc
      unfold headOf tailOf
      rw [List.takeWhile_cons_of_neg (by exact hc'), List.dropWhile_cons_of_neg (by exact hc')]
      exact ⟨by simp, rfl, rfl⟩
    · rename_i hc
      have hc' : (c != 46) = true := by simpa using hc
      split at h
      · omega
      · obtain ⟨j, rfl⟩ : ∃ j, i = j + 1 := ⟨i - 1, by have := Lib.indexByte_ge r 46; rename_i h1; simp at h1; omega⟩
        obtain ⟨i0, i1, i2⟩ := ih j (by omega)
        unfold headOf at i1 ⊢
        unfold tailOf at i2 ⊢
        rw [List.takeWhile_cons_of_pos (by exact hc'), List.dropWhile_cons_of_pos (by exact hc'), i1]
        exact ⟨by simpa using i0, rfl, i2⟩
/-- what the call tells -/
def Parts (s : ByteArray) (e : Ending) : Prop := ∃ h t : ByteArray, e = .returned (.tuple #[.string h, .string t]) ∧ h.data.toList = headOf s.data.toList ∧ t.data.toList = tailOf s.data.toList
theorem extract_list (s : ByteArray) (a b : Nat) : (s.extract a b).data.toList = (s.data.toList.drop a).take (b - a) := by
  rw [ByteArray.data_extract, Array.toList_extract]
set_option maxHeartbeats 4000000 in
theorem split (s : ByteArray) (w : World) (hs : s.size ≤ 2147483647) :
    Calls Tryd.prog 9 #[.string s] w fun e w' => Parts s e ∧ Below w.heap.size w w' := by
  have s1 : (s.size : Int) ≤ 2147483647 := by omega
  have hge := Lib.indexByte_ge s.data.toList 46
  by_cases hi : Lib.indexByte s.data.toList 46 = -1
  · obtain ⟨h1, h2⟩ := split_none _ hi
    have H1 := Lib.hid h1
    have H2 := Lib.hid h2
    have HI := Lib.hid hi
    clear h1 h2 hi hge
    go_enter Tryd.func9, Tryd.ntmps9
    go_wp2_with (fail)
    refine (Tryd.strings_IndexByte _ _ _).mono ?_
    rintro e w1 ⟨rfl, rfl⟩
    rw [show (46 : Int).toNat.toUInt8 = 46 from rfl, HI.out]
    go_wp2_with (fail)
    go_ret2
    exact ⟨⟨s, _, rfl, H1.out.symm, by rw [H2.out]⟩, Below.refl _ _⟩
  · obtain ⟨i, hi2⟩ : ∃ i : Nat, Lib.indexByte s.data.toList 46 = i := ⟨(Lib.indexByte s.data.toList 46).toNat, by omega⟩
    obtain ⟨h0, h1, h2⟩ := split_some _ _ hi2
    have H1 := Lib.hid h1
    have H2 := Lib.hid h2
    have HI := Lib.hid hi2
    have h0' : i < s.size := by simpa using h0
    have hneg : ¬ (i : Int) = -1 := by omega
    have hneg2 : ((i : Int) != -1) = true := by simp
    have hle : (i : Int) ≤ s.size := by omega
    have hle2 : (i : Int) + 1 ≤ s.size := by omega
    have hz : (0 : Int) ≤ i := by omega
    clear h1 h2 hi hi2 hge h0
    go_enter Tryd.func9, Tryd.ntmps9
    go_wp2_with (fail)
    refine (Tryd.strings_IndexByte _ _ _).mono ?_
    rintro e w1 ⟨rfl, rfl⟩
    rw [show (46 : Int).toNat.toUInt8 = 46 from rfl, HI.out]
    go_wp2_with (fail)
    go_quiet (fail)
    go_wp2_with (fail)
    go_ret2
    exact ⟨⟨s.extract 0 i, s.extract (i + 1) s.size, rfl, by rw [H1.out, extract_list]; simp, by rw [H2.out, extract_list]; exact List.take_of_length_le (by simp)⟩, below_drewN (Below.refl _ _) _⟩
end Go.Proofs.YteokaphenmnckaaDoor.fnSemverTurns
