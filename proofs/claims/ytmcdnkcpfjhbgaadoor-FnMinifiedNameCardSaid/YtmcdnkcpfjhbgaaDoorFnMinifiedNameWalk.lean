/-
  FnMinifiedName: the short names of two numbers from 0 to 2^30 are names, and they are the same name only where the numbers are the same.
  Conditions: the default minifier's two strings hold what the row's cell 'laid' says.
-/
import Derived.Test.YtmcdnkcpfjhbgaaDoorFnMinifiedNameNumber
import Derived.Test.YtmcdnkcpfjhbgaaDoorAscii
namespace Go.Proofs.YtmcdnkcpfjhbgaaDoor.fnMinifiedName
open Go.RowKit
set_option linter.unusedVariables false
set_option linter.unusedSimpArgs false

theorem hb_inj : ∀ a, a < 54 → ∀ b, b < 54 → hb.getD a 0 = hb.getD b 0 → a = b := by decide +kernel
theorem tb_inj : ∀ a, a < 64 → ∀ b, b < 64 → tb.getD a 0 = tb.getD b 0 → a = b := by decide +kernel
def letterB (b : UInt8) : Bool := decide (97 ≤ b.toNat ∧ b.toNat ≤ 122 ∨ 65 ≤ b.toNat ∧ b.toNat ≤ 90 ∨ b.toNat = 36 ∨ b.toNat = 95)
def partB (b : UInt8) : Bool := letterB b || decide (48 ≤ b.toNat ∧ b.toNat ≤ 57)
theorem hb_letter : ∀ a, a < 54 → letterB (hb.getD a 0) = true := by decide +kernel
theorem tb_part : ∀ a, a < 64 → partB (tb.getD a 0) = true := by decide +kernel
theorem letter_of {b : UInt8} (h : letterB b = true) : ascii.Letter (b.toNat : Int) := by
  simp only [letterB, decide_eq_true_eq] at h
  unfold ascii.Letter
  omega
theorem part_of {b : UInt8} (h : partB b = true) : ascii.Part (b.toNat : Int) := by
  simp only [partB, Bool.or_eq_true, decide_eq_true_eq] at h
  rcases h with h | h
  · exact .inl (letter_of h)
  · right; omega

theorem more_inj : ∀ (f g n m : Nat), n ≤ f → m ≤ g → more f n = more g m → n = m := by
  intro f
  induction f with
  | zero =>
    intro g n m h1 h2 h
    obtain rfl : n = 0 := by omega
    cases g with
    | zero => omega
    | succ g =>
      unfold more at h
      by_cases hm : m = 0
      · exact hm.symm
      · simp [hm] at h
  | succ f ih =>
    intro g n m h1 h2 h
    cases g with
    | zero =>
      obtain rfl : m = 0 := by omega
      unfold more at h
      by_cases hn : n = 0
      · exact hn
      · simp [hn] at h
    | succ g =>
      unfold more at h
      by_cases hn : n = 0
      · by_cases hm : m = 0
        · omega
        · simp [hn, hm] at h
      · by_cases hm : m = 0
        · simp [hn, hm] at h
        · rw [if_neg hn, if_neg hm] at h
          have h3 := tb_inj _ (by omega) _ (by omega) (List.cons.inj h).1
          have h4 := ih g ((n - 1) / 64) ((m - 1) / 64) (by omega) (by omega) (List.cons.inj h).2
          omega
theorem mini_inj (a b : Nat) (h : mini a = mini b) : a = b := by
  unfold mini at h
  have h3 := hb_inj _ (by omega) _ (by omega) (List.cons.inj h).1
  have h4 := more_inj a b (a / 54) (b / 54) (by omega) (by omega) (List.cons.inj h).2
  omega
theorem more_part : ∀ (f n : Nat), ∀ b ∈ more f n, partB b = true := by
  intro f
  induction f with
  | zero => intro n b hb; simp [more] at hb
  | succ f ih =>
    intro n b hb
    unfold more at hb
    split at hb
    · simp at hb
    · rcases List.mem_cons.1 hb with rfl | hb
      · exact tb_part _ (by omega)
      · exact ih _ b hb
theorem more_length : ∀ (f n : Nat), (more f n).length ≤ n := by
  intro f
  induction f with
  | zero => intro n; simp [more]
  | succ f ih =>
    intro n
    unfold more
    split
    · simp
    · have := ih ((n - 1) / 64)
      simp only [List.length_cons]
      omega
theorem mini_length (i : Nat) : (mini i).length ≤ i + 1 := by
  have := more_length i (i / 54)
  simp only [mini, List.length_cons]
  omega
theorem mini_name (i : Nat) : ascii.Name ⟨(mini i).toArray⟩ := by
  refine ⟨by simp [mini, ByteArray.size], fun k h => ?_⟩
  have e : (⟨(mini i).toArray⟩ : ByteArray)[k]'h = (mini i)[k]'(by simpa [ByteArray.size] using h) := by
    show (mini i).toArray[k]'_ = _
    simp
  rw [e]
  cases k with
  | zero =>
    have hl := hb_letter (i % 54) (by omega)
    exact ⟨.inl (letter_of hl), fun _ => letter_of hl⟩
  | succ k =>
    refine ⟨part_of ?_, fun h => by omega⟩
    have hk : k < (more i (i / 54)).length := by simpa [mini, ByteArray.size] using h
    show partB ((mini i)[k + 1]) = true
    simp only [mini, List.getElem_cons_succ]
    exact more_part _ _ _ (List.getElem_mem hk)

/-- what the row says of the minifier -/
structure Table (w : World) : Prop where
  h : w.cell? ⟨0, 0, none⟩ = some (.string H)
  t : w.cell? ⟨0, 1, none⟩ = some (.string T)

theorem Table.below {w w' : World} (h : Table w) (hb : Below w.heap.size w w') : Table w' := by
  have hz : 0 < w.heap.size := by
    have := h.h
    simp only [World.cell?] at this
    cases hh : w.heap[0]? with
    | none => simp [hh] at this
    | some o => exact (Array.getElem?_eq_some_iff.1 hh).1
  exact ⟨(hb.cell (p := ⟨0, 0, none⟩) hz).trans h.h, (hb.cell (p := ⟨0, 1, none⟩) hz).trans h.t⟩

set_option maxHeartbeats 4000000 in
theorem impl (i : Nat) (hi : i ≤ 1073741824) (w : World) (ht : Table w) : Calls Tryd.prog 4 #[.int .i64 i] w fun e w' => e = .returned (.string ⟨(mini i).toArray⟩) ∧ Below w.heap.size w w' := by
  obtain ⟨h0, h1⟩ := ht
  go_enter Tryd.func4, Tryd.ntmps4
  go_wp2_with (go_at_call 7; refine (number i hi _).mono ?_; rintro e w' ⟨rfl, hb⟩)
  go_ret
  exact ⟨rfl, hb⟩

theorem short (a : Int) (h1 : 0 ≤ a) (h2 : a ≤ 1073741824) (w : World) : Calls Tryd.prog 5 #[.int .i64 a] w fun e w' => e = .returned (.bool true) ∧ w' = w := by
  go_enter Tryd.func5, Tryd.ntmps5
  go_wp2
  go_ret
  exact ⟨rfl, rfl⟩
theorem long (a : Int) (h : ¬ (0 ≤ a ∧ a ≤ 1073741824)) (w : World) : Calls Tryd.prog 5 #[.int .i64 a] w fun e w' => e = .returned (.bool false) ∧ w' = w := by
  by_cases h1 : 0 ≤ a
  · have h3 : 1073741824 < a := by omega
    have h4 : ¬ a ≤ 1073741824 := by omega
    clear h
    go_enter Tryd.func5, Tryd.ntmps5
    go_wp2
    go_ret
    exact ⟨rfl, rfl⟩
  · have h3 : a < 0 := by omega
    clear h
    go_enter Tryd.func5, Tryd.ntmps5
    go_wp2
    go_ret
    exact ⟨rfl, rfl⟩
/-- the short name of a number, as a string -/
def nm (i : Nat) : ByteArray := ⟨(mini i).toArray⟩
theorem same (i j : Nat) : ((nm i).toList == (nm j).toList) = ((i:Int) == (j:Int)) := by
  by_cases h : i = j
  · subst h; simp
  · have h1 : ((i:Int) == (j:Int)) = false := by simp; omega
    rw [h1]
    simp only [beq_eq_false_iff_ne, ne_eq]
    intro hc
    rw [ByteArray.toList_eq, ByteArray.toList_eq] at hc
    exact h (mini_inj i j (by simpa [nm] using hc))
theorem name (i : Nat) (hi : i ≤ 1073741824) (w : World) : Calls Tryd.prog 6 #[.string (nm i)] w fun e w' => e = .returned (.bool true) ∧ w' = w :=
  ascii.nameAscii (nm i) w (by have := mini_length i; simp only [nm, ByteArray.size, List.size_toArray, maxLen]; omega) (mini_name i)

theorem impl0 (w : World) (ht : Table w) : Calls Tryd.prog 4 #[.int .i64 0] w fun e w' => e = .returned (.string (nm 0)) ∧ Below w.heap.size w w' := impl 0 (by decide) w ht
theorem implN (i : Nat) (hi : i ≤ 1073741824) (w : World) (ht : Table w) : Calls Tryd.prog 4 #[.int .i64 i] w fun e w' => e = .returned (.string (nm i)) ∧ Below w.heap.size w w' := impl i hi w ht

set_option maxHeartbeats 4000000 in
theorem law (a b : Int) (w : World) (ht : Table w) : Calls Tryd.prog 3 #[.int .i64 a, .int .i64 b] w fun e w' => e = .returned (.bool true) ∧ Below w.heap.size w w' := by
  have na : (nm 0).toList.isEmpty = false := by decide +kernel
  have HT := Lib.hid ht
  by_cases hab : (0 ≤ a ∧ a ≤ 1073741824) ∧ 0 ≤ b ∧ b ≤ 1073741824
  · obtain ⟨i, rfl⟩ : ∃ i : Nat, a = i := ⟨a.toNat, by omega⟩
    obtain ⟨j, rfl⟩ : ∃ j : Nat, b = j := ⟨b.toNat, by omega⟩
    have hi : i ≤ 1073741824 := by omega
    have hj : j ≤ 1073741824 := by omega
    have hi1 : (i:Int) ≤ 1073741824 := by omega
    have hj1 : (j:Int) ≤ 1073741824 := by omega
    have hi0 : (0:Int) ≤ i := by omega
    have hj0 : (0:Int) ≤ j := by omega
    have hsm := same i j
    clear hab
    go_enter Tryd.func3, Tryd.ntmps3
    go_wp2_with (go_at_call 4; refine (impl0 _ HT.out).mono ?_)
    rintro e w1 ⟨rfl, hb1⟩
    have HB1 := Lib.hid hb1
    have HT1 := Lib.hid (HT.out.below hb1)
    clear hb1
    go_wp2_with (go_at_call 5; refine (short _ ?_ ?_ _).mono ?_; (first | exact hi0 | exact hj0); (first | exact hi1 | exact hj1); rintro e w1' ⟨rfl, rfl⟩)
    go_wp2_with (go_at_call 4; refine (implN i hi _ HT1.out).mono ?_)
    rintro e w2 ⟨rfl, hb2⟩
    have HB2 := Lib.hid (HB1.out.trans (hb2.mono HB1.out.size))
    have HT2 := Lib.hid (HT1.out.below hb2)
    clear hb2
    go_wp2_with (go_at_call 4; refine (implN j hj _ HT2.out).mono ?_)
    rintro e w3 ⟨rfl, hb3⟩
    have HB3 := Lib.hid (HB2.out.trans (hb3.mono HB2.out.size))
    clear hb3
    go_wp2_with (go_at_call 6; refine (name _ ?_ _).mono ?_; (first | exact hi | exact hj); rintro e w' ⟨rfl, rfl⟩)
    all_goals first | exact absurd hsm (by assumption) | (go_ret; exact ⟨rfl, HB3.out⟩)
  · by_cases ha : 0 ≤ a ∧ a ≤ 1073741824
    · have hb : ¬ (0 ≤ b ∧ b ≤ 1073741824) := fun h => hab ⟨ha, h⟩
      have HA := Lib.hid ha
      have HB := Lib.hid hb
      clear hab ha hb
      go_enter Tryd.func3, Tryd.ntmps3
      go_wp2_with (go_at_call 4; refine (impl0 _ HT.out).mono ?_)
      rintro e w1 ⟨rfl, hb1⟩
      have HB1 := Lib.hid hb1
      clear hb1
      go_wp2_with (go_at_call 5; first | (refine (short a HA.out.1 HA.out.2 _).mono ?_; rintro e w1' ⟨rfl, rfl⟩) | (refine (long b HB.out _).mono ?_; rintro e w1' ⟨rfl, rfl⟩))
      all_goals (go_ret; exact ⟨rfl, HB1.out⟩)
    · have HA := Lib.hid ha
      clear hab ha
      go_enter Tryd.func3, Tryd.ntmps3
      go_wp2_with (go_at_call 4; refine (impl0 _ HT.out).mono ?_)
      rintro e w1 ⟨rfl, hb1⟩
      have HB1 := Lib.hid hb1
      clear hb1
      go_wp2_with (go_at_call 5; refine (long a HA.out _).mono ?_; rintro e w1' ⟨rfl, rfl⟩)
      all_goals (go_ret; exact ⟨rfl, HB1.out⟩)
end Go.Proofs.YtmcdnkcpfjhbgaaDoor.fnMinifiedName
