/-
  FnFind, the plain part: what MapsFit, Ordered and MapFind answer (the printed functions): they end, and say that numbers fit, that mappings are in order, and which mapping is the last of a line at or before a column.
  Conditions: at most 1,000 mappings of numbers of 64 bits.
-/
import Derived.Test.YtlodefalhhcmkaaPFnFindx2
namespace Go.Proofs.Ytlodefalhhcmkaa.fnFind
open Go.RowKit Go.Proofs.YtlodefalhhcmkaaW.PrintWords Go.Proofs.Ytlodefalhhcmkaa.PFnFind
set_option linter.unusedVariables false
set_option linter.unusedSimpArgs false

theorem rd_nat (xs : List S24) (i : Nat) : rd_T24 xs (i : Int) = xs.getD i z24 := by unfold rd_T24; rw [Int.toNat_natCast]
theorem up_nat (i : Nat) (h : i ≤ 1000000) : wrap64 ((i : Int) + 1) = ((i + 1 : Nat) : Int) := by unfold wrap64; omega
/-- a mapping stands before another -/
def bef (a b : S24) : Prop := a.f0 < b.f0 ∨ (a.f0 = b.f0 ∧ a.f1 < b.f1)
theorem before_f (a b : S24) : ∃ r, spec_Before.f a.f0 a.f1 b.f0 b.f1 = some r ∧ (r = false → ¬ bef a b) := by
  unfold spec_Before.f bef
  by_cases h1 : a.f0 < b.f0
  · rw [if_pos h1]; exact ⟨true, rfl, fun h => by cases h⟩
  · rw [if_neg h1]
    by_cases h2 : a.f0 = b.f0
    · rw [if_pos h2]
      refine ⟨_, rfl, fun h h3 => ?_⟩
      have : ¬ a.f1 < b.f1 := by simpa using h
      rcases h3 with h3 | h3
      · exact h1 h3
      · exact this h3.2
    · rw [if_neg h2]
      exact ⟨false, rfl, fun _ h3 => h3.elim h1 (fun h3 => h2 h3.1)⟩
theorem ordered_l (xs : List S24) (hn : xs.length ≤ 1000) : ∀ m i, 1 ≤ i → (i + m = xs.length ∨ (m = 0 ∧ xs.length ≤ i)) → i ≤ 1001 → ∃ r, spec_Ordered.l0 (m + 1) xs (i : Int) = some r ∧ (r = true → ∀ j, i ≤ j → j < xs.length → ¬ bef (xs.getD j z24) (xs.getD (j - 1) z24)) := by
  intro m
  induction m with
  | zero =>
    intro i h1 h2 h3
    unfold spec_Ordered.l0
    rw [if_neg (by omega)]
    exact ⟨true, rfl, fun _ j a b => by omega⟩
  | succ m ih =>
    intro i h1 h2 h3
    have hlt : i < xs.length := by omega
    have hd : wrap64 ((i : Int) - 1) = ((i - 1 : Nat) : Int) := by unfold wrap64; omega
    unfold spec_Ordered.l0
    rw [if_pos (by omega), if_pos (by omega), hd, if_pos (by omega), if_pos (by omega), rd_nat, rd_nat, up_nat i (by omega)]
    obtain ⟨r, hr, hb⟩ := before_f (xs.getD i z24) (xs.getD (i - 1) z24)
    rw [hr]
    cases r
    · obtain ⟨q, hq, hp⟩ := ih (i + 1) (by omega) (by omega) (by omega)
      refine ⟨q, ?_, fun h j a b => ?_⟩
      · show (if false = true then some false else _) = _
        rw [if_neg (by simp)]
        exact hq
      · by_cases e : j = i
        · subst e; exact hb rfl
        · exact hp h j (by omega) b
    · exact ⟨false, rfl, fun h => by cases h⟩
/-- mappings in order -/
def Sorted (xs : List S24) : Prop := ∀ j, 1 ≤ j → j < xs.length → ¬ bef (xs.getD j z24) (xs.getD (j - 1) z24)
theorem ordered_f (xs : List S24) (hn : xs.length ≤ 1000) : ∃ r, spec_Ordered.f 1001 xs = some r ∧ (r = true → Sorted xs) := by
  by_cases h : xs.length = 0
  · obtain ⟨r, h1, h2⟩ := ordered_l xs hn 0 1 (by omega) (.inr ⟨rfl, by omega⟩) (by omega)
    refine ⟨r, ?_, fun h j a b => by omega⟩
    unfold spec_Ordered.f
    unfold spec_Ordered.l0 at h1 ⊢
    rw [if_neg (by omega)] at h1 ⊢
    exact h1
  · obtain ⟨r, h1, h2⟩ := ordered_l xs hn (xs.length - 1) 1 (by omega) (.inl (by omega)) (by omega)
    refine ⟨r, ?_, h2⟩
    have up : ∀ d k, spec_Ordered.l0 k xs 1 = some r → spec_Ordered.l0 (k + d) xs 1 = some r := by
      intro d
      induction d with
      | zero => intro k h; exact h
      | succ d ih => intro k h; exact spec_Ordered.mono_l (k + d) xs 1 r (ih k h)
    have := up (1001 - (xs.length - 1 + 1)) _ h1
    rw [show xs.length - 1 + 1 + (1001 - (xs.length - 1 + 1)) = 1001 by omega] at this
    exact this
/-- numbers that fit -/
def Fit' (x : S24) : Prop := (0 ≤ x.f0 ∧ x.f0 ≤ 1073741824) ∧ (0 ≤ x.f1 ∧ x.f1 ≤ 1073741824) ∧ (0 ≤ x.f2 ∧ x.f2 ≤ 1073741824) ∧ (0 ≤ x.f3 ∧ x.f3 ≤ 1073741824) ∧ (0 ≤ x.f4 ∧ x.f4 ≤ 1073741824) ∧ (-1 ≤ x.f5 ∧ x.f5 ≤ 1073741824)
theorem fits_l1 (y : List Int) (hy : y.length ≤ 1000) (K : Nat) (x0 x7 : List S24) (x8 x9 : Int) (b0 b1 b2 b3 b4 b5 : Int) : ∀ m i, i + m = y.length →
    (spec_MapsFit.l1 (K + m + 1) x0 x7 x8 x9 y (y.length : Int) (i : Int) b0 b1 b2 b3 b4 b5 = some false) ∨
    ((∀ j, i ≤ j → j < y.length → 0 ≤ y.getD j 0 ∧ y.getD j 0 ≤ 1073741824) ∧ spec_MapsFit.l1 (K + m + 1) x0 x7 x8 x9 y (y.length : Int) (i : Int) b0 b1 b2 b3 b4 b5 = (if b0 > 1000 then (some false) else spec_MapsFit.l0 K x0 x7 x8 (wrap64 (x9 + 1)))) := by
  intro m
  induction m with
  | zero =>
    intro i hi
    unfold spec_MapsFit.l1
    rw [if_neg (by omega)]
    exact .inr ⟨fun j a b => by omega, rfl⟩
  | succ m ih =>
    intro i hi
    have e : rd y (i : Int) = y.getD i 0 := by unfold rd; rw [Int.toNat_natCast]
    have hs : K + (m + 1) + 1 = (K + m + 1) + 1 := by omega
    rw [hs]
    unfold spec_MapsFit.l1
    rw [if_pos (by omega), if_pos (by omega), if_pos (by omega), e, up_nat i (by omega)]
    by_cases h1 : y.getD i 0 < 0
    · rw [if_pos h1]; exact .inl rfl
    · rw [if_neg h1]
      by_cases h2 : y.getD i 0 > 1073741824
      · rw [if_pos h2]; exact .inl rfl
      · rw [if_neg h2]
        rcases ih (i + 1) (by omega) with h | ⟨h, h'⟩
        · exact .inl h
        · refine .inr ⟨fun j a b => ?_, h'⟩
          by_cases ej : j = i
          · subst ej; omega
          · exact h j (by omega) b
theorem fits_l0 (xs : List S24) (hn : xs.length ≤ 1000) (hr : ∀ i, i < xs.length → -9223372036854775808 ≤ (xs.getD i z24).f5 ∧ (xs.getD i z24).f5 ≤ 9223372036854775807) : ∀ m i, i + m = xs.length →
    ∃ r, spec_MapsFit.l0 (8 * m + 1002) xs xs (xs.length : Int) (i : Int) = some r ∧ (r = true → Sorted xs ∧ ∀ j, i ≤ j → j < xs.length → Fit' (xs.getD j z24)) := by
  intro m
  induction m with
  | zero =>
    intro i hi
    unfold spec_MapsFit.l0
    rw [if_neg (by omega)]
    obtain ⟨r, h1, h2⟩ := ordered_f xs hn
    rw [h1]
    exact ⟨r, rfl, fun h => ⟨h2 h, fun j a b => by omega⟩⟩
  | succ m ih =>
    intro i hi
    have hs : 8 * (m + 1) + 1002 = (8 * m + 1002 + 6 + 1) + 1 := by omega
    rw [hs]
    unfold spec_MapsFit.l0
    rw [if_pos (by omega), if_pos (by omega), if_pos (by omega), rd_nat]
    have hf := hr i (by omega)
    generalize hx : xs.getD i z24 = x at hf
    have hl := fits_l1 [x.f0, x.f1, x.f2, x.f3, x.f4, wrap64 (x.f5 + 1)] (by simp) (8 * m + 1002) xs xs (xs.length : Int) (i : Int) x.f0 x.f1 x.f2 x.f3 x.f4 x.f5 6 0 (by simp)
    rw [show ((0 : Nat) : Int) = 0 from rfl] at hl
    show ∃ r, spec_MapsFit.l1 (8 * m + 1002 + 6 + 1) xs xs (xs.length : Int) (i : Int) [x.f0, x.f1, x.f2, x.f3, x.f4, wrap64 (x.f5 + 1)] (([x.f0, x.f1, x.f2, x.f3, x.f4, wrap64 (x.f5 + 1)] : List Int).length : Int) 0 x.f0 x.f1 x.f2 x.f3 x.f4 x.f5 = some r ∧ _
    rcases hl with hl | ⟨hl, hl'⟩
    · rw [hl]; exact ⟨false, rfl, fun h => by cases h⟩
    · rw [hl', up_nat i (by omega)]
      by_cases hbig : x.f0 > 1000
      · rw [if_pos hbig]; exact ⟨false, rfl, fun h => by cases h⟩
      · rw [if_neg hbig]
        obtain ⟨r, h1, h2⟩ := ih (i + 1) (by omega)
        rw [h1]
        refine ⟨r, rfl, fun h => ⟨(h2 h).1, fun j a b => ?_⟩⟩
        by_cases ej : j = i
        · subst ej
          rw [hx]
          have q5 := hl 5 (by omega) (by simp)
          have q5' : 0 ≤ wrap64 (x.f5 + 1) ∧ wrap64 (x.f5 + 1) ≤ 1073741824 := q5
          refine ⟨hl 0 (by omega) (by simp), hl 1 (by omega) (by simp), hl 2 (by omega) (by simp), hl 3 (by omega) (by simp), hl 4 (by omega) (by simp), ?_⟩
          unfold wrap64 at q5'
          omega
        · exact (h2 h).2 j (by omega) b
theorem fits_f (xs : List S24) (hn : xs.length ≤ 1000) (hr : ∀ i, i < xs.length → -9223372036854775808 ≤ (xs.getD i z24).f5 ∧ (xs.getD i z24).f5 ≤ 9223372036854775807) :
    ∃ k r, spec_MapsFit.f k xs = some r ∧ (r = true → Sorted xs ∧ ∀ j, j < xs.length → Fit' (xs.getD j z24)) := by
  obtain ⟨r, h1, h2⟩ := fits_l0 xs hn hr xs.length 0 (by omega)
  exact ⟨_, r, h1, fun h => ⟨(h2 h).1, fun j b => (h2 h).2 j (Nat.zero_le _) b⟩⟩
/-- the last mapping of a line at or before a column -/
def IsLast (xs : List S24) (line col : Int) (r : Int) : Prop := (r = -1 ∧ ∀ j, j < xs.length → ¬ ((xs.getD j z24).f0 = line ∧ (xs.getD j z24).f1 ≤ col)) ∨
  ∃ k : Nat, r = k ∧ k < xs.length ∧ (xs.getD k z24).f0 = line ∧ (xs.getD k z24).f1 ≤ col ∧ ∀ j, k < j → j < xs.length → ¬ ((xs.getD j z24).f0 = line ∧ (xs.getD j z24).f1 ≤ col)
theorem find_l (xs : List S24) (hn : xs.length ≤ 1000) (line col : Int) : ∀ (m i : Nat) (o : Int), i + m = xs.length →
    ((o = -1 ∧ ∀ j, j < i → ¬ ((xs.getD j z24).f0 = line ∧ (xs.getD j z24).f1 ≤ col)) ∨ ∃ k : Nat, o = k ∧ k < i ∧ (xs.getD k z24).f0 = line ∧ (xs.getD k z24).f1 ≤ col ∧ ∀ j, k < j → j < i → ¬ ((xs.getD j z24).f0 = line ∧ (xs.getD j z24).f1 ≤ col)) →
    ∃ r, spec_MapFind.l0 (m + 1) xs line col o (xs.length : Int) (i : Int) = some r ∧ IsLast xs line col r := by
  intro m
  induction m with
  | zero =>
    intro i o hi ho
    unfold spec_MapFind.l0
    rw [if_neg (by omega)]
    obtain rfl : i = xs.length := by omega
    exact ⟨o, rfl, ho⟩
  | succ m ih =>
    intro i o hi ho
    unfold spec_MapFind.l0
    rw [if_pos (by omega), if_pos (by omega), if_pos (by omega), rd_nat, up_nat i (by omega)]
    have no : ¬ ((xs.getD i z24).f0 = line ∧ (xs.getD i z24).f1 ≤ col) → ∃ r, spec_MapFind.l0 (m + 1) xs line col o (xs.length : Int) ((i + 1 : Nat) : Int) = some r ∧ IsLast xs line col r := fun hno => by
      refine ih (i + 1) o (by omega) ?_
      rcases ho with ⟨h1, h2⟩ | ⟨k, h1, h2, h3, h4, h5⟩
      · refine .inl ⟨h1, fun j hj => ?_⟩
        by_cases e : j = i
        · subst e; exact hno
        · exact h2 j (by omega)
      · refine .inr ⟨k, h1, by omega, h3, h4, fun j a b => ?_⟩
        by_cases e : j = i
        · subst e; exact hno
        · exact h5 j a (by omega)
    by_cases h1 : (xs.getD i z24).f0 = line
    · rw [if_pos h1]
      by_cases h2 : (xs.getD i z24).f1 ≤ col
      · rw [if_pos h2]
        exact ih (i + 1) (i : Int) (by omega) (.inr ⟨i, rfl, by omega, h1, h2, fun j a b => by omega⟩)
      · rw [if_neg h2]
        exact no fun h => h2 h.2
    · rw [if_neg h1]
      exact no fun h => h1 h.1
theorem find_f (xs : List S24) (hn : xs.length ≤ 1000) (line col : Int) : ∃ k r, spec_MapFind.f k xs line col = some r ∧ IsLast xs line col r := by
  obtain ⟨r, h1, h2⟩ := find_l xs hn line col xs.length 0 (-1) (by omega) (.inl ⟨rfl, fun j h => by omega⟩)
  exact ⟨_, r, h1, h2⟩
/-- an order's step -/
theorem sorted_le {xs : List S24} (h : Sorted xs) (line col : Int) : ∀ d i, i + d < xs.length → ((xs.getD (i + d) z24).f0 < line ∨ ((xs.getD (i + d) z24).f0 = line ∧ (xs.getD (i + d) z24).f1 ≤ col)) → ((xs.getD i z24).f0 < line ∨ ((xs.getD i z24).f0 = line ∧ (xs.getD i z24).f1 ≤ col)) := by
  intro d
  induction d with
  | zero => intro i _ h; exact h
  | succ d ih =>
    intro i hi hl
    refine ih i (by omega) ?_
    have hs := h (i + (d + 1)) (by omega) hi
    rw [show i + (d + 1) - 1 = i + d by omega] at hs
    generalize xs.getD (i + (d + 1)) z24 = x at hs hl
    generalize xs.getD (i + d) z24 = y at hs
    unfold bef at hs
    omega
end Go.Proofs.Ytlodefalhhcmkaa.fnFind
