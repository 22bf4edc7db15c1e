/-
  Plain lemmas for FnRangeOfString: how a well-formed text is decoded, and which texts spec.WellFormed lets in.
  Conditions: texts of at most 2^31 - 1 bytes.
-/
import Derived.Test.YtnciphcnkbcncaaFnRangeOfStringRunes
import Derived.Lib.RuneCount
namespace Go.Proofs.Ytnciphcnkbcncaa.fnRangeOfString
open Go.RowKit Go.Proofs.YtnciphcnkbcncaaW.PrintWords Go.Proofs.YtnciphcnkbcncaaW.PrintLast Go.Proofs.YtnciphcnkbcncaaW.PrintMore Go.Proofs.Ytnciphcnkbcncaa.PFnRangeOfString Go.Proofs.Ytnciphcnkbcncaa.runes
set_option linter.unusedVariables false

/-! ### the decoding of a text's end -/
theorem nb_out (s : ByteArray) (i : Nat) (h : ¬ i < s.size) : nb s i = 0 := by
  unfold nb
  have e : s.get! i = default := by
    simp only [ByteArray.get!]
    exact getElem!_neg s.data i (by simpa using h)
  rw [e]
  rfl
theorem nb_in (s : ByteArray) (i : Nat) (h : i < s.size) : nb s i = (s[i]).toNat := by
  have e : s.get! i = s[i] := by
    simp [ByteArray.get!, getElem!_pos, h]
    rfl
  unfold nb
  rw [e]
theorem nb_extract (s : ByteArray) (p i : Nat) (hp : p ≤ s.size) : nb (s.extract p s.size) i = nb s (p + i) := by
  have hz : (s.extract p s.size).size = s.size - p := by simp
  by_cases h : p + i < s.size
  · rw [nb_in _ _ (by omega), nb_in s _ h]
    congr 1
    simp [ByteArray.getElem_extract]
  · rw [nb_out _ _ (by omega), nb_out s _ h]
theorem decode_extract (s : ByteArray) (p i : Nat) (hp : p ≤ s.size) : Utf8.decode (s.extract p s.size) i = Utf8.decode s (p + i) := by
  have h : ∀ k, ((s.extract p s.size).get! (i + k)).toNat = (s.get! (p + i + k)).toNat := fun k => by
    have := nb_extract s p (i + k) hp
    unfold nb at this
    rw [this, Nat.add_assoc]
  have hz : (s.extract p s.size).size = s.size - p := by simp
  have hc : ∀ k, (i + k < s.size - p) = (p + i + k < s.size) := fun k => by apply propext; omega
  simp only [Utf8.decode, h, hz, hc]

theorem decode_fits (s : ByteArray) (i : Nat) (h : i < s.size) : 1 ≤ (Utf8.decode s i).2 ∧ i + (Utf8.decode s i).2 ≤ s.size := by
  refine ⟨Lib.decode_width_pos s i h, ?_⟩
  simp only [Utf8.decode]
  repeat' split
  all_goals (simp_all; try omega)

theorem decode_scalar (s : ByteArray) (i : Nat) : ¬ (55296 ≤ (Utf8.decode s i).1 ∧ (Utf8.decode s i).1 ≤ 57343) ∧ (Utf8.decode s i).1 ≤ 1114111 ∧ (65536 ≤ (Utf8.decode s i).1 → (Utf8.decode s i).2 = 4) := by
  have hb := (s.get! (i + 0)).toNat_lt
  have hb1 := (s.get! (i + 1)).toNat_lt
  have hb2 := (s.get! (i + 2)).toNat_lt
  have hb3 := (s.get! (i + 3)).toNat_lt
  simp only [Utf8.decode, Utf8.runeError]
  repeat' split
  all_goals (simp_all [Utf8.valid]; try omega)

/-- a well-formed code point is no surrogate -/
theorem told_good (s : ByteArray) (i : Nat) (h : i < s.size) : ∃ r n : Nat, told (Utf8.decode s i) = ((r : Int), (n : Int)) ∧ (n = 0 ∨ 1 ≤ n ∧ i + n ≤ s.size ∧ Utf8.decode s i = (r, n) ∧ ¬ (55296 ≤ r ∧ r ≤ 57343) ∧ r ≤ 1114111 ∧ (65536 ≤ r → n = 4)) := by
  unfold told
  have h1 := decode_fits s i h
  have h2 := decode_scalar s i
  by_cases hb : (Utf8.decode s i).1 = 65533 ∧ (Utf8.decode s i).2 = 1
  · rw [if_pos hb]
    exact ⟨0, 0, rfl, .inl rfl⟩
  · rw [if_neg hb]
    exact ⟨_, _, rfl, .inr ⟨h1.1, h1.2, rfl, h2⟩⟩
theorem told_nonneg (d : Nat × Nat) : 0 ≤ (told d).2 := by
  unfold told
  split
  · exact Int.le_refl _
  · exact Int.natCast_nonneg _

theorem rune_ge (s : ByteArray) (i m : Nat) (hm : 10 ≤ m) (hs : s.size ≤ 140737488351232) (hi : i < s.size) : spec_Rune.f m s i = some (told (Utf8.decode s i)) := by
  obtain ⟨k, rfl⟩ : ∃ k, m = k + 10 := ⟨m - 10, by omega⟩
  exact rune_told s i k hs hi

/-! ### well-formed texts -/
def wfb (s : ByteArray) : Nat → Nat → Bool
  | 0, _ => true
  | fuel + 1, pos => if pos < s.size then (if (told (Utf8.decode s pos)).2 = 0 then false else wfb s fuel (pos + (Utf8.decode s pos).2)) else true

theorem wf_loop (s : ByteArray) (hs : s.size ≤ 140737488351232) (d : Nat) : ∀ (k i : Nat), i ≤ s.size → s.size - i ≤ d → d + 12 ≤ k → spec_WellFormed.l0 k s i = some (wfb s d i) := by
  induction d with
  | zero =>
    intro k i h1 h2 h3
    obtain ⟨k, rfl⟩ : ∃ m, k = m + 1 := ⟨k - 1, by omega⟩
    simp only [spec_WellFormed.l0]
    rw [if_neg (by omega)]
    rfl
  | succ d ih =>
    intro k i h1 h2 h3
    obtain ⟨k, rfl⟩ : ∃ m, k = m + 1 := ⟨k - 1, by omega⟩
    simp only [spec_WellFormed.l0]
    unfold wfb
    by_cases h : i < s.size
    · rw [if_pos (by omega), rune_ge s i k (by omega) hs h, if_pos h]
      simp only [Option.bind_some]
      obtain ⟨r, n, e1, e2⟩ := told_good s i h
      rw [e1]
      simp only
      rcases e2 with rfl | ⟨h4, h5, h6, _⟩
      · rw [if_pos (by simp), if_pos (by simp)]
      · rw [if_neg (by omega), if_neg (by omega), h6]
        have e : wrap64 ((i : Int) + (n : Int)) = ((i + n : Nat) : Int) := by rw [w64 _ (by omega) (by omega)]; omega
        rw [e]
        exact ih k (i + n) (by omega) (by omega) (by omega)
    · rw [if_neg (by omega), if_neg h]

theorem wf_f (s : ByteArray) (hs : s.size ≤ 140737488351232) : ∃ k, spec_WellFormed.f k s = some (wfb s s.size 0) :=
  ⟨s.size + 12, by unfold spec_WellFormed.f; exact wf_loop s hs s.size (s.size + 12) 0 (by omega) (by omega) (by omega)⟩

end Go.Proofs.Ytnciphcnkbcncaa.fnRangeOfString
