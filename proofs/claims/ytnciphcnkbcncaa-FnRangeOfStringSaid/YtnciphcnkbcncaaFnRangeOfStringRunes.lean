/-
  Plain lemmas on spec.Rune as it is printed: it tells the code point that the model's own decoding tells, and nothing where that tells an error.
  Conditions: texts of at most 2^47 bytes.
-/
import Derived.Test.YtnciphcnkbcncaaPFnRangeOfStringx3
import Derived.Laws.BitsLemmas
namespace Go.Proofs.Ytnciphcnkbcncaa.runes
open Go.RowKit Go.Proofs.YtnciphcnkbcncaaW.PrintWords Go.Proofs.YtnciphcnkbcncaaW.PrintLast Go.Proofs.YtnciphcnkbcncaaW.PrintMore Go.Proofs.Ytnciphcnkbcncaa.PFnRangeOfString
set_option linter.unusedVariables false

/-- byte i -/
def nb (s : ByteArray) (i : Nat) : Nat := (s.get! i).toNat
theorem nb_lt (s : ByteArray) (i : Nat) : nb s i < 256 := (s.get! i).toNat_lt
theorem bt_nb (s : ByteArray) (i : Nat) (h : i < s.size) : bt s (i : Int) = (nb s i : Int) := by
  have e : s.get! i = s[i] := by
    simp [ByteArray.get!, getElem!_pos, h]
    rfl
  simp [bt, nb, h, e]
theorem w64_nb (s : ByteArray) (i : Nat) : wrap64 (nb s i : Int) = (nb s i : Int) := by
  have := nb_lt s i
  unfold wrap64; omega
theorem w64 (n : Int) (h0 : -9223372036854775808 ≤ n) (h1 : n ≤ 9223372036854775807) : wrap64 n = n := by unfold wrap64; omega

theorem wraps_i64 (n : Int) (h₀ : 0 ≤ n) (h₁ : n < 2 ^ 63) : IntKind.i64.wrap n = n := by rw [IntKind.wrap_i64]; omega

/-- the two high bits of a byte -/
theorem and192 (b : Nat) (hb : b < 256) : (Go.bits .and .i64 (b : Int) 192 = 128) ↔ b / 64 = 2 := by
  have h := (bits_nat .i64 63 (by decide) wraps_i64 b 192 (by omega) (by decide)).1
  have h2 : (Go.bits .and .i64 (b : Int) 192) = ((b &&& 192 : Nat) : Int) := h
  rw [h2]
  have key : ∀ c : Fin 256, (c.val &&& 192 = 128) ↔ c.val / 64 = 2 := by decide +kernel
  have := key ⟨b, hb⟩
  simp only at this
  rw [← this]
  omega
theorem and63 (b : Int) (h0 : 0 ≤ b) (h1 : b < 256) : Go.bits .and .i64 b 63 = b % 64 := bits_mask .i64 63 (by decide) wraps_i64 6 (by decide) b h0 (by omega)
theorem and31 (b : Int) (h0 : 0 ≤ b) (h1 : b < 256) : Go.bits .and .i64 b 31 = b % 32 := bits_mask .i64 63 (by decide) wraps_i64 5 (by decide) b h0 (by omega)
theorem and15 (b : Int) (h0 : 0 ≤ b) (h1 : b < 256) : Go.bits .and .i64 b 15 = b % 16 := bits_mask .i64 63 (by decide) wraps_i64 4 (by decide) b h0 (by omega)
theorem and7 (b : Int) (h0 : 0 ≤ b) (h1 : b < 256) : Go.bits .and .i64 b 7 = b % 8 := bits_mask .i64 63 (by decide) wraps_i64 3 (by decide) b h0 (by omega)
theorem join6 (r b : Int) (h0 : 0 ≤ r) (h1 : r ≤ 16777216) (h2 : 0 ≤ b) (h3 : b < 64) : Go.bits .or .i64 (r * 64) b = r * 64 + b :=
  bits_join .i64 63 (by decide) wraps_i64 6 (r * 64) b (by omega) (by omega) (by omega) h2 (by omega) (by omega)

/-- one step of the loop over the continuation bytes -/
theorem step (s : ByteArray) (i n j r low : Nat) (k : Nat) (hs : s.size ≤ 140737488351232) (hj : j < n) (hn : n ≤ 4) (hi : i + n ≤ s.size) (hr : r ≤ 262143) :
    spec_Rune.l0 (k + 1) s i n r low j = if nb s (i + j) / 64 = 2 then spec_Rune.l0 k s i n ((r * 64 + nb s (i + j) % 64 : Nat) : Int) low ((j + 1 : Nat) : Int) else some (0, 0) := by
  have hb := nb_lt s (i + j)
  have e1 : wrap64 ((i : Int) + (j : Int)) = ((i + j : Nat) : Int) := by rw [w64 _ (by omega) (by omega)]; omega
  have e2 : wrap64 ((j : Int) + 1) = ((j + 1 : Nat) : Int) := by rw [w64 _ (by omega) (by omega)]; omega
  have e3 : wrap64 ((r : Int) * 64) = (r : Int) * 64 := w64 _ (by omega) (by omega)
  have e4 : bt s ((i + j : Nat) : Int) = (nb s (i + j) : Int) := bt_nb s (i + j) (by omega)
  simp only [spec_Rune.l0]
  rw [if_pos (by omega), e1, if_pos (by omega), if_pos (by omega), e4, w64_nb, e2, e3, and63 _ (by omega) (by omega), join6 _ _ (by omega) (by omega) (by omega) (by omega)]
  by_cases h : nb s (i + j) / 64 = 2
  · rw [if_pos ((and192 _ hb).2 h), if_pos h]
    congr 1
  · rw [if_neg (fun e => h ((and192 _ hb).1 e)), if_neg h]

/-- the loop's end -/
theorem last (s : ByteArray) (i n r low : Nat) (k : Nat) :
    spec_Rune.l0 (k + 1) s i n r low n = if r < low ∨ 1114111 < r ∨ 55296 ≤ r ∧ r ≤ 57343 then some (0, 0) else some ((r : Int), (n : Int)) := by
  simp only [spec_Rune.l0]
  rw [if_neg (by omega)]
  by_cases h1 : r < low
  · rw [if_pos (by omega), if_pos (.inl h1)]
  · rw [if_neg (by omega)]
    by_cases h2 : 1114111 < r
    · rw [if_pos (by omega), if_pos (.inr (.inl h2))]
    · rw [if_neg (by omega)]
      by_cases h3 : 55296 ≤ r
      · rw [if_pos (by omega)]
        by_cases h4 : r ≤ 57343
        · rw [if_pos (by omega), if_pos (.inr (.inr ⟨h3, h4⟩))]
        · rw [if_neg (by omega), if_neg (by omega)]
      · rw [if_neg (by omega), if_neg (by omega)]

/-- what the model's decoding says, as spec.Rune tells it -/
def told (d : Nat × Nat) : Int × Int := if d.1 = 65533 ∧ d.2 = 1 then (0, 0) else ((d.1 : Int), (d.2 : Int))

theorem dec_low (s : ByteArray) (i : Nat) (h : nb s i < 128) : Utf8.decode s i = (nb s i, 1) := by
  unfold nb at h ⊢
  simp only [Utf8.decode, Nat.add_zero, h, if_true]

theorem dec_bad (s : ByteArray) (i : Nat) (h : 128 ≤ nb s i ∧ nb s i < 194 ∨ 245 ≤ nb s i) : Utf8.decode s i = (65533, 1) := by
  have hb := nb_lt s i
  unfold nb at h hb
  have hb1 := (s.get! (i + 1)).toNat_lt
  have hb2 := (s.get! (i + 2)).toNat_lt
  have hb3 := (s.get! (i + 3)).toNat_lt
  simp only [Utf8.decode, Nat.add_zero, Utf8.runeError]
  rw [if_neg (by omega)]
  split
  · rename_i h6
    simp only [Bool.and_eq_true, beq_iff_eq] at h6
    rw [if_neg (by omega)]
  · split
    · rename_i h6 h14
      simp only [Bool.and_eq_true, beq_iff_eq] at h14
      omega
    · split
      · rename_i h6 h14 h30
        simp only [Bool.and_eq_true, beq_iff_eq] at h30
        rw [if_neg]
        simp only [Utf8.valid, Bool.and_eq_true, Bool.or_eq_true, decide_eq_true_eq]
        omega
      · rfl

theorem dec2 (s : ByteArray) (i : Nat) (h : 194 ≤ nb s i ∧ nb s i ≤ 223) :
    Utf8.decode s i = if i + 1 < s.size ∧ nb s (i + 1) / 64 = 2 then (nb s i % 32 * 64 + nb s (i + 1) % 64, 2) else (65533, 1) := by
  unfold nb at h ⊢
  simp only [Utf8.decode, Nat.add_zero, Utf8.runeError]
  rw [if_neg (by omega)]
  by_cases hc : i + 1 < s.size ∧ (s.get! (i + 1)).toNat / 64 = 2
  · rw [if_pos (by simp [hc]; omega), if_pos hc, if_pos (by omega)]
  · rw [if_neg (by simp; intro _ h1; exact fun h2 => hc ⟨h1, h2⟩), if_neg hc, if_neg (by simp; omega), if_neg (by simp; omega)]

theorem dec3 (s : ByteArray) (i : Nat) (h : 224 ≤ nb s i ∧ nb s i ≤ 239) :
    Utf8.decode s i = if (i + 1 < s.size ∧ nb s (i + 1) / 64 = 2) ∧ (i + 2 < s.size ∧ nb s (i + 2) / 64 = 2) then
      (if 2048 ≤ nb s i % 16 * 4096 + nb s (i + 1) % 64 * 64 + nb s (i + 2) % 64 ∧ Utf8.valid ((nb s i % 16 * 4096 + nb s (i + 1) % 64 * 64 + nb s (i + 2) % 64 : Nat) : Int) = true then (nb s i % 16 * 4096 + nb s (i + 1) % 64 * 64 + nb s (i + 2) % 64, 3) else (65533, 1)) else (65533, 1) := by
  unfold nb at h ⊢
  simp only [Utf8.decode, Nat.add_zero, Utf8.runeError]
  rw [if_neg (by omega), if_neg (by simp; omega)]
  by_cases hc : (i + 1 < s.size ∧ (s.get! (i + 1)).toNat / 64 = 2) ∧ (i + 2 < s.size ∧ (s.get! (i + 2)).toNat / 64 = 2)
  · rw [if_pos (by simp [hc]; omega), if_pos hc]
    simp only [ge_iff_le, Bool.and_eq_true, decide_eq_true_eq]
  · rw [if_neg (by simp; intro _ h1 h2 h3 h4; exact hc ⟨⟨h1, h2⟩, h3, h4⟩), if_neg hc, if_neg (by simp; omega)]

theorem dec4 (s : ByteArray) (i : Nat) (h : 240 ≤ nb s i ∧ nb s i ≤ 244) :
    Utf8.decode s i = if (i + 1 < s.size ∧ nb s (i + 1) / 64 = 2) ∧ (i + 2 < s.size ∧ nb s (i + 2) / 64 = 2) ∧ (i + 3 < s.size ∧ nb s (i + 3) / 64 = 2) then
      (if 65536 ≤ nb s i % 8 * 262144 + nb s (i + 1) % 64 * 4096 + nb s (i + 2) % 64 * 64 + nb s (i + 3) % 64 ∧ Utf8.valid ((nb s i % 8 * 262144 + nb s (i + 1) % 64 * 4096 + nb s (i + 2) % 64 * 64 + nb s (i + 3) % 64 : Nat) : Int) = true then (nb s i % 8 * 262144 + nb s (i + 1) % 64 * 4096 + nb s (i + 2) % 64 * 64 + nb s (i + 3) % 64, 4) else (65533, 1)) else (65533, 1) := by
  unfold nb at h ⊢
  simp only [Utf8.decode, Nat.add_zero, Utf8.runeError]
  rw [if_neg (by omega), if_neg (by simp; omega), if_neg (by simp; omega)]
  by_cases hc : (i + 1 < s.size ∧ (s.get! (i + 1)).toNat / 64 = 2) ∧ (i + 2 < s.size ∧ (s.get! (i + 2)).toNat / 64 = 2) ∧ (i + 3 < s.size ∧ (s.get! (i + 3)).toNat / 64 = 2)
  · rw [if_pos (by simp [hc]; omega), if_pos hc]
    simp only [ge_iff_le, Bool.and_eq_true, decide_eq_true_eq]
  · rw [if_neg (by simp; intro _ h1 h2 h3 h4 h5 h6; exact hc ⟨⟨h1, h2⟩, ⟨h3, h4⟩, h5, h6⟩), if_neg hc]

theorem j3_zero (s : ByteArray) (i k : Nat) : spec_Rune.j3 (k + 2) s i 0 0 0 = some (0, 0) := by
  simp only [spec_Rune.j3, spec_Rune.j4, if_true]

theorem j3_n (s : ByteArray) (i n r low k : Nat) (hs : s.size ≤ 140737488351232) (hi : i < s.size) (hn : 1 ≤ n) (hn4 : n ≤ 4) :
    spec_Rune.j3 (k + 2) s i n r low = if i + n ≤ s.size then spec_Rune.l0 k s i n r low 1 else some (0, 0) := by
  have e1 : wrap64 ((i : Int) + (n : Int)) = ((i + n : Nat) : Int) := by rw [w64 _ (by omega) (by omega)]; omega
  simp only [spec_Rune.j3, spec_Rune.j4]
  rw [if_neg (by omega), e1]
  by_cases h : i + n ≤ s.size
  · rw [if_neg (by simp; omega), if_pos h]
  · rw [if_pos (by simp; omega), if_neg h]

theorem valid_iff (c : Nat) : Utf8.valid (c : Int) = true ↔ ¬ (1114111 < c ∨ 55296 ≤ c ∧ c ≤ 57343) := by
  simp only [Utf8.valid, Bool.and_eq_true, Bool.or_eq_true, decide_eq_true_eq]
  omega

/-- SPEC.RUNE IS THE MODEL's DECODING -/
theorem rune_told (s : ByteArray) (i k : Nat) (hs : s.size ≤ 140737488351232) (hi : i < s.size) : spec_Rune.f (k + 10) s i = some (told (Utf8.decode s i)) := by
  have hb := nb_lt s i
  have hb1 := nb_lt s (i + 1)
  have hb2 := nb_lt s (i + 2)
  have hb3 := nb_lt s (i + 3)
  have e0 : bt s (i : Int) = (nb s i : Int) := bt_nb s i hi
  unfold spec_Rune.f
  rw [if_neg (by omega), decide_eq_false (by omega)]
  simp only [spec_Rune.j0]
  rw [if_neg (by decide), if_pos (by omega), if_pos (by omega), e0, w64_nb]
  by_cases h1 : nb s i < 128
  · rw [if_pos (by omega), dec_low s i h1]
    unfold told
    rw [if_neg (by simp only; omega)]
    rfl
  · rw [if_neg (by omega)]
    by_cases h2 : nb s i < 194
    · rw [if_neg (by omega), dec_bad s i (.inl ⟨by omega, h2⟩)]
      simp only [spec_Rune.j1, spec_Rune.j2]
      rw [if_neg (by decide), if_neg (by omega), if_neg (by decide), if_neg (by omega), j3_zero]
      rfl
    · rw [if_pos (by omega)]
      by_cases h3 : nb s i ≤ 223
      · rw [decide_eq_true (by omega)]
        simp only [spec_Rune.j1, if_true]
        rw [and31 _ (by omega) (by omega), dec2 s i ⟨by omega, h3⟩]
        have ej := j3_n s i 2 (nb s i % 32) 128 (k + 6) hs hi (by decide) (by decide)
        rw [show ((nb s i % 32 : Nat) : Int) = (nb s i : Int) % 32 by omega] at ej
        refine ej.trans ?_
        by_cases h4 : i + 2 ≤ s.size
        · rw [if_pos h4]
          have es := step s i 2 1 (nb s i % 32) 128 (k + 5) hs (by decide) (by decide) h4 (by omega)
          rw [show ((nb s i % 32 : Nat) : Int) = (nb s i : Int) % 32 by omega] at es
          refine es.trans ?_
          by_cases h5 : nb s (i + 1) / 64 = 2
          · rw [if_pos h5, if_pos ⟨by omega, h5⟩]
            have el := last s i 2 (nb s i % 32 * 64 + nb s (i + 1) % 64) 128 (k + 4)
            refine el.trans ?_
            rw [if_neg (by omega)]
            unfold told
            rw [if_neg (by simp only; omega)]
          · rw [if_neg h5, if_neg (fun h => h5 h.2)]
            rfl
        · rw [if_neg h4, if_neg (by omega)]
          rfl
      · rw [decide_eq_false (by omega)]
        simp only [spec_Rune.j1]
        rw [if_neg (by decide), if_pos (by omega)]
        by_cases h4 : nb s i ≤ 239
        · rw [decide_eq_true (by omega)]
          simp only [spec_Rune.j2, if_true]
          rw [and15 _ (by omega) (by omega), dec3 s i ⟨by omega, h4⟩]
          have ej := j3_n s i 3 (nb s i % 16) 2048 (k + 5) hs hi (by decide) (by decide)
          rw [show ((nb s i % 16 : Nat) : Int) = (nb s i : Int) % 16 by omega] at ej
          refine ej.trans ?_
          by_cases h5 : i + 3 ≤ s.size
          · rw [if_pos h5]
            have es := step s i 3 1 (nb s i % 16) 2048 (k + 4) hs (by decide) (by decide) h5 (by omega)
            rw [show ((nb s i % 16 : Nat) : Int) = (nb s i : Int) % 16 by omega] at es
            refine es.trans ?_
            by_cases h6 : nb s (i + 1) / 64 = 2
            · rw [if_pos h6]
              refine (step s i 3 2 (nb s i % 16 * 64 + nb s (i + 1) % 64) 2048 (k + 3) hs (by decide) (by decide) h5 (by omega)).trans ?_
              by_cases h7 : nb s (i + 2) / 64 = 2
              · rw [if_pos h7, if_pos ⟨⟨by omega, h6⟩, by omega, h7⟩]
                refine (last s i 3 ((nb s i % 16 * 64 + nb s (i + 1) % 64) * 64 + nb s (i + 2) % 64) 2048 (k + 2)).trans ?_
                have ec : nb s i % 16 * 4096 + nb s (i + 1) % 64 * 64 + nb s (i + 2) % 64 = (nb s i % 16 * 64 + nb s (i + 1) % 64) * 64 + nb s (i + 2) % 64 := by omega
                rw [ec]
                generalize (nb s i % 16 * 64 + nb s (i + 1) % 64) * 64 + nb s (i + 2) % 64 = c
                have hv := valid_iff c
                by_cases h8 : c < 2048 ∨ 1114111 < c ∨ 55296 ≤ c ∧ c ≤ 57343
                · rw [if_pos h8, if_neg (fun h => by have := hv.1 h.2; omega)]
                  rfl
                · rw [if_neg h8, if_pos ⟨by omega, hv.2 (by omega)⟩]
                  unfold told
                  rw [if_neg (by simp only; omega)]
              · rw [if_neg h7, if_neg (fun h => h7 h.2.2)]
                rfl
            · rw [if_neg h6, if_neg (fun h => h6 h.1.2)]
              rfl
          · rw [if_neg h5, if_neg (by omega)]
            rfl
        · rw [decide_eq_false (by omega)]
          simp only [spec_Rune.j2]
          rw [if_neg (by decide), if_pos (by omega)]
          by_cases h5 : nb s i ≤ 244
          · rw [if_pos (by omega), and7 _ (by omega) (by omega), dec4 s i ⟨by omega, h5⟩]
            have ej := j3_n s i 4 (nb s i % 8) 65536 (k + 5) hs hi (by decide) (by decide)
            rw [show ((nb s i % 8 : Nat) : Int) = (nb s i : Int) % 8 by omega] at ej
            refine ej.trans ?_
            by_cases h6 : i + 4 ≤ s.size
            · rw [if_pos h6]
              have es := step s i 4 1 (nb s i % 8) 65536 (k + 4) hs (by decide) (by decide) h6 (by omega)
              rw [show ((nb s i % 8 : Nat) : Int) = (nb s i : Int) % 8 by omega] at es
              refine es.trans ?_
              by_cases h7 : nb s (i + 1) / 64 = 2
              · rw [if_pos h7]
                refine (step s i 4 2 (nb s i % 8 * 64 + nb s (i + 1) % 64) 65536 (k + 3) hs (by decide) (by decide) h6 (by omega)).trans ?_
                by_cases h8 : nb s (i + 2) / 64 = 2
                · rw [if_pos h8]
                  refine (step s i 4 3 ((nb s i % 8 * 64 + nb s (i + 1) % 64) * 64 + nb s (i + 2) % 64) 65536 (k + 2) hs (by decide) (by decide) h6 (by omega)).trans ?_
                  by_cases h9 : nb s (i + 3) / 64 = 2
                  · rw [if_pos h9, if_pos ⟨⟨by omega, h7⟩, ⟨by omega, h8⟩, by omega, h9⟩]
                    refine (last s i 4 (((nb s i % 8 * 64 + nb s (i + 1) % 64) * 64 + nb s (i + 2) % 64) * 64 + nb s (i + 3) % 64) 65536 (k + 1)).trans ?_
                    have ec : nb s i % 8 * 262144 + nb s (i + 1) % 64 * 4096 + nb s (i + 2) % 64 * 64 + nb s (i + 3) % 64 = ((nb s i % 8 * 64 + nb s (i + 1) % 64) * 64 + nb s (i + 2) % 64) * 64 + nb s (i + 3) % 64 := by omega
                    rw [ec]
                    generalize ((nb s i % 8 * 64 + nb s (i + 1) % 64) * 64 + nb s (i + 2) % 64) * 64 + nb s (i + 3) % 64 = c
                    have hv := valid_iff c
                    by_cases hc : c < 65536 ∨ 1114111 < c ∨ 55296 ≤ c ∧ c ≤ 57343
                    · rw [if_pos hc, if_neg (fun h => by have := hv.1 h.2; omega)]
                      rfl
                    · rw [if_neg hc, if_pos ⟨by omega, hv.2 (by omega)⟩]
                      unfold told
                      rw [if_neg (by simp only; omega)]
                  · rw [if_neg h9, if_neg (fun h => h9 h.2.2.2)]
                    rfl
                · rw [if_neg h8, if_neg (fun h => h8 h.2.1.2)]
                  rfl
              · rw [if_neg h7, if_neg (fun h => h7 h.1.2)]
                rfl
            · rw [if_neg h6, if_neg (by omega)]
              rfl
          · rw [if_neg (by omega), j3_zero, dec_bad s i (.inr (by omega))]
            rfl

end Go.Proofs.Ytnciphcnkbcncaa.runes
