/-
  FnFinalize, the plain part: what MapsFit and MappingsText answer (the printed functions): mappings that fit are in order, and their text is the text of their items.
  Conditions: at most 1,000 mappings of numbers of 64 bits.
-/
import Derived.Test.YtdhaifcjhmmdlaaFnFinalizex4
import Derived.Test.YtdhaifcjhmmdlaaFnFinalizeHd
namespace Go.Proofs.Ytdhaifcjhmmdlaa.fnFinalize
open Go.RowKit Go.Proofs.YtdhaifcjhmmdlaaW.PrintWords Go.Proofs.YtdhaifcjhmmdlaaW.PrintLast Go.Proofs.YtdhaifcjhmmdlaaW.PrintMore Go.Proofs.Ytdhaifcjhmmdlaa.PFnFinalize
set_option linter.unusedVariables false
set_option linter.unusedSimpArgs false

theorem rd_nat (xs : List S27) (i : Nat) : rd_T27 xs (i : Int) = xs.getD i z27 := by unfold rd_T27; rw [Int.toNat_natCast]
theorem up_nat (i : Nat) (h : i ≤ 1000000) : wrap64 ((i : Int) + 1) = ((i + 1 : Nat) : Int) := by unfold wrap64; omega
/-- a mapping stands before another -/
def befS (a b : S27) : Prop := a.f0 < b.f0 ∨ (a.f0 = b.f0 ∧ a.f1 < b.f1)
theorem before_f (a b : S27) : ∃ r, spec_Before.f a.f0 a.f1 b.f0 b.f1 = some r ∧ (r = false → ¬ befS a b) := by
  unfold spec_Before.f befS
  by_cases h1 : a.f0 < b.f0
  · rw [if_pos h1]; exact ⟨true, rfl, fun h => by cases h⟩
  · rw [if_neg h1]
    by_cases h2 : a.f0 = b.f0
    · rw [if_pos h2]
      refine ⟨_, rfl, fun h h3 => ?_⟩
      have : ¬ a.f1 < b.f1 := by simpa using h
      rcases h3 with h3 | h3
      · exact h1 h3
      · exact this h3.2
    · rw [if_neg h2]
      exact ⟨false, rfl, fun _ h3 => h3.elim h1 (fun h3 => h2 h3.1)⟩
theorem ordered_l (xs : List S27) (hn : xs.length ≤ 1000) : ∀ m i, 1 ≤ i → (i + m = xs.length ∨ (m = 0 ∧ xs.length ≤ i)) → i ≤ 1001 → ∃ r, spec_Ordered.l0 (m + 1) xs (i : Int) = some r ∧ (r = true → ∀ j, i ≤ j → j < xs.length → ¬ befS (xs.getD j z27) (xs.getD (j - 1) z27)) := by
  intro m
  induction m with
  | zero =>
    intro i h1 h2 h3
    unfold spec_Ordered.l0
    rw [if_neg (by omega)]
    exact ⟨true, rfl, fun _ j a b => by omega⟩
  | succ m ih =>
    intro i h1 h2 h3
    have hlt : i < xs.length := by omega
    have hd : wrap64 ((i : Int) - 1) = ((i - 1 : Nat) : Int) := by unfold wrap64; omega
    unfold spec_Ordered.l0
    rw [if_pos (by omega), if_pos (by omega), hd, if_pos (by omega), if_pos (by omega), rd_nat, rd_nat, up_nat i (by omega)]
    obtain ⟨r, hr, hb⟩ := before_f (xs.getD i z27) (xs.getD (i - 1) z27)
    rw [hr]
    cases r
    · obtain ⟨q, hq, hp⟩ := ih (i + 1) (by omega) (by omega) (by omega)
      refine ⟨q, ?_, fun h j a b => ?_⟩
      · show (if false = true then some false else _) = _
        rw [if_neg (by simp)]
        exact hq
      · by_cases e : j = i
        · subst e; exact hb rfl
        · exact hp h j (by omega) b
    · exact ⟨false, rfl, fun h => by cases h⟩
/-- mappings in order -/
def Sorted (xs : List S27) : Prop := ∀ j, 1 ≤ j → j < xs.length → ¬ befS (xs.getD j z27) (xs.getD (j - 1) z27)
theorem ordered_f (xs : List S27) (hn : xs.length ≤ 1000) : ∃ r, spec_Ordered.f 1001 xs = some r ∧ (r = true → Sorted xs) := by
  by_cases h : xs.length = 0
  · obtain ⟨r, h1, h2⟩ := ordered_l xs hn 0 1 (by omega) (.inr ⟨rfl, by omega⟩) (by omega)
    refine ⟨r, ?_, fun h j a b => by omega⟩
    unfold spec_Ordered.f
    unfold spec_Ordered.l0 at h1 ⊢
    rw [if_neg (by omega)] at h1 ⊢
    exact h1
  · obtain ⟨r, h1, h2⟩ := ordered_l xs hn (xs.length - 1) 1 (by omega) (.inl (by omega)) (by omega)
    refine ⟨r, ?_, h2⟩
    have up : ∀ d k, spec_Ordered.l0 k xs 1 = some r → spec_Ordered.l0 (k + d) xs 1 = some r := by
      intro d
      induction d with
      | zero => intro k h; exact h
      | succ d ih => intro k h; exact spec_Ordered.mono_l (k + d) xs 1 r (ih k h)
    have := up (1001 - (xs.length - 1 + 1)) _ h1
    rw [show xs.length - 1 + 1 + (1001 - (xs.length - 1 + 1)) = 1001 by omega] at this
    exact this
/-- numbers that fit -/
def Fit' (x : S27) : Prop := (0 ≤ x.f0 ∧ x.f0 ≤ 1073741824) ∧ (0 ≤ x.f1 ∧ x.f1 ≤ 1073741824) ∧ (0 ≤ x.f2 ∧ x.f2 ≤ 1073741824) ∧ (0 ≤ x.f3 ∧ x.f3 ≤ 1073741824) ∧ (0 ≤ x.f4 ∧ x.f4 ≤ 1073741824) ∧ (-1 ≤ x.f5 ∧ x.f5 ≤ 1073741824)
theorem fits_l1 (y : List Int) (hy : y.length ≤ 1000) (K : Nat) (x0 x7 : List S27) (x8 x9 : Int) (b0 b1 b2 b3 b4 b5 : Int) : ∀ m i, i + m = y.length →
    (spec_MapsFit.l1 (K + m + 1) x0 x7 x8 x9 y (y.length : Int) (i : Int) b0 b1 b2 b3 b4 b5 = some false) ∨
    ((∀ j, i ≤ j → j < y.length → 0 ≤ y.getD j 0 ∧ y.getD j 0 ≤ 1073741824) ∧ spec_MapsFit.l1 (K + m + 1) x0 x7 x8 x9 y (y.length : Int) (i : Int) b0 b1 b2 b3 b4 b5 = (if b0 > 1000 then (some false) else spec_MapsFit.l0 K x0 x7 x8 (wrap64 (x9 + 1)))) := by
  intro m
  induction m with
  | zero =>
    intro i hi
    unfold spec_MapsFit.l1
    rw [if_neg (by omega)]
    exact .inr ⟨fun j a b => by omega, rfl⟩
  | succ m ih =>
    intro i hi
    have e : rd y (i : Int) = y.getD i 0 := by unfold rd; rw [Int.toNat_natCast]
    have hs : K + (m + 1) + 1 = (K + m + 1) + 1 := by omega
    rw [hs]
    unfold spec_MapsFit.l1
    rw [if_pos (by omega), if_pos (by omega), if_pos (by omega), e, up_nat i (by omega)]
    by_cases h1 : y.getD i 0 < 0
    · rw [if_pos h1]; exact .inl rfl
    · rw [if_neg h1]
      by_cases h2 : y.getD i 0 > 1073741824
      · rw [if_pos h2]; exact .inl rfl
      · rw [if_neg h2]
        rcases ih (i + 1) (by omega) with h | ⟨h, h'⟩
        · exact .inl h
        · refine .inr ⟨fun j a b => ?_, h'⟩
          by_cases ej : j = i
          · subst ej; omega
          · exact h j (by omega) b
theorem fits_l0 (xs : List S27) (hn : xs.length ≤ 1000) (hr : ∀ i, i < xs.length → -9223372036854775808 ≤ (xs.getD i z27).f5 ∧ (xs.getD i z27).f5 ≤ 9223372036854775807) : ∀ m i, i + m = xs.length →
    ∃ r, spec_MapsFit.l0 (8 * m + 1002) xs xs (xs.length : Int) (i : Int) = some r ∧ (r = true → Sorted xs ∧ ∀ j, i ≤ j → j < xs.length → Fit' (xs.getD j z27)) := by
  intro m
  induction m with
  | zero =>
    intro i hi
    unfold spec_MapsFit.l0
    rw [if_neg (by omega)]
    obtain ⟨r, h1, h2⟩ := ordered_f xs hn
    rw [h1]
    exact ⟨r, rfl, fun h => ⟨h2 h, fun j a b => by omega⟩⟩
  | succ m ih =>
    intro i hi
    have hs : 8 * (m + 1) + 1002 = (8 * m + 1002 + 6 + 1) + 1 := by omega
    rw [hs]
    unfold spec_MapsFit.l0
    rw [if_pos (by omega), if_pos (by omega), if_pos (by omega), rd_nat]
    have hf := hr i (by omega)
    generalize hx : xs.getD i z27 = x at hf
    have hl := fits_l1 [x.f0, x.f1, x.f2, x.f3, x.f4, wrap64 (x.f5 + 1)] (by simp) (8 * m + 1002) xs xs (xs.length : Int) (i : Int) x.f0 x.f1 x.f2 x.f3 x.f4 x.f5 6 0 (by simp)
    rw [show ((0 : Nat) : Int) = 0 from rfl] at hl
    show ∃ r, spec_MapsFit.l1 (8 * m + 1002 + 6 + 1) xs xs (xs.length : Int) (i : Int) [x.f0, x.f1, x.f2, x.f3, x.f4, wrap64 (x.f5 + 1)] (([x.f0, x.f1, x.f2, x.f3, x.f4, wrap64 (x.f5 + 1)] : List Int).length : Int) 0 x.f0 x.f1 x.f2 x.f3 x.f4 x.f5 = some r ∧ _
    rcases hl with hl | ⟨hl, hl'⟩
    · rw [hl]; exact ⟨false, rfl, fun h => by cases h⟩
    · rw [hl', up_nat i (by omega)]
      by_cases hbig : x.f0 > 1000
      · rw [if_pos hbig]; exact ⟨false, rfl, fun h => by cases h⟩
      · rw [if_neg hbig]
        obtain ⟨r, h1, h2⟩ := ih (i + 1) (by omega)
        rw [h1]
        refine ⟨r, rfl, fun h => ⟨(h2 h).1, fun j a b => ?_⟩⟩
        by_cases ej : j = i
        · subst ej
          rw [hx]
          have q5 := hl 5 (by omega) (by simp)
          have q5' : 0 ≤ wrap64 (x.f5 + 1) ∧ wrap64 (x.f5 + 1) ≤ 1073741824 := q5
          refine ⟨hl 0 (by omega) (by simp), hl 1 (by omega) (by simp), hl 2 (by omega) (by simp), hl 3 (by omega) (by simp), hl 4 (by omega) (by simp), ?_⟩
          unfold wrap64 at q5'
          omega
        · exact (h2 h).2 j (by omega) b
theorem fits_f (xs : List S27) (hn : xs.length ≤ 1000) (hr : ∀ i, i < xs.length → -9223372036854775808 ≤ (xs.getD i z27).f5 ∧ (xs.getD i z27).f5 ≤ 9223372036854775807) :
    ∃ k r, spec_MapsFit.f k xs = some r ∧ (r = true → Sorted xs ∧ ∀ j, j < xs.length → Fit' (xs.getD j z27)) := by
  obtain ⟨r, h1, h2⟩ := fits_l0 xs hn hr xs.length 0 (by omega)
  exact ⟨_, r, h1, fun h => ⟨(h2 h).1, fun j b => (h2 h).2 j (Nat.zero_le _) b⟩⟩

/-! ### the text -/
def mp (x : S27) : Mp := ⟨x.f0, x.f1, x.f2, x.f3, x.f4, x.f5⟩
theorem text_semi (L : List S27) (i N a2 a3 a4 a5 f0 f1 f2 f3 f4 f5 : Int) (hf : f0 ≤ 1000) : ∀ (n k : Nat) (line col : Int) (out : List UInt8), f0 = line + n → 0 ≤ line → out.length + n ≤ 1000000000 →
    spec_MappingsText.l1 (k + n) L (bs out) i N i line col a2 a3 a4 a5 f0 f1 f2 f3 f4 f5 = spec_MappingsText.l1 k L (bs (out ++ List.replicate n 59)) i N i f0 (if 0 < n then 0 else col) a2 a3 a4 a5 f0 f1 f2 f3 f4 f5 := by
  intro n
  induction n with
  | zero =>
    intro k line col out h _ _
    obtain rfl : f0 = line := by omega
    simp
  | succ n ih =>
    intro k line col out h h0 hl
    rw [show k + (n + 1) = (k + n) + 1 by omega]
    rw [spec_MappingsText.l1, if_pos (by omega), if_pos (by rw [bs_size]; omega), show wrap64 (line + 1) = line + 1 by unfold wrap64; omega]
    have e : bs out ++ (⟨#[59]⟩ : ByteArray) = bs (out ++ [59]) := bs_append out [59]
    rw [e, ih k (line + 1) 0 (out ++ [59]) (by omega) (by omega) (by simp; omega)]
    simp [List.replicate_succ]
structure Bd (s : St) : Prop where
  line : 0 ≤ s.line ∧ s.line ≤ 1000
  col : 0 ≤ s.col ∧ s.col ≤ 1073741824
  src : 0 ≤ s.src ∧ s.src ≤ 1073741824
  ol : 0 ≤ s.ol ∧ s.ol ≤ 1073741824
  oc : 0 ≤ s.oc ∧ s.oc ≤ 1073741824
  nm : 0 ≤ s.nm ∧ s.nm ≤ 1073741824
theorem vlq_len (n : Int) (h0 : -2147483648 < n) (h1 : n < 2147483648) : (vlq n).length ≤ 7 := by
  have hz := zig_lt n 2147483648 (by omega) (by omega)
  exact vl_len 6 (zig n) (by
    have e : (32 : Nat) ^ (6 + 1) = 34359738368 := by decide
    omega)
theorem vt (k : Nat) (hk : 11 ≤ k) (n : Int) (h0 : -2147483648 < n) (h1 : n < 2147483648) : spec_VLQText.f k n = some (bs (vlq n)) := by
  obtain ⟨q, rfl⟩ : ∃ q, k = q + 11 := ⟨k - 11, by omega⟩
  exact vlqText_k q n (by omega) (by omega)
/-- the numbers of one mapping -/
theorem text_j3 (L : List S27) (N : Int) (i : Nat) (hi : i ≤ 1000) (k : Nat) (hk : 11 ≤ k) (out : List UInt8) (ho : out.length ≤ 1000000000) (line col : Int) (s : St) (hs : Bd s) (hc : 0 ≤ col ∧ col ≤ 1073741824) (x : S27) (hx : Fit' x) :
    spec_MappingsText.j3 (k + 1) L (bs out) N (i : Int) line col s.src s.ol s.oc s.nm x.f0 x.f1 x.f2 x.f3 x.f4 x.f5 =
      spec_MappingsText.l0 k L (bs (out ++ (vlq (x.f1 - col) ++ (vlq (x.f2 - s.src) ++ (vlq (x.f3 - s.ol) ++ (vlq (x.f4 - s.oc) ++ (if 0 ≤ x.f5 then vlq (x.f5 - s.nm) else []))))))) N ((i + 1 : Nat) : Int) line x.f1 x.f2 x.f3 x.f4 (if 0 ≤ x.f5 then x.f5 else s.nm) := by
  obtain ⟨x0, x1, x2, x3, x4, x5⟩ := hx
  obtain ⟨s0, s1, s2, s3, s4, s5⟩ := hs
  have w : ∀ n : Int, -2147483648 < n → n < 2147483648 → wrap64 n = n := fun n h0 h1 => by unfold wrap64; omega
  have l1 := vlq_len (x.f1 - col) (by omega) (by omega)
  have l2 := vlq_len (x.f2 - s.src) (by omega) (by omega)
  have l3 := vlq_len (x.f3 - s.ol) (by omega) (by omega)
  have l4 := vlq_len (x.f4 - s.oc) (by omega) (by omega)
  unfold spec_MappingsText.j3
  rw [w _ (by omega) (by omega), vt k hk _ (by omega) (by omega)]
  show ((spec_VLQText.f k (wrap64 (x.f2 - s.src))).bind fun t120 => _) = _
  rw [w _ (by omega) (by omega), vt k hk _ (by omega) (by omega)]
  show (if (bs (vlq (x.f1 - col))).size + (bs (vlq (x.f2 - s.src))).size ≤ 9223372036854775807 then _ else _) = _
  rw [if_pos (by rw [bs_size, bs_size]; omega), w _ (by omega) (by omega), vt k hk _ (by omega) (by omega), bs_append]
  show (if (bs (vlq (x.f1 - col) ++ vlq (x.f2 - s.src))).size + (bs (vlq (x.f3 - s.ol))).size ≤ 9223372036854775807 then _ else _) = _
  rw [if_pos (by rw [bs_size, bs_size, List.length_append]; omega), w _ (by omega) (by omega), vt k hk _ (by omega) (by omega), bs_append]
  show (if (bs (vlq (x.f1 - col) ++ vlq (x.f2 - s.src) ++ vlq (x.f3 - s.ol))).size + (bs (vlq (x.f4 - s.oc))).size ≤ 9223372036854775807 then _ else _) = _
  rw [if_pos (by rw [bs_size, bs_size]; simp only [List.length_append]; omega), bs_append, if_pos (by rw [bs_size, bs_size]; simp only [List.length_append]; omega), bs_append, up_nat i (by omega)]
  by_cases h5 : 0 ≤ x.f5
  · have l5 := vlq_len (x.f5 - s.nm) (by omega) (by omega)
    rw [if_pos h5, if_pos h5, if_pos h5, w _ (by omega) (by omega), vt k hk _ (by omega) (by omega)]
    show (if (bs (out ++ _)).size + (bs (vlq (x.f5 - s.nm))).size ≤ 9223372036854775807 then _ else _) = _
    rw [if_pos (by rw [bs_size, bs_size]; simp only [List.length_append]; omega), bs_append]
    simp only [List.append_assoc]
  · rw [if_neg h5, if_neg h5, if_neg h5]
    simp only [List.append_assoc, List.append_nil]
theorem it_txt (s : St) (fst : Bool) (x : S27) : (itOf s fst (mp x)).txt = List.replicate (x.f0 - s.line).toNat 59 ++ ((if (!fst && decide (s.line = x.f0)) = true then [44] else []) ++ (vlq (x.f1 - (if s.line < x.f0 then 0 else s.col)) ++ (vlq (x.f2 - s.src) ++ (vlq (x.f3 - s.ol) ++ (vlq (x.f4 - s.oc) ++ (if 0 ≤ x.f5 then vlq (x.f5 - s.nm) else [])))))) := by
  unfold It.txt It.head It.rest itOf mp
  by_cases h5 : 0 ≤ x.f5
  · simp [h5]
  · simp [h5]
theorem Bd.next {s : St} (h : Bd s) {x : S27} (hx : Fit' x) (hl : x.f0 ≤ 1000) : Bd (s.next (mp x)) := by
  obtain ⟨x0, x1, x2, x3, x4, x5⟩ := hx
  refine ⟨⟨x0.1, hl⟩, x1, x2, x3, x4, ?_⟩
  show 0 ≤ (if 0 ≤ x.f5 then x.f5 else s.nm) ∧ (if 0 ≤ x.f5 then x.f5 else s.nm) ≤ _
  have := h.nm
  split <;> omega
theorem text_l0 (L : List S27) (hn : L.length ≤ 1000) (hF : ∀ j, j < L.length → Fit' (L.getD j z27) ∧ (L.getD j z27).f0 ≤ 1000) (hS : Sorted L) : ∀ (m i : Nat) (k : Nat) (out : List UInt8) (s : St), i + m = L.length → 12 + 1010 * m ≤ k → out.length ≤ 2000 * i → Bd s → (i = 0 → s = st0) → (0 < i → s.line = (L.getD (i - 1) z27).f0) →
    spec_MappingsText.l0 k L (bs out) (L.length : Int) (i : Int) s.line s.col s.src s.ol s.oc s.nm = some (bs (out ++ rn (its s (decide (i = 0)) ((L.drop i).map mp)))) := by
  intro m
  induction m with
  | zero =>
    intro i k out s hi hk ho hs h0 h1
    obtain ⟨k, rfl⟩ : ∃ q, k = q + 1 := ⟨k - 1, by omega⟩
    unfold spec_MappingsText.l0
    rw [if_neg (by omega), List.drop_of_length_le (by omega)]
    simp [its, rn]
  | succ m ih =>
    intro i k out s hi hk ho hs h0 h1
    have hlt : i < L.length := by omega
    obtain ⟨hx, hx0⟩ := hF i hlt
    have hdrop : L.drop i = L.getD i z27 :: L.drop (i + 1) := by
      rw [List.drop_eq_getElem_cons hlt]
      simp [List.getD, hlt]
    have hle : s.line ≤ (L.getD i z27).f0 := by
      by_cases e : i = 0
      · rw [h0 e]; exact hx.1.1
      · have := hS i (by omega) hlt
        have e1 := h1 (by omega)
        unfold befS at this
        omega
    have hprev : 0 < i → s.line = (rd_T27 L ((i : Int) - 1)).f0 := fun h => by
      rw [h1 h]
      unfold rd_T27
      rw [show ((i : Int) - 1).toNat = i - 1 by omega]
    generalize hxx : L.getD i z27 = x at hx hx0 hdrop hle
    have hsl := hs.line
    obtain ⟨n, hn'⟩ : ∃ n : Nat, n = (x.f0 - s.line).toNat := ⟨_, rfl⟩
    have hnn : x.f0 = s.line + n := by omega
    obtain ⟨q, hq⟩ : ∃ q, k = (q + 1 + 1 + 1 + n) + 1 := ⟨k - n - 4, by omega⟩
    have hcol : 0 ≤ (if 0 < n then 0 else s.col) ∧ (if 0 < n then (0 : Int) else s.col) ≤ 1073741824 := by
      have := hs.col
      split <;> omega
    have hcol2 : (if 0 < n then (0 : Int) else s.col) = if s.line < x.f0 then 0 else s.col := by
      by_cases e : 0 < n
      · rw [if_pos e, if_pos (by omega)]
      · rw [if_neg e, if_neg (by omega)]
    subst hq
    rw [spec_MappingsText.l0, if_pos (by omega), if_pos (by omega), if_pos (by omega), rd_nat, hxx, text_semi L (i : Int) (L.length : Int) s.src s.ol s.oc s.nm x.f0 x.f1 x.f2 x.f3 x.f4 x.f5 hx0 n (q + 1 + 1 + 1) s.line s.col out hnn hsl.1 (by omega)]
    have key : ∀ c : Bool, c = (!(decide (i = 0)) && decide (s.line = x.f0)) → spec_MappingsText.j2 (q + 1 + 1) L (bs (out ++ List.replicate n 59)) (L.length : Int) (i : Int) c x.f0 (if 0 < n then 0 else s.col) s.src s.ol s.oc s.nm x.f0 x.f1 x.f2 x.f3 x.f4 x.f5 = some (bs (out ++ rn (its s (decide (i = 0)) ((L.drop i).map mp)))) := by
      intro c hc
      have fin : spec_MappingsText.j3 (q + 1) L (bs (out ++ List.replicate n 59 ++ (if c = true then [44] else []))) (L.length : Int) (i : Int) x.f0 (if 0 < n then 0 else s.col) s.src s.ol s.oc s.nm x.f0 x.f1 x.f2 x.f3 x.f4 x.f5 = some (bs (out ++ rn (its s (decide (i = 0)) ((L.drop i).map mp)))) := by
        have hlc : (if c = true then ([44] : List UInt8) else []).length ≤ 1 := by split <;> simp
        rw [text_j3 L (L.length : Int) i (by omega) q (by omega) _ (by simp only [List.length_append, List.length_replicate]; omega) x.f0 _ s hs hcol x hx]
        rw [hdrop, List.map_cons, show its s (decide (i = 0)) (mp x :: (L.drop (i + 1)).map mp) = itOf s (decide (i = 0)) (mp x) :: its (s.next (mp x)) false ((L.drop (i + 1)).map mp) from rfl, rn_cons, it_txt, ← hc, ← hn', ← hcol2]
        have hlen : (itOf s (decide (i = 0)) (mp x)).txt.length ≤ 1036 := by
          obtain ⟨x0, x1, x2, x3, x4, x5⟩ := hx
          obtain ⟨s0, s1, s2, s3, s4, s5⟩ := hs
          have l1 := vlq_len (x.f1 - (if 0 < n then 0 else s.col)) (by omega) (by omega)
          have l2 := vlq_len (x.f2 - s.src) (by omega) (by omega)
          have l3 := vlq_len (x.f3 - s.ol) (by omega) (by omega)
          have l4 := vlq_len (x.f4 - s.oc) (by omega) (by omega)
          have l5 : (if 0 ≤ x.f5 then vlq (x.f5 - s.nm) else []).length ≤ 7 := by
            by_cases h5 : 0 ≤ x.f5
            · rw [if_pos h5]
              exact vlq_len (x.f5 - s.nm) (by omega) (by omega)
            · rw [if_neg h5]; simp
          rw [it_txt, ← hc, ← hn', ← hcol2]
          simp only [List.length_append, List.length_replicate]
          omega
        have hih := ih (i + 1) q (out ++ (itOf s (decide (i = 0)) (mp x)).txt) (s.next (mp x)) (by omega) (by omega) (by rw [List.length_append]; omega) (hs.next hx hx0) (by omega) (fun _ => by rw [Nat.add_sub_cancel, hxx]; rfl)
        rw [decide_eq_false (by omega : ¬ i + 1 = 0), it_txt, ← hc, ← hn', ← hcol2] at hih
        simp only [List.append_assoc] at hih ⊢
        exact hih
      unfold spec_MappingsText.j2
      cases c with
      | true =>
        rw [if_pos rfl, if_pos (by rw [bs_size]; simp only [List.length_append, List.length_replicate]; omega)]
        have e : bs (out ++ List.replicate n 59) ++ (⟨#[44]⟩ : ByteArray) = bs (out ++ List.replicate n 59 ++ [44]) := bs_append _ [44]
        rw [e]
        exact fin
      | false =>
        rw [if_neg (by simp)]
        simpa using fin
    rw [spec_MappingsText.l1, if_neg (by omega)]
    by_cases hi0 : 0 < i
    · have e1 : wrap64 ((i : Int) - 1) = (i : Int) - 1 := by unfold wrap64; omega
      rw [if_pos (by omega), e1, if_pos (by omega), if_pos (by omega)]
      refine key _ ?_
      rw [← hprev hi0, decide_eq_false (by omega : ¬ i = 0)]
      by_cases e : s.line = x.f0
      · simp [e]
      · simp [e]
    · rw [if_neg (by omega)]
      refine key false ?_
      rw [decide_eq_true (by omega : i = 0)]
      simp
theorem text_f (L : List S27) (hn : L.length ≤ 1000) (hF : ∀ j, j < L.length → Fit' (L.getD j z27) ∧ (L.getD j z27).f0 ≤ 1000) (hS : Sorted L) : ∃ k, spec_MappingsText.f k L = some (bs (rn (its st0 true (L.map mp)))) := by
  refine ⟨12 + 1010 * L.length, ?_⟩
  have h := text_l0 L hn hF hS L.length 0 (12 + 1010 * L.length) [] st0 (by omega) (Nat.le_refl _) (by simp) ⟨by decide, by decide, by decide, by decide, by decide, by decide⟩ (fun _ => rfl) (by omega)
  exact h
end Go.Proofs.Ytdhaifcjhmmdlaa.fnFinalize
