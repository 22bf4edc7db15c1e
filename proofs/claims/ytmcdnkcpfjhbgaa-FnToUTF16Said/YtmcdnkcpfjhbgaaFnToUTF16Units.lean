/-
  Plain lemmas for FnToUTF16: the code units that spec.WtfUnits tells of a well-formed text are those of the model's decoding.
  Conditions: texts of at most 2^31 - 1 bytes.
-/
import Derived.Test.YtmcdnkcpfjhbgaaFnToUTF16Runes
import Derived.Test.YtmcdnkcpfjhbgaaFnToUTF16Walk
namespace Go.Proofs.Ytmcdnkcpfjhbgaa.unitsPure
open Go.RowKit Go.Proofs.YtmcdnkcpfjhbgaaW.PrintWords Go.Proofs.YtmcdnkcpfjhbgaaW.PrintLast Go.Proofs.YtmcdnkcpfjhbgaaW.PrintMore Go.Proofs.Ytmcdnkcpfjhbgaa.PFnToUTF16 Go.Proofs.Ytmcdnkcpfjhbgaa.runes Go.Proofs.Ytmcdnkcpfjhbgaa.fnToUTF16
set_option linter.unusedVariables false

/-! ### the decoding of a text's end -/
theorem nb_out (s : ByteArray) (i : Nat) (h : ¬ i < s.size) : nb s i = 0 := by
  unfold nb
  have e : s.get! i = default := by
    simp only [ByteArray.get!]
    exact getElem!_neg s.data i (by simpa using h)
  rw [e]
  rfl
theorem nb_in (s : ByteArray) (i : Nat) (h : i < s.size) : nb s i = (s[i]).toNat := by
  have e : s.get! i = s[i] := by
    simp [ByteArray.get!, getElem!_pos, h]
    rfl
  unfold nb
  rw [e]
theorem nb_extract (s : ByteArray) (p i : Nat) (hp : p ≤ s.size) : nb (s.extract p s.size) i = nb s (p + i) := by
  have hz : (s.extract p s.size).size = s.size - p := by simp
  by_cases h : p + i < s.size
  · rw [nb_in _ _ (by omega), nb_in s _ h]
    congr 1
    simp [ByteArray.getElem_extract]
  · rw [nb_out _ _ (by omega), nb_out s _ h]
theorem decode_extract (s : ByteArray) (p i : Nat) (hp : p ≤ s.size) : Utf8.decode (s.extract p s.size) i = Utf8.decode s (p + i) := by
  have h : ∀ k, ((s.extract p s.size).get! (i + k)).toNat = (s.get! (p + i + k)).toNat := fun k => by
    have := nb_extract s p (i + k) hp
    unfold nb at this
    rw [this, Nat.add_assoc]
  have hz : (s.extract p s.size).size = s.size - p := by simp
  have hc : ∀ k, (i + k < s.size - p) = (p + i + k < s.size) := fun k => by apply propext; omega
  simp only [Utf8.decode, h, hz, hc]

theorem decode_fits (s : ByteArray) (i : Nat) (h : i < s.size) : 1 ≤ (Utf8.decode s i).2 ∧ i + (Utf8.decode s i).2 ≤ s.size := by
  refine ⟨Lib.decode_width_pos s i h, ?_⟩
  simp only [Utf8.decode]
  repeat' split
  all_goals (simp_all; try omega)

theorem decode_scalar (s : ByteArray) (i : Nat) : ¬ (55296 ≤ (Utf8.decode s i).1 ∧ (Utf8.decode s i).1 ≤ 57343) ∧ (Utf8.decode s i).1 ≤ 1114111 ∧ (65536 ≤ (Utf8.decode s i).1 → (Utf8.decode s i).2 = 4) := by
  have hb := (s.get! (i + 0)).toNat_lt
  have hb1 := (s.get! (i + 1)).toNat_lt
  have hb2 := (s.get! (i + 2)).toNat_lt
  have hb3 := (s.get! (i + 3)).toNat_lt
  simp only [Utf8.decode, Utf8.runeError]
  repeat' split
  all_goals (simp_all [Utf8.valid]; try omega)

/-- a well-formed code point is no surrogate -/
theorem told_good (s : ByteArray) (i : Nat) (h : i < s.size) : ∃ r n : Nat, told (Utf8.decode s i) = ((r : Int), (n : Int)) ∧ (n = 0 ∨ 1 ≤ n ∧ i + n ≤ s.size ∧ Utf8.decode s i = (r, n) ∧ ¬ (55296 ≤ r ∧ r ≤ 57343) ∧ r ≤ 1114111 ∧ (65536 ≤ r → n = 4)) := by
  unfold told
  have h1 := decode_fits s i h
  have h2 := decode_scalar s i
  by_cases hb : (Utf8.decode s i).1 = 65533 ∧ (Utf8.decode s i).2 = 1
  · rw [if_pos hb]
    exact ⟨0, 0, rfl, .inl rfl⟩
  · rw [if_neg hb]
    exact ⟨_, _, rfl, .inr ⟨h1.1, h1.2, rfl, h2⟩⟩
theorem told_nonneg (d : Nat × Nat) : 0 ≤ (told d).2 := by
  unfold told
  split
  · exact Int.le_refl _
  · exact Int.natCast_nonneg _

theorem rune_ge (s : ByteArray) (i m : Nat) (hm : 10 ≤ m) (hs : s.size ≤ 140737488351232) (hi : i < s.size) : spec_Rune.f m s i = some (told (Utf8.decode s i)) := by
  obtain ⟨k, rfl⟩ : ∃ k, m = k + 10 := ⟨m - 10, by omega⟩
  exact rune_told s i k hs hi

theorem wtf_rune (t : ByteArray) (k : Nat) (hk : 10 ≤ k) (hs : t.size ≤ 140737488351232) (h : 0 < t.size) :
    ∃ r n : Int, spec_WtfRune.f k t = some (r, n) ∧ (n = 0 ∨ 1 ≤ n ∧ n ≤ t.size) ∧ (0 < (told (Utf8.decode t 0)).2 → (r, n) = told (Utf8.decode t 0)) := by
  have e := rune_ge t 0 k hk hs h
  rw [show ((0 : Nat) : Int) = 0 from rfl] at e
  obtain ⟨r0, n0, e1, e2⟩ := told_good t 0 h
  unfold spec_WtfRune.f
  rw [e, e1]
  simp only [Option.bind_some]
  by_cases hn : (n0 : Int) > 0
  · rw [if_pos hn]
    refine ⟨_, _, rfl, ?_, fun _ => rfl⟩
    omega
  · rw [if_neg hn]
    have hz : ∀ {P : Prop}, (0 : Int) < (n0 : Int) → P := fun h => absurd h hn
    repeat' split
    all_goals first
      | exact ⟨_, _, rfl, by omega, fun h => hz h⟩
      | omega

/-! ### well-formed texts -/
def wfb (s : ByteArray) : Nat → Nat → Bool
  | 0, _ => true
  | fuel + 1, pos => if pos < s.size then (if (told (Utf8.decode s pos)).2 = 0 then false else wfb s fuel (pos + (Utf8.decode s pos).2)) else true

theorem wf_loop (s : ByteArray) (hs : s.size ≤ 140737488351232) (d : Nat) : ∀ (k i : Nat), i ≤ s.size → s.size - i ≤ d → d + 12 ≤ k → spec_WellFormed.l0 k s i = some (wfb s d i) := by
  induction d with
  | zero =>
    intro k i h1 h2 h3
    obtain ⟨k, rfl⟩ : ∃ m, k = m + 1 := ⟨k - 1, by omega⟩
    simp only [spec_WellFormed.l0]
    rw [if_neg (by omega)]
    rfl
  | succ d ih =>
    intro k i h1 h2 h3
    obtain ⟨k, rfl⟩ : ∃ m, k = m + 1 := ⟨k - 1, by omega⟩
    simp only [spec_WellFormed.l0]
    unfold wfb
    by_cases h : i < s.size
    · rw [if_pos (by omega), rune_ge s i k (by omega) hs h, if_pos h]
      simp only [Option.bind_some]
      obtain ⟨r, n, e1, e2⟩ := told_good s i h
      rw [e1]
      simp only
      rcases e2 with rfl | ⟨h4, h5, h6, _⟩
      · rw [if_pos (by simp), if_pos (by simp)]
      · rw [if_neg (by omega), if_neg (by omega), h6]
        have e : wrap64 ((i : Int) + (n : Int)) = ((i + n : Nat) : Int) := by rw [w64 _ (by omega) (by omega)]; omega
        rw [e]
        exact ih k (i + n) (by omega) (by omega) (by omega)
    · rw [if_neg (by omega), if_neg h]

theorem wf_f (s : ByteArray) (hs : s.size ≤ 140737488351232) : ∃ k, spec_WellFormed.f k s = some (wfb s s.size 0) :=
  ⟨s.size + 12, by unfold spec_WellFormed.f; exact wf_loop s hs s.size (s.size + 12) 0 (by omega) (by omega) (by omega)⟩

/-! ### spec.WtfUnits -/
theorem between_f (a b c : Int) : spec_between.f a b c = some (decide (a ≤ b ∧ b ≤ c)) := by
  unfold spec_between.f
  by_cases h : a ≤ b
  · rw [if_pos h]; simp [h]
  · rw [if_neg h]; simp [h]
theorem trail_f (a : Int) : spec_wtfTrail.f a = some (decide (56320 ≤ a ∧ a ≤ 57343)) := by
  unfold spec_wtfTrail.f
  rw [between_f]; rfl
theorem lead_f (a : Int) : spec_wtfLead.f a = some (decide (55296 ≤ a ∧ a ≤ 56319)) := by
  unfold spec_wtfLead.f
  rw [between_f]; rfl

/-- a round of the loop, once the code point and its width are known -/
theorem units_j1 (t : ByteArray) (acc : List Int) (r n : Int) (b : Bool) (k : Nat) (h0 : 0 ≤ n) (h1 : n ≤ t.size) (hl : acc.length ≤ 1099511627776) :
    ∃ us : List Int, us.length ≤ 2 ∧ spec_WtfUnits.j1 (k + 1) t acc r n b = if b = true then some ([], false) else spec_WtfUnits.l0 k (t.extract n.toNat t.size) (acc ++ us) r := by
  simp only [spec_WtfUnits.j1]
  by_cases hb : b = true
  · refine ⟨[], by simp, ?_⟩
    rw [if_pos hb, if_pos hb]
  · rw [if_neg hb]
    by_cases hr : r ≥ 65536
    · refine ⟨[IntKind.u16.wrap (wrap64 (55296 + ((wrap64 (r - 65536)) / 1024))), IntKind.u16.wrap (wrap64 (56320 + (Go.bits .and .i64 (wrap64 (r - 65536)) 1023)))], by simp, ?_⟩
      rw [if_pos hr]
      simp only [Option.bind_some]
      rw [if_pos (by simp; omega), if_pos h0, if_pos h1, if_neg hb]
    · refine ⟨[IntKind.u16.wrap r], by simp, ?_⟩
      rw [if_neg hr, if_pos (by omega), if_pos h0, if_pos h1, if_neg hb]

theorem units_total (d : Nat) : ∀ (t : ByteArray) (acc : List Int) (last : Int) (k : Nat), t.size ≤ d → d ≤ 2147483647 → 2 * d + 14 ≤ k → acc.length + 2 * t.size ≤ 1099511627776 → ∃ r b, spec_WtfUnits.l0 k t acc last = some (r, b) := by
  induction d with
  | zero =>
    intro t acc last k h1 hd h2 h3
    obtain ⟨k, rfl⟩ : ∃ m, k = m + 1 := ⟨k - 1, by omega⟩
    simp only [spec_WtfUnits.l0]
    rw [if_neg (by omega)]
    exact ⟨_, _, rfl⟩
  | succ d ih =>
    intro t acc last k h1 hd h2 h3
    obtain ⟨k, rfl⟩ : ∃ m, k = m + 1 := ⟨k - 1, by omega⟩
    simp only [spec_WtfUnits.l0]
    by_cases h : 0 < t.size
    · rw [if_pos (by omega)]
      obtain ⟨r, n, e, hn, _⟩ := wtf_rune t k (by omega) (by omega) h
      rw [e]
      simp only [Option.bind_some, trail_f, lead_f]
      have next : ∀ b, ∃ r' b', spec_WtfUnits.j1 k t acc r n b = some (r', b') ∨ (n = 0 ∧ b = false) := by
        intro b
        obtain ⟨j, rfl⟩ : ∃ j, k = j + 1 := ⟨k - 1, by omega⟩
        obtain ⟨us, hu, e2⟩ := units_j1 t acc r n b j (by omega) (by omega) (by omega)
        rw [e2]
        by_cases hb : b = true
        · rw [if_pos hb]; exact ⟨_, _, .inl rfl⟩
        · by_cases hn0 : n = 0
          · exact ⟨[], false, .inr ⟨hn0, by simpa using hb⟩⟩
          · rw [if_neg hb]
            have hz : (t.extract n.toNat t.size).size = t.size - n.toNat := by simp
            obtain ⟨r', b', e3⟩ := ih (t.extract n.toNat t.size) (acc ++ us) r j (by omega) (by omega) (by omega) (by rw [List.length_append]; omega)
            exact ⟨r', b', .inl e3⟩
      have fin : ∀ b, (n = 0 → b = true) → ∃ r' b', spec_WtfUnits.j1 k t acc r n b = some (r', b') := by
        intro b hb
        obtain ⟨r', b', e | ⟨e1, e2⟩⟩ := next b
        · exact ⟨r', b', e⟩
        · rw [hb e1] at e2; cases e2
      by_cases hn0 : n = 0
      · rw [if_pos hn0]
        exact fin true (fun _ => rfl)
      · rw [if_neg hn0]
        by_cases h3' : n = 3
        · rw [if_pos h3']
          by_cases h4 : decide (56320 ≤ r ∧ r ≤ 57343) = true
          · rw [if_pos h4]
            exact fin _ (fun e => absurd e hn0)
          · rw [if_neg h4]
            exact fin _ (fun e => absurd e hn0)
        · rw [if_neg h3']
          exact fin _ (fun e => absurd e hn0)
    · rw [if_neg (by omega)]
      exact ⟨_, _, rfl⟩

theorem wrap_u16 (n : Int) (h0 : 0 ≤ n) (h1 : n ≤ 65535) : IntKind.u16.wrap n = n := by
  simp only [IntKind.wrap, IntKind.signed, IntKind.bits]
  simp
  omega

/-- a round at a good code point -/
theorem units_j1_good (t : ByteArray) (acc : List Int) (r n k : Nat) (h1 : n ≤ t.size) (hr : r ≤ 1114111) (hl : acc.length ≤ 1099511627776) :
    spec_WtfUnits.j1 (k + 1) t acc r n false = spec_WtfUnits.l0 k (t.extract n t.size) (acc ++ enc r) r := by
  simp only [spec_WtfUnits.j1]
  rw [if_neg (by decide)]
  unfold enc
  by_cases h : (r : Int) ≥ 65536
  · have e1 : wrap64 ((r : Int) - 65536) = (r : Int) - 65536 := w64 _ (by omega) (by omega)
    have e2 : wrap64 (55296 + ((r : Int) - 65536) / 1024) = 55296 + ((r : Int) - 65536) / 1024 := w64 _ (by omega) (by omega)
    have e3 : Go.bits .and .i64 ((r : Int) - 65536) 1023 = ((r : Int) - 65536) % 1024 := bits_mask .i64 63 (by decide) wraps_i64 10 (by decide) _ (by omega) (by omega)
    have e4 : wrap64 (56320 + ((r : Int) - 65536) % 1024) = 56320 + ((r : Int) - 65536) % 1024 := w64 _ (by omega) (by omega)
    rw [if_pos h, if_neg (by omega), e1, e2, e3, e4, wrap_u16 _ (by omega) (by omega), wrap_u16 _ (by omega) (by omega)]
    simp only [Option.bind_some]
    rw [if_pos (by simp; omega), if_pos (by omega), if_pos (by omega)]
    have e5 : ((r : Int) - 65536) / 1024 = ((r : Int) - 65536) / 1024 % 1024 := by omega
    rw [← e5]
    rfl
  · rw [if_neg h, if_pos (by omega), if_pos (by omega), if_pos (by omega), if_pos (by omega), wrap_u16 _ (by omega) (by omega)]
    rfl

theorem extract_extract (s : ByteArray) (p n : Nat) (hp : p ≤ s.size) : (s.extract p s.size).extract n (s.extract p s.size).size = s.extract (p + n) s.size := by
  have hz : (s.extract p s.size).size = s.size - p := by simp
  rw [hz]
  apply ByteArray.ext
  simp [Array.extract_extract]
  congr 1
  omega

/-- SPEC.WTFUNITS OF A WELL-FORMED TEXT -/
theorem units_good (s : ByteArray) (hs : s.size ≤ 2147483647) (d : Nat) : ∀ (p : Nat) (acc : List Int) (last : Int) (k : Nat), p ≤ s.size → s.size - p ≤ d → d ≤ 2147483647 → wfb s d p = true → 2 * d + 14 ≤ k → acc.length + 2 * (s.size - p) ≤ 1099511627776 →
    spec_WtfUnits.l0 k (s.extract p s.size) acc last = some (acc ++ uFrom s d p, true) := by
  induction d with
  | zero =>
    intro p acc last k hp h1 hd hw h2 h3
    obtain ⟨k, rfl⟩ : ∃ m, k = m + 1 := ⟨k - 1, by omega⟩
    have hz : (s.extract p s.size).size = s.size - p := by simp
    simp only [spec_WtfUnits.l0]
    rw [if_neg (by omega)]
    simp [uFrom]
  | succ d ih =>
    intro p acc last k hp h1 hd hw h2 h3
    obtain ⟨k, rfl⟩ : ∃ m, k = m + 1 := ⟨k - 1, by omega⟩
    have hz : (s.extract p s.size).size = s.size - p := by simp
    simp only [spec_WtfUnits.l0]
    by_cases h : p < s.size
    · rw [if_pos (by omega)]
      unfold wfb at hw
      rw [if_pos h] at hw
      unfold uFrom
      rw [if_pos h]
      obtain ⟨r0, n0, e1, e2⟩ := told_good s p h
      rw [e1] at hw
      rcases e2 with rfl | ⟨hn1, hn2, hdec, hsur, hmax, hfour⟩
      · rw [if_pos (by simp)] at hw
        cases hw
      · rw [if_neg (by simp only; omega), hdec] at hw
        obtain ⟨r, n, e, hn, hgood⟩ := wtf_rune (s.extract p s.size) k (by omega) (by omega) (by omega)
        have e3 : Utf8.decode (s.extract p s.size) 0 = Utf8.decode s p := by simpa using decode_extract s p 0 hp
        rw [e3, e1] at hgood
        have e4 := hgood (by simp only; omega)
        injection e4 with e4 e5
        subst e4 e5
        rw [e]
        simp only [Option.bind_some, trail_f, lead_f]
        rw [if_neg (by omega)]
        obtain ⟨j, rfl⟩ : ∃ j, k = j + 1 := ⟨k - 1, by omega⟩
        have fin : spec_WtfUnits.j1 (j + 1) (s.extract p s.size) acc r0 n0 false = some (acc ++ (enc (Utf8.decode s p).1 ++ uFrom s d (p + (Utf8.decode s p).2)), true) := by
          rw [units_j1_good _ _ _ _ _ (by omega) hmax (by omega), extract_extract s p n0 hp, hdec]
          have hlen : (enc r0).length ≤ 2 * n0 := by
            unfold enc
            split
            · simp; omega
            · simp; omega
          rw [ih (p + n0) (acc ++ enc r0) r0 j (by omega) (by omega) (by omega) hw (by omega) (by rw [List.length_append]; omega), List.append_assoc]
        by_cases h3' : (n0 : Int) = 3
        · rw [if_pos h3', if_neg (by simp; omega)]
          exact fin
        · rw [if_neg h3']
          exact fin
    · rw [if_neg (by omega)]
      have : uFrom s (d + 1) p = [] := uFrom_end s _ _ h
      rw [this, List.append_nil]

theorem extract_all (s : ByteArray) : s.extract 0 s.size = s := by
  apply ByteArray.ext
  simp

theorem units_f (s : ByteArray) (hs : s.size ≤ 2147483647) (hw : wfb s s.size 0 = true) : ∃ k, spec_WtfUnits.f k s = some (units s, true) := by
  refine ⟨2 * s.size + 14, ?_⟩
  have := units_good s hs s.size 0 [] 0 (2 * s.size + 14) (by omega) (by omega) hs hw (by omega) (by simp; omega)
  rw [extract_all] at this
  exact this
theorem units_some (s : ByteArray) (hs : s.size ≤ 2147483647) : ∃ k r b, spec_WtfUnits.f k s = some (r, b) := by
  obtain ⟨r, b, h⟩ := units_total s.size s [] 0 (2 * s.size + 14) (by omega) hs (by omega) (by simp; omega)
  exact ⟨_, r, b, h⟩

/-! ### spec.WtfEqual -/
theorem eq_loop (l : List Int) (hm : l.length ≤ 140737488355328) (d : Nat) : ∀ (k i : Nat), i ≤ l.length → l.length - i = d → d < k → spec_WtfEqual.l0 k l l i = some true := by
  induction d with
  | zero =>
    intro k i hi hd hk
    obtain ⟨k, rfl⟩ : ∃ m, k = m + 1 := ⟨k - 1, by omega⟩
    simp only [spec_WtfEqual.l0]
    rw [if_neg (by omega)]
  | succ d ih =>
    intro k i hi hd hk
    obtain ⟨k, rfl⟩ : ∃ m, k = m + 1 := ⟨k - 1, by omega⟩
    simp only [spec_WtfEqual.l0]
    rw [if_pos (by omega), if_pos (by omega), if_pos (by omega)]
    have e : wrap64 ((i : Int) + 1) = ((i + 1 : Nat) : Int) := by rw [w64 _ (by omega) (by omega)]; omega
    rw [e]
    simp only [if_true]
    exact ih k (i + 1) (by omega) (by omega) (by omega)
theorem eq_self (l : List Int) (hm : l.length ≤ 140737488355328) : ∃ k, spec_WtfEqual.f k l l = some true := by
  refine ⟨l.length + 1, ?_⟩
  unfold spec_WtfEqual.f
  rw [if_pos rfl]
  exact eq_loop l hm l.length (l.length + 1) 0 (by omega) (by omega) (by omega)

theorem uFrom_len (s : ByteArray) (d : Nat) : ∀ p, (uFrom s d p).length ≤ 2 * d := by
  induction d with
  | zero => intro p; simp [uFrom]
  | succ d ih =>
    intro p
    unfold uFrom
    split
    · rw [List.length_append]
      have := ih (p + (Utf8.decode s p).2)
      have h2 : (enc (Utf8.decode s p).1).length ≤ 2 := by unfold enc; split <;> simp
      omega
    · simp

theorem awake : units ⟨#[97, 240, 159, 152, 128]⟩ = [97, 55357, 56832] := by decide +kernel

end Go.Proofs.Ytmcdnkcpfjhbgaa.unitsPure
