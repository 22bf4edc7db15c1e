/-
  FnEscapeClosing, the plain part: what escaping does to a text, as a function of lists of bytes; no closing tag is left, and a text that has none stays as it is.
  Conditions: none.
-/
namespace Go.Proofs.YtapbhbhaandedaaRRR.fnEscapeClosing
set_option linter.unusedVariables false
set_option linter.unusedSimpArgs false

/-- a byte of ASCII as a small letter -/
def low (b : UInt8) : UInt8 := if 65 ≤ b.toNat ∧ b.toNat ≤ 90 then b + 32 else b
/-- the tag stands at the head of a text, great and small letters being the same -/
def pre : List UInt8 → List UInt8 → Bool
  | [], _ => true
  | _ :: _, [] => false
  | t :: ts, c :: cs => (low c == low t) && pre ts cs
/-- the escaped text -/
def esc (tag : List UInt8) : List UInt8 → List UInt8
  | [] => []
  | c :: r => if c = 60 ∧ pre tag r = true then c :: 92 :: esc tag r else c :: esc tag r
/-- the closing tag stands at some place -/
def has (tag : List UInt8) : List UInt8 → Bool
  | [] => false
  | c :: r => ((c == 60) && pre tag r) || has tag r

/-- a slash, and small letters behind it -/
def Plain (ts : List UInt8) : Prop := ∀ t ∈ ts, 97 ≤ t.toNat ∧ t.toNat ≤ 122 ∨ t = 47
def Tag (tag : List UInt8) : Prop := ∃ ts, tag = 47 :: ts ∧ ts ≠ [] ∧ ∀ t ∈ ts, 97 ≤ t.toNat ∧ t.toNat ≤ 122
theorem Tag.plain {tag : List UInt8} (h : Tag tag) : Plain tag := by
  obtain ⟨ts, rfl, _, h⟩ := h
  intro t ht
  rcases List.mem_cons.1 ht with rfl | ht
  · exact .inr rfl
  · exact .inl (h t ht)

theorem low_60 : low 60 = 60 := by decide
theorem low_92 : low 92 = 92 := by decide
theorem low_plain {t : UInt8} (h : 97 ≤ t.toNat ∧ t.toNat ≤ 122 ∨ t = 47) : low t = t := by
  rcases h with h | rfl
  · unfold low
    rw [if_neg (by omega)]
  · decide
theorem plain_ne {t : UInt8} (h : 97 ≤ t.toNat ∧ t.toNat ≤ 122 ∨ t = 47) : t ≠ 60 ∧ t ≠ 92 := by
  rcases h with h | rfl
  · constructor <;> (rintro rfl; revert h; decide)
  · decide

theorem pre_esc (tag : List UInt8) : ∀ (ts cs : List UInt8), Plain ts → pre ts (esc tag cs) = pre ts cs := by
  intro ts
  induction ts with
  | nil => intro cs _; rfl
  | cons t ts ih =>
    intro cs h
    cases cs with
    | nil => rfl
    | cons c r =>
      have ht := h t (List.mem_cons_self ..)
      have hts : Plain ts := fun x hx => h x (List.mem_cons_of_mem _ hx)
      by_cases hc : c = 60
      · subst hc
        have e : (low 60 == low t) = false := by
          rw [low_60, low_plain ht]
          simpa using fun e => (plain_ne ht).1 e.symm
        unfold esc
        split <;> simp [pre, e]
      · unfold esc
        rw [if_neg (fun x => hc x.1)]
        simp only [pre, ih r hts]

theorem no_more {tag : List UInt8} (h : Tag tag) : ∀ L, has tag (esc tag L) = false := by
  intro L
  induction L with
  | nil => rfl
  | cons c r ih =>
    unfold esc
    split
    · rename_i hc
      obtain ⟨rfl, hp⟩ := hc
      obtain ⟨ts, rfl, _, _⟩ := h
      have e : (low 92 == low 47) = false := by decide
      have e2 : ((92 : UInt8) == 60) = false := by decide
      simp only [has, pre, e, e2, ih, Bool.false_and, Bool.and_false, Bool.or_false, Bool.false_or]
    · rename_i hc
      simp only [has, pre_esc tag tag r h.plain, ih, Bool.or_false]
      cases hp : pre tag r
      · simp
      · have : c ≠ 60 := fun e => hc ⟨e, hp⟩
        simp [this]

theorem stays {tag : List UInt8} : ∀ L, has tag L = false → esc tag L = L := by
  intro L
  induction L with
  | nil => intro _; rfl
  | cons c r ih =>
    intro h
    simp only [has, Bool.or_eq_false_iff] at h
    unfold esc
    rw [if_neg, ih h.2]
    rintro ⟨rfl, hp⟩
    rw [hp] at h
    exact absurd h.1 (by decide)

/-- a "<" with a "/" behind it, at the head -/
def open2 : List UInt8 → Bool
  | 60 :: 47 :: _ => true
  | _ => false
theorem pre_open {tag : List UInt8} (h : Tag tag) (c : UInt8) (r : List UInt8) (hc : c = 60) (hp : pre tag r = true) : open2 (c :: r) = true := by
  subst hc
  obtain ⟨ts, rfl, _, _⟩ := h
  cases r with
  | nil => simp [pre] at hp
  | cons d r =>
    simp only [pre, Bool.and_eq_true, beq_iff_eq] at hp
    have : d = 47 := by
      have h1 := hp.1
      unfold low at h1
      split at h1
      · rename_i hd
        have h2 : (d + 32).toNat = 47 := by rw [h1]; decide
        rw [UInt8.toNat_add] at h2
        simp at h2
        omega
      · rw [h1]; decide
    subst this
    rfl

theorem esc_skip {tag : List UInt8} {c : UInt8} {r : List UInt8} (h : ¬ (c = 60 ∧ pre tag r = true)) : esc tag (c :: r) = c :: esc tag r := by
  rw [esc, if_neg h]
/-- where no "</" stands below i, the first i bytes stay, and the byte behind them is as esc says -/
theorem esc_at {tag : List UInt8} (h : Tag tag) : ∀ (i : Nat) (L : List UInt8), (∀ j, j < i → open2 (L.drop j) = false) → esc tag L = L.take i ++ esc tag (L.drop i) := by
  intro i
  induction i with
  | zero => intro L _; rfl
  | succ i ih =>
    intro L hL
    cases L with
    | nil => rfl
    | cons c r =>
      have h0 := hL 0 (by omega)
      have hr := ih r (fun j hj => hL (j + 1) (by omega))
      rw [esc_skip, hr]
      · rfl
      · rintro ⟨hc, hp⟩
        have := pre_open h c r hc hp
        rw [show (c :: r).drop 0 = c :: r from rfl] at h0
        rw [this] at h0
        cases h0
theorem esc_none {tag : List UInt8} (h : Tag tag) (L : List UInt8) (hL : ∀ j, open2 (L.drop j) = false) : esc tag L = L := by
  have := esc_at h L.length L (fun j _ => hL j)
  simpa [esc] using this
theorem esc_open {tag : List UInt8} (r : List UInt8) : esc tag (60 :: r) = 60 :: ((if pre tag r = true then [92] else []) ++ esc tag r) := by
  by_cases h : pre tag r = true
  · simp [esc, h]
  · simp [esc, h]
theorem esc_len (tag : List UInt8) : ∀ L, (esc tag L).length ≤ 2 * L.length := by
  intro L
  induction L with
  | nil => simp [esc]
  | cons c r ih =>
    unfold esc
    split <;> simp <;> omega
theorem has_iff (tag : List UInt8) : ∀ L, has tag L = true ↔ ∃ j, pre (60 :: tag) (L.drop j) = true := by
  intro L
  induction L with
  | nil => simp [has, pre]
  | cons c r ih =>
    have hc : (low c == low 60) = (c == 60) := by
      rw [low_60]
      unfold low
      split
      · rename_i hd
        have h1 : c ≠ 60 := by rintro rfl; revert hd; decide
        have h2 : c + 32 ≠ 60 := by
          intro e
          have := congrArg UInt8.toNat e
          rw [UInt8.toNat_add] at this
          simp at this
          omega
        exact (beq_eq_false_iff_ne.2 h2).trans (beq_eq_false_iff_ne.2 h1).symm
      · rfl
    simp only [has, Bool.or_eq_true, ih]
    constructor
    · rintro (h | ⟨j, h⟩)
      · refine ⟨0, ?_⟩
        show ((low c == low 60) && pre tag r) = true
        rw [hc]
        exact h
      · exact ⟨j + 1, h⟩
    · rintro ⟨j, h⟩
      cases j with
      | zero =>
        left
        have h : ((low c == low 60) && pre tag r) = true := h
        rw [hc] at h
        exact h
      | succ j => exact .inr ⟨j, h⟩
end Go.Proofs.YtapbhbhaandedaaRRR.fnEscapeClosing
