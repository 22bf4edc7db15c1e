/-
  FnAdvance, the plain part: a place moved over a text, code point by code point; that it is the same whether a CR ahead of an LF counts as a column or not.
  Conditions: none.
-/
import Derived.Test.YtbgghgibkjoopaaDoorFnAdvanceTexts
namespace Go.Proofs.YtbgghgibkjoopaaDoor.fnAdvance
open Go.RowKit Go.Proofs.YtbgghgibkjoopaaDoorW.PrintWords Go.Proofs.YtbgghgibkjoopaaDoor.PFnAdvance Go.Proofs.YtbgghgibkjoopaaDoor.runes
set_option linter.unusedVariables false

/-- what ends a line -/
def isEnd (r : Nat) : Prop := r = 10 ∨ r = 13 ∨ r = 8232 ∨ r = 8233
instance (r : Nat) : Decidable (isEnd r) := by unfold isEnd; infer_instance
/-- a place moved on: a CR ahead of an LF counts as k columns -/
def go (k : Nat) (s : ByteArray) : Nat → Nat → Nat → Nat → Nat × Nat
  | 0, _, l, c => (l, c)
  | f + 1, pos, l, c =>
    if pos < s.size then
      (if (Utf8.decode s pos).1 = 13 ∧ pos + (Utf8.decode s pos).2 < s.size ∧ nb s (pos + (Utf8.decode s pos).2) = 10 then go k s f (pos + (Utf8.decode s pos).2) l (c + k)
      else if isEnd (Utf8.decode s pos).1 then go k s f (pos + (Utf8.decode s pos).2) (l + 1) 0
      else if (Utf8.decode s pos).1 ≤ 65535 then go k s f (pos + (Utf8.decode s pos).2) l (c + 1) else go k s f (pos + (Utf8.decode s pos).2) l (c + 2))
    else (l, c)
theorem go_stop (k : Nat) (s : ByteArray) (f pos l c : Nat) (h : ¬ pos < s.size) : go k s f pos l c = (l, c) := by
  cases f with
  | zero => rfl
  | succ f => unfold go; rw [if_neg h]
section
variable {k : Nat} {s : ByteArray} {f pos l c r n : Nat}
theorem go_crlf (hp : pos < s.size) (hd : Utf8.decode s pos = (r, n)) (h13 : r = 13) (h1 : pos + n < s.size) (h2 : nb s (pos + n) = 10) : go k s (f + 1) pos l c = go k s f (pos + n) l (c + k) := by
  rw [go, if_pos hp, hd]
  simp only
  rw [if_pos ⟨h13, h1, h2⟩]
theorem go_end (hp : pos < s.size) (hd : Utf8.decode s pos = (r, n)) (he : isEnd r) (hn : ¬ (r = 13 ∧ pos + n < s.size ∧ nb s (pos + n) = 10)) : go k s (f + 1) pos l c = go k s f (pos + n) (l + 1) 0 := by
  rw [go, if_pos hp, hd]
  simp only
  rw [if_neg hn, if_pos he]
theorem go_one (hp : pos < s.size) (hd : Utf8.decode s pos = (r, n)) (he : ¬ isEnd r) (h : r ≤ 65535) : go k s (f + 1) pos l c = go k s f (pos + n) l (c + 1) := by
  rw [go, if_pos hp, hd]
  simp only
  rw [if_neg (fun h => he (.inr (.inl h.1))), if_neg he, if_pos h]
theorem go_two (hp : pos < s.size) (hd : Utf8.decode s pos = (r, n)) (he : ¬ isEnd r) (h : ¬ r ≤ 65535) : go k s (f + 1) pos l c = go k s f (pos + n) l (c + 2) := by
  rw [go, if_pos hp, hd]
  simp only
  rw [if_neg (fun h => he (.inr (.inl h.1))), if_neg he, if_neg h]
end
theorem go_lf (s : ByteArray) (f p l c c2 : Nat) (h : p < s.size) (hb : nb s p = 10) : go 0 s (f + 1) p l c = go 0 s (f + 1) p l c2 := by
  have hd : Utf8.decode s p = (10, 1) := by rw [dec_low s p (by omega), hb]
  rw [go_end h hd (.inl rfl) (by omega), go_end h hd (.inl rfl) (by omega)]
theorem go_k (k : Nat) (s : ByteArray) : ∀ f pos l c, s.size - pos ≤ f → go k s f pos l c = go 0 s f pos l c := by
  intro f
  induction f with
  | zero => intro pos l c h; rfl
  | succ f ih =>
    intro pos l c h
    by_cases hp : pos < s.size
    · have hn := (decode_fits s pos hp).1
      unfold go
      rw [if_pos hp, if_pos hp]
      split
      · rename_i hc
        rw [ih _ _ _ (by omega)]
        obtain ⟨g, rfl⟩ : ∃ g, f = g + 1 := ⟨f - 1, by omega⟩
        exact go_lf s g _ l _ _ hc.2.1 hc.2.2
      · split
        · exact ih _ _ _ (by omega)
        · split
          · exact ih _ _ _ (by omega)
          · exact ih _ _ _ (by omega)
    · rw [go_stop _ _ _ _ _ _ hp, go_stop _ _ _ _ _ _ hp]
/-- one code point of a well-formed text -/
theorem wf_step {s : ByteArray} {f pos : Nat} (hw : wfb s (f + 1) pos = true) (hp : pos < s.size) : ∃ r n : Nat, Utf8.decode s pos = (r, n) ∧ told (Utf8.decode s pos) = ((r : Int), (n : Int)) ∧ 1 ≤ n ∧ pos + n ≤ s.size ∧ r ≤ 1114111 ∧ wfb s f (pos + n) = true := by
  unfold wfb at hw
  rw [if_pos hp] at hw
  obtain ⟨r, n, h1, h2⟩ := told_good s pos hp
  rw [h1] at hw
  simp only at hw
  rcases h2 with rfl | ⟨a, b, c, d, e, _⟩
  · simp at hw
  · rw [if_neg (by omega), c] at hw
    exact ⟨r, n, c, h1, a, b, e, hw⟩
theorem lineEnd_f (r : Nat) : spec_LineEnd.f (r : Int) = some (decide (isEnd r)) := by
  unfold spec_LineEnd.f
  by_cases h1 : r = 10
  · subst h1; rfl
  · rw [if_neg (by omega)]
    by_cases h2 : r = 13
    · subst h2; rfl
    · rw [if_neg (by omega)]
      by_cases h3 : r = 8232
      · subst h3; rfl
      · rw [if_neg (by omega)]
        congr 1
        by_cases h4 : r = 8233
        · subst h4; rfl
        · have e : ¬ isEnd r := by unfold isEnd; omega
          have e2 : ¬ ((r : Int) = 8233) := by omega
          simp [e, e2]
end Go.Proofs.YtbgghgibkjoopaaDoor.fnAdvance
