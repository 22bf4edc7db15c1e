/-
  FnSemverTurns, the plain part: how two versions are compared, as a function of lists, and that exchanged versions compare with the opposite sign.
  Conditions: none.
-/
import Derived.Lib.AtoiAll
import GoSem.Op.String
namespace Go.Proofs.YteokaphenmnckaaDoor.fnSemverTurns
open Go.Op (bytesLess)
set_option linter.unusedVariables false

/-- of two unlike texts just one stands before the other -/
theorem less_other : ∀ (a b : List UInt8), a ≠ b → bytesLess b a = !bytesLess a b := by
  intro a
  induction a with
  | nil =>
    intro b h
    cases b with
    | nil => exact absurd rfl h
    | cons c r => rfl
  | cons x xs ih =>
    intro b h
    cases b with
    | nil => rfl
    | cons y ys =>
      unfold bytesLess
      by_cases he : x = y
      · subst he
        have hn : xs ≠ ys := fun e => h (by rw [e])
        have hx : ¬ x < x := UInt8.lt_irrefl x
        simp [ih ys hn, hx]
      · have h1 : (x == y) = false := by simpa using he
        have h2 : (y == x) = false := by simpa using fun e => he e.symm
        rw [h1, h2]
        have h3 : x.toNat ≠ y.toNat := fun e => he (UInt8.toNat_inj.1 e)
        by_cases hl : x.toNat < y.toNat
        · have a1 : x < y := UInt8.lt_iff_toNat_lt.2 hl
          have a2 : ¬ y < x := fun h => by have := UInt8.lt_iff_toNat_lt.1 h; omega
          simp [a1, a2]
        · have a1 : y < x := UInt8.lt_iff_toNat_lt.2 (by omega)
          have a2 : ¬ x < y := fun h => by have := UInt8.lt_iff_toNat_lt.1 h; omega
          simp [a1, a2]
/-- digits alone -/
def digits (l : List UInt8) : Bool := l.all fun b => 48 ≤ b.toNat && b.toNat ≤ 57
/-- a part as a number, if it is one -/
def num (l : List UInt8) : Option Int := if digits l = true then (match Lib.atoiAll l with | .ok v => some v | _ => none) else none
theorem num_range {l : List UInt8} {v : Int} (h : num l = some v) : 0 ≤ v ∧ v ≤ 9223372036854775807 := by
  unfold num at h
  split at h
  · rename_i hd
    cases l with
    | nil => simp [Lib.atoiAll] at h
    | cons c r =>
      have hc : 48 ≤ c.toNat ∧ c.toNat ≤ 57 := by
        unfold digits at hd
        simp only [List.all_cons, Bool.and_eq_true, decide_eq_true_eq] at hd
        exact hd.1
      have hif : (if c.toNat = 43 ∨ c.toNat = 45 then r else c :: r) = c :: r := if_neg (by omega)
      simp only [Lib.atoiAll, hif] at h
      rcases hp : Lib.parseMag (c :: r) with u | _ | _
      · rw [hp] at h
        have h45 : ¬ c.toNat = 45 := by omega
        simp only [h45, not_false_eq_true, true_and, false_and, if_false] at h
        split at h
        · rename_i heq
          split at heq
          · cases heq
          · cases heq
            cases h
            omega
        · cases h
      · rw [hp] at h; cases h
      · rw [hp] at h; cases h
  · cases h
/-- how two unlike parts compare -/
def cmpHead (a b : List UInt8) : Int :=
  match num a, num b with
  | none, none => if bytesLess a b = true then -1 else 1
  | some x, some y => if x ≠ y then x - y else (a.length : Int) - b.length
  | some _, none => -1
  | none, some _ => 1
/-- the part ahead of the first dot, and what stands behind it -/
def headOf (l : List UInt8) : List UInt8 := l.takeWhile (· != 46)
def tailOf (l : List UInt8) : List UInt8 := (l.dropWhile (· != 46)).drop 1
def cmpTail : Nat → List UInt8 → List UInt8 → Int
  | 0, a, b => (a.length : Int) - b.length
  | f + 1, a, b => if a = [] ∨ b = [] then (a.length : Int) - b.length else if headOf a = headOf b then cmpTail f (tailOf a) (tailOf b) else cmpHead (headOf a) (headOf b)
/-- a sign: -1, 0 or 1 -/
def sg (n : Int) : Int := min (max n (-1)) 1
theorem sg_neg (n : Int) : sg (-n) = -sg n := by unfold sg; omega
theorem sg_sub (a b : Int) : sg (b - a) = -sg (a - b) := by unfold sg; omega
theorem sg_zero {n : Int} (h : sg n = -sg n) : n = 0 := by unfold sg at h; omega
theorem head_turns (a b : List UInt8) (h : a ≠ b) : sg (cmpHead b a) = -sg (cmpHead a b) := by
  unfold cmpHead
  cases num a with
  | none =>
    cases num b with
    | none =>
      simp only
      rw [less_other a b h]
      cases bytesLess a b <;> decide
    | some y => show sg (-1) = -sg 1; decide
  | some x =>
    cases num b with
    | none => show sg (1) = -sg (-1); decide
    | some y =>
      simp only
      by_cases hxy : x = y
      · subst hxy
        rw [if_neg (by simp), if_neg (by simp)]
        exact sg_sub _ _
      · rw [if_pos (fun e => hxy e.symm), if_pos hxy]
        exact sg_sub _ _
theorem tail_turns : ∀ (f : Nat) (a b : List UInt8), sg (cmpTail f b a) = -sg (cmpTail f a b) := by
  intro f
  induction f with
  | zero => intro a b; exact sg_sub _ _
  | succ f ih =>
    intro a b
    unfold cmpTail
    by_cases h1 : a = [] ∨ b = []
    · rw [if_pos h1, if_pos h1.symm]; exact sg_sub _ _
    · rw [if_neg h1, if_neg (fun h => h1 h.symm)]
      by_cases h2 : headOf a = headOf b
      · rw [if_pos h2, if_pos h2.symm]; exact ih _ _
      · rw [if_neg h2, if_neg (fun h => h2 h.symm)]; exact head_turns _ _ h2
/-- the first difference of two lists of numbers; 0: there is none -/
def part (l : List Int) (i : Nat) : Int := l.getD i 0
def diff (a b : List Int) : Nat → Nat → Int
  | 0, _ => 0
  | m + 1, i => if part a i ≠ part b i then part a i - part b i else diff a b m (i + 1)
theorem diff_turns (a b : List Int) : ∀ m i, diff b a m i = -diff a b m i := by
  intro m
  induction m with
  | zero => intro i; rfl
  | succ m ih =>
    intro i
    unfold diff
    by_cases h : part a i = part b i
    · rw [if_neg (fun h' => h' h.symm), if_neg (fun h' => h' h)]; exact ih _
    · rw [if_pos (fun h' => h h'.symm), if_pos h]; omega
/-- a text without a - at its begin -/
def trim (l : List UInt8) : List UInt8 := if l.head? = some 45 then l.drop 1 else l
/-- how two versions compare -/
def cmp (a b : List Int) (p q : List UInt8) : Int :=
  if diff a b (max a.length b.length) 0 ≠ 0 then diff a b (max a.length b.length) 0
  else if decide (p = []) ≠ decide (q = []) then (q.length : Int) - p.length
  else cmpTail (p.length + q.length) (trim p) (trim q)
/-- THE LAW -/
theorem turns (a b : List Int) (p q : List UInt8) : sg (cmp b a q p) = -sg (cmp a b p q) := by
  unfold cmp
  rw [Nat.max_comm b.length a.length, diff_turns a b, Nat.add_comm q.length p.length]
  generalize diff a b (max a.length b.length) 0 = d
  by_cases h : d = 0
  · subst h
    rw [if_neg (show ¬ (-(0 : Int) ≠ 0) from fun h => h rfl), if_neg (show ¬ ((0 : Int) ≠ 0) from fun h => h rfl)]
    by_cases h2 : decide (p = []) = decide (q = [])
    · rw [if_neg (fun h' => h' h2.symm), if_neg (fun h' => h' h2)]; exact tail_turns _ _ _
    · rw [if_pos (fun h' => h2 h'.symm), if_pos h2]; exact sg_sub _ _
  · rw [if_pos (show -d ≠ 0 by omega), if_pos h]; exact sg_neg _
theorem same (a : List Int) (p : List UInt8) : cmp a a p p = 0 := sg_zero (turns a a p p)
end Go.Proofs.YteokaphenmnckaaDoor.fnSemverTurns
