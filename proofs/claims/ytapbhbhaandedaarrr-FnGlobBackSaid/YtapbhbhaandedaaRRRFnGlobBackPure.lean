/-
  FnGlobBack, the plain part: a pattern's parts as a function of lists of bytes, the parts told as a text, and that the parts of what they tell are the parts again.
  Conditions: none.
-/
namespace Go.Proofs.YtapbhbhaandedaaRRR.fnGlobBack
set_option linter.unusedVariables false
set_option linter.unusedSimpArgs false

/-- nothing, or a slash of either kind -/
def slashO : Option UInt8 → Bool
  | none => true
  | some b => b == 47 || b == 92
/-- the wildcard that stands behind a prefix p as c stars ahead of the rest r: 1 or 2 -/
def wild (p : List UInt8) (c : Nat) (r : List UInt8) : Nat := if 1 < c ∧ slashO p.getLast? = true ∧ slashO r.head? = true then 2 else 1
/-- the parts of a pattern: a prefix and a wildcard each -/
def parse : Nat → List UInt8 → List (List UInt8 × Nat)
  | 0, L => [(L, 0)]
  | f + 1, L =>
    match L.dropWhile (· != 42) with
    | [] => [(L, 0)]
    | _ :: t => (L.takeWhile (· != 42), wild (L.takeWhile (· != 42)) (1 + (t.takeWhile (· == 42)).length) (t.dropWhile (· == 42))) :: parse f (t.dropWhile (· == 42))
/-- a wildcard as text -/
def stars : Nat → List UInt8
  | 1 => [42]
  | 2 => [42, 42]
  | _ => []
/-- the parts told as a text -/
def tell (ps : List (List UInt8 × Nat)) : List UInt8 := ps.flatMap fun x => x.1 ++ stars x.2

theorem wild_12 (p : List UInt8) (c : Nat) (r : List UInt8) : wild p c r = 1 ∨ wild p c r = 2 := by
  unfold wild; split <;> simp
theorem drop_star {L : List UInt8} {s : UInt8} {t : List UInt8} (h : L.dropWhile (· != 42) = s :: t) : s = 42 := by
  have := List.head?_dropWhile_not (fun b : UInt8 => b != 42) L
  rw [h] at this
  simpa using this
theorem split_star {L : List UInt8} {s : UInt8} {t : List UInt8} (h : L.dropWhile (· != 42) = s :: t) : L = L.takeWhile (· != 42) ++ 42 :: t := by
  have e := List.takeWhile_append_dropWhile (p := fun b : UInt8 => b != 42) (l := L)
  rw [h, drop_star h] at e
  exact e.symm
theorem take_no {L : List UInt8} : ∀ b ∈ L.takeWhile (· != 42), b ≠ 42 := by
  intro b hb
  induction L with
  | nil => simp at hb
  | cons c r ih =>
    rw [List.takeWhile_cons] at hb
    split at hb
    · rename_i hc
      rcases List.mem_cons.1 hb with rfl | hb
      · simpa using hc
      · exact ih hb
    · simp at hb
theorem drop_all {p : List UInt8} (h : ∀ b ∈ p, b ≠ 42) : ∀ t, (p ++ 42 :: t).dropWhile (· != 42) = 42 :: t ∧ (p ++ 42 :: t).takeWhile (· != 42) = p := by
  induction p with
  | nil => intro t; exact ⟨by simp [List.dropWhile], by simp [List.takeWhile]⟩
  | cons c r ih =>
    intro t
    have hc : (c != 42) = true := by simpa using h c (List.mem_cons_self ..)
    have := ih (fun b hb => h b (List.mem_cons_of_mem _ hb)) t
    simp only [List.cons_append, List.dropWhile_cons, List.takeWhile_cons, hc, if_true, this.1, this.2, and_self]
theorem drop_head {t : List UInt8} : (t.dropWhile (· == 42)).head? ≠ some 42 := by
  have := List.head?_dropWhile_not (fun b : UInt8 => b == 42) t
  intro h
  rw [h] at this
  simp at this
theorem drop_none {X : List UInt8} (h : X.head? ≠ some 42) : X.dropWhile (· == 42) = X ∧ X.takeWhile (· == 42) = [] := by
  cases X with
  | nil => exact ⟨rfl, rfl⟩
  | cons c r =>
    have hc : (c == 42) = false := by simpa using h
    exact ⟨by simp only [List.dropWhile_cons, hc]; rfl, by simp only [List.takeWhile_cons, hc]; rfl⟩
theorem no_star {L : List UInt8} (h : L.dropWhile (· != 42) = []) (g : Nat) : parse g L = [(L, 0)] := by
  cases g with
  | zero => rfl
  | succ g => simp only [parse, h]

/-- what the parts tell begins as the pattern does, where that is no star -/
theorem tell_head (f : Nat) (L : List UInt8) (h : L.head? ≠ some 42) : (tell (parse f L)).head? = L.head? := by
  cases f with
  | zero => simp [parse, tell, stars]
  | succ f =>
    unfold parse
    split
    · simp [tell, stars]
    · rename_i s t hd
      have e := split_star hd
      cases L with
      | nil => simp at hd
      | cons c r =>
        have hc : (c != 42) = true := by simpa using h
        simp [tell, List.takeWhile_cons, hc]

theorem back : ∀ (f : Nat) (L : List UInt8), L.length ≤ f → ∀ g, (tell (parse f L)).length ≤ g → parse g (tell (parse f L)) = parse f L := by
  intro f
  induction f with
  | zero =>
    intro L hL g hg
    obtain rfl : L = [] := List.eq_nil_of_length_eq_zero (by omega)
    exact no_star (by rfl) g
  | succ f ih =>
    intro L hL g hg
    cases hd : L.dropWhile (· != 42) with
    | nil =>
      have e : parse (f + 1) L = [(L, 0)] := no_star hd _
      rw [e]
      have e2 : tell [(L, 0)] = L := by simp [tell, stars]
      rw [e2]
      exact no_star hd g
    | cons s t =>
      have e : parse (f + 1) L = (L.takeWhile (· != 42), wild (L.takeWhile (· != 42)) (1 + (t.takeWhile (· == 42)).length) (t.dropWhile (· == 42))) :: parse f (t.dropWhile (· == 42)) := by
        simp only [parse, hd]
      have hs := split_star hd
      have hp := take_no (L := L)
      have hr := drop_head (t := t)
      have hlen : (t.dropWhile (· == 42)).length ≤ f := by
        have h1 := congrArg List.length hs
        have h2 := congrArg List.length (List.takeWhile_append_dropWhile (p := fun b : UInt8 => b == 42) (l := t))
        rw [List.length_append] at h1 h2
        rw [List.length_cons] at h1
        omega
      rw [e] at hg ⊢
      generalize L.takeWhile (· != 42) = p at hp hg ⊢
      generalize t.dropWhile (· == 42) = r at hr hlen hg ⊢
      generalize 1 + (t.takeWhile (· == 42)).length = c at hg ⊢
      have hX := tell_head f r hr
      have hX2 : (tell (parse f r)).head? ≠ some 42 := by rw [hX]; exact hr
      have et : tell ((p, wild p c r) :: parse f r) = p ++ stars (wild p c r) ++ tell (parse f r) := by simp [tell]
      rw [et] at hg ⊢
      rcases wild_12 p c r with hw | hw
      · rw [hw] at hg ⊢
        have e3 : p ++ stars 1 ++ tell (parse f r) = p ++ 42 :: tell (parse f r) := by simp [stars]
        rw [e3] at hg ⊢
        obtain ⟨d1, d2⟩ := drop_all hp (tell (parse f r))
        obtain ⟨d3, d4⟩ := drop_none hX2
        cases g with
        | zero => simp at hg
        | succ g =>
          simp only [parse, d1, d2, d3, d4, List.length_nil, Nat.add_zero]
          have hw1 : wild p 1 (tell (parse f r)) = 1 := by unfold wild; rw [if_neg]; omega
          rw [hw1, ih r hlen g (by simp only [List.length_append, List.length_cons] at hg; omega)]
      · rw [hw] at hg ⊢
        have e3 : p ++ stars 2 ++ tell (parse f r) = p ++ 42 :: (42 :: tell (parse f r)) := by simp [stars]
        rw [e3] at hg ⊢
        obtain ⟨d1, d2⟩ := drop_all hp (42 :: tell (parse f r))
        obtain ⟨d3, d4⟩ := drop_none hX2
        have d5 : (42 :: tell (parse f r)).dropWhile (· == 42) = tell (parse f r) := by
          rw [List.dropWhile_cons, if_pos (by rfl), d3]
        have d6 : (42 :: tell (parse f r)).takeWhile (· == 42) = [42] := by
          rw [List.takeWhile_cons, if_pos (by rfl), d4]
        cases g with
        | zero => simp at hg
        | succ g =>
          simp only [parse, d1, d2, d5, d6, List.length_singleton]
          have hc : 1 < c ∧ slashO p.getLast? = true ∧ slashO r.head? = true := by
            unfold wild at hw
            split at hw
            · assumption
            · cases hw
          have hw1 : wild p (1 + 1) (tell (parse f r)) = 2 := by
            unfold wild
            rw [if_pos ⟨by omega, hc.2.1, by rw [hX]; exact hc.2.2⟩]
          rw [hw1, ih r hlen g (by simp only [List.length_append, List.length_cons] at hg; omega)]

/-- THE LAW: the parts of a text's parts, told, tell the same -/
theorem told_back (L : List UInt8) (f g : Nat) (hf : L.length ≤ f) (hg : (tell (parse f L)).length ≤ g) : tell (parse g (tell (parse f L))) = tell (parse f L) := by
  rw [back f L hf g hg]
theorem tell_length : ∀ (f : Nat) (L : List UInt8), (tell (parse f L)).length ≤ 2 * L.length := by
  intro f
  induction f with
  | zero => intro L; simp [parse, tell, stars]; omega
  | succ f ih =>
    intro L
    unfold parse
    split
    · simp [tell, stars]; omega
    · rename_i s t hd
      have h1 := congrArg List.length (split_star hd)
      have h2 := congrArg List.length (List.takeWhile_append_dropWhile (p := fun b : UInt8 => b == 42) (l := t))
      have h3 := ih (t.dropWhile (· == 42))
      rw [List.length_append] at h1 h2
      rw [List.length_cons] at h1
      have h4 : ∀ ps x, tell (x :: ps) = x.1 ++ stars x.2 ++ tell ps := fun ps x => by simp [tell]
      rw [h4, List.length_append, List.length_append]
      have h5 : (stars (wild (L.takeWhile (· != 42)) (1 + (t.takeWhile (· == 42)).length) (t.dropWhile (· == 42)))).length ≤ 2 := by
        rcases wild_12 (L.takeWhile (· != 42)) (1 + (t.takeWhile (· == 42)).length) (t.dropWhile (· == 42)) with h | h <;> rw [h] <;> simp [stars]
      simp only
      omega
end Go.Proofs.YtapbhbhaandedaaRRR.fnGlobBack
