/-
  FnMergedUses, the plain part: symbols that stand for others, how two are merged, and that the uses of what stands for others add up.
  Conditions: none.
-/
import GoSem.Op.String
namespace Go.Proofs.YtlhepbgonecgpaaDoor.fnMergedUses
set_option linter.unusedVariables false

theorem mod_get {α : Type} (L : List α) (i : Nat) (f : α → α) (x : Nat) : (L.modify i f)[x]? = if i = x then (L[x]?).map f else L[x]? := by
  rw [List.getElem?_modify]
  by_cases h : i = x
  · simp [h]
  · simp [h]
/-- a symbol -/
structure Sy where
  nm : ByteArray
  link : Option Nat
  uses : Int
  fl : Int
  kd : Int
def lk (L : List Sy) (i : Nat) : Option Nat := (L[i]?).bind (·.link)
def us (L : List Sy) (i : Nat) : Int := ((L[i]?).map (·.uses)).getD 0
/-- i stands for r, by so many links -/
inductive Rt (L : List Sy) : Nat → Nat → Nat → Prop
  | here {i : Nat} : i < L.length → lk L i = none → Rt L 0 i i
  | step {n i k r : Nat} : lk L i = some k → Rt L n k r → Rt L (n + 1) i r
def R (L : List Sy) (i r : Nat) : Prop := ∃ n, Rt L n i r
theorem Rt.det {L : List Sy} {n m i r r' : Nat} (h : Rt L n i r) (k : Rt L m i r') : n = m ∧ r = r' := by
  induction h generalizing m r' with
  | here h1 h2 =>
    cases k with
    | here => exact ⟨rfl, rfl⟩
    | step h3 _ => rw [h2] at h3; cases h3
  | step h1 h2 ih =>
    cases k with
    | here _ h3 => rw [h1] at h3; cases h3
    | step h3 h4 =>
      rw [h1] at h3
      obtain rfl := Option.some.inj h3
      obtain ⟨rfl, rfl⟩ := ih h4
      exact ⟨rfl, rfl⟩
theorem R.det {L : List Sy} {i r r' : Nat} (h : R L i r) (k : R L i r') : r = r' := by
  obtain ⟨n, hn⟩ := h
  obtain ⟨m, hm⟩ := k
  exact (hn.det hm).2
theorem Rt.root {L : List Sy} {n i r : Nat} (h : Rt L n i r) : r < L.length ∧ lk L r = none := by
  induction h with
  | here h1 h2 => exact ⟨h1, h2⟩
  | step _ _ ih => exact ih
theorem lk_lt {L : List Sy} {i k : Nat} (h : lk L i = some k) : i < L.length := by
  unfold lk at h
  by_cases hc : i < L.length
  · exact hc
  · rw [List.getElem?_eq_none (by omega)] at h; cases h
theorem Rt.lt {L : List Sy} {n i r : Nat} (h : Rt L n i r) : i < L.length := by
  cases h with
  | here h1 _ => exact h1
  | step h1 _ => exact lk_lt h1
theorem R.self {L : List Sy} {i r : Nat} (h : R L i r) : R L r r := by
  obtain ⟨n, hn⟩ := h
  exact ⟨0, .here hn.root.1 hn.root.2⟩
theorem R.ne {L : List Sy} {n i r k : Nat} (h : Rt L n i r) (hk : lk L i = some k) : i ≠ r := by
  rintro rfl
  have := h.root.2
  rw [hk] at this
  cases this
/-- the roots turn on the links alone -/
theorem Rt.congr {L L' : List Sy} (hl : L'.length = L.length) (hk : ∀ x, lk L' x = lk L x) {n i r : Nat} (h : Rt L n i r) : Rt L' n i r := by
  induction h with
  | here h1 h2 => exact .here (by omega) (by rw [hk]; exact h2)
  | step h1 _ ih => exact .step (by rw [hk]; exact h1) ih
/-- a link that is set -/
def setL (L : List Sy) (i k : Nat) : List Sy := L.modify i fun s => { s with link := some k }
theorem setL_len (L : List Sy) (i k : Nat) : (setL L i k).length = L.length := by simp [setL]
theorem lk_setL (L : List Sy) (i k x : Nat) (hi : i < L.length) : lk (setL L i k) x = if x = i then some k else lk L x := by
  unfold lk setL
  rw [mod_get]
  by_cases h : x = i
  · subst h
    simp [List.getElem?_eq_getElem hi]
  · rw [if_neg (fun e => h (Eq.symm e)), if_neg h]
theorem us_setL (L : List Sy) (i k x : Nat) : us (setL L i k) x = us L x := by
  unfold us setL
  rw [mod_get]
  by_cases h : i = x
  · subst h
    cases L[i]? <;> simp
  · rw [if_neg h]
/-- numbers that fall along the links -/
def Rank (L : List Sy) (rk : Nat → Nat) : Prop := ∀ x y, lk L x = some y → rk y < rk x
/-- a link that is made short changes nothing -/
theorem compress {L : List Sy} {rk : Nat → Nat} {i q r : Nat} (hk : Rank L rk) (hi : R L i r) (hq : R L q r) (hlt : rk q < rk i) : ∀ (m x r' : Nat), rk x = m → R L x r' → R (setL L i q) x r' := by
  obtain ⟨mi, hmi⟩ := hi
  have hil := hmi.lt
  intro m
  induction m using Nat.strongRecOn with
  | _ m ih =>
    intro x r' hx hr
    by_cases hxi : x = i
    · subst hxi
      obtain rfl := R.det hr ⟨mi, hmi⟩
      obtain ⟨n', hn'⟩ := ih (rk q) (by omega) q r' rfl hq
      exact ⟨n' + 1, .step (by rw [lk_setL L x q x hil, if_pos rfl]) hn'⟩
    · obtain ⟨n, hn⟩ := hr
      cases hn with
      | here h1 h2 => exact ⟨0, .here (by rw [setL_len]; exact h1) (by rw [lk_setL L i q x hil, if_neg hxi]; exact h2)⟩
      | step h1 h2 =>
        rename_i n k
        obtain ⟨n', hn'⟩ := ih (rk k) (by have := hk x k h1; omega) k r' rfl ⟨n, h2⟩
        exact ⟨n' + 1, .step (by rw [lk_setL L i q x hil, if_neg hxi]; exact h1) hn'⟩
theorem Rank.short {L : List Sy} {rk : Nat → Nat} {i q : Nat} (hk : Rank L rk) (hi : i < L.length) (hlt : rk q < rk i) : Rank (setL L i q) rk := by
  intro x y h
  rw [lk_setL L i q x hi] at h
  by_cases hx : x = i
  · subst hx
    rw [if_pos rfl] at h
    obtain rfl := Option.some.inj h
    exact hlt
  · rw [if_neg hx] at h
    exact hk x y h
theorem R.step {L : List Sy} {x y r : Nat} (h : lk L x = some y) (hr : R L x r) : R L y r := by
  obtain ⟨n, hn⟩ := hr
  cases hn with
  | here _ h2 => rw [h] at h2; cases h2
  | step h1 h2 =>
    rw [h] at h1
    obtain rfl := Option.some.inj h1
    exact ⟨_, h2⟩
theorem R.back {L : List Sy} {x y r : Nat} (h : lk L x = some y) (hr : R L y r) : R L x r := by
  obtain ⟨n, hn⟩ := hr
  exact ⟨n + 1, .step h hn⟩
/-- one that stands for itself is made to stand for another -/
theorem union {L : List Sy} {i j : Nat} (hi : Rt L 0 i i) (hj : Rt L 0 j j) (hne : i ≠ j) : ∀ {n x r : Nat}, Rt L n x r → R (setL L i j) x (if r = i then j else r) := by
  have hil := hi.lt
  intro n x r hx
  induction hx with
  | here h1 h2 =>
    rename_i y
    by_cases hy : y = i
    · subst hy
      rw [if_pos rfl]
      refine ⟨1, .step (k := j) (by rw [lk_setL L y j y hil, if_pos rfl]) (.here (by rw [setL_len]; exact hj.lt) ?_)⟩
      rw [lk_setL L y j j hil, if_neg (fun e => hne e.symm)]
      exact hj.root.2
    · rw [if_neg hy]
      exact ⟨0, .here (by rw [setL_len]; exact h1) (by rw [lk_setL L i j y hil, if_neg hy]; exact h2)⟩
  | step h1 h2 ih =>
    rename_i n y k r
    have hy : y ≠ i := by
      rintro rfl
      rw [hi.root.2] at h1
      cases h1
    obtain ⟨n', hn'⟩ := ih
    exact ⟨n' + 1, .step (by rw [lk_setL L i j y hil, if_neg hy]; exact h1) hn'⟩
/-- numbers that fall along the links behind such a merge -/
theorem rank_union {L : List Sy} {rk : Nat → Nat} {i j : Nat} (hk : Rank L rk) (hi : Rt L 0 i i) (hj : Rt L 0 j j) (hne : i ≠ j) :
    ∃ rk' : Nat → Nat, Rank (setL L i j) rk' ∧ (∀ x y r, R L x r → R L y r → rk x < rk y → rk' x < rk' y) ∧ rk' j ≤ rk' i := by
  classical
  have hil := hi.lt
  refine ⟨fun x => if R L x i then rk x + rk j + 1 else rk x, ?_, ?_, ?_⟩
  · intro x y h
    rw [lk_setL L i j x hil] at h
    by_cases hx : x = i
    · subst hx
      rw [if_pos rfl] at h
      obtain rfl := Option.some.inj h
      have h1 : ¬ R L j x := fun e => hne (R.det e ⟨0, hj⟩)
      have h2 : R L x x := ⟨0, hi⟩
      simp only [if_neg h1, if_pos h2]
      omega
    · rw [if_neg hx] at h
      have := hk x y h
      by_cases hr : R L x i
      · simp only [if_pos hr, if_pos (R.step h hr)]; omega
      · simp only [if_neg hr, if_neg (fun e => hr (R.back h e))]; omega
  · intro x y r hx hy hlt
    by_cases hr : r = i
    · subst hr
      simp only [if_pos hx, if_pos hy]; omega
    · have h1 : ¬ R L x i := fun e => hr (R.det hx e)
      have h2 : ¬ R L y i := fun e => hr (R.det hy e)
      simp only [if_neg h1, if_neg h2]; exact hlt
  · have h1 : ¬ R L j i := fun e => hne (R.det e ⟨0, hj⟩)
    have h2 : R L i i := ⟨0, hi⟩
    simp only [if_neg h1, if_pos h2]
    omega
def w32 (n : Int) : Int := n % 4294967296
/-- what a merge of what r0 stands for into what r1 stands for does -/
structure Mg (L : List Sy) (r0 r1 : Nat) (L' : List Sy) : Prop where
  len : L'.length = L.length
  rt : ∀ {n x r : Nat}, Rt L n x r → R L' x (if r = r0 then r1 else r)
  us : ∀ x, us L' x = if r0 ≠ r1 ∧ x = r1 then w32 (us L r1 + us L r0) else us L x
theorem Mg.same (L : List Sy) (r : Nat) : Mg L r r L := ⟨rfl, fun {n x q} h => by
  by_cases hq : q = r
  · rw [if_pos hq, ← hq]; exact ⟨n, h⟩
  · rw [if_neg hq]; exact ⟨n, h⟩, fun x => by rw [if_neg (fun h => h.1 rfl)]⟩
/-- a merge, and a link made short behind it -/
theorem Mg.short {L L' : List Sy} {r0 r1 i q : Nat} {rk : Nat → Nat} (h : Mg L r0 r1 L') (hk : Rank L' rk) (hi : R L' i r1) (hq : R L' q r1) (hlt : rk q < rk i) : Mg L r0 r1 (setL L' i q) :=
  ⟨by rw [setL_len]; exact h.len, fun hx => compress hk hi hq hlt _ _ _ rfl (h.rt hx), fun x => by rw [us_setL]; exact h.us x⟩
/-- what a symbol takes over -/
def setC (L : List Sy) (j : Nat) (f : Sy → Sy) : List Sy := L.modify j f
theorem setC_len (L : List Sy) (j : Nat) (f : Sy → Sy) : (setC L j f).length = L.length := by simp [setC]
theorem lk_setC (L : List Sy) (j x : Nat) (f : Sy → Sy) (hf : ∀ s, (f s).link = s.link) : lk (setC L j f) x = lk L x := by
  unfold lk setC
  rw [mod_get]
  by_cases h : j = x
  · subst h
    cases L[j]? <;> simp [hf]
  · rw [if_neg h]
/-- the merge of two that stand for themselves -/
theorem Mg.union {L : List Sy} {i j : Nat} (hi : Rt L 0 i i) (hj : Rt L 0 j j) (hne : i ≠ j) (f : Sy → Sy) (hf : ∀ s, (f s).link = s.link) (hu : ∀ s, L[j]? = some s → (f s).uses = w32 (s.uses + fnMergedUses.us L i)) :
    Mg L i j (setC (setL L i j) j f) := by
  refine ⟨by rw [setC_len, setL_len], fun hx => ?_, fun x => ?_⟩
  · obtain ⟨m, hm⟩ := fnMergedUses.union hi hj hne hx
    exact ⟨m, hm.congr (setC_len _ _ _) (fun y => lk_setC _ _ _ _ hf)⟩
  · have hjl := hj.lt
    by_cases hx : x = j
    · subst hx
      rw [if_pos ⟨hne, rfl⟩]
      have e : (setL L i x)[x]? = some (L[x]'hjl) := by
        unfold setL
        rw [mod_get, if_neg hne, List.getElem?_eq_getElem hjl]
      have e2 : fnMergedUses.us (setC (setL L i x) x f) x = (f (L[x]'hjl)).uses := by
        unfold fnMergedUses.us setC
        rw [mod_get, if_pos rfl, e]
        rfl
      rw [e2, hu _ (List.getElem?_eq_getElem hjl)]
      congr 1
      unfold fnMergedUses.us
      rw [List.getElem?_eq_getElem hjl]
      rfl
    · rw [if_neg (fun h => hx h.2)]
      rw [← us_setL L i j x]
      unfold fnMergedUses.us setC
      rw [mod_get, if_neg (fun e => hx (Eq.symm e))]
/-! ### the reference -/
/-- the stands behind a pair -/
def sm (S : List Nat) (a b : Nat) : List Nat := S.map fun v => if v = S.getD a 0 then S.getD b 0 else v
/-- the uses of all that r stands for, of the first m, added up -/
def tot (S : List Nat) (U : List Int) (r : Nat) : Nat → Int
  | 0 => 0
  | m + 1 => if S.getD m 0 = r then w32 (tot S U r m + U.getD m 0) else tot S U r m
theorem tot_range (S : List Nat) (U : List Int) (r m : Nat) : 0 ≤ tot S U r m ∧ tot S U r m < 4294967296 := by
  induction m with
  | zero => exact ⟨Int.le_refl 0, by show (0 : Int) < _; decide⟩
  | succ m ih =>
    unfold tot
    split
    · unfold w32; omega
    · exact ih
theorem w32_in {n : Int} (h0 : 0 ≤ n) (h1 : n < 4294967296) : w32 n = n := by unfold w32; omega
theorem w32_add (a b : Int) : w32 (w32 a + b) = w32 (a + b) := by unfold w32; omega
theorem getD_map (S : List Nat) (f : Nat → Nat) (x : Nat) (hx : x < S.length) : (S.map f).getD x 0 = f (S.getD x 0) := by
  simp [List.getD, List.getElem?_eq_getElem hx]
theorem tot_sm {S : List Nat} {U : List Int} {r0 r1 : Nat} (hne : r0 ≠ r1) : ∀ m, m ≤ S.length → tot (S.map fun v => if v = r0 then r1 else v) U r1 m = w32 (tot S U r1 m + tot S U r0 m) := by
  intro m
  induction m with
  | zero => intro _; show (0 : Int) = w32 (0 + 0); decide
  | succ m ih =>
    intro hm
    have h1 := ih (by omega)
    have g := getD_map S (fun v => if v = r0 then r1 else v) m (by omega)
    simp only [tot, g]
    by_cases h : S.getD m 0 = r0
    · rw [if_pos h, if_pos rfl, if_neg (by omega), if_pos h, h1]
      unfold w32; omega
    · rw [if_neg h, if_neg h]
      by_cases h2 : S.getD m 0 = r1
      · rw [if_pos h2, if_pos h2, h1]
        unfold w32; omega
      · rw [if_neg h2, if_neg h2]; exact h1
theorem tot_other {S : List Nat} {U : List Int} {r0 r1 r : Nat} (h0 : r ≠ r0) (h1 : r ≠ r1) : ∀ m, m ≤ S.length → tot (S.map fun v => if v = r0 then r1 else v) U r m = tot S U r m := by
  intro m
  induction m with
  | zero => intro _; rfl
  | succ m ih =>
    intro hm
    have h2 := ih (by omega)
    have g := getD_map S (fun v => if v = r0 then r1 else v) m (by omega)
    simp only [tot, g, h2]
    by_cases h : S.getD m 0 = r0
    · rw [if_pos h, if_neg (fun e => h1 e.symm), if_neg (by omega)]
    · rw [if_neg h]
/-- the symbols and the reference's stands agree -/
structure Inv (L : List Sy) (S : List Nat) (U : List Int) : Prop where
  len : L.length = S.length
  st : ∀ x, x < S.length → R L x (S.getD x 0)
  us : ∀ r, r < S.length → lk L r = none → fnMergedUses.us L r = tot S U r S.length
theorem Inv.root {L : List Sy} {S : List Nat} {U : List Int} (h : Inv L S U) {x : Nat} (hx : x < S.length) (hs : S.getD x 0 = x) : fnMergedUses.us L x = tot S U x S.length := by
  have := h.st x hx
  rw [hs] at this
  obtain ⟨n, hn⟩ := this
  exact h.us x hx hn.root.2
theorem Inv.merge {L L' : List Sy} {S : List Nat} {U : List Int} (h : Inv L S U) {a b : Nat} (ha : a < S.length) (hb : b < S.length) (hm : Mg L (S.getD a 0) (S.getD b 0) L') : Inv L' (sm S a b) U := by
  have hl : (sm S a b).length = S.length := by simp [sm]
  refine ⟨by rw [hl, hm.len]; exact h.len, fun x hx => ?_, fun r hr hroot => ?_⟩
  · rw [hl] at hx
    obtain ⟨n, hn⟩ := h.st x hx
    have := hm.rt hn
    unfold sm
    rw [getD_map S _ x hx]
    exact this
  · rw [hl] at hr ⊢
    obtain ⟨n, hn⟩ := h.st r hr
    have h2 := hm.rt hn
    -- r is its own root behind the merge
    have h3 : R L' r r := ⟨0, .here (by rw [hm.len, h.len]; exact hr) hroot⟩
    have h4 := h2.det h3
    rw [hm.us r]
    by_cases hab : S.getD a 0 = S.getD b 0
    · rw [if_neg (fun e => e.1 hab)]
      have e1 : (if S.getD r 0 = S.getD a 0 then S.getD b 0 else S.getD r 0) = S.getD r 0 := by
        split
        · rw [← hab]; omega
        · rfl
      rw [e1] at h4
      have e2 : sm S a b = S := by
        unfold sm
        rw [hab]
        have : (fun v => if v = S.getD b 0 then S.getD b 0 else v) = id := by funext v; split <;> simp_all
        rw [this, List.map_id]
      rw [e2]
      exact h.root hr h4
    · obtain ⟨ra, hra⟩ := h.st a ha
      obtain ⟨rb, hrb⟩ := h.st b hb
      by_cases hr1 : r = S.getD b 0
      · rw [if_pos ⟨hab, hr1⟩]
        unfold sm
        rw [hr1, tot_sm hab S.length (Nat.le_refl _)]
        have lb : S.getD b 0 < S.length := by rw [← h.len]; exact hrb.root.1
        have la : S.getD a 0 < S.length := by rw [← h.len]; exact hra.root.1
        rw [h.us _ lb hrb.root.2, h.us _ la hra.root.2]
      · rw [if_neg (fun e => hr1 e.2)]
        have hr0 : r ≠ S.getD a 0 := by
          intro e
          have e3 : S.getD r 0 = S.getD a 0 := by
            have : R L r (S.getD a 0) := by rw [e]; exact ⟨0, .here hra.root.1 hra.root.2⟩
            exact (h.st r hr).det this
          rw [if_pos e3] at h4
          exact hr1 h4.symm
        have e5 : S.getD r 0 = r := by
          by_cases e : S.getD r 0 = S.getD a 0
          · rw [if_pos e] at h4; exact absurd h4.symm hr1
          · rw [if_neg e] at h4; exact h4
        unfold sm
        rw [tot_other hr0 hr1 S.length (Nat.le_refl _)]
        exact h.root hr e5
end Go.Proofs.YtlhepbgonecgpaaDoor.fnMergedUses
