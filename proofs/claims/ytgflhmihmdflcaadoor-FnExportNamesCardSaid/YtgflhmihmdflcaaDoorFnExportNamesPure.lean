/-
  FnExportNames, the plain part: numerals are unlike, among more texts than there are names one is free, and what a map of names holds.
  Conditions: none.
-/
import Derived.Lib.ItoaMem
import Derived.Lib.ItoaLen
import Derived.Maps.OwnSet
import Derived.Maps.OwnOps
namespace Go.Proofs.YtgflhmihmdflcaaDoor.fnExportNames
open Go.Maps
set_option linter.unusedVariables false

/-- what digits are worth -/
def worth (l : List UInt8) : Nat := l.foldl (fun a d => 10 * a + (d.toNat - 48)) 0
theorem worth_snoc (l : List UInt8) (d : UInt8) : worth (l ++ [d]) = 10 * worth l + (d.toNat - 48) := by simp [worth, List.foldl_append]
theorem digit_worth (u : Nat) (h : u < 10) : (UInt8.ofNat (48 + u)).toNat - 48 = u := by
  rw [UInt8.toNat_ofNat']
  omega
theorem worth_dec (u : Nat) : worth (Lib.decDigits u) = u := by
  induction u using Nat.strongRecOn with
  | _ u ih =>
    by_cases h : u < 10
    · rw [Lib.decDigits, dif_pos h]
      show 10 * 0 + _ = u
      rw [digit_worth u h]
      omega
    · rw [Lib.decDigits, dif_neg h, worth_snoc, ih (u / 10) (by omega), digit_worth _ (by omega)]
      omega
theorem itoa_inj {a b : Nat} (h : Lib.itoa (a : Int) = Lib.itoa (b : Int)) : a = b := by
  rw [Lib.itoa_nonneg, Lib.itoa_nonneg] at h
  rw [← worth_dec a, ← worth_dec b, h]
/-- a name and a number -/
def app (p : ByteArray) (n : Nat) : ByteArray := p ++ ⟨(Lib.itoa (n : Int)).toArray⟩
theorem app_data (p : ByteArray) (n : Nat) : (app p n).data.toList = p.data.toList ++ Lib.itoa (n : Int) := by
  unfold app
  simp [ByteArray.data_append]
theorem app_inj {p : ByteArray} {a b : Nat} (h : app p a = app p b) : a = b := by
  have e := congrArg (fun s : ByteArray => s.data.toList) h
  simp only [app_data] at e
  exact itoa_inj (List.append_cancel_left e)
theorem app_size (p : ByteArray) (n : Nat) (hn : n < 4294967296) : (app p n).size ≤ p.size + 21 := by
  have h := congrArg List.length (app_data p n)
  simp only [Array.length_toList, List.length_append] at h
  have := Lib.itoa_length_le (n : Int) (by omega) (by omega)
  show (app p n).data.size ≤ p.data.size + 21
  omega
/-- among so many texts one is free -/
theorem free {α : Type} : ∀ (ks : List α) (f : Nat → α), (∀ i j, f i = f j → i = j) → ∃ j, j ≤ ks.length ∧ f j ∉ ks := by
  intro ks
  induction ks with
  | nil => intro f _; exact ⟨0, Nat.le_refl _, by simp⟩
  | cons k r ih =>
    intro f hf
    classical
    by_cases h : ∃ i, f i = k
    · obtain ⟨i, hi⟩ := h
      obtain ⟨j, hj, hn⟩ := ih (fun x => if x < i then f x else f (x + 1)) (fun a b hab => by
        by_cases ha : a < i
        · by_cases hb : b < i
          · simp only [if_pos ha, if_pos hb] at hab; exact hf _ _ hab
          · simp only [if_pos ha, if_neg hb] at hab
            have := hf _ _ hab; omega
        · by_cases hb : b < i
          · simp only [if_neg ha, if_pos hb] at hab
            have := hf _ _ hab; omega
          · simp only [if_neg ha, if_neg hb] at hab
            have := hf _ _ hab; omega)
      by_cases hji : j < i
      · refine ⟨j, by simp; omega, ?_⟩
        simp only [if_pos hji] at hn
        rw [List.mem_cons, not_or]
        exact ⟨fun e => by have := hf j i (e.trans hi.symm); omega, hn⟩
      · refine ⟨j + 1, by simp; omega, ?_⟩
        simp only [if_neg hji] at hn
        rw [List.mem_cons, not_or]
        exact ⟨fun e => by have := hf (j + 1) i (e.trans hi.symm); omega, hn⟩
    · obtain ⟨j, hj, hn⟩ := ih f hf
      refine ⟨j, by simp; omega, ?_⟩
      rw [List.mem_cons, not_or]
      exact ⟨fun e => h ⟨j, e⟩, hn⟩
theorem least (p : Nat → Prop) : ∀ n, p n → ∃ m, m ≤ n ∧ p m ∧ ∀ k, k < m → ¬ p k := by
  intro n
  induction n using Nat.strongRecOn with
  | _ n ih =>
    intro h
    classical
    by_cases hx : ∃ k, k < n ∧ p k
    · obtain ⟨k, hk, hp⟩ := hx
      obtain ⟨m, h1, h2, h3⟩ := ih k hk hp
      exact ⟨m, by omega, h2, h3⟩
    · exact ⟨n, Nat.le_refl _, h, fun k hk hp => hx ⟨k, hk, hp⟩⟩

/-- the names that were given, each with a number -/
abbrev Us := List (ByteArray × Nat)
open Classical in
noncomputable def look : Us → ByteArray → Option Nat
  | [], _ => none
  | (k, v) :: r, s => if k = s then some v else look r s
theorem look_none {us : Us} {s : ByteArray} : look us s = none ↔ s ∉ us.map (·.1) := by
  induction us with
  | nil => simp [look]
  | cons x r ih =>
    obtain ⟨k, v⟩ := x
    unfold look
    by_cases h : k = s
    · simp [h]
    · rw [if_neg h, ih]
      simp only [List.map_cons, List.mem_cons, not_or]
      exact ⟨fun e => ⟨fun e2 => h e2.symm, e⟩, fun e => e.2⟩
theorem look_mem {us : Us} {s : ByteArray} {v : Nat} (h : look us s = some v) : (s, v) ∈ us := by
  induction us with
  | nil => simp [look] at h
  | cons x r ih =>
    obtain ⟨k, w⟩ := x
    unfold look at h
    by_cases hk : k = s
    · rw [if_pos hk] at h
      obtain rfl := Option.some.inj h
      subst hk
      exact List.mem_cons_self
    · rw [if_neg hk] at h
      exact List.mem_cons_of_mem _ (ih h)
theorem look_cons (us : Us) (n s : ByteArray) (v : Nat) : look ((n, v) :: us) s = if n = s then some v else look us s := by
  show (if n = s then some v else look us s) = _
  by_cases h : n = s <;> simp [h]
/-- the first number that is free behind a number -/
theorem first_free (us : Us) (p : ByteArray) (t : Nat) : ∃ J, 1 ≤ J ∧ J ≤ us.length + 1 ∧ look us (app p (t + J)) = none ∧ ∀ j, 1 ≤ j → j < J → look us (app p (t + j)) ≠ none := by
  obtain ⟨j, hj, hn⟩ := free (us.map (·.1)) (fun x => app p (t + (x + 1))) (fun a b h => by have := app_inj h; omega)
  obtain ⟨m, h1, h2, h3⟩ := least (fun x => look us (app p (t + (x + 1))) = none) j (look_none.2 hn)
  refine ⟨m + 1, by omega, by simp at hj; omega, h2, fun i hi1 hi2 => ?_⟩
  have := h3 (i - 1) (by omega)
  rw [show i - 1 + 1 = i by omega] at this
  exact this
/-- what a map holds -/
def key (s : ByteArray) : Lit := .string s.data.toList
theorem key_inj {a b : ByteArray} (h : key a = key b) : a = b := by
  have h1 : a.data.toList = b.data.toList := by simpa [key] using h
  have h2 : a.data = b.data := Array.toList_inj.1 h1
  cases a; cases b; exact congrArg _ h2
def Rep (D : DataW Unit) (us : Us) : Prop := IsMap D ∧ ∀ s, has D (key s) = (look us s).isSome ∧ ∀ v, look us s = some v → D.atKey (key s) (.lit (.int .u32 0)) = .lit (.int .u32 (v : Int))
theorem Rep.empty : Rep (.map []) [] := ⟨isMap_empty, fun s => ⟨rfl, fun v h => by simp [look] at h⟩⟩
theorem Rep.put {D : DataW Unit} {us : Us} (h : Rep D us) (n : ByteArray) (v : Nat) : Rep (D.put (key n) (.lit (.int .u32 (v : Int)))) ((n, v) :: us) := by
  refine ⟨h.1.put _ _, fun s => ?_⟩
  rw [look_cons]
  by_cases e : n = s
  · subst e
    rw [if_pos rfl]
    refine ⟨has_put_same h.1 (by simp [key, WideAt.IsKeyLit]) _, fun w hw => ?_⟩
    obtain rfl := Option.some.inj hw
    exact atKey_put_same h.1 (by simp [key, WideAt.IsKeyLit]) _ _
  · rw [if_neg e]
    have hne : key s ≠ key n := fun h => e (key_inj h).symm
    rw [has_put_other hne, atKey_put_other hne]
    exact h.2 s
end Go.Proofs.YtgflhmihmdflcaaDoor.fnExportNames
