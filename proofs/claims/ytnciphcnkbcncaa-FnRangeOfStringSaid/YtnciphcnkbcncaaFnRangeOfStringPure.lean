/-
  Plain lemmas for FnRangeOfString: which bytes are passed, and what the printed functions of spec's scanner tell.
  Conditions: texts of at most 2^12 bytes.
-/
import Derived.Test.YtnciphcnkbcncaaFnRangeOfStringTexts
import Derived.Test.YtnciphcnkbcncaaFnRangeOfStringParts
import Derived.WalkKit
import Derived.WalkSmall
import Derived.BigQuiet
import Derived.Lib.Hide
import Derived.Lib.OthersKept
namespace Go.Proofs.Ytnciphcnkbcncaa.fnRangeOfString
open Go.RowKit Go.Proofs.YtnciphcnkbcncaaW.PrintWords Go.Proofs.YtnciphcnkbcncaaW.PrintLast Go.Proofs.YtnciphcnkbcncaaW.PrintMore Go.Proofs.Ytnciphcnkbcncaa.PFnRangeOfString Go.Proofs.Ytnciphcnkbcncaa.runes
set_option linter.unusedVariables false

/-- no quote and no backslash from a to b -/
def Calm (s : ByteArray) (a b : Nat) : Prop := ∀ j, a ≤ j → j < b → nb s j ≠ 34 ∧ nb s j ≠ 39 ∧ nb s j ≠ 92
theorem Calm.refl (s : ByteArray) (a : Nat) : Calm s a a := fun j h1 h2 => by omega
theorem Calm.trans {s : ByteArray} {a b c : Nat} (h : Calm s a b) (k : Calm s b c) : Calm s a c := fun j h1 h2 => by
  by_cases e : j < b
  · exact h j h1 e
  · exact k j (by omega) h2
theorem Calm.one {s : ByteArray} {a : Nat} (h : nb s a ≠ 34 ∧ nb s a ≠ 39 ∧ nb s a ≠ 92) : Calm s a (a + 1) := fun j h1 h2 => by
  obtain rfl : j = a := by omega
  exact h
/-- the way of a reader that passes one byte behind each backslash -/
inductive Reach (s : ByteArray) (q : Nat) : Nat → Nat → Prop
  | refl (i : Nat) : Reach s q i i
  | plain {i j : Nat} : i < s.size → nb s i ≠ q → nb s i ≠ 92 → Reach s q (i + 1) j → Reach s q i j
  | esc {i j : Nat} : i < s.size → nb s i ≠ q → nb s i = 92 → Reach s q (i + 2) j → Reach s q i j
theorem Reach.trans {s : ByteArray} {q a b c : Nat} (h : Reach s q a b) (k : Reach s q b c) : Reach s q a c := by
  induction h with
  | refl i => exact k
  | plain h1 h2 h3 _ ih => exact .plain h1 h2 h3 (ih k)
  | esc h1 h2 h3 _ ih => exact .esc h1 h2 h3 (ih k)
theorem Reach.calm {s : ByteArray} {q : Nat} (hq : q = 34 ∨ q = 39) : ∀ (m a : Nat), Calm s a (a + m) → a + m ≤ s.size → Reach s q a (a + m) := by
  intro m
  induction m with
  | zero => intro a _ _; exact .refl _
  | succ m ih =>
    intro a h hs
    obtain ⟨c1, c2, c3⟩ := h a (Nat.le_refl _) (by omega)
    refine .plain (by omega) (by omega) c3 ?_
    have := ih (a + 1) (fun j h1 h2 => h j (by omega) (by omega)) (by omega)
    rwa [show a + 1 + m = a + (m + 1) by omega] at this
theorem Reach.calm' {s : ByteArray} {q a b : Nat} (hq : q = 34 ∨ q = 39) (hab : a ≤ b) (h : Calm s a b) (hb : b ≤ s.size) : Reach s q a b := by
  have := Reach.calm hq (b - a) a (by rwa [show a + (b - a) = b by omega]) (by omega)
  rwa [show a + (b - a) = b by omega] at this
theorem Reach.le {s : ByteArray} {q a b : Nat} (h : Reach s q a b) : a ≤ b := by
  induction h with
  | refl i => exact Nat.le_refl _
  | plain _ _ _ _ ih => omega
  | esc _ _ _ _ ih => omega

/-- what a rune at a place is -/
theorem rune_at (s : ByteArray) (i : Nat) (hi : i < s.size) : ∃ r n : Nat, told (Utf8.decode s i) = ((r : Int), (n : Int)) ∧ (n = 0 ∨ (1 ≤ n ∧ n ≤ 4 ∧ i + n ≤ s.size ∧ r ≤ 1114111 ∧ (nb s i < 128 → r = nb s i ∧ n = 1) ∧ (128 ≤ nb s i → 128 ≤ r ∧ ∀ j, i ≤ j → j < i + n → 128 ≤ nb s j))) := by
  have hl := nb_lt s i
  have bad : told ((65533 : Nat), (1 : Nat)) = (((0 : Nat) : Int), ((0 : Nat) : Int)) := rfl
  have good : ∀ d : Nat × Nat, ¬ d.2 = 1 → told d = ((d.1 : Int), (d.2 : Int)) := fun d h => by unfold told; rw [if_neg (by simp [h])]
  by_cases h0 : nb s i < 128
  · rw [dec_low s i h0]
    refine ⟨nb s i, 1, ?_, .inr ⟨by omega, by omega, by omega, by omega, fun _ => ⟨rfl, rfl⟩, fun h => by omega⟩⟩
    unfold told
    rw [if_neg (by simp; omega)]
  by_cases h1 : nb s i < 194 ∨ 245 ≤ nb s i
  · rw [dec_bad s i (by omega)]
    exact ⟨0, 0, bad, .inl rfl⟩
  by_cases h2 : nb s i ≤ 223
  · rw [dec2 s i (by omega)]
    split
    · rename_i hc
      refine ⟨_, 2, good _ (by simp), .inr ⟨by omega, by omega, by omega, by simp only; omega, fun h => by omega, fun _ => ⟨by simp only; omega, fun j j1 j2 => ?_⟩⟩⟩
      by_cases e : j = i
      · subst e; omega
      · obtain rfl : j = i + 1 := by omega
        omega
    · exact ⟨0, 0, bad, .inl rfl⟩
  by_cases h3 : nb s i ≤ 239
  · rw [dec3 s i (by omega)]
    split
    · rename_i hc
      split
      · rename_i hv
        have h5 := (valid_iff _).1 hv.2
        refine ⟨_, 3, good _ (by simp), .inr ⟨by omega, by omega, by omega, by simp only; omega, fun h => by omega, fun _ => ⟨by have := hv.1; simp only; omega, fun j j1 j2 => ?_⟩⟩⟩
        by_cases e : j = i
        · subst e; omega
        · by_cases e2 : j = i + 1
          · subst e2; omega
          · obtain rfl : j = i + 2 := by omega
            omega
      · exact ⟨0, 0, bad, .inl rfl⟩
    · exact ⟨0, 0, bad, .inl rfl⟩
  · rw [dec4 s i (by omega)]
    split
    · rename_i hc
      split
      · rename_i hv
        have h5 := (valid_iff _).1 hv.2
        refine ⟨_, 4, good _ (by simp), .inr ⟨by omega, by omega, by omega, by simp only; omega, fun h => by omega, fun _ => ⟨by have := hv.1; simp only; omega, fun j j1 j2 => ?_⟩⟩⟩
        by_cases e : j = i
        · subst e; omega
        · by_cases e2 : j = i + 1
          · subst e2; omega
          · by_cases e3 : j = i + 2
            · subst e3; omega
            · obtain rfl : j = i + 3 := by omega
              omega
      · exact ⟨0, 0, bad, .inl rfl⟩
    · exact ⟨0, 0, bad, .inl rfl⟩
/-- a rune of the scanner -/
theorem rune_f (s : ByteArray) (i : Nat) (b2 b3 : Bool) (b4 : Int) (hs : s.size ≤ 4096) (hi : i < s.size) : ∃ r n : Nat, spec_scan_rune.f 10 s i b2 b3 b4 = some ((r : Int), (n : Int), s, (i : Int), b2, b3, b4) ∧ (n = 0 ∨ (1 ≤ n ∧ n ≤ 4 ∧ i + n ≤ s.size ∧ r ≤ 1114111 ∧ (nb s i < 128 → r = nb s i ∧ n = 1) ∧ (128 ≤ nb s i → 128 ≤ r ∧ ∀ j, i ≤ j → j < i + n → 128 ≤ nb s j))) := by
  obtain ⟨r, n, h, hr⟩ := rune_at s i hi
  refine ⟨r, n, ?_, hr⟩
  unfold spec_scan_rune.f
  rw [rune_ge s i 10 (Nat.le_refl _) (by omega) hi, h]
  rfl
theorem rune_end (s : ByteArray) (i : Nat) (b2 b3 : Bool) (b4 : Int) (hi : ¬ i < s.size) : spec_scan_rune.f 10 s i b2 b3 b4 = some (0, 0, s, (i : Int), b2, b3, b4) := by
  unfold spec_scan_rune.f spec_Rune.f
  rw [if_neg (by omega), decide_eq_true (by omega)]
  rfl
theorem bt_in (s : ByteArray) (i : Nat) (hi : i < s.size) : wrap64 (bt s (i : Int)) = (nb s i : Int) := by rw [bt_nb s i hi, w64_nb]
/-- what a byte is worth as a hexadecimal digit -/
theorem hex_f (b : Nat) (hb : b < 256) : ∃ v : Int, spec_Hex.f (b : Int) = some v ∧ v ≤ 15 ∧ -1 ≤ v ∧ (0 ≤ v → (48 ≤ b ∧ b ≤ 57) ∨ (97 ≤ b ∧ b ≤ 102) ∨ (65 ≤ b ∧ b ≤ 70)) := by
  unfold spec_Hex.f spec_Digit.f spec_between.f
  by_cases h1 : 48 ≤ b ∧ b ≤ 57
  · refine ⟨(b : Int) - 48, ?_, by omega, by omega, fun _ => .inl h1⟩
    rw [if_pos (by omega), decide_eq_true (by omega)]
    simp only [Option.bind_some, if_true]
    rw [w64 _ (by omega) (by omega)]
  · by_cases h2 : 97 ≤ b ∧ b ≤ 102
    · refine ⟨(b : Int) - 97 + 10, ?_, by omega, by omega, fun _ => .inr (.inl h2)⟩
      rw [if_pos (by omega), decide_eq_false (by omega)]
      simp only [Option.bind_some]
      rw [if_neg (by decide), if_pos (by omega), decide_eq_true (by omega)]
      simp only [Option.bind_some, if_true]
      rw [w64 ((b : Int) - 97) (by omega) (by omega), w64 _ (by omega) (by omega)]
    · by_cases h3 : 65 ≤ b ∧ b ≤ 70
      · refine ⟨(b : Int) - 65 + 10, ?_, by omega, by omega, fun _ => .inr (.inr h3)⟩
        rw [if_pos (by omega), decide_eq_false (by omega)]
        simp only [Option.bind_some]
        rw [if_neg (by decide), if_neg (by omega)]
        simp only [Option.bind_some]
        rw [if_neg (by decide), if_pos (by omega), decide_eq_true (by omega)]
        simp only [Option.bind_some, if_true]
        rw [w64 ((b : Int) - 65) (by omega) (by omega), w64 _ (by omega) (by omega)]
      · refine ⟨-1, ?_, by omega, by omega, fun h => by omega⟩
        have e1 : (if (48 : Int) ≤ b then some (decide ((b : Int) ≤ 57)) else some false) = some false := by
          split
          · rw [decide_eq_false (by omega)]
          · rfl
        have e2 : (if (97 : Int) ≤ b then some (decide ((b : Int) ≤ 102)) else some false) = some false := by
          split
          · rw [decide_eq_false (by omega)]
          · rfl
        have e3 : (if (65 : Int) ≤ b then some (decide ((b : Int) ≤ 70)) else some false) = some false := by
          split
          · rw [decide_eq_false (by omega)]
          · rfl
        rw [e1, e2, e3]
        rfl
/-- a hexadecimal digit -/
def isHex (b : Nat) : Prop := (48 ≤ b ∧ b ≤ 57) ∨ (97 ≤ b ∧ b ≤ 102) ∨ (65 ≤ b ∧ b ≤ 70)
theorem isHex.calm {s : ByteArray} {a : Nat} (h : isHex (nb s a)) : Calm s a (a + 1) := Calm.one (by unfold isHex at h; omega)
/-- what Hex tells -/
theorem hexC (b : Nat) (hb : b < 256) : ∃ v : Int, v ≤ 15 ∧ -1 ≤ v ∧ (0 ≤ v → isHex b) ∧ ∀ w, Calls Try.prog 46 #[.int .i64 b] w fun e w' => e = .returned (.int .i64 v) ∧ ∃ n, w' = w.drewN n := by
  obtain ⟨v, h, h1, h2, h3⟩ := hex_f b hb
  exact ⟨v, h1, h2, h3, fun w => (spec_Hex.calls (b : Int) v w h).mono fun e w' ⟨he, n, hw⟩ => ⟨he, n, hw⟩⟩
/-- where the scanner stands behind a call -/
def Sc (w0 W W' : World) (g : Nat) (s : ByteArray) (a : Nat) (b2 b3 : Bool) (b4 : Int) : Prop := IsS51 w0 W' g s a b2 b3 b4 ∧ Below w0.heap.size w0 W' ∧ KeepBut W W' g none
theorem Sc.drew {w0 W W' : World} {g : Nat} {s : ByteArray} {a : Nat} {b2 b3 : Bool} {b4 : Int} (h : Sc w0 W W' g s a b2 b3 b4) (n : Nat) : Sc w0 W (W'.drewN n) g s a b2 b3 b4 := ⟨h.1.drewN n, pw_below_drewN h.2.1 n, keep_drewN h.2.2 n⟩
theorem Sc.alloc {w0 W W' : World} {g : Nat} {s : ByteArray} {a : Nat} {b2 b3 : Bool} {b4 : Int} (h : Sc w0 W W' g s a b2 b3 b4) (o : Obj) : Sc w0 W (W'.alloc o) g s a b2 b3 b4 := ⟨h.1.alloc o, below_alloc h.2.1 o, keep_alloc h.2.2 o⟩
theorem Sc.set1 {w0 W W' : World} {g : Nat} {s : ByteArray} {a : Nat} {b2 b3 : Bool} {b4 : Int} (h : Sc w0 W W' g s a b2 b3 b4) (a' : Nat) : Sc w0 W (W'.setCell ⟨g, 1, none⟩ (.int .i64 a')) g s a' b2 b3 b4 := ⟨h.1.set_1 a', below_set h.2.1 h.1.ge, h.2.2.set_ _ _⟩
theorem Sc.below {w0 W W' W2 : World} {g : Nat} {s : ByteArray} {a : Nat} {b2 b3 : Bool} {b4 : Int} (h : Sc w0 W W' g s a b2 b3 b4) (hb : Below W'.heap.size W' W2) : Sc w0 W W2 g s a b2 b3 b4 := ⟨h.1.below hb, h.2.1.trans (hb.mono h.2.1.size), h.2.2.trans (KeepBut.of_below hb g none) (.inl rfl)⟩
theorem Sc.trans {w0 W W' W2 : World} {g : Nat} {s : ByteArray} {a a' : Nat} {b2 b3 c2 c3 : Bool} {b4 c4 : Int} (h : Sc w0 W W' g s a b2 b3 b4) (k : Sc w0 W' W2 g s a' c2 c3 c4) : Sc w0 W W2 g s a' c2 c3 c4 := ⟨k.1, k.2.1, h.2.2.trans k.2.2 (.inl rfl)⟩
theorem Sc.start {w0 W : World} {g : Nat} {s : ByteArray} {a : Nat} {b2 b3 : Bool} {b4 : Int} (h : IsS51 w0 W g s a b2 b3 b4) (hb : Below w0.heap.size w0 W) : Sc w0 W W g s a b2 b3 b4 := ⟨h, hb, KeepBut.refl _ _ _⟩
theorem Sc.again {w0 W W' : World} {g : Nat} {s : ByteArray} {a : Nat} {b2 b3 : Bool} {b4 : Int} (h : Sc w0 W W' g s a b2 b3 b4) : Sc w0 W' W' g s a b2 b3 b4 := ⟨h.1, h.2.1, KeepBut.refl _ _ _⟩
theorem Sc.c0 {w0 W W' : World} {g : Nat} {s : ByteArray} {a : Nat} {b2 b3 : Bool} {b4 : Int} (h : Sc w0 W W' g s a b2 b3 b4) : W'.cell? ⟨g, 0, none⟩ = some (.string s) := by rw [blk_cell h.1.1 0]; rfl
theorem Sc.c1 {w0 W W' : World} {g : Nat} {s : ByteArray} {a : Nat} {b2 b3 : Bool} {b4 : Int} (h : Sc w0 W W' g s a b2 b3 b4) : W'.cell? ⟨g, 1, none⟩ = some (.int .i64 a) := by rw [blk_cell h.1.1 1]; rfl
theorem Sc.c2 {w0 W W' : World} {g : Nat} {s : ByteArray} {a : Nat} {b2 b3 : Bool} {b4 : Int} (h : Sc w0 W W' g s a b2 b3 b4) : W'.cell? ⟨g, 2, none⟩ = some (.bool b2) := by rw [blk_cell h.1.1 2]; rfl
theorem Sc.c3 {w0 W W' : World} {g : Nat} {s : ByteArray} {a : Nat} {b2 b3 : Bool} {b4 : Int} (h : Sc w0 W W' g s a b2 b3 b4) : W'.cell? ⟨g, 3, none⟩ = some (.bool b3) := by rw [blk_cell h.1.1 3]; rfl
theorem Sc.c4 {w0 W W' : World} {g : Nat} {s : ByteArray} {a : Nat} {b2 b3 : Bool} {b4 : Int} (h : Sc w0 W W' g s a b2 b3 b4) : W'.cell? ⟨g, 4, none⟩ = some (.int .i64 b4) := by rw [blk_cell h.1.1 4]; rfl
theorem Sc.fz {w0 W W' : World} {g : Nat} {s : ByteArray} {a : Nat} {b2 b3 : Bool} {b4 : Int} (h : Sc w0 W W' g s a b2 b3 b4) (i : Nat) : W'.frozen? ⟨g, i, none⟩ = false := Lib.frozen_of_heap h.1.1 i
end Go.Proofs.Ytnciphcnkbcncaa.fnRangeOfString
