/-
  FnEscapeClosing, the small functions: the search for "</", the comparison without regard to the case, a byte as a small letter, the test of the tag, the search of the specification.
  Conditions: texts of at most 2^40 bytes.
-/
import Derived.Test.YtapbhbhaandedaaRRRFnEscapeClosingPure
import Derived.Test.YtapbhbhaandedaaRRRRows
import Derived.WalkKit
import Derived.WalkSmall
import Derived.Lib.Hide
import Derived.Deep.QuietTactic
import Derived.BigQuiet
import Derived.Deep.RegionWith
namespace Go.Proofs.YtapbhbhaandedaaRRR.fnEscapeClosing
open Go.RowKit
set_option linter.unusedVariables false
set_option linter.unusedSimpArgs false

theorem lower (b : UInt8) (w : World) : Calls Try.prog 17 #[.int .u8 b.toNat] w fun e w' => e = .returned (.int .u8 (low b).toNat) ∧ w' = w := by
  have hb : b.toNat < 256 := b.toNat_lt
  by_cases h : 65 ≤ b.toNat ∧ b.toNat ≤ 90
  · have h1 : (65:Int) ≤ b.toNat := by omega
    have h2 : (b.toNat:Int) ≤ 90 := by omega
    have e : ((low b).toNat : Int) = b.toNat + 32 := by
      unfold low
      rw [if_pos h, UInt8.toNat_add]
      simp
      omega
    rw [e]
    go_enter Try.func17, Try.ntmps17
    go_wp2
    go_ret
    exact ⟨rfl, rfl⟩
  · have e : low b = b := by unfold low; rw [if_neg h]
    rw [e]
    by_cases h1 : 65 ≤ b.toNat
    · have h2 : (65:Int) ≤ b.toNat := by omega
      have h3 : ¬ (b.toNat:Int) ≤ 90 := by omega
      go_enter Try.func17, Try.ntmps17
      go_wp2
      go_ret
      exact ⟨rfl, rfl⟩
    · have h2 : ¬ (65:Int) ≤ b.toNat := by omega
      go_enter Try.func17, Try.ntmps17
      go_wp2
      go_ret
      exact ⟨rfl, rfl⟩

/-- the bytes of a text -/
def by' (s : ByteArray) : List UInt8 := s.data.toList
theorem by_len (s : ByteArray) : (by' s).length = s.size := by unfold by'; rw [Array.length_toList]; rfl
theorem by_at (s : ByteArray) (k : Nat) (h : k < s.size) : s[k]'h = (by' s).getD k 0 := by
  have h' : k < (by' s).length := by rw [by_len]; exact h
  have e : (by' s).getD k 0 = (by' s)[k]'h' := by simp [List.getD, List.getElem?_eq_getElem h']
  rw [e]
  exact (Array.getElem_toList (xs := s.data) (i := k) h).symm

theorem pre_iff : ∀ (T L : List UInt8), pre T L = true ↔ T.length ≤ L.length ∧ ∀ i, i < T.length → low (L.getD i 0) = low (T.getD i 0) := by
  intro T
  induction T with
  | nil => intro L; simp [pre]
  | cons t ts ih =>
    intro L
    cases L with
    | nil => simp [pre]
    | cons c cs =>
      simp only [pre, Bool.and_eq_true, beq_iff_eq, ih cs, List.length_cons]
      constructor
      · rintro ⟨h0, hl, h⟩
        refine ⟨by omega, fun i hi => ?_⟩
        cases i with
        | zero => exact h0
        | succ i => exact h i (by omega)
      · rintro ⟨hl, h⟩
        exact ⟨h 0 (by omega), by omega, fun i hi => h (i + 1) (by omega)⟩

theorem tag_of {s : ByteArray} (h2 : 2 ≤ s.size) (h0 : (by' s).getD 0 0 = 47) (h : ∀ j, 1 ≤ j → j < s.size → 97 ≤ ((by' s).getD j 0).toNat ∧ ((by' s).getD j 0).toNat ≤ 122) : Tag (by' s) := by
  have hl := by_len s
  generalize by' s = L at *
  cases L with
  | nil => simp at hl; omega
  | cons c ts =>
    have e : c = 47 := h0
    subst e
    refine ⟨ts, rfl, ?_, fun t ht => ?_⟩
    · rintro rfl; simp at hl; omega
    · obtain ⟨j, hj, rfl⟩ := List.getElem_of_mem ht
      have := h (j + 1) (by omega) (by rw [← hl]; simp; omega)
      simpa [List.getD, List.getElem?_eq_getElem hj] using this

def SlashEnd (s : ByteArray) (e : Ending) : Prop := ∃ b : Bool, e = .returned (.bool b) ∧ (b = true → Tag (by' s))
set_option maxHeartbeats 4000000 in
theorem slash (s : ByteArray) (w : World) (hs : s.size ≤ 2147483647) : Calls Try.prog 9 #[.string s] w fun e w' => SlashEnd s e ∧ w' = w := by
  by_cases h2 : 2 ≤ s.size
  · have g2 : (2:Int) ≤ s.size := by omega
    by_cases h0 : ((s[0]'(by omega)).toNat : Int) = 47
    · have hh : (((s[0]'(by omega)).toNat : Int) != 47) = false := by simpa using h0
      have h00 : (by' s).getD 0 0 = 47 := by
        rw [← by_at s 0 (by omega)]
        exact UInt8.toNat_inj.1 (by simpa using (by omega : (s[0]'(by omega)).toNat = 47))
      have H00 := Lib.hid h00
      clear h0 h00
      go_enter Try.func9, Try.ntmps9
      go_wp2_with (fail)
      go_loopw [3] (fun v wr => ∃ k : Nat, v = .int .i64 k ∧ k ≤ s.size ∧ wr = w ∧ ∀ j, 1 ≤ j → j < k → 97 ≤ ((by' s).getD j 0).toNat ∧ ((by' s).getD j 0).toNat ≤ 122) (fun v _ => s.size - (intOf v).toNat)
      case atStart => exact ⟨1, rfl, by omega, rfl, fun j h1 h2 => by omega⟩
      case round =>
        obtain ⟨k, rfl, hk, rfl, hl⟩ := hrel
        have HL := Lib.hid hl
        clear hl
        by_cases hlt : k < s.size
        · have k0 : (0:Int) ≤ k := by omega
          have k1 : (k:Int) < s.size := by omega
          by_cases hc : 97 ≤ (s[k]'hlt).toNat ∧ (s[k]'hlt).toNat ≤ 122
          · have c1 : ¬ ((s[k]'hlt).toNat : Int) < 97 := by omega
            have c2 : ((s[k]'hlt).toNat : Int) ≤ 122 := by omega
            have HC := Lib.hid (by_at s k hlt ▸ hc)
            clear hc
            go_wp2_with (fail)
            go_roundw
            case rel =>
              refine ⟨k + 1, by simp, by omega, trivial, fun j h1 h2 => ?_⟩
              by_cases e : j = k
              · subst e; exact HC.out
              · exact HL.out j h1 (by omega)
            case measure =>
              simp only [intOf]
              omega
          · go_wp2_with (fail)
            all_goals first | (go_ret; exact ⟨⟨false, rfl, by simp⟩, rfl⟩) | (exfalso; omega)
        · have k1 : ¬ (k:Int) < s.size := by omega
          go_wp2_with (fail)
          go_ret
          exact ⟨⟨true, rfl, fun _ => tag_of h2 H00.out (fun j h1 h2 => HL.out j h1 (by omega))⟩, rfl⟩
    · have hh : (((s[0]'(by omega)).toNat : Int) != 47) = true := by simpa using h0
      go_enter Try.func9, Try.ntmps9
      go_wp2_with (fail)
      go_ret
      exact ⟨⟨false, rfl, by simp⟩, rfl⟩
  · have g2 : (s.size:Int) < 2 := by omega
    go_enter Try.func9, Try.ntmps9
    go_wp2_with (fail)
    go_ret
    exact ⟨⟨false, rfl, by simp⟩, rfl⟩

theorem below_draws {B : Nat} {a w : World} (h : Below B a w) (n : Nat) : Below B a (w.drewN n) := ⟨h.os, h.tape, h.output, h.size, h.block⟩
theorem not_pre {s t : ByteArray} {k : Nat} (hst : s.size = t.size) (hk : k < s.size) (h : ¬ low ((by' s).getD k 0) = low ((by' t).getD k 0)) : pre (by' t) (by' s) = false := by
  cases hp : pre (by' t) (by' s)
  · rfl
  · exact absurd (((pre_iff _ _).1 hp).2 k (by rw [by_len]; omega)) h
theorem low_up {b : UInt8} (h1 : 65 ≤ b.toNat) (h2 : b.toNat ≤ 90) : (low b).toNat = b.toNat + 32 := by
  unfold low
  rw [if_pos ⟨h1, h2⟩, UInt8.toNat_add]
  simp
  omega
theorem low_not {b : UInt8} (h : ¬ (65 ≤ b.toNat ∧ b.toNat ≤ 90)) : (low b).toNat = b.toNat := by
  unfold low
  rw [if_neg h]

/-- w' is w, some draws on -/
def Dr (w w' : World) : Prop := ∃ m, w' = w.drewN m
theorem Dr.refl (w : World) : Dr w w := ⟨0, rfl⟩
theorem Dr.draws {a w : World} (h : Dr a w) (n : Nat) : Dr a (w.drewN n) := by
  obtain ⟨m, rfl⟩ := h
  exact ⟨m + n, World.drewN_drewN _ _ _⟩
set_option maxHeartbeats 16000000 in
theorem fold (s t : ByteArray) (w : World) (hs : s.size ≤ 2147483647) (hst : s.size = t.size) : Calls Try.prog 23 #[.string s, .string t] w fun e w' => e = .returned (.bool (pre (by' t) (by' s))) ∧ Dr w w' := by
  have h1 : ((s.size:Int) != t.size) = false := by simp; omega
  go_enter Try.func23, Try.ntmps23
  go_wp2_with (fail)
  go_loopw [5, 6, 7] (fun v v6 v7 wr => ∃ k : Nat, v = .int .i64 k ∧ k ≤ s.size ∧ Dr w wr ∧ ∀ j, j < k → low ((by' s).getD j 0) = low ((by' t).getD j 0)) (fun v _ _ _ => s.size - (intOf v).toNat)
  case atStart => exact ⟨0, rfl, by omega, Dr.refl _, fun j h => by omega⟩
  case round =>
    obtain ⟨k, rfl, hk, hbw, hl⟩ := hrel
    have HL := Lib.hid hl
    have HB := Lib.hid hbw
    clear hl hbw
    by_cases hlt : k < s.size
    · have hlt2 : k < t.size := by omega
      have k0 : (0:Int) ≤ k := by omega
      have k1 : (k:Int) < s.size := by omega
      have k2 : (k:Int) < t.size := by omega
      go_wp2_with (fail)
      go_quiet (fail)
      obtain ⟨x, hx⟩ : ∃ x, x = s[k]'hlt := ⟨_, rfl⟩
      obtain ⟨y, hy⟩ : ∃ y, y = t[k]'hlt2 := ⟨_, rfl⟩
      rw [← hx, ← hy]
      have HX := Lib.hid (hx.trans (by_at s k hlt))
      have HY := Lib.hid (hy.trans (by_at t k hlt2))
      clear hx hy
      have xb := x.toNat_lt
      have yb := y.toNat_lt
      rcases (show (65 ≤ x.toNat ∧ x.toNat ≤ 90) ∨ (65 ≤ x.toNat ∧ ¬ x.toNat ≤ 90) ∨ ¬ 65 ≤ x.toNat by omega) with hcx | hcx | hcx
      · have x1 : (65:Int) ≤ x.toNat := by omega
        have x2 : (x.toNat:Int) ≤ 90 := by omega
        have lx := low_up (b := x) (by omega) (by omega)
        clear hcx
        rcases (show (65 ≤ y.toNat ∧ y.toNat ≤ 90) ∨ (65 ≤ y.toNat ∧ ¬ y.toNat ≤ 90) ∨ ¬ 65 ≤ y.toNat by omega) with hcy | hcy | hcy
        · have y1 : (65:Int) ≤ y.toNat := by omega
          have y2 : (y.toNat:Int) ≤ 90 := by omega
          have ly := low_up (b := y) (by omega) (by omega)
          clear hcy
          by_cases he : low x = low y
          · have hq : (((x.toNat + 32 : Nat) : Int) != ((y.toNat + 32 : Nat) : Int)) = false := by
              have := congrArg UInt8.toNat he
              rw [lx, ly] at this
              rw [this]; simp
            try simp only [Int.natCast_add, Int.cast_ofNat_Int] at hq
            have HE := Lib.hid he
            clear he lx ly
            go_wp2_with (fail)
            go_roundw
            case rel =>
              refine ⟨k + 1, by simp, by omega, HB.out.draws nq, fun j hj => ?_⟩
              by_cases e : j = k
              · subst e; rw [← HX.out, ← HY.out]; exact HE.out
              · exact HL.out j (by omega)
            case measure =>
              simp only [intOf]
              omega
          · have hq : (((x.toNat + 32 : Nat) : Int) != ((y.toNat + 32 : Nat) : Int)) = true := by
              have : (x.toNat + 32) ≠ (y.toNat + 32) := fun e => he (UInt8.toNat_inj.1 (by rw [lx, ly]; exact e))
              simp only [bne_iff_ne, ne_eq]
              omega
            try simp only [Int.natCast_add, Int.cast_ofNat_Int] at hq
            have HE := Lib.hid he
            clear he lx ly
            go_wp2_with (fail)
            go_ret
            refine ⟨?_, HB.out.draws nq⟩
            rw [not_pre hst hlt (fun e => HE.out (by rw [HX.out, HY.out]; exact e))]
            rfl
        · have y1 : (65:Int) ≤ y.toNat := by omega
          have y2 : ¬ (y.toNat:Int) ≤ 90 := by omega
          have ly := low_not (b := y) (by omega)
          clear hcy
          by_cases he : low x = low y
          · have hq : (((x.toNat + 32 : Nat) : Int) != ((y.toNat : Nat) : Int)) = false := by
              have := congrArg UInt8.toNat he
              rw [lx, ly] at this
              rw [this]; simp
            try simp only [Int.natCast_add, Int.cast_ofNat_Int] at hq
            have HE := Lib.hid he
            clear he lx ly
            go_wp2_with (fail)
            go_roundw
            case rel =>
              refine ⟨k + 1, by simp, by omega, HB.out.draws nq, fun j hj => ?_⟩
              by_cases e : j = k
              · subst e; rw [← HX.out, ← HY.out]; exact HE.out
              · exact HL.out j (by omega)
            case measure =>
              simp only [intOf]
              omega
          · have hq : (((x.toNat + 32 : Nat) : Int) != ((y.toNat : Nat) : Int)) = true := by
              have : (x.toNat + 32) ≠ (y.toNat) := fun e => he (UInt8.toNat_inj.1 (by rw [lx, ly]; exact e))
              simp only [bne_iff_ne, ne_eq]
              omega
            try simp only [Int.natCast_add, Int.cast_ofNat_Int] at hq
            have HE := Lib.hid he
            clear he lx ly
            go_wp2_with (fail)
            go_ret
            refine ⟨?_, HB.out.draws nq⟩
            rw [not_pre hst hlt (fun e => HE.out (by rw [HX.out, HY.out]; exact e))]
            rfl
        · have y1 : ¬ (65:Int) ≤ y.toNat := by omega
          have ly := low_not (b := y) (by omega)
          clear hcy
          by_cases he : low x = low y
          · have hq : (((x.toNat + 32 : Nat) : Int) != ((y.toNat : Nat) : Int)) = false := by
              have := congrArg UInt8.toNat he
              rw [lx, ly] at this
              rw [this]; simp
            try simp only [Int.natCast_add, Int.cast_ofNat_Int] at hq
            have HE := Lib.hid he
            clear he lx ly
            go_wp2_with (fail)
            go_roundw
            case rel =>
              refine ⟨k + 1, by simp, by omega, HB.out.draws nq, fun j hj => ?_⟩
              by_cases e : j = k
              · subst e; rw [← HX.out, ← HY.out]; exact HE.out
              · exact HL.out j (by omega)
            case measure =>
              simp only [intOf]
              omega
          · have hq : (((x.toNat + 32 : Nat) : Int) != ((y.toNat : Nat) : Int)) = true := by
              have : (x.toNat + 32) ≠ (y.toNat) := fun e => he (UInt8.toNat_inj.1 (by rw [lx, ly]; exact e))
              simp only [bne_iff_ne, ne_eq]
              omega
            try simp only [Int.natCast_add, Int.cast_ofNat_Int] at hq
            have HE := Lib.hid he
            clear he lx ly
            go_wp2_with (fail)
            go_ret
            refine ⟨?_, HB.out.draws nq⟩
            rw [not_pre hst hlt (fun e => HE.out (by rw [HX.out, HY.out]; exact e))]
            rfl
      · have x1 : (65:Int) ≤ x.toNat := by omega
        have x2 : ¬ (x.toNat:Int) ≤ 90 := by omega
        have lx := low_not (b := x) (by omega)
        clear hcx
        rcases (show (65 ≤ y.toNat ∧ y.toNat ≤ 90) ∨ (65 ≤ y.toNat ∧ ¬ y.toNat ≤ 90) ∨ ¬ 65 ≤ y.toNat by omega) with hcy | hcy | hcy
        · have y1 : (65:Int) ≤ y.toNat := by omega
          have y2 : (y.toNat:Int) ≤ 90 := by omega
          have ly := low_up (b := y) (by omega) (by omega)
          clear hcy
          by_cases he : low x = low y
          · have hq : (((x.toNat : Nat) : Int) != ((y.toNat + 32 : Nat) : Int)) = false := by
              have := congrArg UInt8.toNat he
              rw [lx, ly] at this
              rw [this]; simp
            try simp only [Int.natCast_add, Int.cast_ofNat_Int] at hq
            have HE := Lib.hid he
            clear he lx ly
            go_wp2_with (fail)
            go_roundw
            case rel =>
              refine ⟨k + 1, by simp, by omega, HB.out.draws nq, fun j hj => ?_⟩
              by_cases e : j = k
              · subst e; rw [← HX.out, ← HY.out]; exact HE.out
              · exact HL.out j (by omega)
            case measure =>
              simp only [intOf]
              omega
          · have hq : (((x.toNat : Nat) : Int) != ((y.toNat + 32 : Nat) : Int)) = true := by
              have : (x.toNat) ≠ (y.toNat + 32) := fun e => he (UInt8.toNat_inj.1 (by rw [lx, ly]; exact e))
              simp only [bne_iff_ne, ne_eq]
              omega
            try simp only [Int.natCast_add, Int.cast_ofNat_Int] at hq
            have HE := Lib.hid he
            clear he lx ly
            go_wp2_with (fail)
            go_ret
            refine ⟨?_, HB.out.draws nq⟩
            rw [not_pre hst hlt (fun e => HE.out (by rw [HX.out, HY.out]; exact e))]
            rfl
        · have y1 : (65:Int) ≤ y.toNat := by omega
          have y2 : ¬ (y.toNat:Int) ≤ 90 := by omega
          have ly := low_not (b := y) (by omega)
          clear hcy
          by_cases he : low x = low y
          · have hq : (((x.toNat : Nat) : Int) != ((y.toNat : Nat) : Int)) = false := by
              have := congrArg UInt8.toNat he
              rw [lx, ly] at this
              rw [this]; simp
            try simp only [Int.natCast_add, Int.cast_ofNat_Int] at hq
            have HE := Lib.hid he
            clear he lx ly
            go_wp2_with (fail)
            go_roundw
            case rel =>
              refine ⟨k + 1, by simp, by omega, HB.out.draws nq, fun j hj => ?_⟩
              by_cases e : j = k
              · subst e; rw [← HX.out, ← HY.out]; exact HE.out
              · exact HL.out j (by omega)
            case measure =>
              simp only [intOf]
              omega
          · have hq : (((x.toNat : Nat) : Int) != ((y.toNat : Nat) : Int)) = true := by
              have : (x.toNat) ≠ (y.toNat) := fun e => he (UInt8.toNat_inj.1 (by rw [lx, ly]; exact e))
              simp only [bne_iff_ne, ne_eq]
              omega
            try simp only [Int.natCast_add, Int.cast_ofNat_Int] at hq
            have HE := Lib.hid he
            clear he lx ly
            go_wp2_with (fail)
            go_ret
            refine ⟨?_, HB.out.draws nq⟩
            rw [not_pre hst hlt (fun e => HE.out (by rw [HX.out, HY.out]; exact e))]
            rfl
        · have y1 : ¬ (65:Int) ≤ y.toNat := by omega
          have ly := low_not (b := y) (by omega)
          clear hcy
          by_cases he : low x = low y
          · have hq : (((x.toNat : Nat) : Int) != ((y.toNat : Nat) : Int)) = false := by
              have := congrArg UInt8.toNat he
              rw [lx, ly] at this
              rw [this]; simp
            try simp only [Int.natCast_add, Int.cast_ofNat_Int] at hq
            have HE := Lib.hid he
            clear he lx ly
            go_wp2_with (fail)
            go_roundw
            case rel =>
              refine ⟨k + 1, by simp, by omega, HB.out.draws nq, fun j hj => ?_⟩
              by_cases e : j = k
              · subst e; rw [← HX.out, ← HY.out]; exact HE.out
              · exact HL.out j (by omega)
            case measure =>
              simp only [intOf]
              omega
          · have hq : (((x.toNat : Nat) : Int) != ((y.toNat : Nat) : Int)) = true := by
              have : (x.toNat) ≠ (y.toNat) := fun e => he (UInt8.toNat_inj.1 (by rw [lx, ly]; exact e))
              simp only [bne_iff_ne, ne_eq]
              omega
            try simp only [Int.natCast_add, Int.cast_ofNat_Int] at hq
            have HE := Lib.hid he
            clear he lx ly
            go_wp2_with (fail)
            go_ret
            refine ⟨?_, HB.out.draws nq⟩
            rw [not_pre hst hlt (fun e => HE.out (by rw [HX.out, HY.out]; exact e))]
            rfl
      · have x1 : ¬ (65:Int) ≤ x.toNat := by omega
        have lx := low_not (b := x) (by omega)
        clear hcx
        rcases (show (65 ≤ y.toNat ∧ y.toNat ≤ 90) ∨ (65 ≤ y.toNat ∧ ¬ y.toNat ≤ 90) ∨ ¬ 65 ≤ y.toNat by omega) with hcy | hcy | hcy
        · have y1 : (65:Int) ≤ y.toNat := by omega
          have y2 : (y.toNat:Int) ≤ 90 := by omega
          have ly := low_up (b := y) (by omega) (by omega)
          clear hcy
          by_cases he : low x = low y
          · have hq : (((x.toNat : Nat) : Int) != ((y.toNat + 32 : Nat) : Int)) = false := by
              have := congrArg UInt8.toNat he
              rw [lx, ly] at this
              rw [this]; simp
            try simp only [Int.natCast_add, Int.cast_ofNat_Int] at hq
            have HE := Lib.hid he
            clear he lx ly
            go_wp2_with (fail)
            go_roundw
            case rel =>
              refine ⟨k + 1, by simp, by omega, HB.out.draws nq, fun j hj => ?_⟩
              by_cases e : j = k
              · subst e; rw [← HX.out, ← HY.out]; exact HE.out
              · exact HL.out j (by omega)
            case measure =>
              simp only [intOf]
              omega
          · have hq : (((x.toNat : Nat) : Int) != ((y.toNat + 32 : Nat) : Int)) = true := by
              have : (x.toNat) ≠ (y.toNat + 32) := fun e => he (UInt8.toNat_inj.1 (by rw [lx, ly]; exact e))
              simp only [bne_iff_ne, ne_eq]
              omega
            try simp only [Int.natCast_add, Int.cast_ofNat_Int] at hq
            have HE := Lib.hid he
            clear he lx ly
            go_wp2_with (fail)
            go_ret
            refine ⟨?_, HB.out.draws nq⟩
            rw [not_pre hst hlt (fun e => HE.out (by rw [HX.out, HY.out]; exact e))]
            rfl
        · have y1 : (65:Int) ≤ y.toNat := by omega
          have y2 : ¬ (y.toNat:Int) ≤ 90 := by omega
          have ly := low_not (b := y) (by omega)
          clear hcy
          by_cases he : low x = low y
          · have hq : (((x.toNat : Nat) : Int) != ((y.toNat : Nat) : Int)) = false := by
              have := congrArg UInt8.toNat he
              rw [lx, ly] at this
              rw [this]; simp
            try simp only [Int.natCast_add, Int.cast_ofNat_Int] at hq
            have HE := Lib.hid he
            clear he lx ly
            go_wp2_with (fail)
            go_roundw
            case rel =>
              refine ⟨k + 1, by simp, by omega, HB.out.draws nq, fun j hj => ?_⟩
              by_cases e : j = k
              · subst e; rw [← HX.out, ← HY.out]; exact HE.out
              · exact HL.out j (by omega)
            case measure =>
              simp only [intOf]
              omega
          · have hq : (((x.toNat : Nat) : Int) != ((y.toNat : Nat) : Int)) = true := by
              have : (x.toNat) ≠ (y.toNat) := fun e => he (UInt8.toNat_inj.1 (by rw [lx, ly]; exact e))
              simp only [bne_iff_ne, ne_eq]
              omega
            try simp only [Int.natCast_add, Int.cast_ofNat_Int] at hq
            have HE := Lib.hid he
            clear he lx ly
            go_wp2_with (fail)
            go_ret
            refine ⟨?_, HB.out.draws nq⟩
            rw [not_pre hst hlt (fun e => HE.out (by rw [HX.out, HY.out]; exact e))]
            rfl
        · have y1 : ¬ (65:Int) ≤ y.toNat := by omega
          have ly := low_not (b := y) (by omega)
          clear hcy
          by_cases he : low x = low y
          · have hq : (((x.toNat : Nat) : Int) != ((y.toNat : Nat) : Int)) = false := by
              have := congrArg UInt8.toNat he
              rw [lx, ly] at this
              rw [this]; simp
            try simp only [Int.natCast_add, Int.cast_ofNat_Int] at hq
            have HE := Lib.hid he
            clear he lx ly
            go_wp2_with (fail)
            go_roundw
            case rel =>
              refine ⟨k + 1, by simp, by omega, HB.out.draws nq, fun j hj => ?_⟩
              by_cases e : j = k
              · subst e; rw [← HX.out, ← HY.out]; exact HE.out
              · exact HL.out j (by omega)
            case measure =>
              simp only [intOf]
              omega
          · have hq : (((x.toNat : Nat) : Int) != ((y.toNat : Nat) : Int)) = true := by
              have : (x.toNat) ≠ (y.toNat) := fun e => he (UInt8.toNat_inj.1 (by rw [lx, ly]; exact e))
              simp only [bne_iff_ne, ne_eq]
              omega
            try simp only [Int.natCast_add, Int.cast_ofNat_Int] at hq
            have HE := Lib.hid he
            clear he lx ly
            go_wp2_with (fail)
            go_ret
            refine ⟨?_, HB.out.draws nq⟩
            rw [not_pre hst hlt (fun e => HE.out (by rw [HX.out, HY.out]; exact e))]
            rfl
    · have k1 : ¬ (k:Int) < s.size := by omega
      go_wp2_with (fail)
      go_ret
      refine ⟨?_, HB.out⟩
      rw [(pre_iff (by' t) (by' s)).2 ⟨by rw [by_len, by_len]; omega, fun i hi => HL.out i (by rw [by_len] at hi; omega)⟩]
      rfl
end Go.Proofs.YtapbhbhaandedaaRRR.fnEscapeClosing
