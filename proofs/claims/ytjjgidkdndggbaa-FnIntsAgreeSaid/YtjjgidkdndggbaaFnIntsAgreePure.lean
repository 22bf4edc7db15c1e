/-
  FnIntsAgree, the plain part: doubles as words: how two stand to each other, what is left when the greatest power of two is taken away, and what they are cut towards zero.
  Conditions: none.
-/
import Ieee.Arith
namespace Go.Proofs.Ytjjgidkdndggbaa.fnIntsAgree
open Ieee
set_option linter.unusedVariables false
set_option linter.unusedSimpArgs false

theorem bin_eq : double.binade = 4503599627370496 := by decide
theorem inf_eq : double.infRung = 9218868437227405312 := by decide
theorem sw_eq : double.signWeight = 9223372036854775808 := by decide
theorem lp_eq : double.leastPlace = -1074 := by decide

/-- a rung's significand and place above the least -/
def mag (r : Nat) : Nat := if r < 4503599627370496 then r else 4503599627370496 + r % 4503599627370496
def pl (r : Nat) : Nat := if r < 4503599627370496 then 0 else r / 4503599627370496 - 1
def rung (b : Nat) : Nat := b % 9223372036854775808
def sgn (b : Nat) : Bool := b / 9223372036854775808 % 2 == 1
/-- a word as an integer in the order of what the words stand for -/
def key (b : Nat) : Int := if sgn b then -(rung b : Int) else rung b

theorem read_fin (b : Nat) (h : rung b < 9218868437227405312) : double.read b = .number (sgn b) (mag (rung b)) (-1074 + (pl (rung b) : Int)) := by
  unfold Format.read
  rw [bin_eq, inf_eq, sw_eq, lp_eq]
  unfold mag pl
  change (if rung b < 4503599627370496 then Datum.number (sgn b) (rung b) (-1074) else if rung b < 9218868437227405312 then Datum.number (sgn b) (4503599627370496 + rung b % 4503599627370496) (-1074 + ((rung b / 4503599627370496 - 1 : Nat) : Int)) else if rung b = 9218868437227405312 then Datum.infinity (sgn b) else Datum.nan (sgn b) (rung b - 9218868437227405312)) = _
  by_cases h1 : rung b < 4503599627370496
  · simp only [h1, if_true]; rfl
  · simp only [h1, h, if_true, if_false]
theorem read_inf (b : Nat) (h : rung b = 9218868437227405312) : double.read b = .infinity (sgn b) := by
  unfold Format.read
  rw [bin_eq, inf_eq, sw_eq, lp_eq]
  change (if rung b < 4503599627370496 then Datum.number (sgn b) (rung b) (-1074) else if rung b < 9218868437227405312 then Datum.number (sgn b) (4503599627370496 + rung b % 4503599627370496) (-1074 + ((rung b / 4503599627370496 - 1 : Nat) : Int)) else if rung b = 9218868437227405312 then Datum.infinity (sgn b) else Datum.nan (sgn b) (rung b - 9218868437227405312)) = _
  rw [h]
  rfl
theorem read_nan (b : Nat) (h : 9218868437227405312 < rung b) : double.read b = .nan (sgn b) (rung b - 9218868437227405312) := by
  unfold Format.read
  rw [bin_eq, inf_eq, sw_eq, lp_eq]
  change (if rung b < 4503599627370496 then Datum.number (sgn b) (rung b) (-1074) else if rung b < 9218868437227405312 then Datum.number (sgn b) (4503599627370496 + rung b % 4503599627370496) (-1074 + ((rung b / 4503599627370496 - 1 : Nat) : Int)) else if rung b = 9218868437227405312 then Datum.infinity (sgn b) else Datum.nan (sgn b) (rung b - 9218868437227405312)) = _
  rw [if_neg (by omega), if_neg (by omega), if_neg (by omega)]

/-- what a rung is worth, in units of the least place -/
def val (r : Nat) : Nat := mag r * 2 ^ pl r
theorem val_succ (r : Nat) : val r < val (r + 1) := by
  unfold val mag pl
  by_cases h1 : r + 1 < 4503599627370496
  · rw [if_pos (by omega), if_pos (by omega), if_pos h1, if_pos h1]; omega
  · by_cases h2 : r + 1 = 4503599627370496
    · rw [h2, if_pos (by omega), if_pos (by omega), if_neg (by omega), if_neg (by omega)]
      have : r = 4503599627370495 := by omega
      subst this
      decide
    · rw [if_neg (by omega), if_neg (by omega), if_neg h1, if_neg h1]
      by_cases h3 : r % 4503599627370496 + 1 < 4503599627370496
      · have e1 : (r + 1) / 4503599627370496 = r / 4503599627370496 := by omega
        have e2 : (r + 1) % 4503599627370496 = r % 4503599627370496 + 1 := by omega
        rw [e1, e2]
        exact Nat.mul_lt_mul_of_pos_right (by omega) (Nat.two_pow_pos _)
      · have e1 : (r + 1) / 4503599627370496 - 1 = (r / 4503599627370496 - 1) + 1 := by omega
        have e2 : (r + 1) % 4503599627370496 = 0 := by omega
        rw [e1, e2, Nat.pow_succ, Nat.add_zero]
        have e3 : r % 4503599627370496 = 4503599627370495 := by omega
        rw [e3]
        have := Nat.two_pow_pos (r / 4503599627370496 - 1)
        generalize 2 ^ (r / 4503599627370496 - 1) = c at this ⊢
        omega
theorem val_mono {a b : Nat} (h : a < b) : val a < val b := by
  induction b with
  | zero => omega
  | succ b ih =>
    by_cases hb : a = b
    · subst hb; exact val_succ a
    · exact Nat.lt_trans (ih (by omega)) (val_succ b)
theorem val_iff (a b : Nat) : val a < val b ↔ a < b := by
  constructor
  · intro h
    by_cases hab : a < b
    · exact hab
    · by_cases he : a = b
      · subst he; omega
      · have := val_mono (show b < a by omega); omega
  · exact val_mono
theorem val_pos {a : Nat} (h : 0 < a) : 0 < val a := Nat.lt_of_le_of_lt (Nat.zero_le _) (val_mono h)
theorem val_zero : val 0 = 0 := by decide

theorem cmp_lt {a b : Int} (h : a < b) : compare a b = .lt := by
  show compareOfLessAndEq a b = _
  unfold compareOfLessAndEq
  rw [if_pos h]
theorem cmp_eq {a b : Int} (h : a = b) : compare a b = .eq := by
  show compareOfLessAndEq a b = _
  unfold compareOfLessAndEq
  rw [if_neg (by omega), if_pos h]
theorem cmp_gt {a b : Int} (h : b < a) : compare a b = .gt := by
  show compareOfLessAndEq a b = _
  unfold compareOfLessAndEq
  rw [if_neg (by omega), if_neg (by omega)]
theorem cmp_same {a b c d : Int} (h1 : a < b ↔ c < d) (h2 : b < a ↔ d < c) : compare a b = compare c d := by
  by_cases h : a < b
  · rw [cmp_lt h, cmp_lt (h1.1 h)]
  · by_cases h' : b < a
    · rw [cmp_gt h', cmp_gt (h2.1 h')]
    · have h3 : ¬ c < d := fun x => h (h1.2 x)
      have h4 : ¬ d < c := fun x => h' (h2.2 x)
      rw [cmp_eq (by omega), cmp_eq (by omega)]

theorem signed_mul (s : Bool) (m k c : Nat) : signed s m k * ((2 ^ c : Nat) : Int) = if s then -((m * 2 ^ (k + c) : Nat) : Int) else ((m * 2 ^ (k + c) : Nat) : Int) := by
  unfold signed
  rw [Nat.shiftLeft_eq, Nat.pow_add]
  have e : ((m * 2 ^ k : Nat) : Int) * ((2 ^ c : Nat) : Int) = ((m * (2 ^ k * 2 ^ c) : Nat) : Int) := by
    rw [← Int.natCast_mul, Nat.mul_assoc]
  cases s
  · simp only [Bool.false_eq_true, if_false]; exact e
  · simp only [if_true]; rw [Int.neg_mul, e]

/-- HOW TWO WORDS STAND TO EACH OTHER: as their keys do, where neither is a NaN. -/
theorem order_key (x y : Nat) (hx : rung x ≤ 9218868437227405312) (hy : rung y ≤ 9218868437227405312) : double.order x y = some (compare (key x) (key y)) := by
  unfold Format.order
  by_cases h1 : rung x = 9218868437227405312
  · rw [read_inf x h1]
    by_cases h2 : rung y = 9218868437227405312
    · rw [read_inf y h2]
      unfold key
      rw [h1, h2]
      cases sgn x <;> cases sgn y <;> decide
    · rw [read_fin y (by omega)]
      unfold key
      rw [h1]
      cases sgn x
      · simp only [Bool.false_eq_true, if_false, Datum.order]
        rw [cmp_gt]
        split <;> omega
      · simp only [if_true, Datum.order]
        rw [cmp_lt]
        split <;> omega
  · rw [read_fin x (by omega)]
    by_cases h2 : rung y = 9218868437227405312
    · rw [read_inf y h2]
      unfold key
      rw [h2]
      cases sgn y
      · simp only [Bool.false_eq_true, if_false, Datum.order]
        rw [cmp_lt]
        split <;> omega
      · simp only [if_true, Datum.order]
        rw [cmp_gt]
        split <;> omega
    · rw [read_fin y (by omega)]
      simp only [Datum.order]
      congr 1
      generalize hp : pl (rung x) = p
      generalize hq : pl (rung y) = q
      have b1 : (-1074 + (p : Int) - min (-1074 + (p : Int)) (-1074 + (q : Int))).toNat = p - min p q := by omega
      have b2 : (-1074 + (q : Int) - min (-1074 + (p : Int)) (-1074 + (q : Int))).toNat = q - min p q := by omega
      rw [b1, b2]
      have c0 : (0 : Int) < ((2 ^ min p q : Nat) : Int) := by have := Nat.two_pow_pos (min p q); omega
      have m1 := signed_mul (sgn x) (mag (rung x)) (p - min p q) (min p q)
      have m2 := signed_mul (sgn y) (mag (rung y)) (q - min p q) (min p q)
      rw [show p - min p q + min p q = p by omega] at m1
      rw [show q - min p q + min p q = q by omega] at m2
      have v1 : mag (rung x) * 2 ^ p = val (rung x) := by unfold val; rw [hp]
      have v2 : mag (rung y) * 2 ^ q = val (rung y) := by unfold val; rw [hq]
      rw [v1] at m1
      rw [v2] at m2
      have i1 := val_iff (rung x) (rung y)
      have i2 := val_iff (rung y) (rung x)
      have z1 : 0 < rung x → 0 < val (rung x) := val_pos
      have z2 : 0 < rung y → 0 < val (rung y) := val_pos
      have z3 : rung x = 0 → val (rung x) = 0 := fun h => by rw [h]; exact val_zero
      have z4 : rung y = 0 → val (rung y) = 0 := fun h => by rw [h]; exact val_zero
      have l1 : signed (sgn x) (mag (rung x)) (p - min p q) < signed (sgn y) (mag (rung y)) (q - min p q) ↔ signed (sgn x) (mag (rung x)) (p - min p q) * ((2 ^ min p q : Nat) : Int) < signed (sgn y) (mag (rung y)) (q - min p q) * ((2 ^ min p q : Nat) : Int) := (Int.mul_lt_mul_right c0).symm
      have l2 : signed (sgn y) (mag (rung y)) (q - min p q) < signed (sgn x) (mag (rung x)) (p - min p q) ↔ signed (sgn y) (mag (rung y)) (q - min p q) * ((2 ^ min p q : Nat) : Int) < signed (sgn x) (mag (rung x)) (p - min p q) * ((2 ^ min p q : Nat) : Int) := (Int.mul_lt_mul_right c0).symm
      rw [m1, m2] at l1 l2
      refine cmp_same (l1.trans ?_) (l2.trans ?_)
      · unfold key
        cases sgn x <;> cases sgn y <;> simp only [Bool.false_eq_true, if_false, if_true] <;> omega
      · unfold key
        cases sgn x <;> cases sgn y <;> simp only [Bool.false_eq_true, if_false, if_true] <;> omega
theorem order_nan (x y : Nat) (h : 9218868437227405312 < rung x ∨ 9218868437227405312 < rung y) : double.order x y = none := by
  unfold Format.order
  rcases h with h | h
  · rw [read_nan x h]; rfl
  · rw [read_nan y h]
    cases double.read x <;> rfl

/-! ### Rounding where nothing is lost -/
theorem cut_none (way : Toward) (hw : way = .even ∨ way = .zero) (neg : Bool) (n : Nat) : way.cut neg n 0 = n := by
  unfold Toward.cut
  rw [Nat.min_eq_left (Nat.zero_le _)]
  rcases hw with rfl | rfl <;> simp [Nat.mod_one]
theorem cut_zero (neg : Bool) (n d : Nat) : Toward.zero.cut neg n d = n / 2 ^ d := by
  unfold Toward.cut
  simp only [Bool.toNat_false, Nat.add_zero, Nat.one_shiftLeft]
  by_cases h : d ≤ n.log2 + 2
  · rw [Nat.min_eq_left h]
  · rw [Nat.min_eq_right (by omega)]
    have h1 : n < 2 ^ (n.log2 + 1) := Nat.lt_log2_self
    have h2 : 2 ^ (n.log2 + 1) ≤ 2 ^ (n.log2 + 2) := Nat.pow_le_pow_right (by decide) (by omega)
    have h3 : 2 ^ (n.log2 + 2) ≤ 2 ^ d := Nat.pow_le_pow_right (by decide) (by omega)
    rw [Nat.div_eq_of_lt (by omega), Nat.div_eq_of_lt (by omega)]
/-- the nearest word of a number that has few digits -/
theorem nearest_few (neg : Bool) (m : Nat) (i : Int) (hm : m ≠ 0) (hl : m.log2 ≤ 52) (hi : -1074 ≤ i) :
    double.nearest neg m i = double.word neg (min ((max (i + m.log2 - 52) (-1074) + 1074).toNat * 4503599627370496 + m * 2 ^ (i - max (i + m.log2 - 52) (-1074)).toNat) 9218868437227405312) := by
  unfold Format.nearest
  rw [if_neg hm, lp_eq, bin_eq, inf_eq]
  have e : (double.fractionBits : Int) = 52 := rfl
  rw [e]
  have d0 : (max (i + (m.log2 : Int) - 52) (-1074) - i).toNat = 0 := by omega
  simp only [d0]
  rw [cut_none _ (.inl rfl), Nat.shiftLeft_eq]
  congr 2
theorem word_pos (r : Nat) : double.word false r = r := rfl

/-- THE STEP: the greatest power of two taken away -/
def step (r : Nat) : Nat := (double.sub r (r / 4503599627370496 * 4503599627370496)).getD 0
theorem rung_small {r : Nat} (h : r < 9223372036854775808) : rung r = r := Nat.mod_eq_of_lt h
theorem sgn_small {r : Nat} (h : r < 9223372036854775808) : sgn r = false := by
  unfold sgn
  rw [Nat.div_eq_of_lt h]
  rfl
theorem step_some (r : Nat) (h1 : 4503599627370496 ≤ r) (h2 : r < 9218868437227405312) : double.sub r (r / 4503599627370496 * 4503599627370496) = some (step r) := by
  unfold step Format.sub
  have hy : r / 4503599627370496 * 4503599627370496 < 9218868437227405312 := by omega
  rw [read_fin r (by rw [rung_small (by omega)]; exact h2), read_fin _ (by rw [rung_small (by omega)]; exact hy)]
  rfl
theorem fin_lt (j E z : Nat) (h1 : j + 2 ≤ E) (h2 : z < 9007199254740992) : j * 4503599627370496 + z < E * 4503599627370496 := by omega
set_option maxRecDepth 10000 in
theorem step_lt (r : Nat) (h1 : 9007199254740992 ≤ r) (h2 : r < 9218868437227405312) : step r < r / 4503599627370496 * 4503599627370496 := by
  have hs := step_some r (by omega) h2
  unfold Format.sub at hs
  have hy : r / 4503599627370496 * 4503599627370496 < 9218868437227405312 := by omega
  rw [read_fin r (by rw [rung_small (by omega)]; exact h2), read_fin _ (by rw [rung_small (by omega)]; exact hy), rung_small (by omega), rung_small (by omega), sgn_small (by omega), sgn_small (by omega)] at hs
  have a1 : mag r = 4503599627370496 + r % 4503599627370496 := by unfold mag; rw [if_neg (by omega)]
  have a2 : mag (r / 4503599627370496 * 4503599627370496) = 4503599627370496 := by unfold mag; rw [if_neg (by omega)]; omega
  have a3 : pl r = r / 4503599627370496 - 1 := by unfold pl; rw [if_neg (by omega)]
  have a4 : pl (r / 4503599627370496 * 4503599627370496) = r / 4503599627370496 - 1 := by unfold pl; rw [if_neg (by omega)]; omega
  rw [a1, a2, a3, a4] at hs
  have hm := Nat.mod_lt r (show 0 < 4503599627370496 by decide)
  have hE : 2 ≤ r / 4503599627370496 := by omega
  generalize r / 4503599627370496 = E at hs hE ⊢
  generalize r % 4503599627370496 = m at hs hm
  simp only [Datum.opposite, Datum.sum, Bool.not_false, Option.map_some, Option.some.injEq] at hs
  have b0 : (-1074 + ((E - 1 : Nat) : Int) - min (-1074 + ((E - 1 : Nat) : Int)) (-1074 + ((E - 1 : Nat) : Int))).toNat = 0 := by omega
  have b1 : min (-1074 + ((E - 1 : Nat) : Int)) (-1074 + ((E - 1 : Nat) : Int)) = -1074 + ((E - 1 : Nat) : Int) := by omega
  rw [b0, b1] at hs
  have t : signed false (4503599627370496 + m) 0 + signed true 4503599627370496 0 = (m : Int) := by
    unfold signed
    simp only [Bool.false_eq_true, if_false, if_true, Nat.shiftLeft_zero]
    omega
  rw [t] at hs
  rw [← hs]
  by_cases hz : m = 0
  · subst hz
    show double.nearest _ _ _ < _
    unfold Format.nearest
    rw [if_pos (by rfl)]
    show double.word false 0 < _
    rw [word_pos]
    omega
  · have e : (if (m : Int) = 0 then (false && true) else decide ((m : Int) < 0)) = false := by
      rw [if_neg (by omega)]
      simp
    rw [e, Int.natAbs_natCast]
    show double.nearest false m _ < _
    have hlog : m.log2 < 52 := (Nat.log2_lt hz).2 (by omega)
    rw [nearest_few false m _ hz (by omega) (by omega), word_pos]
    refine Nat.lt_of_le_of_lt (Nat.min_le_left _ _) ?_
    have hml : m < 2 ^ (m.log2 + 1) := Nat.lt_log2_self
    generalize hL : m.log2 = L at hlog hml ⊢
    generalize hk : (-1074 + ((E - 1 : Nat) : Int) - max (-1074 + ((E - 1 : Nat) : Int) + (L : Int) - 52) (-1074)).toNat = k
    generalize hj : (max (-1074 + ((E - 1 : Nat) : Int) + (L : Int) - 52) (-1074) + 1074).toNat = j
    have k1 : L + 1 + k ≤ 53 := by omega
    have j1 : j + 2 ≤ E := by omega
    have hb : m * 2 ^ k < 2 ^ (L + 1) * 2 ^ k := Nat.mul_lt_mul_of_pos_right hml (Nat.two_pow_pos _)
    rw [← Nat.pow_add] at hb
    have hc : 2 ^ (L + 1 + k) ≤ 2 ^ 53 := Nat.pow_le_pow_right (by decide) k1
    have hd : (2:Nat) ^ 53 = 9007199254740992 := by decide
    have hf : m * 2 ^ k < 9007199254740992 := by
      rw [← hd]
      exact Nat.lt_of_lt_of_le hb hc
    exact fin_lt j E _ j1 hf
/-- what is left of a number when powers of two from 2^32 up are taken away -/
def left (r : Nat) : Nat := if h : 4751297606875873280 ≤ r ∧ step r < r then left (step r) else r
termination_by r
decreasing_by exact h.2
theorem left_less {r : Nat} (h : r < 4751297606875873280) : left r = r := by
  rw [left, dif_neg (by omega)]
theorem step_less {r : Nat} (h1 : 4751297606875873280 ≤ r) (h2 : r < 9218868437227405312) : step r < r := by
  have := step_lt r (by omega) h2
  omega
theorem left_step {r : Nat} (h1 : 4751297606875873280 ≤ r) (h2 : r < 9218868437227405312) : left r = left (step r) := by
  rw [left, dif_pos ⟨h1, step_less h1 h2⟩]
theorem one_fin (E : Nat) (h1 : 1 ≤ E) (h2 : E < 2047) : double.word (false ^^ false) (min ((E - 1) * 4503599627370496 + 4503599627370496) 9218868437227405312) = E * 4503599627370496 := by
  rw [Bool.false_xor, word_pos]
  omega
set_option maxRecDepth 10000 in
/-- one times a power of two is the power -/
theorem one_times (E : Nat) (h1 : 1 ≤ E) (h2 : E < 2047) : double.mul 4607182418800017408 (E * 4503599627370496) = some (E * 4503599627370496) := by
  unfold Format.mul
  rw [read_fin _ (by decide), read_fin _ (by rw [rung_small (by omega)]; omega), rung_small (show E * 4503599627370496 < 9223372036854775808 by omega), sgn_small (show E * 4503599627370496 < 9223372036854775808 by omega)]
  have a2 : mag (E * 4503599627370496) = 4503599627370496 := by unfold mag; rw [if_neg (by omega)]; omega
  have a4 : pl (E * 4503599627370496) = E - 1 := by unfold pl; rw [if_neg (by omega)]; omega
  rw [a2, a4]
  have c1 : sgn 4607182418800017408 = false := by decide
  have c2 : mag (rung 4607182418800017408) = 4503599627370496 := by decide
  have c3 : pl (rung 4607182418800017408) = 1022 := by decide
  rw [c1, c2, c3]
  simp only [Datum.product, Option.map_some, Option.some.injEq]
  show double.nearest (false ^^ false) (4503599627370496 * 4503599627370496) (-1074 + ((1022 : Nat) : Int) + (-1074 + ((E - 1 : Nat) : Int))) = _
  unfold Format.nearest
  rw [if_neg (by decide), lp_eq, bin_eq, inf_eq]
  have hl : (4503599627370496 * 4503599627370496 : Nat).log2 = 104 := by decide
  have e : (double.fractionBits : Int) = 52 := rfl
  rw [hl, e]
  have m1 : max (-1074 + ((1022 : Nat) : Int) + (-1074 + ((E - 1 : Nat) : Int)) + ((104 : Nat) : Int) - 52) (-1074) = -1074 + ((E - 1 : Nat) : Int) := by omega
  rw [m1]
  have d1 : (-1074 + ((1022 : Nat) : Int) + (-1074 + ((E - 1 : Nat) : Int)) - (-1074 + ((E - 1 : Nat) : Int))).toNat = 0 := by omega
  have d2 : (-1074 + ((E - 1 : Nat) : Int) - (-1074 + ((1022 : Nat) : Int) + (-1074 + ((E - 1 : Nat) : Int)))).toNat = 52 := by omega
  have d3 : (-1074 + ((E - 1 : Nat) : Int) - -1074).toNat = E - 1 := by omega
  simp only [d1, d2, d3]
  have k : Toward.even.cut (false ^^ false) ((4503599627370496 * 4503599627370496) <<< 0) 52 = 4503599627370496 := by decide
  rw [k]
  exact one_fin E h1 h2

/-! ### Cut towards zero -/
/-- a power of two -/
def pw (t : Nat) : Nat := 2 ^ t
theorem pw_split (a b t : Nat) (h : a + b = t) : 2 ^ a * 2 ^ b = pw t := by
  unfold pw
  rw [← Nat.pow_add, h]
theorem pw_over (t p : Nat) (h : t ≤ p) : 2 ^ p = 2 ^ (p - t) * pw t := by
  unfold pw
  rw [← Nat.pow_add, Nat.sub_add_cancel h]
theorem pw_pos (t : Nat) : 0 < pw t := Nat.two_pow_pos _
/-- a whole one in units of the least place -/
def unit : Nat := pw 1074
theorem unit_split (a b : Nat) (h : a + b = 1074) : 2 ^ a * 2 ^ b = unit := pw_split a b 1074 h
theorem unit_over (p : Nat) (h : 1074 ≤ p) : 2 ^ p = 2 ^ (p - 1074) * unit := pw_over 1074 p h
theorem unit_pos : 0 < unit := pw_pos 1074
theorem unit_20 (t : Nat) (h : t = 1054) : 2 ^ 52 * 2 ^ t = 4294967296 * unit := by
  rw [← unit_split 20 t (by omega), ← Nat.mul_assoc, show (4294967296 : Nat) * 2 ^ 20 = 2 ^ 52 by decide]
/-- a double as an integer, cut towards zero: none: no number -/
theorem toInt_fin (b : Nat) (h : rung b < 9218868437227405312) : (double.read b).toInt .zero = some (if sgn b then -((mag (rung b) * 2 ^ pl (rung b) / unit : Nat) : Int) else ((mag (rung b) * 2 ^ pl (rung b) / unit : Nat) : Int)) := by
  rw [read_fin b h]
  unfold Datum.toInt Datum.integral
  simp only [cut_zero, signed, Nat.shiftLeft_zero, Nat.shiftLeft_eq, Nat.pow_zero, Nat.mul_one]
  generalize mag (rung b) = m
  generalize pl (rung b) = p
  have e : m * 2 ^ (-1074 + (p : Int)).toNat / 2 ^ (-(-1074 + (p : Int))).toNat = m * 2 ^ p / unit := by
    by_cases hp : p ≤ 1074
    · have e1 : (-1074 + (p : Int)).toNat = 0 := by omega
      have e2 : (-(-1074 + (p : Int))).toNat = 1074 - p := by omega
      rw [e1, e2, Nat.pow_zero, Nat.mul_one]
      have e3 : unit = 2 ^ (1074 - p) * 2 ^ p := (unit_split _ _ (Nat.sub_add_cancel hp)).symm
      rw [e3, Nat.mul_div_mul_right _ _ (Nat.two_pow_pos _)]
    · have e1 : (-1074 + (p : Int)).toNat = p - 1074 := by omega
      have e2 : (-(-1074 + (p : Int))).toNat = 0 := by omega
      rw [e1, e2, Nat.pow_zero, Nat.div_one]
      have e3 : (2:Nat) ^ p = 2 ^ (p - 1074) * unit := unit_over p (by omega)
      rw [e3, ← Nat.mul_assoc, Nat.mul_div_cancel _ unit_pos]
  rw [e]
theorem toInt_val (b : Nat) (h : rung b < 9218868437227405312) : (double.read b).toInt .zero = some (if sgn b then -((val (rung b) / unit : Nat) : Int) else ((val (rung b) / unit : Nat) : Int)) := toInt_fin b h
theorem toInt_none (b : Nat) (h : 9218868437227405312 ≤ rung b) : (double.read b).toInt .zero = none := by
  by_cases h1 : rung b = 9218868437227405312
  · rw [read_inf b h1]; rfl
  · rw [read_nan b (by omega)]; rfl
/-- equal keys are cut alike -/
theorem toInt_key (x y : Nat) (hx : rung x < 9218868437227405312) (hy : rung y < 9218868437227405312) (h : key x = key y) : (double.read x).toInt .zero = (double.read y).toInt .zero := by
  rw [toInt_val x hx, toInt_val y hy]
  unfold key at h
  have e : rung x = rung y := by
    cases hs : sgn x <;> cases ht : sgn y <;> simp only [hs, ht, Bool.false_eq_true, if_false, if_true] at h <;> omega
  rw [e] at h ⊢
  by_cases hz : rung y = 0
  · rw [hz, val_zero, Nat.zero_div]
    cases sgn x <;> cases sgn y <;> rfl
  · have es : sgn x = sgn y := by
      cases hs : sgn x <;> cases ht : sgn y <;> simp only [hs, ht, Bool.false_eq_true, if_false, if_true] at h <;> first | rfl | omega
    rw [es]
/-- numbers below 2^32 -/
theorem toInt_small (r : Nat) (h : r < 4751297606875873280) : ∃ n : Nat, (double.read r).toInt .zero = some (n : Int) ∧ n < 4294967296 := by
  rw [toInt_val r (by rw [rung_small (by omega)]; omega), rung_small (by omega), sgn_small (by omega)]
  refine ⟨_, rfl, ?_⟩
  have h1 := val_mono h
  have h2 : val 4751297606875873280 = 4294967296 * unit := by
    have a : mag 4751297606875873280 = 2 ^ 52 := by decide
    have b : pl 4751297606875873280 = 1054 := by decide
    unfold val
    rw [a]
    exact unit_20 _ b
  rw [h2] at h1
  exact (Nat.div_lt_iff_lt_mul unit_pos).2 h1
set_option maxRecDepth 10000 in
/-- an integer of 32 bits as a double -/
theorem int_back (n : Int) (h1 : -4294967296 < n) (h2 : n < 4294967296) : rung (double.write (.number (n < 0) n.natAbs 0)) < 9218868437227405312 ∧ (double.read (double.write (.number (n < 0) n.natAbs 0))).toInt .zero = some n := by
  show rung (double.nearest (decide (n < 0)) n.natAbs 0) < 9218868437227405312 ∧ _
  show _ ∧ (double.read (double.nearest (decide (n < 0)) n.natAbs 0)).toInt .zero = some n
  by_cases hz : n = 0
  · subst hz
    decide
  · have hm : n.natAbs ≠ 0 := by omega
    have hml : n.natAbs < 2 ^ (n.natAbs.log2 + 1) := Nat.lt_log2_self
    have hml2 : 2 ^ n.natAbs.log2 ≤ n.natAbs := Nat.log2_self_le hm
    have hlog : n.natAbs.log2 < 32 := (Nat.log2_lt hm).2 (by omega)
    rw [nearest_few _ _ _ hm (by omega) (by omega)]
    generalize hL : n.natAbs.log2 = L at hlog hml hml2 ⊢
    have m1 : max (0 + (L : Int) - 52) (-1074) = (L : Int) - 52 := by omega
    rw [m1]
    have e1 : ((L : Int) - 52 + 1074).toNat = L + 1022 := by omega
    have e2 : (0 - ((L : Int) - 52)).toNat = 52 - L := by omega
    rw [e1, e2]
    have hk1 : n.natAbs * 2 ^ (52 - L) < 9007199254740992 := by
      have h : n.natAbs * 2 ^ (52 - L) < 2 ^ (L + 1) * 2 ^ (52 - L) := Nat.mul_lt_mul_of_pos_right hml (Nat.two_pow_pos _)
      rw [← Nat.pow_add, show L + 1 + (52 - L) = 53 by omega] at h
      exact h
    have hk2 : 4503599627370496 ≤ n.natAbs * 2 ^ (52 - L) := by
      have h : 2 ^ L * 2 ^ (52 - L) ≤ n.natAbs * 2 ^ (52 - L) := Nat.mul_le_mul_right _ hml2
      rw [← Nat.pow_add, show L + (52 - L) = 52 by omega] at h
      exact h
    generalize hK : n.natAbs * 2 ^ (52 - L) = K at hk1 hk2
    have hr : (L + 1022) * 4503599627370496 + K < 9218868437227405312 := by omega
    rw [Nat.min_eq_left (by omega)]
    generalize hR : (L + 1022) * 4503599627370496 + K = R at hr
    have r1 : rung (double.word (decide (n < 0)) R) = R ∧ sgn (double.word (decide (n < 0)) R) = decide (n < 0) := by
      unfold Format.word rung sgn
      rw [sw_eq]
      by_cases hn : n < 0
      · rw [if_pos (by simpa using hn)]
        refine ⟨by omega, ?_⟩
        have : (9223372036854775808 + R) / 9223372036854775808 % 2 = 1 := by omega
        rw [this]
        simp [hn]
      · rw [if_neg (by simpa using hn)]
        refine ⟨by omega, ?_⟩
        have : R / 9223372036854775808 % 2 = 0 := by omega
        rw [this]
        simp [hn]
    refine ⟨by rw [r1.1]; exact hr, ?_⟩
    rw [toInt_fin _ (by rw [r1.1]; exact hr), r1.1, r1.2]
    have g1 : mag R = K := by unfold mag; rw [if_neg (by omega)]; omega
    have g2 : pl R = L + 1022 := by unfold pl; rw [if_neg (by omega)]; omega
    rw [g1, g2]
    have g3 : K * 2 ^ (L + 1022) / unit = n.natAbs := by
      rw [← hK, Nat.mul_assoc, unit_split _ _ (by omega), Nat.mul_div_cancel _ unit_pos]
    rw [g3]
    by_cases hn : n < 0
    · simp only [hn, decide_true, if_true]; congr 1; omega
    · simp only [hn, decide_false, Bool.false_eq_true, if_false]; congr 1; omega

/-! ### ToInt32 -/
/-- the words of a double's absolute value -/
def hard (b : Nat) : Int :=
  match (double.read (left (rung b))).toInt .zero with
  | some n => if sgn b then -n else n
  | none => 0
end Go.Proofs.Ytjjgidkdndggbaa.fnIntsAgree
