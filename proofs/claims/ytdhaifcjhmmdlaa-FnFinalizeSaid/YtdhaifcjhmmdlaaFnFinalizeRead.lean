/-
  FnFinalize, the plain part: what spec.VLQ and spec.mapFits answer (the printed functions).
  Conditions: numbers of 32 bits, texts of fewer than 2^32 bytes.
-/
import Derived.Test.YtdhaifcjhmmdlaaFnFinalizeText
namespace Go.Proofs.Ytdhaifcjhmmdlaa.fnFinalize
open Go.RowKit Go.Proofs.YtdhaifcjhmmdlaaW.PrintWords Go.Proofs.YtdhaifcjhmmdlaaW.PrintLast Go.Proofs.YtdhaifcjhmmdlaaW.PrintMore Go.Proofs.Ytdhaifcjhmmdlaa.PFnFinalize
set_option linter.unusedVariables false
set_option linter.unusedSimpArgs false

theorem bt_drop {s : ByteArray} {p : Nat} {b : UInt8} {r : List UInt8} (h : s.data.toList.drop p = b :: r) : p < s.size ∧ bt s (p : Int) = (b.toNat : Int) := by
  obtain ⟨hp, hb, _⟩ := drop_at h
  have hp' : p < s.size := by simpa using hp
  refine ⟨hp', ?_⟩
  unfold bt
  rw [dif_pos (by rw [Int.toNat_natCast]; exact hp')]
  rw [← hb]
  rfl
theorem and31n (d : Nat) (h : d < 64) : Go.bits .and .i64 (d : Int) 31 = ((d % 32 : Nat) : Int) := and31_d ⟨d, h⟩
theorem shl_val (d k : Nat) (hd : d < 32) (hk : k < 7) : shl .i64 (d : Int) ((5 * k : Nat) : Int) = ((d * 32 ^ k : Nat) : Int) := by
  unfold shl
  rw [Int.toNat_natCast, Nat.min_eq_left (by show 5 * k ≤ 64; omega)]
  exact sh_val ⟨d, hd⟩ ⟨k, hk⟩
theorem end_val (n : Int) (h0 : -2147483648 < n) (h1 : n < 2147483648) (q : Int) : (if (Go.bits .and .i64 ((zig n : Nat) : Int) 1) = 1 then (if (wrap64 (-(((zig n : Nat) : Int) / 2))) < 2147483648 then (if (wrap64 (-(((zig n : Nat) : Int) / 2))) > (-2147483648) then (some (wrap64 (-(((zig n : Nat) : Int) / 2)), q, !(((zig n : Nat) : Int) == 1))) else (some (wrap64 (-(((zig n : Nat) : Int) / 2)), q, false))) else (some (wrap64 (-(((zig n : Nat) : Int) / 2)), q, false))) else (if (((zig n : Nat) : Int) / 2) < 2147483648 then (if (((zig n : Nat) : Int) / 2) > (-2147483648) then (some (((zig n : Nat) : Int) / 2, q, !(((zig n : Nat) : Int) == 1))) else (some (((zig n : Nat) : Int) / 2, q, false))) else (some (((zig n : Nat) : Int) / 2, q, false)))) = some (n, q, true) := by
  have hne : (((zig n : Nat) : Int) == 1) = false := beq_eq_false_iff_ne.mpr (fun e => zig_ne_one n (by omega))
  rcases sign_back n (by omega) (by omega) with ⟨h, e1, e2⟩ | ⟨h, e1, e2⟩
  · have e3 : wrap64 (- -n) = n := by unfold wrap64; omega
    rw [e2, e1, if_pos rfl, e3, if_pos (by omega), if_pos (by omega), hne]
    rfl
  · rw [e2, e1, if_neg (by omega), if_pos (by omega), if_pos (by omega), hne]
    rfl
theorem pow_six (k : Nat) (h : k ≤ 6) : 32 ^ k ≤ 1073741824 := by
  have hle : 32 ^ k ≤ 32 ^ 6 := Nat.pow_le_pow_right (by decide) h
  have h6 : (32 : Nat) ^ 6 = 1073741824 := by decide
  omega
theorem small_sum {acc d k P z : Nat} (hd : d < 32) (hP : P ≤ 1073741824) (ha : acc ≤ z) (hz : z < 4294967296) : wrap64 ((acc : Int) + ((d * P : Nat) : Int)) = ((acc + d * P : Nat) : Int) := by
  have hm : d * P ≤ 31 * P := Nat.mul_le_mul_right _ (by omega)
  unfold wrap64
  omega
theorem vlqR_l (s : ByteArray) (hs : s.size ≤ 4294967296) (n : Int) (h0 : -2147483648 < n) (h1 : n < 2147483648) (rest : List UInt8) : ∀ (j x k acc p K : Nat), k + j = 6 → x < 32 ^ (j + 1) → acc + x * 32 ^ k = zig n → 100 + 2 * j ≤ K → s.data.toList.drop p = vl x ++ rest →
    spec_VLQ.l0 K s (p : Int) (acc : Int) ((5 * k : Nat) : Int) = some (n, ((p + (vl x).length : Nat) : Int), true) := by
  have hz := zig_lt n 2147483648 (by omega) (by omega)
  intro j
  induction j with
  | zero =>
    intro x k acc p K hk hx hv hK hd
    have hx32 : x < 32 := by simpa using hx
    obtain ⟨K, rfl⟩ : ∃ q, K = q + 1 + 1 := ⟨K - 2, by omega⟩
    rw [vl_small hx32] at hd ⊢
    obtain ⟨hp, hb⟩ := bt_drop hd
    have hm := mapDigit_k x (by omega) K (by omega)
    unfold spec_VLQ.l0
    rw [if_neg (by omega), if_neg (by omega)]
    unfold spec_VLQ.j1
    rw [decide_eq_false (by omega), if_neg (by simp), if_pos (by omega), if_pos (by omega), hb, hm, Option.bind_some, if_neg (by omega), if_pos (by omega), if_pos (by omega), and31n x (by omega), Nat.mod_eq_of_lt hx32, shl_val x k hx32 (by omega), small_sum (k := k) (z := zig n) hx32 (pow_six k (by omega)) (by omega) (by omega), hv, show wrap64 ((p : Int) + 1) = ((p + 1 : Nat) : Int) by unfold wrap64; omega]
    exact end_val n h0 h1 _
  | succ j ih =>
    intro x k acc p K hk hx hv hK hd
    obtain ⟨K, rfl⟩ : ∃ q, K = q + 1 + 1 := ⟨K - 2, by omega⟩
    by_cases hx32 : x < 32
    · rw [vl_small hx32] at hd ⊢
      obtain ⟨hp, hb⟩ := bt_drop hd
      have hm := mapDigit_k x (by omega) K (by omega)
      unfold spec_VLQ.l0
      rw [if_neg (by omega), if_neg (by omega)]
      unfold spec_VLQ.j1
      rw [decide_eq_false (by omega), if_neg (by simp), if_pos (by omega), if_pos (by omega), hb, hm, Option.bind_some, if_neg (by omega), if_pos (by omega), if_pos (by omega), and31n x (by omega), Nat.mod_eq_of_lt hx32, shl_val x k hx32 (by omega), small_sum (k := k) (z := zig n) hx32 (pow_six k (by omega)) (by omega) (by omega), hv, show wrap64 ((p : Int) + 1) = ((p + 1 : Nat) : Int) by unfold wrap64; omega]
      exact end_val n h0 h1 _
    · rw [vl_big hx32] at hd ⊢
      rw [List.cons_append] at hd
      obtain ⟨hp, hb⟩ := bt_drop hd
      have hm := mapDigit_k (x % 32 + 32) (by omega) K (by omega)
      have hst := st1 acc x k (x % 32) rfl
      have hle : acc + x % 32 * 32 ^ k ≤ zig n := by rw [← hv, ← hst]; exact Nat.le_add_right _ _
      unfold spec_VLQ.l0
      rw [if_neg (by omega), if_neg (by omega)]
      unfold spec_VLQ.j1
      rw [decide_eq_false (by omega), if_neg (by simp), if_pos (by omega), if_pos (by omega), hb, hm, Option.bind_some, if_neg (by omega), if_pos (by omega), if_neg (by omega), and31n _ (by omega), show (x % 32 + 32) % 32 = x % 32 by omega, shl_val (x % 32) k (by omega) (by omega), small_sum (k := k) (z := zig n) (by omega) (pow_six k (by omega)) (Nat.le_trans (Nat.le_add_right _ _) hle) (by omega), show wrap64 ((p : Int) + 1) = ((p + 1 : Nat) : Int) by unfold wrap64; omega, show wrap64 (((5 * k : Nat) : Int) + 5) = ((5 * (k + 1) : Nat) : Int) by unfold wrap64; omega]
      have hi := ih (x / 32) (k + 1) (acc + x % 32 * 32 ^ k) (p + 1) K (by omega) (by rw [Nat.pow_succ] at hx; omega) (by rw [hst]; exact hv) (by omega) (drop_at hd).2.2
      rw [hi]
      have e : p + (dig (x % 32 + 32) :: vl (x / 32)).length = p + 1 + (vl (x / 32)).length := by
        rw [List.length_cons]
        omega
      rw [e]
theorem vlqR (s : ByteArray) (hs : s.size ≤ 4294967296) (n : Int) (h0 : -2147483648 < n) (h1 : n < 2147483648) (rest : List UInt8) (p : Nat) (h : s.data.toList.drop p = vlq n ++ rest) :
    spec_VLQ.f 120 s (p : Int) = some (n, ((p + (vlq n).length : Nat) : Int), true) := by
  have hz := zig_lt n 2147483648 (by omega) (by omega)
  have e : (32 : Nat) ^ (6 + 1) = 34359738368 := by decide
  exact vlqR_l s hs n h0 h1 rest 6 (zig n) 0 0 p 120 rfl (by omega) (by simp) (by omega) h
theorem fits6 (a0 a1 a2 a3 a4 a5 : Int) (h0 : 0 ≤ a0 ∧ a0 < 2147483648) (h1 : 0 ≤ a1 ∧ a1 < 2147483648) (h2 : 0 ≤ a2 ∧ a2 < 2147483648) (h3 : 0 ≤ a3 ∧ a3 < 2147483648) (h4 : 0 ≤ a4 ∧ a4 < 2147483648) (h5 : 0 ≤ a5 ∧ a5 < 2147483648) : spec_mapFits.f 7 a0 a1 a2 a3 a4 a5 = some true := by
  have key : ∀ (y : List Int), y.length ≤ 6 → (∀ j, j < y.length → 0 ≤ y.getD j 0 ∧ y.getD j 0 < 2147483648) → ∀ m i, i + m = y.length → ∀ K, m < K → spec_mapFits.l0 K y (y.length : Int) (i : Int) = some true := by
    intro y hy hb m
    induction m with
    | zero =>
      intro i hi K hK
      obtain ⟨K, rfl⟩ : ∃ q, K = q + 1 := ⟨K - 1, by omega⟩
      unfold spec_mapFits.l0
      rw [if_neg (by omega)]
    | succ m ih =>
      intro i hi K hK
      obtain ⟨K, rfl⟩ : ∃ q, K = q + 1 := ⟨K - 1, by omega⟩
      have e : rd y (i : Int) = y.getD i 0 := by unfold rd; rw [Int.toNat_natCast]
      have := hb i (by omega)
      unfold spec_mapFits.l0
      rw [if_pos (by omega), if_pos (by omega), if_pos (by omega), e, if_neg (by omega), if_neg (by omega), up_nat i (by omega)]
      exact ih (i + 1) (by omega) K (by omega)
  refine key [a0, a1, a2, a3, a4, a5] (by simp) ?_ 6 0 rfl 7 (by omega)
  intro j hj
  match j, hj with
  | 0, _ => exact h0
  | 1, _ => exact h1
  | 2, _ => exact h2
  | 3, _ => exact h3
  | 4, _ => exact h4
  | 5, _ => exact h5
  | n + 6, hj => simp at hj; omega
end Go.Proofs.Ytdhaifcjhmmdlaa.fnFinalize
