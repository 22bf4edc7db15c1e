/-
  FnFinalize: what the printed spec.VLQText and spec.mapDigit tell: numbers as VLQ.
  Conditions: numbers of 32 bits.
-/
import Derived.Test.YtdhaifcjhmmdlaaFnFinalizePure
import Derived.Test.YtdhaifcjhmmdlaaFnFinalizex3
import Derived.Test.YtdhaifcjhmmdlaaPFnFinalizex5
import Derived.Laws.BitsLemmas
import Derived.WalkKit
namespace Go.Proofs.Ytdhaifcjhmmdlaa.fnFinalize
open Go.RowKit Go.Proofs.YtdhaifcjhmmdlaaW.PrintWords Go.Proofs.YtdhaifcjhmmdlaaW.PrintLast Go.Proofs.YtdhaifcjhmmdlaaW.PrintMore Go.Proofs.Ytdhaifcjhmmdlaa.PFnFinalize
set_option linter.unusedVariables false
set_option linter.unusedSimpArgs false

theorem w64 (n : Int) (h0 : -9223372036854775808 ≤ n) (h1 : n ≤ 9223372036854775807) : wrap64 n = n := by unfold wrap64; omega
theorem wraps_i64 (n : Int) (h₀ : 0 ≤ n) (h₁ : n < 2 ^ 63) : IntKind.i64.wrap n = n := by rw [IntKind.wrap_i64]; omega
theorem and31 (b : Int) (h0 : 0 ≤ b) (h1 : b < 1099511627776) : Go.bits .and .i64 b 31 = b % 32 := bits_mask .i64 63 (by decide) wraps_i64 5 (by decide) b h0 (by omega)
theorem and1 (b : Int) (h0 : 0 ≤ b) (h1 : b < 1099511627776) : Go.bits .and .i64 b 1 = b % 2 := bits_mask .i64 63 (by decide) wraps_i64 1 (by decide) b h0 (by omega)
theorem or1 (a : Int) (h0 : 0 ≤ a) (h1 : a < 1099511627776) : Go.bits .or .i64 (a * 2) 1 = a * 2 + 1 :=
  bits_join .i64 63 (by decide) wraps_i64 1 (a * 2) 1 (by omega) (by omega) (by omega) (by decide) (by decide) (by decide)
theorem or32_all : ∀ d : Fin 32, Go.bits .or .i64 (d.1 : Int) 32 = ((d.1 + 32 : Nat) : Int) := by decide +kernel
theorem or32 (d : Nat) (h : d < 32) : Go.bits .or .i64 (d : Int) 32 = ((d + 32 : Nat) : Int) := or32_all ⟨d, h⟩
def DS : ByteArray := ⟨digs.toArray⟩
theorem ds_at : ∀ d : Fin 64, (DS.extract d.1 (d.1 + 1)).data.toList = [dig d.1] := by decide +kernel
theorem ds_extract (d : Nat) (h : d < 64) : DS.extract d (d + 1) = ⟨#[dig d]⟩ := by
  have := ds_at ⟨d, h⟩
  apply ByteArray.ext
  exact Array.toList_inj.1 this
def bs (l : List UInt8) : ByteArray := ⟨l.toArray⟩
theorem bs_append (a b : List UInt8) : bs a ++ bs b = bs (a ++ b) := by
  apply ByteArray.ext
  rw [ByteArray.data_append]
  simp [bs]
theorem bs_size (l : List UInt8) : (bs l).size = l.length := by simp [bs, ByteArray.size]
theorem bs_toList (s : ByteArray) : bs s.data.toList = s := by cases s; simp [bs]
theorem lit_ds : (⟨#[65, 66, 67, 68, 69, 70, 71, 72, 73, 74, 75, 76, 77, 78, 79, 80, 81, 82, 83, 84, 85, 86, 87, 88, 89, 90, 97, 98, 99, 100, 101, 102, 103, 104, 105, 106, 107, 108, 109, 110, 111, 112, 113, 114, 115, 116, 117, 118, 119, 120, 121, 122, 48, 49, 50, 51, 52, 53, 54, 55, 56, 57, 43, 47]⟩ : ByteArray) = DS := rfl
/-- the writing's loop -/
theorem vlqText_l : ∀ (k v : Nat) (out : List UInt8), v < 32 ^ (k + 1) → v < 1099511627776 → out.length + v ≤ 4611686018427387904 → spec_VLQText.l0 (k + 1) (v : Int) (bs out) = some (bs (out ++ vl v)) := by
  intro k
  induction k with
  | zero =>
    intro v out hv _ ho
    have hv : v < 32 := by simpa using hv
    have e1 : Go.bits .and .i64 (v : Int) 31 = (v : Int) := by rw [and31 _ (by omega) (by omega)]; omega
    have e2 : wrap64 ((v : Int) + 1) = ((v + 1 : Nat) : Int) := by rw [w64 _ (by omega) (by omega)]; omega
    unfold spec_VLQText.l0
    rw [if_neg (by omega), e1, e2, if_pos (by omega), if_pos (by omega), if_pos (by omega), lit_ds, Int.toNat_natCast, Int.toNat_natCast, ds_extract v (by omega), bs_size, if_pos (by show out.length + 1 ≤ _; omega), if_pos (by omega), vl_small hv, ← bs_append]
    rfl
  | succ k ih =>
    intro v out hv hv2 ho
    by_cases h32 : v < 32
    · have e1 : Go.bits .and .i64 (v : Int) 31 = (v : Int) := by rw [and31 _ (by omega) (by omega)]; omega
      have e2 : wrap64 ((v : Int) + 1) = ((v + 1 : Nat) : Int) := by rw [w64 _ (by omega) (by omega)]; omega
      unfold spec_VLQText.l0
      rw [if_neg (by omega), e1, e2, if_pos (by omega), if_pos (by omega), if_pos (by omega), lit_ds, Int.toNat_natCast, Int.toNat_natCast, ds_extract v (by omega), bs_size, if_pos (by show out.length + 1 ≤ _; omega), if_pos (by omega), vl_small h32, ← bs_append]
      rfl
    · have e1 : Go.bits .and .i64 (v : Int) 31 = ((v % 32 : Nat) : Int) := by rw [and31 _ (by omega) (by omega)]; omega
      have e0 := or32 (v % 32) (by omega)
      have e2 : wrap64 (((v % 32 + 32 : Nat) : Int) + 1) = ((v % 32 + 32 + 1 : Nat) : Int) := by rw [w64 _ (by omega) (by omega)]; omega
      have e3 : (v : Int) / 32 = ((v / 32 : Nat) : Int) := by omega
      unfold spec_VLQText.l0
      rw [if_pos (by omega), e1, e0, e2, if_pos (by omega), if_pos (by omega), if_pos (by omega), lit_ds, Int.toNat_natCast, Int.toNat_natCast, ds_extract (v % 32 + 32) (by omega), bs_size, if_pos (by show out.length + 1 ≤ _; omega), if_neg (by omega), e3]
      have h := ih (v / 32) (out ++ [dig (v % 32 + 32)]) (by rw [Nat.pow_succ] at hv; omega) (by omega) (by simp; omega)
      rw [vl_big h32]
      rw [show out ++ dig (v % 32 + 32) :: vl (v / 32) = out ++ [dig (v % 32 + 32)] ++ vl (v / 32) by simp]
      rw [← h, ← bs_append]
      rfl
theorem zig_neg {n : Int} (h : n < 0) : (zig n : Int) = -n * 2 + 1 := by unfold zig; rw [if_pos h]; omega
theorem zig_pos {n : Int} (h : ¬ n < 0) : (zig n : Int) = n * 2 := by unfold zig; rw [if_neg h]; omega
theorem vlqText_k (k : Nat) (n : Int) (h0 : -4294967296 < n) (h1 : n < 4294967296) : spec_VLQText.f (k + 11) n = some (bs (vlq n)) := by
  have hz := zig_lt n 4294967296 (by omega) (by omega)
  have key : spec_VLQText.j0 (k + 11) (zig n : Int) = some (bs (vlq n)) := by
    have h := vlqText_l (k + 9) (zig n) [] (by
      have : 32 ^ 10 ≤ 32 ^ (k + 9 + 1) := Nat.pow_le_pow_right (by decide) (by omega)
      have e : (32 : Nat) ^ 10 = 1125899906842624 := by decide
      omega) (by omega) (by simp; omega)
    unfold spec_VLQText.j0
    exact h
  unfold spec_VLQText.f
  by_cases h : n < 0
  · rw [if_pos h, w64 (-n) (by omega) (by omega), w64 (-n * 2) (by omega) (by omega), or1 (-n) (by omega) (by omega), ← zig_neg h]
    exact key
  · rw [if_neg h, w64 (n * 2) (by omega) (by omega), ← zig_pos h]
    exact key
/-! ### a digit's value -/
theorem digs_nodup : ∀ i : Fin 64, ∀ j : Fin 64, j.1 < i.1 → dig j.1 ≠ dig i.1 := by decide +kernel
theorem bt_ds : ∀ d : Fin 64, bt DS (d.1 : Int) = ((dig d.1).toNat : Int) := by decide +kernel
theorem mapDigit_l (d : Nat) (hd : d < 64) : ∀ (m j k : Nat), j + m = d → m < k → spec_mapDigit.l0 k ((dig d).toNat : Int) (j : Int) = some (d : Int) := by
  intro m
  induction m with
  | zero =>
    intro j k hj hk
    obtain rfl : j = d := by omega
    obtain ⟨k, rfl⟩ : ∃ q, k = q + 1 := ⟨k - 1, by omega⟩
    unfold spec_mapDigit.l0
    rw [if_pos (by omega), if_pos (by omega), lit_ds, bt_ds ⟨j, hd⟩, if_pos rfl]
  | succ m ih =>
    intro j k hj hk
    obtain ⟨k, rfl⟩ : ∃ q, k = q + 1 := ⟨k - 1, by omega⟩
    unfold spec_mapDigit.l0
    have hne : ¬ ((dig j).toNat : Int) = ((dig d).toNat : Int) := fun e => digs_nodup ⟨d, hd⟩ ⟨j, by omega⟩ (by show j < d; omega) (UInt8.toNat_inj.1 (Int.ofNat_inj.1 e))
    rw [if_pos (by omega), if_pos (by omega), lit_ds, bt_ds ⟨j, by omega⟩, if_neg hne, w64 _ (by omega) (by omega), show (j : Int) + 1 = ((j + 1 : Nat) : Int) by omega]
    exact ih (j + 1) k (by omega) (by omega)
theorem mapDigit_k (d : Nat) (hd : d < 64) (k : Nat) (hk : d < k) : spec_mapDigit.f k ((dig d).toNat : Int) = some (d : Int) := mapDigit_l d hd d 0 k (by omega) hk
end Go.Proofs.Ytdhaifcjhmmdlaa.fnFinalize
