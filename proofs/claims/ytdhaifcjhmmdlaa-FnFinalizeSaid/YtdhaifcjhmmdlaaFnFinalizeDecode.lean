/-
  FnFinalize: DecodeVLQ reads a number, and at a comma or a semicolon it reads nothing.
  Conditions: numbers of 33 bits.
-/
import Derived.Test.YtdhaifcjhmmdlaaFnFinalizeMem
import Derived.Lib.Hide
namespace Go.Proofs.Ytdhaifcjhmmdlaa.fnFinalize
open Go.RowKit Go.Proofs.YtdhaifcjhmmdlaaW.PrintWords Go.Proofs.YtdhaifcjhmmdlaaW.PrintLast Go.Proofs.YtdhaifcjhmmdlaaW.PrintMore
set_option linter.unusedVariables false
set_option linter.unusedSimpArgs false

theorem drop_at {l : List UInt8} {p : Nat} {b : UInt8} {r : List UInt8} (h : l.drop p = b :: r) : ∃ hp : p < l.length, l[p] = b ∧ l.drop (p + 1) = r := by
  have hp : p < l.length := by
    have := congrArg List.length h
    simp at this
    omega
  refine ⟨hp, ?_, ?_⟩
  · rw [List.drop_eq_getElem_cons hp] at h
    exact (List.cons.inj h).1
  · rw [List.drop_eq_getElem_cons hp] at h
    exact (List.cons.inj h).2
set_option maxHeartbeats 8000000 in
set_option maxRecDepth 100000 in
theorem decode_no (W : World) (N : Nat) (v : Value) (l : List UInt8) (p : Nat) (b : UInt8) (rest : List UInt8) (hB : Bt W N v l) (hd : l.drop p = b :: rest) (hb : b = 44 ∨ b = 59) :
    Calls Try.prog 21 #[v, .int .i64 (p : Int)] W fun e w' => e = .returned (.tuple #[.int .i64 0, .int .i64 (p : Int)]) ∧ w' = W := by
  obtain ⟨hp, hlp, _⟩ := drop_at hd
  obtain ⟨g, o, cap, rfl, hcap, hg, hc⟩ := hB.at p hp
  rw [hlp] at hc
  have p0 : (0 : Int) ≤ (p : Int) := by omega
  have p1 : (p : Int) < (l.length : Int) := by omega
  have hib : Lib.indexByte DS.data.toList ((b.toNat : Int).toNat.toUInt8) = -1 := by
    rcases hb with rfl | rfl
    · exact ib_comma
    · exact ib_semi
  have hx : W.cell? ⟨g, o + p, none⟩ = some (.int .u8 (b.toNat : Int)) := hc
  clear hB hd hc
  go_enter Try.func21, Try.ntmps21
  go_wp2_with (fail)
  go_loopw [1, 7] (fun v1 v7 wr => v1 = .int .i64 (p : Int) ∧ v7 = .int .i64 0 ∧ wr = W) (fun _ _ _ => 0)
  case atStart => exact ⟨rfl, rfl, rfl⟩
  case round =>
    obtain ⟨rfl, rfl, rfl⟩ := hrel
    go_wp2_with (fail)
    refine (Try.strings_IndexByte DS (b.toNat : Int) _).mono ?_
    rintro e w1 ⟨rfl, rfl⟩
    rw [hib]
    go_wp2_with (fail)
    go_ret2
    exact ⟨rfl, rfl⟩
theorem vl_cases (v : Nat) : (v < 32 ∧ vl v = [dig v]) ∨ (32 ≤ v ∧ vl v = dig (v % 32 + 32) :: vl (v / 32)) := by
  by_cases h : v < 32
  · exact .inl ⟨h, vl_small h⟩
  · exact .inr ⟨by omega, vl_big h⟩
theorem sign_back (n : Int) (h0 : -4294967296 < n) (h1 : n < 4294967296) : (n < 0 ∧ ((zig n : Nat) : Int) / 2 = -n ∧ Go.bits .and .i64 ((zig n : Nat) : Int) 1 = 1) ∨ (¬ n < 0 ∧ ((zig n : Nat) : Int) / 2 = n ∧ Go.bits .and .i64 ((zig n : Nat) : Int) 1 = 0) := by
  have hz := zig_lt n 4294967296 (by omega) (by omega)
  have ha := and1 ((zig n : Nat) : Int) (by omega) (by omega)
  by_cases h : n < 0
  · refine .inl ⟨h, ?_, ?_⟩
    · have := zig_neg h; omega
    · have := zig_neg h; omega
  · refine .inr ⟨h, ?_, ?_⟩
    · have := zig_pos h; omega
    · have := zig_pos h; omega
theorem or_step (acc k d : Nat) (hk : k < 7) (hd : d < 32) (ha : acc < 32 ^ k) : Go.bits .or .i64 (acc : Int) (IntKind.i64.wrap ((d : Int) * 2 ^ (5 * k))) = ((acc + d * 32 ^ k : Nat) : Int) := by
  rw [sh_val ⟨d, hd⟩ ⟨k, hk⟩]
  have e : (32 : Nat) ^ k = 2 ^ (5 * k) := by rw [show (32 : Nat) = 2 ^ 5 by decide, ← Nat.pow_mul]
  have hle : 32 ^ k ≤ 32 ^ 6 := Nat.pow_le_pow_right (by decide) (by omega)
  have h6 : (32 : Nat) ^ 6 = 1073741824 := by decide
  rw [e] at ha ⊢
  have hm : d * 2 ^ (5 * k) ≤ 31 * 2 ^ (5 * k) := Nat.mul_le_mul_right _ (by omega)
  exact or_low (5 * k) (by omega) acc (d * 2 ^ (5 * k)) ha (Nat.mul_mod_left _ _) (by rw [e] at hle; omega)
theorem st1 (acc x k m : Nat) (hm : m = x % 32) : (acc + m * 32 ^ k) + x / 32 * 32 ^ (k + 1) = acc + x * 32 ^ k := by
  rw [Nat.pow_succ]
  generalize 32 ^ k = P
  subst hm
  have e : x * P = (x % 32) * P + (x / 32) * (P * 32) := by
    rw [show (x / 32) * (P * 32) = (x / 32 * 32) * P by rw [Nat.mul_assoc, Nat.mul_comm 32], ← Nat.add_mul]
    congr 1
    omega
  omega
theorem st2 (acc m k : Nat) (ha : acc < 32 ^ k) (hm : m < 32) : acc + m * 32 ^ k < 32 ^ (k + 1) := by
  rw [Nat.pow_succ]
  generalize 32 ^ k = P at ha ⊢
  have hm1 : m * P ≤ 31 * P := Nat.mul_le_mul_right _ (by omega)
  omega
theorem st3 (x k : Nat) (hk : k < 7) (h : x < 32 ^ (7 - k)) : x / 32 < 32 ^ (7 - (k + 1)) := by
  rw [show 7 - k = (7 - (k + 1)) + 1 by omega, Nat.pow_succ] at h
  generalize 32 ^ (7 - (k + 1)) = P at h ⊢
  omega
theorem st4 (x k : Nat) (hk : k < 7) (h : x < 32 ^ (7 - k)) (hx : 32 ≤ x) : k + 1 < 7 := by
  rcases Nat.lt_or_ge (k + 1) 7 with hc | hc
  · exact hc
  · exfalso
    obtain rfl : k = 6 := by omega
    have e : (32 : Nat) ^ (7 - 6) = 32 := by decide
    rw [e] at h
    omega
theorem st5 {L1 L2 q p : Nat} (h : q + (L1 + 1) = p + L2) : q + 1 + L1 = p + L2 := by omega
set_option maxHeartbeats 8000000 in
set_option maxRecDepth 100000 in
theorem decode_num (W : World) (N : Nat) (v : Value) (l : List UInt8) (p : Nat) (n : Int) (rest : List UInt8) (hB : Bt W N v l) (hd : l.drop p = vlq n ++ rest) (h0 : -4294967296 < n) (h1 : n < 4294967296) (hl : l.length ≤ 4294967296) :
    Calls Try.prog 21 #[v, .int .i64 (p : Int)] W fun e w' => e = .returned (.tuple #[.int .i64 n, .int .i64 ((p + (vlq n).length : Nat) : Int)]) ∧ w' = W := by
  have hz := zig_lt n 4294967296 (by omega) (by omega)
  have hX0 : zig n < 32 ^ (7 - 0) := by
    have e : (32 : Nat) ^ (7 - 0) = 34359738368 := by decide
    omega
  have HB := Lib.hid hB
  have HD := Lib.hid hd
  have hB' := hB
  obtain ⟨a, cap, rfl, hcap, hcell⟩ := hB'
  clear hB hd hcell
  go_enter Try.func21, Try.ntmps21
  go_wp2_with (fail)
  go_loopw [1, 6, 7] (fun v1 v6 v7 wr => ∃ (k q acc x : Nat), v1 = .int .i64 (q : Int) ∧ v6 = .int .i64 ((5 * k : Nat) : Int) ∧ v7 = .int .i64 (acc : Int) ∧ wr = W ∧ k < 7 ∧ acc < 32 ^ k ∧ Hid (l.drop q = vl x ++ rest) ∧ Hid (acc + x * 32 ^ k = zig n) ∧ Hid (q + (vl x).length = p + (vlq n).length) ∧ Hid (x < 32 ^ (7 - k))) (fun v1 v6 _ _ => 35 - (intOf v6).toNat)
  case atStart => exact ⟨0, p, 0, zig n, rfl, rfl, rfl, rfl, by omega, by simp, HD, Lib.hid (by simp), Lib.hid rfl, Lib.hid hX0⟩
  case round =>
    obtain ⟨k, q, acc, x, rfl, rfl, rfl, rfl, hk, hacc, HD, HS, HQ, HX⟩ := hrel
    obtain ⟨d, hd64, hvx⟩ : ∃ d : Nat, d < 64 ∧ ∃ r, vl x = dig d :: r ∧ ((d < 32 ∧ x = d ∧ r = []) ∨ (32 ≤ d ∧ x % 32 + 32 = d ∧ r = vl (x / 32) ∧ 32 ≤ x)) := by
      rcases vl_cases x with ⟨hx32, hvx⟩ | ⟨hx32, hvx⟩
      · exact ⟨x, by omega, [], hvx, .inl ⟨hx32, rfl, rfl⟩⟩
      · exact ⟨x % 32 + 32, by omega, vl (x / 32), hvx, .inr ⟨by omega, rfl, rfl, hx32⟩⟩
    obtain ⟨r, hvx, hcase⟩ := hvx
    have hD := HD.out
    rw [hvx, List.cons_append] at hD
    obtain ⟨hq, hlq, hdr⟩ := drop_at hD
    obtain ⟨g, o, cap', e1, hcap', hg, hc⟩ := HB.out.at q hq
    rw [hlq] at hc
    obtain rfl : a = some ⟨g, o, none⟩ := by
      injection e1
    have hx : wr.cell? ⟨g, o + q, none⟩ = some (.int .u8 ((dig d).toNat : Int)) := hc
    have p0 : (0 : Int) ≤ (q : Int) := by omega
    have p1 : (q : Int) < (l.length : Int) := by omega
    have hib := ib_dig ⟨d, hd64⟩
    have hw1 : IntKind.i64.wrap ((q : Int) + 1) = ((q + 1 : Nat) : Int) := by
      rw [IntKind.wrap_i64]
      omega
    have hor := or_step acc k (d % 32) hk (by omega) hacc
    have ha31 := and31_d ⟨d, hd64⟩
    have ha32 := and32_d ⟨d, hd64⟩
    simp only at ha31 ha32 hib
    clear hc hD hdr hvx
    have dge : decide ((d : Int) < 0) = false := decide_eq_false (by omega)
    have HM : Hid (d % 32 = d % 32 ∧ 5 * k = 5 * k ∧ acc + d % 32 * 32 ^ k = acc + d % 32 * 32 ^ k) := Lib.hid ⟨rfl, rfl, rfl⟩
    generalize hm : d % 32 = m at ha31 hor
    generalize hs : 5 * k = s at hor ⊢
    generalize hV : acc + m * 32 ^ k = V at hor
    have hor2 : Go.bits .or .i64 (acc : Int) (wrap64 ((m : Int) * 2 ^ s)) = (V : Int) := by
      rw [IntKind.wrap_i64] at hor
      unfold wrap64
      exact hor
    have hs64 : s ≤ 30 := by omega
    have hw2 : wrap64 ((s : Int) + 5) = ((s + 5 : Nat) : Int) := by
      unfold wrap64; omega
    have hw1 : wrap64 ((q : Int) + 1) = ((q + 1 : Nat) : Int) := by
      unfold wrap64; omega
    have s0 : (0 : Int) ≤ (s : Int) := by omega
    have s1 : (s : Int) ≤ 64 := by omega
    have HMM := Lib.hid hm
    have HSS := Lib.hid hs
    have HVV := Lib.hid hV
    clear hor hm hs hV HM hs64
    rcases hcase with ⟨hd32, hxd, hr⟩ | ⟨hd32, hxd, hr, hx32⟩
    · obtain rfl : V = zig n := by
        have a1 := HS.out; have a2 := HVV.out; have a3 := HMM.out
        rw [← a1, ← a2, hxd, ← a3, Nat.mod_eq_of_lt hd32]
      have hlen : ((q + 1 : Nat) : Int) = ((p + (vlq n).length : Nat) : Int) := by
        have a1 := HQ.out
        have a2 : (vl x).length = 1 := by rw [hxd, vl_small hd32]; rfl
        rw [a2] at a1
        exact congrArg (fun z : Nat => (z : Int)) a1
      rw [hlen] at hw1
      rw [if_pos hd32] at ha32
      have HL := Lib.hid hlen
      clear hlen hxd hr
      have hwn : wrap64 n = n := by unfold wrap64; omega
      rcases sign_back n h0 h1 with ⟨hn, hv2, hv1⟩ | ⟨hn, hv2, hv1⟩
      · have HN := Lib.hid hn
        clear hn
        go_wp2_with (fail)
        refine (Try.strings_IndexByte DS ((dig d).toNat : Int) _).mono ?_
        rintro e w1 ⟨rfl, rfl⟩
        rw [hib]
        go_wp2_with (fail)
        go_ret2
        exact ⟨by have := HL.out; simp; omega, rfl⟩
      · have HN := Lib.hid hn
        clear hn
        go_wp2_with (fail)
        refine (Try.strings_IndexByte DS ((dig d).toNat : Int) _).mono ?_
        rintro e w1 ⟨rfl, rfl⟩
        rw [hib]
        go_wp2_with (fail)
        go_ret2
        exact ⟨by have := HL.out; simp; omega, rfl⟩
    · rw [if_neg (by omega)] at ha32
      have HXD := Lib.hid hxd
      have HR := Lib.hid hr
      clear hxd hr
      go_wp2_with (fail)
      refine (Try.strings_IndexByte DS ((dig d).toNat : Int) _).mono ?_
      rintro e w1 ⟨rfl, rfl⟩
      rw [hib]
      go_wp2_with (fail)
      go_roundw
      case rel =>
        have a1 := HS.out; have a2 := HVV.out; have a3 := HMM.out; have a4 := HXD.out; have a5 := HSS.out; have a6 := HR.out; have a7 := HQ.out; have a8 := HX.out; have a9 := HD.out
        have hm' : m = x % 32 := by
          rw [← a3, ← a4, Nat.add_mod_right, Nat.mod_mod]
        have e32 : vl x = dig d :: vl (x / 32) := by rw [← a4]; exact vl_big (Nat.not_lt.2 hx32)
        have hk7 := st4 x k hk a8 hx32
        subst hm'
        refine ⟨k + 1, q + 1, V, x / 32, by simp, by rw [show 5 * (k + 1) = s + 5 by rw [← a5]; rfl]; simp, by simp, ?_⟩
        simp only [true_and]
        refine ⟨hk7, ?_, ?_, ?_, ?_, ?_⟩
        · rw [← a2]; exact st2 acc _ k hacc (Nat.mod_lt _ (by decide))
        · refine Lib.hid ?_
          rw [e32, List.cons_append] at a9
          exact (drop_at a9).2.2
        · refine Lib.hid ?_
          rw [← a1, ← a2]
          exact st1 acc x k _ rfl
        · refine Lib.hid ?_
          rw [e32, List.length_cons] at a7
          exact st5 a7
        · exact Lib.hid (st3 x k hk a8)
      case measure =>
        have a5 := HSS.out
        simp only [intOf]
        omega
end Go.Proofs.Ytdhaifcjhmmdlaa.fnFinalize
