/-
  FnSemverTurns: the law's walk: it returns true at every input.
  Conditions: the two errors of strconv as the program lays them.
-/
import Derived.Test.YteokaphenmnckaaDoorFnSemverTurnsImpl
import Derived.Test.YteokaphenmnckaaDoorPFnSemverTurnsx1
namespace Go.Proofs.YteokaphenmnckaaDoor.fnSemverTurns
open Go.RowKit Go.Proofs.YteokaphenmnckaaDoorW.PrintWords Go.Proofs.YteokaphenmnckaaDoor.PFnSemverTurns
set_option linter.unusedVariables false
set_option linter.unusedSimpArgs false

theorem w64 (n : Int) (h0 : -9223372036854775808 ≤ n) (h1 : n ≤ 9223372036854775807) : wrap64 n = n := by unfold wrap64; omega
theorem rd_part (v : List Int) (j : Nat) : rd v (j : Int) = part v j := rfl
theorem vers_in (x7 : List (List Int)) (x8 x9 : Int) (v : List Int) (hv : v.length ≤ 2147483647) (r' : Bool) (k' : Nat) (hk : laws_versions.l0 k' x7 x8 (wrap64 (x9 + 1)) = some r') :
    ∀ m j, j + m = v.length → ∃ k r, laws_versions.l1 k x7 x8 x9 v v.length (j : Int) = some r ∧ (r = true → r' = true ∧ ∀ i, j ≤ i → 0 ≤ part v i ∧ part v i ≤ 2147483647) := by
  intro m
  induction m with
  | zero =>
    intro j hj
    refine ⟨k' + 1, r', ?_, fun hr => ⟨hr, fun i hi => ?_⟩⟩
    · rw [laws_versions.l1, if_neg (by omega), hk]
    · rw [part_out (by omega)]; decide
  | succ m ih =>
    intro j hj
    obtain ⟨k, r, h, hr⟩ := ih (j + 1) (by omega)
    by_cases h0 : part v j < 0
    · exact ⟨1, false, by rw [laws_versions.l1, if_pos (by omega), if_pos (by omega), if_pos (by omega), rd_part, if_pos h0], fun h => by cases h⟩
    · by_cases h1 : part v j > 2147483647
      · exact ⟨1, false, by rw [laws_versions.l1, if_pos (by omega), if_pos (by omega), if_pos (by omega), rd_part, if_neg h0, if_pos h1], fun h => by cases h⟩
      · refine ⟨k + 1, r, ?_, fun hh => ⟨(hr hh).1, fun i hi => ?_⟩⟩
        · rw [laws_versions.l1, if_pos (by omega), if_pos (by omega), if_pos (by omega), rd_part, if_neg h0, if_neg h1, w64 _ (by omega) (by omega)]
          exact h
        · by_cases e : i = j
          · subst e; omega
          · exact (hr hh).2 i (by omega)
theorem vers_two (xs ys : List Int) (hx : xs.length ≤ 2147483647) (hy : ys.length ≤ 2147483647) : ∃ k r, laws_versions.f k [xs, ys] = some r ∧ (r = true → Vers xs ∧ Vers ys) := by
  have h2 : laws_versions.l0 1 [xs, ys] 2 (wrap64 ((1 : Int) + 1)) = some true := by
    rw [w64 _ (by omega) (by omega), laws_versions.l0, if_neg (by omega)]
  obtain ⟨k1, r1, e1, p1⟩ := vers_in [xs, ys] 2 1 ys hy true 1 h2 ys.length 0 (by omega)
  have h1 : laws_versions.l0 (k1 + 1) [xs, ys] 2 (wrap64 ((0 : Int) + 1)) = some r1 := by
    rw [w64 _ (by omega) (by omega), laws_versions.l0, if_pos (by omega), if_pos (by omega), if_pos (by simp)]
    exact e1
  obtain ⟨k0, r0, e0, p0⟩ := vers_in [xs, ys] 2 0 xs hx r1 (k1 + 1) h1 xs.length 0 (by omega)
  refine ⟨k0 + 1, r0, ?_, fun h => ⟨fun i => (p0 h).2 i (Nat.zero_le _), fun i => (p1 (p0 h).1).2 i (Nat.zero_le _)⟩⟩
  unfold laws_versions.f
  rw [laws_versions.l0, if_pos (by simp), if_pos (by omega), if_pos (by simp)]
  exact e0
set_option maxHeartbeats 1000000 in
theorem sign (n : Int) (w : World) : Calls Tryd.prog 6 #[.int .i64 n] w fun e w' => e = .returned (.int .i64 (sg n)) ∧ w' = w := by
  go_enter Tryd.func6, Tryd.ntmps6
  go_wp2
  go_ret
  exact ⟨rfl, rfl⟩
theorem sg_in (n : Int) : -1 ≤ sg n ∧ sg n ≤ 1 := by unfold sg; omega
/-- two slices of numbers in a row of two -/
theorem two_rows {w : World} {A B : Option Addr} {xs ys : List Int} {ca cb : Nat} (hca : xs.length ≤ ca) (hcb : ys.length ≤ cb) (hA : Kd.C (Kd.int .i64) w A xs.length xs) (hB : Kd.C (Kd.int .i64) w B ys.length ys) :
    Kd.C (Kd.slice 3 (Kd.int .i64)) (w.alloc (.cells #[.slice A xs.length ca, .slice B ys.length cb] 22)) (some ⟨w.heap.size, 0, none⟩) [xs, ys].length [xs, ys] := by
  have hb : Below w.heap.size w (w.alloc (.cells #[.slice A xs.length ca, .slice B ys.length cb] 22)) := (Below.refl _ _).alloc (Nat.le_refl _) _
  have hh : (w.alloc (.cells #[.slice A xs.length ca, .slice B ys.length cb] 22)).heap[w.heap.size]? = some (.cells #[.slice A xs.length ca, .slice B ys.length cb] 22 (0, 0)) := heap_alloc_new w _
  refine ⟨rfl, by simp, fun _ => ⟨_, rfl, fun j p hj => ?_⟩⟩
  have cell : ∀ j, (w.alloc (.cells #[.slice A xs.length ca, .slice B ys.length cb] 22)).cell? ((⟨w.heap.size, 0, none⟩ : Addr).add j) = #[Value.slice A xs.length ca, .slice B ys.length cb][j]? := by
    intro j
    have e : (⟨w.heap.size, 0, none⟩ : Addr).add j = ⟨w.heap.size, j, none⟩ := by unfold Addr.add; split <;> simp_all
    rw [e, Lib.cell_of_heap hh]
  match j, hj with
  | 0, hj =>
    obtain rfl : xs = p := Option.some.inj hj
    refine ⟨[.slice A xs.length ca], rfl, ⟨A, ca, rfl, hca, Kd.C_below hA hb⟩, fun i u hu => ?_⟩
    match i, hu with
    | 0, hu => rw [cell]; exact hu
  | 1, hj =>
    obtain rfl : ys = p := Option.some.inj hj
    refine ⟨[.slice B ys.length cb], rfl, ⟨B, cb, rfl, hcb, Kd.C_below hB hb⟩, fun i u hu => ?_⟩
    match i, hu with
    | 0, hu => rw [cell]; exact hu
theorem one_row (w : World) (n : Int) : Kd.C (Kd.int .i64) (w.alloc (.cells #[.int .i64 n] 3)) (some ⟨w.heap.size, 0, none⟩) [n].length [n] := by
  refine ⟨rfl, by simp, fun _ => ⟨_, rfl, fun j p hj => ?_⟩⟩
  match j, hj with
  | 0, hj =>
    obtain rfl : n = p := Option.some.inj hj
    refine ⟨[.int .i64 n], rfl, rfl, fun i u hu => ?_⟩
    match i, hu with
    | 0, hu =>
      have e : (⟨w.heap.size, 0, none⟩ : Addr).add 0 = ⟨w.heap.size, 0, none⟩ := rfl
      show (w.alloc (.cells #[.int .i64 n] 3)).cell? ((⟨w.heap.size, 0, none⟩ : Addr).add 0) = _
      rw [e, Lib.cell_of_heap (heap_alloc_new w _)]
      exact hu
theorem vers_one (n : Int) (h : 0 ≤ n ∧ n ≤ 2147483647) : Vers [n] := by
  intro i
  cases i with
  | zero => exact h
  | succ i => rw [part_out (by simp)]; decide
/-- the awake call: 1 stands before 2 -/
theorem awake (w : World) (he : Errs w) :
    Calls Tryd.prog 5 #[.slice (some ⟨w.heap.size, 0, none⟩) 1 1, .slice (some ⟨w.heap.size + 1, 0, none⟩) 1 1, .string ⟨#[]⟩, .string ⟨#[]⟩] ((w.alloc (.cells #[.int .i64 1] 3)).alloc (.cells #[.int .i64 2] 3)) (Cmp (-1) ((w.alloc (.cells #[.int .i64 1] 3)).alloc (.cells #[.int .i64 2] 3))) := by
  have h1 := one_row w 1
  have h2 := one_row (w.alloc (.cells #[.int .i64 1] 3)) 2
  have e1 : (w.alloc (.cells #[.int .i64 1] 3)).heap.size = w.heap.size + 1 := by simp
  rw [e1] at h2
  have hb1 : Below (w.alloc (.cells #[.int .i64 1] 3)).heap.size (w.alloc (.cells #[.int .i64 1] 3)) ((w.alloc (.cells #[.int .i64 1] 3)).alloc (.cells #[.int .i64 2] 3)) := (Below.refl _ _).alloc (Nat.le_refl _) _
  have hb : Below w.heap.size w ((w.alloc (.cells #[.int .i64 1] 3)).alloc (.cells #[.int .i64 2] 3)) := ((Below.refl _ _).alloc (Nat.le_refl _) _).alloc (by simp) _
  exact impl [1] [2] _ _ 1 1 ⟨#[]⟩ ⟨#[]⟩ _ (Kd.C_below h1 hb1) h2 (fun h => by cases h) (fun h => by cases h) (by decide) (by decide) (by decide) (by decide) (vers_one 1 (by decide)) (vers_one 2 (by decide)) (he.below hb)

set_option maxHeartbeats 16000000 in
set_option maxRecDepth 100000 in
theorem law (xs ys : List Int) (A B : Option Addr) (ca cb : Nat) (p q : ByteArray) (w : World) (hA : Kd.C (Kd.int .i64) w A xs.length xs) (hB : Kd.C (Kd.int .i64) w B ys.length ys)
    (nA : A = none → xs = [] ∧ ca = 0) (nB : B = none → ys = [] ∧ cb = 0) (hca : xs.length ≤ ca) (hcb : ys.length ≤ cb) (he : Errs w) :
    Calls Tryd.prog 3 #[.slice A xs.length ca, .slice B ys.length cb, .string p, .string q] w fun e w' => e = .returned (.bool true) ∧ Below w.heap.size w w' := by
  by_cases l1 : (2147483647 : Int) < xs.length
  · go_enter Tryd.func3, Tryd.ntmps3
    go_wp2_with (fail)
    go_ret
    exact ⟨rfl, Below.refl _ _⟩
  by_cases l2 : (2147483647 : Int) < ys.length
  · go_enter Tryd.func3, Tryd.ntmps3
    go_wp2_with (fail)
    go_ret
    exact ⟨rfl, Below.refl _ _⟩
  by_cases l3 : (2147483647 : Int) < p.size
  · go_enter Tryd.func3, Tryd.ntmps3
    go_wp2_with (fail)
    go_ret
    exact ⟨rfl, Below.refl _ _⟩
  by_cases l4 : (2147483647 : Int) < q.size
  · go_enter Tryd.func3, Tryd.ntmps3
    go_wp2_with (fail)
    go_ret
    exact ⟨rfl, Below.refl _ _⟩
  have hxs : xs.length ≤ 2147483647 := by omega
  have hys : ys.length ≤ 2147483647 := by omega
  have hp0 : p.size ≤ 2147483647 := by omega
  have hq0 : q.size ≤ 2147483647 := by omega
  obtain ⟨k, r, hf, hv⟩ := vers_two xs ys hxs hys
  have HA := Lib.hid hA
  have HB := Lib.hid hB
  have HE := Lib.hid he
  have NA := Lib.hid nA
  have NB := Lib.hid nB
  have HF := Lib.hid hf
  have H2 := Lib.hid (two_rows hca hcb hA hB)
  clear hA hB he nA nB hf hca hcb
  cases r
  · clear hv
    go_enter Tryd.func3, Tryd.ntmps3
    go_wp2_with (fail)
    refine (laws_versions.calls k _ 2 [xs, ys] false _ H2.out (by simp) HF.out).mono ?_
    rintro e w1 ⟨rfl, n, rfl⟩
    have hb1 := below_drewN ((Below.refl w.heap.size w).alloc (Nat.le_refl _) (.cells #[.slice A xs.length ca, .slice B ys.length cb] 22)) n
    generalize (w.alloc (.cells #[.slice A xs.length ca, .slice B ys.length cb] 22)).drewN n = W1 at hb1 ⊢
    have HB1 := Lib.hid hb1
    clear hb1
    have HAW := Lib.hid (awake W1 (HE.out.below HB1.out))
    go_wp2_with (fail)
    refine (HAW.out).mono ?_
    rintro e w3 ⟨rfl, hb3⟩
    have hb2 : Below w.heap.size w ((W1.alloc (.cells #[.int .i64 1] 3)).alloc (.cells #[.int .i64 2] 3)) := (HB1.out.alloc HB1.out.size _).alloc (by have := HB1.out.size; simp; omega) _
    have HB3 := Lib.hid (hb2.trans (hb3.mono hb2.size))
    clear hb3 hb2 HAW
    go_wp2_with (fail)
    go_ret
    exact ⟨rfl, HB3.out⟩
  · obtain ⟨vx, vy⟩ := hv rfl
    have VX := Lib.hid vx
    have VY := Lib.hid vy
    clear vx vy hv
    have hT := turns xs ys p.data.toList q.data.toList
    have hS := same xs p.data.toList
    generalize hX : cmp xs ys p.data.toList q.data.toList = X at hT
    generalize hY : cmp ys xs q.data.toList p.data.toList = Y at hT
    have HX := Lib.hid hX
    have HY := Lib.hid hY
    have HT := Lib.hid hT
    have HS := Lib.hid hS
    clear hX hY hT hS
    go_enter Tryd.func3, Tryd.ntmps3
    go_wp2_with (fail)
    refine (laws_versions.calls k _ 2 [xs, ys] true _ H2.out (by simp) HF.out).mono ?_
    rintro e w1 ⟨rfl, n, rfl⟩
    have hb1 := below_drewN ((Below.refl w.heap.size w).alloc (Nat.le_refl _) (.cells #[.slice A xs.length ca, .slice B ys.length cb] 22)) n
    generalize (w.alloc (.cells #[.slice A xs.length ca, .slice B ys.length cb] 22)).drewN n = W1 at hb1 ⊢
    have HB1 := Lib.hid hb1
    clear hb1
    go_wp2_with (fail)
    refine (impl xs ys A B ca cb p q _ (Kd.C_below HA.out HB1.out) (Kd.C_below HB.out HB1.out) NA.out NB.out hxs hys hp0 hq0 VX.out VY.out (HE.out.below HB1.out)).mono ?_
    rintro e w2 ⟨rfl, hb2⟩
    rw [HX.out]
    have HB2 := Lib.hid (HB1.out.trans (hb2.mono HB1.out.size))
    clear hb2 HB1
    go_wp2_with (fail)
    refine (impl ys xs B A cb ca q p _ (Kd.C_below HB.out HB2.out) (Kd.C_below HA.out HB2.out) NB.out NA.out hys hxs hq0 hp0 VY.out VX.out (HE.out.below HB2.out)).mono ?_
    rintro e w3 ⟨rfl, hb3⟩
    rw [HY.out]
    have HB3 := Lib.hid (HB2.out.trans (hb3.mono HB2.out.size))
    clear hb3 HB2
    obtain ⟨s0, s1⟩ := sg_in X
    go_wp2_with (fail)
    refine (sign X _).mono ?_
    rintro e w4 ⟨rfl, rfl⟩
    go_wp2_with (fail)
    refine (sign Y _).mono ?_
    rintro e w4 ⟨rfl, rfl⟩
    rw [HT.out]
    generalize sg X = s at s0 s1 ⊢
    go_wp2_with (fail)
    refine (impl xs xs A A ca ca p p _ (Kd.C_below HA.out HB3.out) (Kd.C_below HA.out HB3.out) NA.out NA.out hxs hxs hp0 hp0 VX.out VX.out (HE.out.below HB3.out)).mono ?_
    rintro e w5 ⟨rfl, hb5⟩
    rw [HS.out]
    have HB5 := Lib.hid (HB3.out.trans (hb5.mono HB3.out.size))
    clear hb5 HB3
    have HAW := Lib.hid (awake w5 (HE.out.below HB5.out))
    go_wp2_with (fail)
    refine (HAW.out).mono ?_
    rintro e w6 ⟨rfl, hb6⟩
    have hb7 : Below w.heap.size w ((w5.alloc (.cells #[.int .i64 1] 3)).alloc (.cells #[.int .i64 2] 3)) := (HB5.out.alloc HB5.out.size _).alloc (by have := HB5.out.size; simp; omega) _
    have HB6 := Lib.hid (hb7.trans (hb6.mono hb7.size))
    clear hb6 hb7 HAW
    go_wp2_with (fail)
    go_ret
    exact ⟨rfl, HB6.out⟩
end Go.Proofs.YteokaphenmnckaaDoor.fnSemverTurns
