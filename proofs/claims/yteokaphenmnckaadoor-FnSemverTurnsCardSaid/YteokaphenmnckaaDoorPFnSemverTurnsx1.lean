-- PRINTED BY print.sh 35421559b90ae4d0a3588c463048766b98c2df88dd9212a6774a882060cdf62d: not written by this session
import Derived.Test.YteokaphenmnckaaDoorPFnSemverTurnsx0
namespace Go.Proofs.YteokaphenmnckaaDoor.PFnSemverTurns
open Go.RowKit Go.Proofs.YteokaphenmnckaaDoorW.PrintWords Go.Proofs.YteokaphenmnckaaDoorW.PrintLast Go.Proofs.YteokaphenmnckaaDoorW.PrintMore
attribute [local go_sem] max2_int min2_int max_two min_two max_three min_three max_four min_four   -- for this text's walks alone
set_option linter.unusedVariables false
set_option linter.unusedSimpArgs false

/-! ### laws_versions: function 4 -/
mutual
def laws_versions.l0 : Nat → List (List Int) → Int → Int → Option (Bool)
  | 0, _, _, _ => none
  | k + 1, x7, x8, x9 => if x9 < x8 then (if 0 ≤ x9 then (if x9 < (x7.length : Int) then (laws_versions.l1 k x7 x8 x9 (rd_L1 x7 x9) ((rd_L1 x7 x9).length : Int) 0) else (none)) else (none)) else (some true)
def laws_versions.l1 : Nat → List (List Int) → Int → Int → List Int → Int → Int → Option (Bool)
  | 0, _, _, _, _, _, _ => none
  | k + 1, x7, x8, x9, x13, x14, x15 => if x15 < x14 then (if 0 ≤ x15 then (if x15 < (x13.length : Int) then (if (rd x13 x15) < 0 then (some false) else (if (rd x13 x15) > 2147483647 then (some false) else (laws_versions.l1 k x7 x8 x9 x13 x14 (wrap64 (x15 + 1))))) else (none)) else (none)) else (laws_versions.l0 k x7 x8 (wrap64 (x9 + 1)))
end
def laws_versions.f (k : Nat) (l0 : List (List Int)) : Option (Bool) := laws_versions.l0 k l0 (l0.length : Int) 0
theorem laws_versions.mono_l : ∀ k, (∀ y0 y1 y2, LeO (laws_versions.l0 k y0 y1 y2) (laws_versions.l0 (k + 1) y0 y1 y2)) ∧ (∀ y0 y1 y2 y3 y4 y5, LeO (laws_versions.l1 k y0 y1 y2 y3 y4 y5) (laws_versions.l1 (k + 1) y0 y1 y2 y3 y4 y5))
  | 0 => ⟨fun _ _ _ r h => by simp [laws_versions.l0] at h, fun _ _ _ _ _ _ r h => by simp [laws_versions.l1] at h⟩
  | k + 1 => by
    obtain ⟨ih0, ih1⟩ := laws_versions.mono_l k
    refine ⟨?_, ?_⟩
    · intro y0 y1 y2
      unfold laws_versions.l0
      repeat' first
      | (with_reducible exact ih0 _ _ _)
      | (with_reducible exact ih1 _ _ _ _ _ _)
      | (with_reducible exact LeO.refl _)
      | (with_reducible exact LeO.none _)
      | (with_reducible refine LeO.ite ?_ ?_)
      | (with_reducible refine LeO.bind ?_ (fun _ => ?_))
      | exact ih0 _ _ _
      | exact ih1 _ _ _ _ _ _
      | exact LeO.none _
      | refine LeO.ite ?_ ?_
      | refine LeO.bind ?_ (fun _ => ?_)
    · intro y0 y1 y2 y3 y4 y5
      unfold laws_versions.l1
      repeat' first
      | (with_reducible exact ih0 _ _ _)
      | (with_reducible exact ih1 _ _ _ _ _ _)
      | (with_reducible exact LeO.refl _)
      | (with_reducible exact LeO.none _)
      | (with_reducible refine LeO.ite ?_ ?_)
      | (with_reducible refine LeO.bind ?_ (fun _ => ?_))
      | exact ih0 _ _ _
      | exact ih1 _ _ _ _ _ _
      | exact LeO.none _
      | refine LeO.ite ?_ ?_
      | refine LeO.bind ?_ (fun _ => ?_)
theorem laws_versions.mono : ∀ a0 k, LeO (laws_versions.f k a0) (laws_versions.f (k + 1) a0) := by
  intro a0 k
  obtain ⟨ih0, ih1⟩ := laws_versions.mono_l k
  unfold laws_versions.f
  repeat' first
      | (with_reducible exact ih0 _ _ _)
      | (with_reducible exact ih1 _ _ _ _ _ _)
      | (with_reducible exact LeO.refl _)
      | (with_reducible exact LeO.none _)
      | (with_reducible refine LeO.ite ?_ ?_)
      | (with_reducible refine LeO.bind ?_ (fun _ => ?_))
      | exact ih0 _ _ _
      | exact ih1 _ _ _ _ _ _
      | exact LeO.none _
      | refine LeO.ite ?_ ?_
      | refine LeO.bind ?_ (fun _ => ?_)
set_option maxHeartbeats 8000000 in
set_option maxRecDepth 100000 in
theorem laws_versions.calls (k : Nat) (A0 : Option Addr) (c0 : Nat) (l0 : List (List Int)) (r : Bool) (w : World) (hr0 : Kd.C (Kd.slice 3 (Kd.int .i64)) w A0 l0.length l0) (hc0 : l0.length ≤ c0) (h : laws_versions.f k l0 = some r) :
    Calls Tryd.prog 4 #[.slice A0 l0.length c0] w fun e w' => e = .returned (.bool r) ∧ Drawn0 w w' := by
  have HR0 := Aside0.mk hr0
  have HC0 := Aside0.mk hc0
  clear hr0 hc0
  have H : (laws_versions.l0 k l0 (l0.length : Int) 0) = some r := h
  clear h
  have H' := Aside0.mk H
  clear H
  go_enter Tryd.func4, Tryd.ntmps4
  go_wp2
  go_loopg [9] k (fun kq v9 w' => ∃ (x9_1 : Int), v9 = .int .i64 x9_1 ∧ Aside0 (laws_versions.l0 kq l0 (l0.length : Int) x9_1 = some r) ∧ Aside0 (kq ≤ k) ∧ Drawn0 w w')
  case atStart => exact ⟨(0), (by first | rfl | (simp; done) | (simp [*]; done)), H', ⟨Nat.le_refl _⟩, by repeat (first | exact Drawn0.refl _ | apply Drawn0.step)⟩
  case round =>
    clear H'
    obtain ⟨x9_1, rfl, HA, HK1, ⟨m1, rfl⟩⟩ := hrel
    cases gk with
    | zero => exact absurd HA.out (by simp [laws_versions.l0])
    | succ k1 =>
      have H := HA.out
      clear HA
      simp only [laws_versions.l0] at H
      by_cases c2 : x9_1 < (l0.length : Int)
      · rw [if_pos c2] at H
        have c2b0 : decide (x9_1 < (l0.length : Int)) = true := decide_eq_true c2
        clear c2
        by_cases c3 : 0 ≤ x9_1
        · rw [if_pos c3] at H
          have c3b0 : decide (0 ≤ x9_1) = true := decide_eq_true c3
          clear c3
          by_cases c4 : x9_1 < (l0.length : Int)
          · rw [if_pos c4] at H
            have c4b0 : decide (x9_1 < (l0.length : Int)) = true := decide_eq_true c4
            clear c4
            have H' := Aside0.mk H
            clear H
            have p101 : 0 ≤ (x9_1 : Int) := of_decide_eq_true (by first | (with_reducible assumption) | assumption)
            have q101 : x9_1 < (l0.length : Int) := of_decide_eq_true (by first | (with_reducible assumption) | assumption)
            obtain ⟨ad101, A101_0, c101_0, e101, hx101_0, hl101_0, hi101_0⟩ := at_L1 HR0.out x9_1 p101 q101
            cases e101
            have HR101_0 := Aside0.mk hi101_0
            have HC101_0 := Aside0.mk hl101_0
            clear hi101_0 hl101_0
            replace p101 := eq_true p101
            replace q101 := eq_true q101
            go_wp2
            go_loopg [15] k1 (fun kq v15 w' => ∃ (x15_2 : Int), v15 = .int .i64 x15_2 ∧ Aside0 (laws_versions.l1 kq l0 (l0.length : Int) x9_1 (rd_L1 l0 x9_1) ((rd_L1 l0 x9_1).length : Int) x15_2 = some r) ∧ Aside0 (kq ≤ k1) ∧ Drawn0 w w')
            case atStart => exact ⟨(0), (by first | rfl | (simp; done) | (simp [*]; done)), H', ⟨Nat.le_refl _⟩, by repeat (first | exact Drawn0.refl _ | apply Drawn0.step)⟩
            case round =>
              clear H'
              try clear c1
              try clear p1
              try clear q1
              try clear hx1
              try clear c2
              try clear c2b0
              try clear p2
              try clear c3
              try clear c3b0
              try clear c4
              try clear c4b0
              try clear hx101_0
              try clear p101
              try clear q101
              obtain ⟨x15_2, rfl, HA, HK2, ⟨m2, rfl⟩⟩ := hrel
              cases gk with
              | zero => exact absurd HA.out (by simp [laws_versions.l1])
              | succ k2 =>
                have H := HA.out
                clear HA
                simp only [laws_versions.l1] at H
                by_cases c5 : x15_2 < ((rd_L1 l0 x9_1).length : Int)
                · rw [if_pos c5] at H
                  have c5b0 : decide (x15_2 < ((rd_L1 l0 x9_1).length : Int)) = true := decide_eq_true c5
                  clear c5
                  by_cases c6 : 0 ≤ x15_2
                  · rw [if_pos c6] at H
                    have c6b0 : decide (0 ≤ x15_2) = true := decide_eq_true c6
                    clear c6
                    by_cases c7 : x15_2 < ((rd_L1 l0 x9_1).length : Int)
                    · rw [if_pos c7] at H
                      have c7b0 : decide (x15_2 < ((rd_L1 l0 x9_1).length : Int)) = true := decide_eq_true c7
                      clear c7
                      by_cases c8 : (rd (rd_L1 l0 x9_1) x15_2) < 0
                      · rw [if_pos c8] at H
                        have c8b0 : decide ((rd (rd_L1 l0 x9_1) x15_2) < 0) = true := decide_eq_true c8
                        clear c8
                        obtain rfl := Option.some.inj H
                        have p102 : 0 ≤ (x15_2 : Int) := of_decide_eq_true (by first | (with_reducible assumption) | assumption)
                        have q102 : x15_2 < ((rd_L1 l0 x9_1).length : Int) := of_decide_eq_true (by first | (with_reducible assumption) | assumption)
                        obtain ⟨ad102, e102, hx102_0⟩ := Kd.at_int HR101_0.out x15_2 p102 q102
                        cases e102
                        replace p102 := eq_true p102
                        replace q102 := eq_true q102
                        go_wp2
                        go_ret
                        exact ⟨by first | rfl | (simp; done) | (simp [*]; done), by repeat (first | exact Drawn0.refl _ | apply Drawn0.step)⟩
                      · rw [if_neg c8] at H
                        have c8b0 : decide ((rd (rd_L1 l0 x9_1) x15_2) < 0) = false := decide_eq_false c8
                        clear c8
                        by_cases c9 : (rd (rd_L1 l0 x9_1) x15_2) > 2147483647
                        · rw [if_pos c9] at H
                          have c9b0 : decide (2147483647 < (rd (rd_L1 l0 x9_1) x15_2)) = true := decide_eq_true c9
                          clear c9
                          obtain rfl := Option.some.inj H
                          have p102 : 0 ≤ (x15_2 : Int) := of_decide_eq_true (by first | (with_reducible assumption) | assumption)
                          have q102 : x15_2 < ((rd_L1 l0 x9_1).length : Int) := of_decide_eq_true (by first | (with_reducible assumption) | assumption)
                          obtain ⟨ad102, e102, hx102_0⟩ := Kd.at_int HR101_0.out x15_2 p102 q102
                          cases e102
                          replace p102 := eq_true p102
                          replace q102 := eq_true q102
                          go_wp2
                          go_ret
                          exact ⟨by first | rfl | (simp; done) | (simp [*]; done), by repeat (first | exact Drawn0.refl _ | apply Drawn0.step)⟩
                        · rw [if_neg c9] at H
                          have c9b0 : decide (2147483647 < (rd (rd_L1 l0 x9_1) x15_2)) = false := decide_eq_false c9
                          clear c9
                          have H' := Aside0.mk H
                          clear H
                          have p102 : 0 ≤ (x15_2 : Int) := of_decide_eq_true (by first | (with_reducible assumption) | assumption)
                          have q102 : x15_2 < ((rd_L1 l0 x9_1).length : Int) := of_decide_eq_true (by first | (with_reducible assumption) | assumption)
                          obtain ⟨ad102, e102, hx102_0⟩ := Kd.at_int HR101_0.out x15_2 p102 q102
                          cases e102
                          replace p102 := eq_true p102
                          replace q102 := eq_true q102
                          go_wp2
                          go_roundg k2
                          case measure => have := HK1.out; have := HK2.out; omega
                          case rel => exact ⟨(wrap64 (x15_2 + 1)), (by first | rfl | (simp; done) | (simp [*]; done)), H', ⟨by have := HK1.out; have := HK2.out; omega⟩, by repeat (first | exact Drawn0.refl _ | apply Drawn0.step)⟩
                    · rw [if_neg c7] at H
                      exact absurd H (by simp)
                  · rw [if_neg c6] at H
                    exact absurd H (by simp)
                · rw [if_neg c5] at H
                  have c5b0 : decide (x15_2 < ((rd_L1 l0 x9_1).length : Int)) = false := decide_eq_false c5
                  clear c5
                  have H' := Aside0.mk H
                  clear H
                  go_wp2
                  go_roundg k2
                  case measure => have := HK1.out; have := HK2.out; omega
                  case rel => exact ⟨(wrap64 (x9_1 + 1)), (by first | rfl | (simp; done) | (simp [*]; done)), H', ⟨by have := HK1.out; have := HK2.out; omega⟩, by repeat (first | exact Drawn0.refl _ | apply Drawn0.step)⟩
          · rw [if_neg c4] at H
            exact absurd H (by simp)
        · rw [if_neg c3] at H
          exact absurd H (by simp)
      · rw [if_neg c2] at H
        have c2b0 : decide (x9_1 < (l0.length : Int)) = false := decide_eq_false c2
        clear c2
        obtain rfl := Option.some.inj H
        go_wp2
        go_ret
        exact ⟨by first | rfl | (simp; done) | (simp [*]; done), by repeat (first | exact Drawn0.refl _ | apply Drawn0.step)⟩

/-! ### stringslite_HasPrefix: function 14 -/
def stringslite_HasPrefix.f (a0 : ByteArray) (a1 : ByteArray) : Option (Bool) := if (a0.size : Int) ≥ (a1.size : Int) then (if 0 ≤ (a1.size : Int) then (if (a1.size : Int) ≤ (a0.size : Int) then (some ((a0.extract 0 ((a1.size : Int) : Int).toNat).toList == a1.toList)) else (none)) else (none)) else (some false)
set_option maxHeartbeats 8000000 in
set_option maxRecDepth 100000 in
theorem stringslite_HasPrefix.calls (a0 : ByteArray) (a1 : ByteArray) (r : Bool) (w : World) (h : stringslite_HasPrefix.f a0 a1 = some r) :
    Calls Tryd.prog 14 #[.string a0, .string a1] w fun e w' => e = .returned (.bool r) ∧ Drawn0 w w' := by
  have H : (if (a0.size : Int) ≥ (a1.size : Int) then (if 0 ≤ (a1.size : Int) then (if (a1.size : Int) ≤ (a0.size : Int) then (some ((a0.extract 0 ((a1.size : Int) : Int).toNat).toList == a1.toList)) else (none)) else (none)) else (some false)) = some r := h
  clear h
  by_cases c3 : (a0.size : Int) ≥ (a1.size : Int)
  · rw [if_pos c3] at H
    have c3b0 : decide ((a1.size : Int) ≤ (a0.size : Int)) = true := decide_eq_true c3
    have c3b1 : decide (a1.size ≤ a0.size) = true := decide_eq_true (Int.ofNat_le.mp c3)
    clear c3
    by_cases c4 : 0 ≤ (a1.size : Int)
    · rw [if_pos c4] at H
      have c4b0 := eq_true c4
      have c4b1 : decide (0 ≤ (a1.size : Int)) = true := decide_eq_true c4
      clear c4
      by_cases c5 : (a1.size : Int) ≤ (a0.size : Int)
      · rw [if_pos c5] at H
        have c5b0 := eq_true c5
        have c5b1 : decide ((a1.size : Int) ≤ (a0.size : Int)) = true := decide_eq_true c5
        clear c5
        obtain rfl := Option.some.inj H
        go_enter Tryd.func14, Tryd.ntmps14
        go_wp2
        go_ret
        exact ⟨by first | rfl | (simp; done) | (simp [*]; done), by repeat (first | exact Drawn0.refl _ | apply Drawn0.step)⟩
      · rw [if_neg c5] at H
        exact absurd H (by simp)
    · rw [if_neg c4] at H
      exact absurd H (by simp)
  · rw [if_neg c3] at H
    have c3b0 : decide ((a1.size : Int) ≤ (a0.size : Int)) = false := decide_eq_false c3
    have c3b1 : decide (a1.size ≤ a0.size) = false := decide_eq_false (fun h => c3 (Int.ofNat_le.mpr h))
    clear c3
    obtain rfl := Option.some.inj H
    go_enter Tryd.func14, Tryd.ntmps14
    go_wp2
    go_ret
    exact ⟨by first | rfl | (simp; done) | (simp [*]; done), by repeat (first | exact Drawn0.refl _ | apply Drawn0.step)⟩

/-! ### stringslite_TrimPrefix: function 11 -/
def stringslite_TrimPrefix.f (a0 : ByteArray) (a1 : ByteArray) : Option (ByteArray) := (stringslite_HasPrefix.f a0 a1).bind fun t103 => (if t103 = true then (if 0 ≤ (a1.size : Int) then (if (a1.size : Int) ≤ (a0.size : Int) then (some (a0.extract ((a1.size : Int) : Int).toNat a0.size)) else (none)) else (none)) else (some a0))
set_option maxHeartbeats 8000000 in
set_option maxRecDepth 100000 in
theorem stringslite_TrimPrefix.calls (a0 : ByteArray) (a1 : ByteArray) (r : ByteArray) (w : World) (h : stringslite_TrimPrefix.f a0 a1 = some r) :
    Calls Tryd.prog 11 #[.string a0, .string a1] w fun e w' => e = .returned (.string r) ∧ Drawn0 w w' := by
  have H : ((stringslite_HasPrefix.f a0 a1).bind fun t103 => (if t103 = true then (if 0 ≤ (a1.size : Int) then (if (a1.size : Int) ≤ (a0.size : Int) then (some (a0.extract ((a1.size : Int) : Int).toNat a0.size)) else (none)) else (none)) else (some a0))) = some r := h
  clear h
  replace H := Option.bind_eq_some_iff.mp H
  obtain ⟨t103, A30, H⟩ := H
  replace H : (if t103 = true then (if 0 ≤ (a1.size : Int) then (if (a1.size : Int) ≤ (a0.size : Int) then (some (a0.extract ((a1.size : Int) : Int).toNat a0.size)) else (none)) else (none)) else (some a0)) = some r := H
  have A3 := Aside0.mk A30
  clear A30
  by_cases c4 : t103 = true
  · subst c4
    have H1 : (if 0 ≤ (a1.size : Int) then (if (a1.size : Int) ≤ (a0.size : Int) then (some (a0.extract ((a1.size : Int) : Int).toNat a0.size)) else (none)) else (none)) = some r := by rw [if_pos rfl] at H; exact H
    clear H
    have H := H1
    clear H1
    by_cases c5 : 0 ≤ (a1.size : Int)
    · rw [if_pos c5] at H
      have c5b0 := eq_true c5
      have c5b1 : decide (0 ≤ (a1.size : Int)) = true := decide_eq_true c5
      clear c5
      by_cases c6 : (a1.size : Int) ≤ (a0.size : Int)
      · rw [if_pos c6] at H
        have c6b0 := eq_true c6
        have c6b1 : decide ((a1.size : Int) ≤ (a0.size : Int)) = true := decide_eq_true c6
        clear c6
        obtain rfl := Option.some.inj H
        go_enter Tryd.func11, Tryd.ntmps11
        go_wp2_with (first | ((with_reducible refine gate_callee (f := 14) rfl ?_); refine goesL_ (some 7) rfl rfl Tryd.func14 (by kernel_rfl) rfl #[.string a0, .string a1] rfl (by (try simp only [List.map_toArray, List.map_cons, List.map_nil]); first | done | rfl | (simp only [List.length_drop, List.length_take]; rfl)) ?_; (with_reducible refine (stringslite_HasPrefix.calls a0 a1 true _ A3.out).mono ?_); rintro e w' ⟨rfl, ⟨nd, rfl⟩⟩; refine ⟨_, rfl, ?_⟩))
        go_ret
        exact ⟨by first | rfl | (simp; done) | (simp [*]; done), by repeat (first | exact Drawn0.refl _ | apply Drawn0.step)⟩
      · rw [if_neg c6] at H
        exact absurd H (by simp)
    · rw [if_neg c5] at H
      exact absurd H (by simp)
  · replace c4 := Bool.eq_false_iff.mpr c4
    subst c4
    have H1 : (some a0) = some r := by rw [if_neg (show ¬ (false = true) by decide)] at H; exact H
    clear H
    have H := H1
    clear H1
    obtain rfl := Option.some.inj H
    go_enter Tryd.func11, Tryd.ntmps11
    go_wp2_with (first | ((with_reducible refine gate_callee (f := 14) rfl ?_); refine goesL_ (some 7) rfl rfl Tryd.func14 (by kernel_rfl) rfl #[.string a0, .string a1] rfl (by (try simp only [List.map_toArray, List.map_cons, List.map_nil]); first | done | rfl | (simp only [List.length_drop, List.length_take]; rfl)) ?_; (with_reducible refine (stringslite_HasPrefix.calls a0 a1 false _ A3.out).mono ?_); rintro e w' ⟨rfl, ⟨nd, rfl⟩⟩; refine ⟨_, rfl, ?_⟩))
    go_ret
    exact ⟨by first | rfl | (simp; done) | (simp [*]; done), by repeat (first | exact Drawn0.refl _ | apply Drawn0.step)⟩

/-! ### strings_TrimPrefix: function 8 -/
def strings_TrimPrefix.f (a0 : ByteArray) (a1 : ByteArray) : Option (ByteArray) := (stringslite_TrimPrefix.f a0 a1).bind fun t104 => (some t104)
set_option maxHeartbeats 8000000 in
set_option maxRecDepth 100000 in
theorem strings_TrimPrefix.calls (a0 : ByteArray) (a1 : ByteArray) (r : ByteArray) (w : World) (h : strings_TrimPrefix.f a0 a1 = some r) :
    Calls Tryd.prog 8 #[.string a0, .string a1] w fun e w' => e = .returned (.string r) ∧ Drawn0 w w' := by
  have H : ((stringslite_TrimPrefix.f a0 a1).bind fun t104 => (some t104)) = some r := h
  clear h
  replace H := Option.bind_eq_some_iff.mp H
  obtain ⟨t104, A30, H⟩ := H
  replace H : (some t104) = some r := H
  have A3 := Aside0.mk A30
  clear A30
  obtain rfl := Option.some.inj H
  go_enter Tryd.func8, Tryd.ntmps8
  go_wp2_with (first | ((with_reducible refine gate_callee (f := 11) rfl ?_); refine goesL_ (some 7) rfl rfl Tryd.func11 (by kernel_rfl) rfl #[.string a0, .string a1] rfl (by (try simp only [List.map_toArray, List.map_cons, List.map_nil]); first | done | rfl | (simp only [List.length_drop, List.length_take]; rfl)) ?_; (with_reducible refine (stringslite_TrimPrefix.calls a0 a1 t104 _ A3.out).mono ?_); rintro e w' ⟨rfl, ⟨nd, rfl⟩⟩; refine ⟨_, rfl, ?_⟩))
  go_ret
  exact ⟨by first | rfl | (simp; done) | (simp [*]; done), by repeat (first | exact Drawn0.refl _ | apply Drawn0.step)⟩

-- NOT PRINTED: function 18 (bytealg_IndexByteString)

-- NOT PRINTED: function 15 (stringslite_IndexByte)

-- NOT PRINTED: function 12 (strings_IndexByte)

-- NOT PRINTED: function 9 (compat_splitOffNextPreReleasePart)

/-! ### strconv_lower: function 28 -/
def strconv_lower.f (a0 : Int) : Option (Int) := some (Go.bits .or .u8 a0 32)
set_option maxHeartbeats 8000000 in
set_option maxRecDepth 100000 in
theorem strconv_lower.calls (a0 : Int) (r : Int) (w : World) (h : strconv_lower.f a0 = some r) :
    Calls Tryd.prog 28 #[.int .u8 a0] w fun e w' => e = .returned (.int .u8 r) ∧ Drawn0 w w' := by
  have H : (some (Go.bits .or .u8 a0 32)) = some r := h
  clear h
  obtain rfl := Option.some.inj H
  go_enter Tryd.func28, Tryd.ntmps28
  go_wp2
  go_ret
  exact ⟨by first | rfl | (simp; done) | (simp [*]; done), by repeat (first | exact Drawn0.refl _ | apply Drawn0.step)⟩

end Go.Proofs.YteokaphenmnckaaDoor.PFnSemverTurns
