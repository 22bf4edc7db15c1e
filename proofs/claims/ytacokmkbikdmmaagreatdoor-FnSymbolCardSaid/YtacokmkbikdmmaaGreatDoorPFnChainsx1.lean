-- PRINTED BY print.sh 35421559b90ae4d0a3588c463048766b98c2df88dd9212a6774a882060cdf62d: not written by this session
import Derived.Test.YtacokmkbikdmmaaGreatDoorPFnChainsx0
namespace Go.Proofs.YtacokmkbikdmmaaGreatDoor.PFnChains
open Go.RowKit Go.Proofs.YtacokmkbikdmmaaGreatDoorW.PrintWords Go.Proofs.YtacokmkbikdmmaaGreatDoorW.PrintLast Go.Proofs.YtacokmkbikdmmaaGreatDoorW.PrintMore
attribute [local go_sem] max2_int min2_int max_two min_two max_three min_three max_four min_four   -- for this text's walks alone
set_option linter.unusedVariables false
set_option linter.unusedSimpArgs false

-- NOT PRINTED: function 6 (laws_zzFits3)

-- NOT PRINTED: function 14 (spec_shallow)

-- NOT PRINTED: function 15 (spec_MeanSizeOf)

/-! ### spec_uses: function 25 -/
mutual
def spec_uses.j0 : Nat → Int → Bool → Option (Int × Int × Int × Int)
  | 0, _, _ => none
  | k + 1, x6, x7 => if x7 = true then (some (0, 0, 0, 0)) else (if x6 = 2 then (spec_uses.j1 k x6 (x6 == 2)) else (spec_uses.j1 k x6 (x6 == 3)))
def spec_uses.j1 : Nat → Int → Bool → Option (Int × Int × Int × Int)
  | 0, _, _ => none
  | k + 1, x6, x15 => if x15 = true then (some (8, 0, 0, 0)) else (if x6 = 4 then (some (16, 0, 0, 256)) else (if x6 = 5 then (spec_uses.j2 k x6 (x6 == 5)) else (spec_uses.j2 k x6 (x6 == 6))))
def spec_uses.j2 : Nat → Int → Bool → Option (Int × Int × Int × Int)
  | 0, _, _ => none
  | k + 1, x6, x20 => if x20 = true then (some (32, 0, 0, 0)) else (if x6 = 8 then (some (2, 0, 0, 11)) else (if x6 = 11 then (some (0, 0, 200, 0)) else (if x6 = 12 then (some (64, 0, 0, 0)) else (if x6 = 13 then (some (1, 1, 1, 48)) else (if x6 = 14 then (some (1, 2, 2, 0)) else (if x6 = 15 then (some (0, 3, 3, 0)) else (if x6 = 16 then (some (36, 1, 1, 7)) else (if x6 = 17 then (some (4, 2, 2, 7)) else (if x6 = 18 then (some (5, 1, 200, 64)) else (if x6 = 19 then (some (0, 1, 200, 64)) else (if x6 = 20 then (some (176, 0, 1, 192)) else (if x6 = 24 then (some (32, 1, 1, 0)) else (some (0, 1, 0, 0))))))))))))))
end
def spec_uses.f (k : Nat) (a0 : Int) : Option (Int × Int × Int × Int) := if a0 = 0 then (spec_uses.j0 k a0 (a0 == 0)) else (if a0 = 1 then (spec_uses.j0 k a0 (a0 == 1)) else (if a0 = 7 then (spec_uses.j0 k a0 (a0 == 7)) else (if a0 = 21 then (spec_uses.j0 k a0 (a0 == 21)) else (if a0 = 22 then (spec_uses.j0 k a0 (a0 == 22)) else (if a0 = 25 then (spec_uses.j0 k a0 (a0 == 25)) else (spec_uses.j0 k a0 (a0 == 26)))))))
theorem spec_uses.mono_l : ∀ k, (∀ y0 y1, LeO (spec_uses.j0 k y0 y1) (spec_uses.j0 (k + 1) y0 y1)) ∧ (∀ y0 y1, LeO (spec_uses.j1 k y0 y1) (spec_uses.j1 (k + 1) y0 y1)) ∧ (∀ y0 y1, LeO (spec_uses.j2 k y0 y1) (spec_uses.j2 (k + 1) y0 y1))
  | 0 => ⟨fun _ _ r h => by simp [spec_uses.j0] at h, fun _ _ r h => by simp [spec_uses.j1] at h, fun _ _ r h => by simp [spec_uses.j2] at h⟩
  | k + 1 => by
    obtain ⟨ih0, ih1, ih2⟩ := spec_uses.mono_l k
    refine ⟨?_, ?_, ?_⟩
    · intro y0 y1
      unfold spec_uses.j0
      repeat' first
      | (with_reducible exact ih0 _ _)
      | (with_reducible exact ih1 _ _)
      | (with_reducible exact ih2 _ _)
      | (with_reducible exact LeO.refl _)
      | (with_reducible exact LeO.none _)
      | (with_reducible refine LeO.ite ?_ ?_)
      | (with_reducible refine LeO.bind ?_ (fun _ => ?_))
      | exact ih0 _ _
      | exact ih1 _ _
      | exact ih2 _ _
      | exact LeO.none _
      | refine LeO.ite ?_ ?_
      | refine LeO.bind ?_ (fun _ => ?_)
    · intro y0 y1
      unfold spec_uses.j1
      repeat' first
      | (with_reducible exact ih0 _ _)
      | (with_reducible exact ih1 _ _)
      | (with_reducible exact ih2 _ _)
      | (with_reducible exact LeO.refl _)
      | (with_reducible exact LeO.none _)
      | (with_reducible refine LeO.ite ?_ ?_)
      | (with_reducible refine LeO.bind ?_ (fun _ => ?_))
      | exact ih0 _ _
      | exact ih1 _ _
      | exact ih2 _ _
      | exact LeO.none _
      | refine LeO.ite ?_ ?_
      | refine LeO.bind ?_ (fun _ => ?_)
    · intro y0 y1
      unfold spec_uses.j2
      repeat' first
      | (with_reducible exact ih0 _ _)
      | (with_reducible exact ih1 _ _)
      | (with_reducible exact ih2 _ _)
      | (with_reducible exact LeO.refl _)
      | (with_reducible exact LeO.none _)
      | (with_reducible refine LeO.ite ?_ ?_)
      | (with_reducible refine LeO.bind ?_ (fun _ => ?_))
      | exact ih0 _ _
      | exact ih1 _ _
      | exact ih2 _ _
      | exact LeO.none _
      | refine LeO.ite ?_ ?_
      | refine LeO.bind ?_ (fun _ => ?_)
theorem spec_uses.mono : ∀ a0 k, LeO (spec_uses.f k a0) (spec_uses.f (k + 1) a0) := by
  intro a0 k
  obtain ⟨ih0, ih1, ih2⟩ := spec_uses.mono_l k
  unfold spec_uses.f
  repeat' first
      | (with_reducible exact ih0 _ _)
      | (with_reducible exact ih1 _ _)
      | (with_reducible exact ih2 _ _)
      | (with_reducible exact LeO.refl _)
      | (with_reducible exact LeO.none _)
      | (with_reducible refine LeO.ite ?_ ?_)
      | (with_reducible refine LeO.bind ?_ (fun _ => ?_))
      | exact ih0 _ _
      | exact ih1 _ _
      | exact ih2 _ _
      | exact LeO.none _
      | refine LeO.ite ?_ ?_
      | refine LeO.bind ?_ (fun _ => ?_)
set_option maxHeartbeats 8000000 in
set_option maxRecDepth 100000 in
theorem spec_uses.calls (k : Nat) (a0 : Int) (r1 : Int) (r2 : Int) (r3 : Int) (r4 : Int) (w : World) (h : spec_uses.f k a0 = some (r1, r2, r3, r4)) :
    Calls Tryz.prog 25 #[.int .i64 a0] w fun e w' => e = .returned (.tuple #[.int .i64 r1, .int .i64 r2, .int .i64 r3, .int .i64 r4]) ∧ Drawn0 w w' := by
  have H : (if a0 = 0 then (spec_uses.j0 k a0 (a0 == 0)) else (if a0 = 1 then (spec_uses.j0 k a0 (a0 == 1)) else (if a0 = 7 then (spec_uses.j0 k a0 (a0 == 7)) else (if a0 = 21 then (spec_uses.j0 k a0 (a0 == 21)) else (if a0 = 22 then (spec_uses.j0 k a0 (a0 == 22)) else (if a0 = 25 then (spec_uses.j0 k a0 (a0 == 25)) else (spec_uses.j0 k a0 (a0 == 26)))))))) = some (r1, r2, r3, r4) := h
  clear h
  have HC2 := Aside0.mk H
  clear H
  go_enter Tryz.func25, Tryz.ntmps25
  go_upto_if 7 with (fail)
  go_cut [7] (fun v7 wc => ∃ (kq : Nat) (x7_1 : Bool), v7 = .bool x7_1 ∧ Aside0 (spec_uses.j0 kq a0 x7_1 = some (r1, r2, r3, r4)) ∧ Aside0 (kq ≤ k) ∧ Drawn0 w wc)
  case first =>
    have H := HC2.out
    clear HC2
    by_cases c3 : a0 = 0
    · rw [if_pos c3] at H
      have c3b0 : (a0 == 0) = true := beq_iff_eq.mpr c3
      have c3b1 : (a0 != 0) = false := bne_eq_false_iff_eq.mpr c3
      clear c3
      (first | rw [c3b0] | (simp only [i64_w, i32_w]; rw [c3b0]) | skip)
      have H' := Aside0.mk H
      clear H
      go_wp2
      go_meet
      case rel => exact ⟨_, ((a0 == 0)), (by first | rfl | (simp; done) | (simp [*]; done)), H', ⟨by first | omega | exact Nat.le_refl _⟩, by repeat (first | exact Drawn0.refl _ | apply Drawn0.step)⟩
    · rw [if_neg c3] at H
      have c3b0 : (a0 == 0) = false := beq_eq_false_iff_ne.mpr c3
      have c3b1 : (a0 != 0) = true := bne_iff_ne.mpr c3
      (first | rw [c3b0] | (simp only [i64_w, i32_w]; rw [c3b0]) | skip)
      by_cases c4 : a0 = 1
      · rw [if_pos c4] at H
        have c4b0 : (a0 == 1) = true := beq_iff_eq.mpr c4
        have c4b1 : (a0 != 1) = false := bne_eq_false_iff_eq.mpr c4
        clear c4
        have H' := Aside0.mk H
        clear H
        go_wp2
        go_meet
        case rel => exact ⟨_, ((a0 == 1)), (by first | rfl | (simp; done) | (simp [*]; done)), H', ⟨by first | omega | exact Nat.le_refl _⟩, by repeat (first | exact Drawn0.refl _ | apply Drawn0.step)⟩
      · rw [if_neg c4] at H
        have c4b0 : (a0 == 1) = false := beq_eq_false_iff_ne.mpr c4
        have c4b1 : (a0 != 1) = true := bne_iff_ne.mpr c4
        by_cases c5 : a0 = 7
        · rw [if_pos c5] at H
          have c5b0 : (a0 == 7) = true := beq_iff_eq.mpr c5
          have c5b1 : (a0 != 7) = false := bne_eq_false_iff_eq.mpr c5
          clear c5
          have H' := Aside0.mk H
          clear H
          go_wp2
          go_meet
          case rel => exact ⟨_, ((a0 == 7)), (by first | rfl | (simp; done) | (simp [*]; done)), H', ⟨by first | omega | exact Nat.le_refl _⟩, by repeat (first | exact Drawn0.refl _ | apply Drawn0.step)⟩
        · rw [if_neg c5] at H
          have c5b0 : (a0 == 7) = false := beq_eq_false_iff_ne.mpr c5
          have c5b1 : (a0 != 7) = true := bne_iff_ne.mpr c5
          by_cases c6 : a0 = 21
          · rw [if_pos c6] at H
            have c6b0 : (a0 == 21) = true := beq_iff_eq.mpr c6
            have c6b1 : (a0 != 21) = false := bne_eq_false_iff_eq.mpr c6
            clear c6
            have H' := Aside0.mk H
            clear H
            go_wp2
            go_meet
            case rel => exact ⟨_, ((a0 == 21)), (by first | rfl | (simp; done) | (simp [*]; done)), H', ⟨by first | omega | exact Nat.le_refl _⟩, by repeat (first | exact Drawn0.refl _ | apply Drawn0.step)⟩
          · rw [if_neg c6] at H
            have c6b0 : (a0 == 21) = false := beq_eq_false_iff_ne.mpr c6
            have c6b1 : (a0 != 21) = true := bne_iff_ne.mpr c6
            by_cases c7 : a0 = 22
            · rw [if_pos c7] at H
              have c7b0 : (a0 == 22) = true := beq_iff_eq.mpr c7
              have c7b1 : (a0 != 22) = false := bne_eq_false_iff_eq.mpr c7
              clear c7
              have H' := Aside0.mk H
              clear H
              go_wp2
              go_meet
              case rel => exact ⟨_, ((a0 == 22)), (by first | rfl | (simp; done) | (simp [*]; done)), H', ⟨by first | omega | exact Nat.le_refl _⟩, by repeat (first | exact Drawn0.refl _ | apply Drawn0.step)⟩
            · rw [if_neg c7] at H
              have c7b0 : (a0 == 22) = false := beq_eq_false_iff_ne.mpr c7
              have c7b1 : (a0 != 22) = true := bne_iff_ne.mpr c7
              by_cases c8 : a0 = 25
              · rw [if_pos c8] at H
                have c8b0 : (a0 == 25) = true := beq_iff_eq.mpr c8
                have c8b1 : (a0 != 25) = false := bne_eq_false_iff_eq.mpr c8
                clear c8
                have H' := Aside0.mk H
                clear H
                go_wp2
                go_meet
                case rel => exact ⟨_, ((a0 == 25)), (by first | rfl | (simp; done) | (simp [*]; done)), H', ⟨by first | omega | exact Nat.le_refl _⟩, by repeat (first | exact Drawn0.refl _ | apply Drawn0.step)⟩
              · rw [if_neg c8] at H
                have c8b0 : (a0 == 25) = false := beq_eq_false_iff_ne.mpr c8
                have c8b1 : (a0 != 25) = true := bne_iff_ne.mpr c8
                have H' := Aside0.mk H
                clear H
                go_wp2
                go_meet
                case rel => exact ⟨_, ((a0 == 26)), (by first | rfl | (simp; done) | (simp [*]; done)), H', ⟨by first | omega | exact Nat.le_refl _⟩, by repeat (first | exact Drawn0.refl _ | apply Drawn0.step)⟩
  case rest =>
    clear HC2
    try clear c2
    try clear p2
    try clear c3
    try clear c3b0
    try clear c3b1
    try clear c4
    try clear c4b0
    try clear c4b1
    try clear c5
    try clear c5b0
    try clear c5b1
    try clear c6
    try clear c6b0
    try clear c6b1
    try clear c7
    try clear c7b0
    try clear c7b1
    try clear c8
    try clear c8b0
    try clear c8b1
    obtain ⟨kq, x7_1, rfl, HA, HJ1, ⟨mc1, rfl⟩⟩ := hcut
    cases kq with
    | zero => exact absurd HA.out (by simp [spec_uses.j0])
    | succ kj1 =>
      have H := HA.out
      clear HA
      simp only [spec_uses.j0] at H
      by_cases c9 : x7_1 = true
      · subst c9
        have H1 : (some (0, 0, 0, 0)) = some (r1, r2, r3, r4) := by rw [if_pos rfl] at H; exact H
        clear H
        have H := H1
        clear H1
        simp only [Option.some.injEq, Prod.mk.injEq] at H
        obtain ⟨rfl, rfl, rfl, rfl⟩ := H
        go_wp2
        refine bodyPost_ret (results_list (rs := [.tmp 2, .tmp 3, .tmp 4, .tmp 5]) rfl (by simp) (.tmp (.tmp (.tmp (.tmp .nil))))) rfl ?_
        exact ⟨by first | rfl | (simp; done) | (simp [*]; done), by repeat (first | exact Drawn0.refl _ | apply Drawn0.step)⟩
      · replace c9 := Bool.eq_false_iff.mpr c9
        subst c9
        have H1 : (if a0 = 2 then (spec_uses.j1 kj1 a0 (a0 == 2)) else (spec_uses.j1 kj1 a0 (a0 == 3))) = some (r1, r2, r3, r4) := by rw [if_neg (show ¬ (false = true) by decide)] at H; exact H
        clear H
        have H := H1
        clear H1
        have HC10 := Aside0.mk H
        clear H
        go_upto_if 15 with (fail)
        go_cut [15] (fun v15 wc => ∃ (kq : Nat) (x15_9 : Bool), v15 = .bool x15_9 ∧ Aside0 (spec_uses.j1 kq a0 x15_9 = some (r1, r2, r3, r4)) ∧ Aside0 (kq ≤ kj1) ∧ Drawn0 w wc)
        case first =>
          have H := HC10.out
          clear HC10
          by_cases c11 : a0 = 2
          · rw [if_pos c11] at H
            have c11b0 : (a0 == 2) = true := beq_iff_eq.mpr c11
            have c11b1 : (a0 != 2) = false := bne_eq_false_iff_eq.mpr c11
            clear c11
            (first | rw [c11b0] | (simp only [i64_w, i32_w]; rw [c11b0]) | skip)
            have H' := Aside0.mk H
            clear H
            go_wp2
            go_meet
            case rel => exact ⟨_, ((a0 == 2)), (by first | rfl | (simp; done) | (simp [*]; done)), H', ⟨by have := HJ1.out; first | omega | exact Nat.le_refl _⟩, by repeat (first | exact Drawn0.refl _ | apply Drawn0.step)⟩
          · rw [if_neg c11] at H
            have c11b0 : (a0 == 2) = false := beq_eq_false_iff_ne.mpr c11
            have c11b1 : (a0 != 2) = true := bne_iff_ne.mpr c11
            (first | rw [c11b0] | (simp only [i64_w, i32_w]; rw [c11b0]) | skip)
            have H' := Aside0.mk H
            clear H
            go_wp2
            go_meet
            case rel => exact ⟨_, ((a0 == 3)), (by first | rfl | (simp; done) | (simp [*]; done)), H', ⟨by have := HJ1.out; first | omega | exact Nat.le_refl _⟩, by repeat (first | exact Drawn0.refl _ | apply Drawn0.step)⟩
        case rest =>
          clear HC10
          try clear c1
          try clear c2
          try clear p2
          try clear c3
          try clear c3b0
          try clear c3b1
          try clear c4
          try clear c4b0
          try clear c4b1
          try clear c5
          try clear c5b0
          try clear c5b1
          try clear c6
          try clear c6b0
          try clear c6b1
          try clear c7
          try clear c7b0
          try clear c7b1
          try clear c8
          try clear c8b0
          try clear c8b1
          try clear c9
          try clear c11
          try clear c11b0
          try clear c11b1
          try clear p2
          obtain ⟨kq, x15_9, rfl, HA, HJ9, ⟨mc9, rfl⟩⟩ := hcut
          cases kq with
          | zero => exact absurd HA.out (by simp [spec_uses.j1])
          | succ kj9 =>
            have H := HA.out
            clear HA
            simp only [spec_uses.j1] at H
            by_cases c12 : x15_9 = true
            · subst c12
              have H1 : (some (8, 0, 0, 0)) = some (r1, r2, r3, r4) := by rw [if_pos rfl] at H; exact H
              clear H
              have H := H1
              clear H1
              simp only [Option.some.injEq, Prod.mk.injEq] at H
              obtain ⟨rfl, rfl, rfl, rfl⟩ := H
              go_wp2
              refine bodyPost_ret (results_list (rs := [.tmp 2, .tmp 3, .tmp 4, .tmp 5]) rfl (by simp) (.tmp (.tmp (.tmp (.tmp .nil))))) rfl ?_
              exact ⟨by first | rfl | (simp; done) | (simp [*]; done), by repeat (first | exact Drawn0.refl _ | apply Drawn0.step)⟩
            · replace c12 := Bool.eq_false_iff.mpr c12
              subst c12
              have H1 : (if a0 = 4 then (some (16, 0, 0, 256)) else (if a0 = 5 then (spec_uses.j2 kj9 a0 (a0 == 5)) else (spec_uses.j2 kj9 a0 (a0 == 6)))) = some (r1, r2, r3, r4) := by rw [if_neg (show ¬ (false = true) by decide)] at H; exact H
              clear H
              have H := H1
              clear H1
              by_cases c13 : a0 = 4
              · rw [if_pos c13] at H
                have c13b0 : (a0 == 4) = true := beq_iff_eq.mpr c13
                have c13b1 : (a0 != 4) = false := bne_eq_false_iff_eq.mpr c13
                clear c13
                simp only [Option.some.injEq, Prod.mk.injEq] at H
                obtain ⟨rfl, rfl, rfl, rfl⟩ := H
                go_wp2
                refine bodyPost_ret (results_list (rs := [.tmp 2, .tmp 3, .tmp 4, .tmp 5]) rfl (by simp) (.tmp (.tmp (.tmp (.tmp .nil))))) rfl ?_
                exact ⟨by first | rfl | (simp; done) | (simp [*]; done), by repeat (first | exact Drawn0.refl _ | apply Drawn0.step)⟩
              · rw [if_neg c13] at H
                have c13b0 : (a0 == 4) = false := beq_eq_false_iff_ne.mpr c13
                have c13b1 : (a0 != 4) = true := bne_iff_ne.mpr c13
                have HC14 := Aside0.mk H
                clear H
                go_upto_if 20 with (fail)
                go_cut [20] (fun v20 wc => ∃ (kq : Nat) (x20_13 : Bool), v20 = .bool x20_13 ∧ Aside0 (spec_uses.j2 kq a0 x20_13 = some (r1, r2, r3, r4)) ∧ Aside0 (kq ≤ kj9) ∧ Drawn0 w wc)
                case first =>
                  have H := HC14.out
                  clear HC14
                  by_cases c15 : a0 = 5
                  · rw [if_pos c15] at H
                    have c15b0 : (a0 == 5) = true := beq_iff_eq.mpr c15
                    have c15b1 : (a0 != 5) = false := bne_eq_false_iff_eq.mpr c15
                    clear c15
                    (first | rw [c15b0] | (simp only [i64_w, i32_w]; rw [c15b0]) | skip)
                    have H' := Aside0.mk H
                    clear H
                    go_wp2
                    go_meet
                    case rel => exact ⟨_, ((a0 == 5)), (by first | rfl | (simp; done) | (simp [*]; done)), H', ⟨by have := HJ1.out; have := HJ9.out; first | omega | exact Nat.le_refl _⟩, by repeat (first | exact Drawn0.refl _ | apply Drawn0.step)⟩
                  · rw [if_neg c15] at H
                    have c15b0 : (a0 == 5) = false := beq_eq_false_iff_ne.mpr c15
                    have c15b1 : (a0 != 5) = true := bne_iff_ne.mpr c15
                    (first | rw [c15b0] | (simp only [i64_w, i32_w]; rw [c15b0]) | skip)
                    have H' := Aside0.mk H
                    clear H
                    go_wp2
                    go_meet
                    case rel => exact ⟨_, ((a0 == 6)), (by first | rfl | (simp; done) | (simp [*]; done)), H', ⟨by have := HJ1.out; have := HJ9.out; first | omega | exact Nat.le_refl _⟩, by repeat (first | exact Drawn0.refl _ | apply Drawn0.step)⟩
                case rest =>
                  clear HC14
                  try clear c1
                  try clear c2
                  try clear p2
                  try clear c3
                  try clear c3b0
                  try clear c3b1
                  try clear c4
                  try clear c4b0
                  try clear c4b1
                  try clear c5
                  try clear c5b0
                  try clear c5b1
                  try clear c6
                  try clear c6b0
                  try clear c6b1
                  try clear c7
                  try clear c7b0
                  try clear c7b1
                  try clear c8
                  try clear c8b0
                  try clear c8b1
                  try clear c9
                  try clear c11
                  try clear c11b0
                  try clear c11b1
                  try clear c12
                  try clear c13
                  try clear c13b0
                  try clear c13b1
                  try clear c15
                  try clear c15b0
                  try clear c15b1
                  try clear p2
                  obtain ⟨kq, x20_13, rfl, HA, HJ13, ⟨mc13, rfl⟩⟩ := hcut
                  cases kq with
                  | zero => exact absurd HA.out (by simp [spec_uses.j2])
                  | succ kj13 =>
                    have H := HA.out
                    clear HA
                    simp only [spec_uses.j2] at H
                    by_cases c16 : x20_13 = true
                    · subst c16
                      have H1 : (some (32, 0, 0, 0)) = some (r1, r2, r3, r4) := by rw [if_pos rfl] at H; exact H
                      clear H
                      have H := H1
                      clear H1
                      simp only [Option.some.injEq, Prod.mk.injEq] at H
                      obtain ⟨rfl, rfl, rfl, rfl⟩ := H
                      go_wp2
                      refine bodyPost_ret (results_list (rs := [.tmp 2, .tmp 3, .tmp 4, .tmp 5]) rfl (by simp) (.tmp (.tmp (.tmp (.tmp .nil))))) rfl ?_
                      exact ⟨by first | rfl | (simp; done) | (simp [*]; done), by repeat (first | exact Drawn0.refl _ | apply Drawn0.step)⟩
                    · replace c16 := Bool.eq_false_iff.mpr c16
                      subst c16
                      have H1 : (if a0 = 8 then (some (2, 0, 0, 11)) else (if a0 = 11 then (some (0, 0, 200, 0)) else (if a0 = 12 then (some (64, 0, 0, 0)) else (if a0 = 13 then (some (1, 1, 1, 48)) else (if a0 = 14 then (some (1, 2, 2, 0)) else (if a0 = 15 then (some (0, 3, 3, 0)) else (if a0 = 16 then (some (36, 1, 1, 7)) else (if a0 = 17 then (some (4, 2, 2, 7)) else (if a0 = 18 then (some (5, 1, 200, 64)) else (if a0 = 19 then (some (0, 1, 200, 64)) else (if a0 = 20 then (some (176, 0, 1, 192)) else (if a0 = 24 then (some (32, 1, 1, 0)) else (some (0, 1, 0, 0)))))))))))))) = some (r1, r2, r3, r4) := by rw [if_neg (show ¬ (false = true) by decide)] at H; exact H
                      clear H
                      have H := H1
                      clear H1
                      by_cases c17 : a0 = 8
                      · rw [if_pos c17] at H
                        have c17b0 : (a0 == 8) = true := beq_iff_eq.mpr c17
                        have c17b1 : (a0 != 8) = false := bne_eq_false_iff_eq.mpr c17
                        clear c17
                        simp only [Option.some.injEq, Prod.mk.injEq] at H
                        obtain ⟨rfl, rfl, rfl, rfl⟩ := H
                        go_wp2
                        refine bodyPost_ret (results_list (rs := [.tmp 2, .tmp 3, .tmp 4, .tmp 5]) rfl (by simp) (.tmp (.tmp (.tmp (.tmp .nil))))) rfl ?_
                        exact ⟨by first | rfl | (simp; done) | (simp [*]; done), by repeat (first | exact Drawn0.refl _ | apply Drawn0.step)⟩
                      · rw [if_neg c17] at H
                        have c17b0 : (a0 == 8) = false := beq_eq_false_iff_ne.mpr c17
                        have c17b1 : (a0 != 8) = true := bne_iff_ne.mpr c17
                        by_cases c18 : a0 = 11
                        · rw [if_pos c18] at H
                          have c18b0 : (a0 == 11) = true := beq_iff_eq.mpr c18
                          have c18b1 : (a0 != 11) = false := bne_eq_false_iff_eq.mpr c18
                          clear c18
                          simp only [Option.some.injEq, Prod.mk.injEq] at H
                          obtain ⟨rfl, rfl, rfl, rfl⟩ := H
                          go_wp2
                          refine bodyPost_ret (results_list (rs := [.tmp 2, .tmp 3, .tmp 4, .tmp 5]) rfl (by simp) (.tmp (.tmp (.tmp (.tmp .nil))))) rfl ?_
                          exact ⟨by first | rfl | (simp; done) | (simp [*]; done), by repeat (first | exact Drawn0.refl _ | apply Drawn0.step)⟩
                        · rw [if_neg c18] at H
                          have c18b0 : (a0 == 11) = false := beq_eq_false_iff_ne.mpr c18
                          have c18b1 : (a0 != 11) = true := bne_iff_ne.mpr c18
                          by_cases c19 : a0 = 12
                          · rw [if_pos c19] at H
                            have c19b0 : (a0 == 12) = true := beq_iff_eq.mpr c19
                            have c19b1 : (a0 != 12) = false := bne_eq_false_iff_eq.mpr c19
                            clear c19
                            simp only [Option.some.injEq, Prod.mk.injEq] at H
                            obtain ⟨rfl, rfl, rfl, rfl⟩ := H
                            go_wp2
                            refine bodyPost_ret (results_list (rs := [.tmp 2, .tmp 3, .tmp 4, .tmp 5]) rfl (by simp) (.tmp (.tmp (.tmp (.tmp .nil))))) rfl ?_
                            exact ⟨by first | rfl | (simp; done) | (simp [*]; done), by repeat (first | exact Drawn0.refl _ | apply Drawn0.step)⟩
                          · rw [if_neg c19] at H
                            have c19b0 : (a0 == 12) = false := beq_eq_false_iff_ne.mpr c19
                            have c19b1 : (a0 != 12) = true := bne_iff_ne.mpr c19
                            by_cases c20 : a0 = 13
                            · rw [if_pos c20] at H
                              have c20b0 : (a0 == 13) = true := beq_iff_eq.mpr c20
                              have c20b1 : (a0 != 13) = false := bne_eq_false_iff_eq.mpr c20
                              clear c20
                              simp only [Option.some.injEq, Prod.mk.injEq] at H
                              obtain ⟨rfl, rfl, rfl, rfl⟩ := H
                              go_wp2
                              refine bodyPost_ret (results_list (rs := [.tmp 2, .tmp 3, .tmp 4, .tmp 5]) rfl (by simp) (.tmp (.tmp (.tmp (.tmp .nil))))) rfl ?_
                              exact ⟨by first | rfl | (simp; done) | (simp [*]; done), by repeat (first | exact Drawn0.refl _ | apply Drawn0.step)⟩
                            · rw [if_neg c20] at H
                              have c20b0 : (a0 == 13) = false := beq_eq_false_iff_ne.mpr c20
                              have c20b1 : (a0 != 13) = true := bne_iff_ne.mpr c20
                              by_cases c21 : a0 = 14
                              · rw [if_pos c21] at H
                                have c21b0 : (a0 == 14) = true := beq_iff_eq.mpr c21
                                have c21b1 : (a0 != 14) = false := bne_eq_false_iff_eq.mpr c21
                                clear c21
                                simp only [Option.some.injEq, Prod.mk.injEq] at H
                                obtain ⟨rfl, rfl, rfl, rfl⟩ := H
                                go_wp2
                                refine bodyPost_ret (results_list (rs := [.tmp 2, .tmp 3, .tmp 4, .tmp 5]) rfl (by simp) (.tmp (.tmp (.tmp (.tmp .nil))))) rfl ?_
                                exact ⟨by first | rfl | (simp; done) | (simp [*]; done), by repeat (first | exact Drawn0.refl _ | apply Drawn0.step)⟩
                              · rw [if_neg c21] at H
                                have c21b0 : (a0 == 14) = false := beq_eq_false_iff_ne.mpr c21
                                have c21b1 : (a0 != 14) = true := bne_iff_ne.mpr c21
                                by_cases c22 : a0 = 15
                                · rw [if_pos c22] at H
                                  have c22b0 : (a0 == 15) = true := beq_iff_eq.mpr c22
                                  have c22b1 : (a0 != 15) = false := bne_eq_false_iff_eq.mpr c22
                                  clear c22
                                  simp only [Option.some.injEq, Prod.mk.injEq] at H
                                  obtain ⟨rfl, rfl, rfl, rfl⟩ := H
                                  go_wp2
                                  refine bodyPost_ret (results_list (rs := [.tmp 2, .tmp 3, .tmp 4, .tmp 5]) rfl (by simp) (.tmp (.tmp (.tmp (.tmp .nil))))) rfl ?_
                                  exact ⟨by first | rfl | (simp; done) | (simp [*]; done), by repeat (first | exact Drawn0.refl _ | apply Drawn0.step)⟩
                                · rw [if_neg c22] at H
                                  have c22b0 : (a0 == 15) = false := beq_eq_false_iff_ne.mpr c22
                                  have c22b1 : (a0 != 15) = true := bne_iff_ne.mpr c22
                                  by_cases c23 : a0 = 16
                                  · rw [if_pos c23] at H
                                    have c23b0 : (a0 == 16) = true := beq_iff_eq.mpr c23
                                    have c23b1 : (a0 != 16) = false := bne_eq_false_iff_eq.mpr c23
                                    clear c23
                                    simp only [Option.some.injEq, Prod.mk.injEq] at H
                                    obtain ⟨rfl, rfl, rfl, rfl⟩ := H
                                    go_wp2
                                    refine bodyPost_ret (results_list (rs := [.tmp 2, .tmp 3, .tmp 4, .tmp 5]) rfl (by simp) (.tmp (.tmp (.tmp (.tmp .nil))))) rfl ?_
                                    exact ⟨by first | rfl | (simp; done) | (simp [*]; done), by repeat (first | exact Drawn0.refl _ | apply Drawn0.step)⟩
                                  · rw [if_neg c23] at H
                                    have c23b0 : (a0 == 16) = false := beq_eq_false_iff_ne.mpr c23
                                    have c23b1 : (a0 != 16) = true := bne_iff_ne.mpr c23
                                    by_cases c24 : a0 = 17
                                    · rw [if_pos c24] at H
                                      have c24b0 : (a0 == 17) = true := beq_iff_eq.mpr c24
                                      have c24b1 : (a0 != 17) = false := bne_eq_false_iff_eq.mpr c24
                                      clear c24
                                      simp only [Option.some.injEq, Prod.mk.injEq] at H
                                      obtain ⟨rfl, rfl, rfl, rfl⟩ := H
                                      go_wp2
                                      refine bodyPost_ret (results_list (rs := [.tmp 2, .tmp 3, .tmp 4, .tmp 5]) rfl (by simp) (.tmp (.tmp (.tmp (.tmp .nil))))) rfl ?_
                                      exact ⟨by first | rfl | (simp; done) | (simp [*]; done), by repeat (first | exact Drawn0.refl _ | apply Drawn0.step)⟩
                                    · rw [if_neg c24] at H
                                      have c24b0 : (a0 == 17) = false := beq_eq_false_iff_ne.mpr c24
                                      have c24b1 : (a0 != 17) = true := bne_iff_ne.mpr c24
                                      by_cases c25 : a0 = 18
                                      · rw [if_pos c25] at H
                                        have c25b0 : (a0 == 18) = true := beq_iff_eq.mpr c25
                                        have c25b1 : (a0 != 18) = false := bne_eq_false_iff_eq.mpr c25
                                        clear c25
                                        simp only [Option.some.injEq, Prod.mk.injEq] at H
                                        obtain ⟨rfl, rfl, rfl, rfl⟩ := H
                                        go_wp2
                                        refine bodyPost_ret (results_list (rs := [.tmp 2, .tmp 3, .tmp 4, .tmp 5]) rfl (by simp) (.tmp (.tmp (.tmp (.tmp .nil))))) rfl ?_
                                        exact ⟨by first | rfl | (simp; done) | (simp [*]; done), by repeat (first | exact Drawn0.refl _ | apply Drawn0.step)⟩
                                      · rw [if_neg c25] at H
                                        have c25b0 : (a0 == 18) = false := beq_eq_false_iff_ne.mpr c25
                                        have c25b1 : (a0 != 18) = true := bne_iff_ne.mpr c25
                                        by_cases c26 : a0 = 19
                                        · rw [if_pos c26] at H
                                          have c26b0 : (a0 == 19) = true := beq_iff_eq.mpr c26
                                          have c26b1 : (a0 != 19) = false := bne_eq_false_iff_eq.mpr c26
                                          clear c26
                                          simp only [Option.some.injEq, Prod.mk.injEq] at H
                                          obtain ⟨rfl, rfl, rfl, rfl⟩ := H
                                          go_wp2
                                          refine bodyPost_ret (results_list (rs := [.tmp 2, .tmp 3, .tmp 4, .tmp 5]) rfl (by simp) (.tmp (.tmp (.tmp (.tmp .nil))))) rfl ?_
                                          exact ⟨by first | rfl | (simp; done) | (simp [*]; done), by repeat (first | exact Drawn0.refl _ | apply Drawn0.step)⟩
                                        · rw [if_neg c26] at H
                                          have c26b0 : (a0 == 19) = false := beq_eq_false_iff_ne.mpr c26
                                          have c26b1 : (a0 != 19) = true := bne_iff_ne.mpr c26
                                          by_cases c27 : a0 = 20
                                          · rw [if_pos c27] at H
                                            have c27b0 : (a0 == 20) = true := beq_iff_eq.mpr c27
                                            have c27b1 : (a0 != 20) = false := bne_eq_false_iff_eq.mpr c27
                                            clear c27
                                            simp only [Option.some.injEq, Prod.mk.injEq] at H
                                            obtain ⟨rfl, rfl, rfl, rfl⟩ := H
                                            go_wp2
                                            refine bodyPost_ret (results_list (rs := [.tmp 2, .tmp 3, .tmp 4, .tmp 5]) rfl (by simp) (.tmp (.tmp (.tmp (.tmp .nil))))) rfl ?_
                                            exact ⟨by first | rfl | (simp; done) | (simp [*]; done), by repeat (first | exact Drawn0.refl _ | apply Drawn0.step)⟩
                                          · rw [if_neg c27] at H
                                            have c27b0 : (a0 == 20) = false := beq_eq_false_iff_ne.mpr c27
                                            have c27b1 : (a0 != 20) = true := bne_iff_ne.mpr c27
                                            by_cases c28 : a0 = 24
                                            · rw [if_pos c28] at H
                                              have c28b0 : (a0 == 24) = true := beq_iff_eq.mpr c28
                                              have c28b1 : (a0 != 24) = false := bne_eq_false_iff_eq.mpr c28
                                              clear c28
                                              simp only [Option.some.injEq, Prod.mk.injEq] at H
                                              obtain ⟨rfl, rfl, rfl, rfl⟩ := H
                                              go_wp2
                                              refine bodyPost_ret (results_list (rs := [.tmp 2, .tmp 3, .tmp 4, .tmp 5]) rfl (by simp) (.tmp (.tmp (.tmp (.tmp .nil))))) rfl ?_
                                              exact ⟨by first | rfl | (simp; done) | (simp [*]; done), by repeat (first | exact Drawn0.refl _ | apply Drawn0.step)⟩
                                            · rw [if_neg c28] at H
                                              have c28b0 : (a0 == 24) = false := beq_eq_false_iff_ne.mpr c28
                                              have c28b1 : (a0 != 24) = true := bne_iff_ne.mpr c28
                                              simp only [Option.some.injEq, Prod.mk.injEq] at H
                                              obtain ⟨rfl, rfl, rfl, rfl⟩ := H
                                              go_wp2
                                              refine bodyPost_ret (results_list (rs := [.tmp 2, .tmp 3, .tmp 4, .tmp 5]) rfl (by simp) (.tmp (.tmp (.tmp (.tmp .nil))))) rfl ?_
                                              exact ⟨by first | rfl | (simp; done) | (simp [*]; done), by repeat (first | exact Drawn0.refl _ | apply Drawn0.step)⟩

-- NOT PRINTED: function 42 (math_Float64bits)

-- NOT PRINTED: function 26 (spec_plainZero)

-- NOT PRINTED: function 44 (spec_onChain)

/-! ### spec_UTF8Text: function 45 -/
def spec_UTF8Text.l0 : Nat → List Int → ByteArray → Int → Option (ByteArray)
  | 0, _, _, _ => none
  | k + 1, x0, x3, x4 => if x4 < (x0.length : Int) then (if 0 ≤ x4 then (if (rd x0 x4) ≥ 128 then (some (⟨#[]⟩ : ByteArray)) else ((some (([(rd x0 x4) % 256] : List Int) : List Int)).bind fun y103 => (if x3.size + (strOfNums y103).size ≤ 9223372036854775807 then (spec_UTF8Text.l0 k x0 (x3 ++ (strOfNums y103)) (wrap64 (x4 + 1))) else (none)))) else (none)) else (some x3)
def spec_UTF8Text.f (k : Nat) (l0 : List Int) : Option (ByteArray) := spec_UTF8Text.l0 k l0 (⟨#[]⟩ : ByteArray) 0
theorem spec_UTF8Text.mono_l : ∀ k, (∀ y0 y1 y2, LeO (spec_UTF8Text.l0 k y0 y1 y2) (spec_UTF8Text.l0 (k + 1) y0 y1 y2))
  | 0 => fun _ _ _ r h => by simp [spec_UTF8Text.l0] at h
  | k + 1 => by
    have ih0 := spec_UTF8Text.mono_l k
    · intro y0 y1 y2
      unfold spec_UTF8Text.l0
      repeat' first
      | (with_reducible exact ih0 _ _ _)
      | (with_reducible exact LeO.refl _)
      | (with_reducible exact LeO.none _)
      | (with_reducible refine LeO.ite ?_ ?_)
      | (with_reducible refine LeO.bind ?_ (fun _ => ?_))
      | exact ih0 _ _ _
      | exact LeO.none _
      | refine LeO.ite ?_ ?_
      | refine LeO.bind ?_ (fun _ => ?_)
theorem spec_UTF8Text.mono : ∀ a0 k, LeO (spec_UTF8Text.f k a0) (spec_UTF8Text.f (k + 1) a0) := by
  intro a0 k
  have ih0 := spec_UTF8Text.mono_l k
  unfold spec_UTF8Text.f
  repeat' first
      | (with_reducible exact ih0 _ _ _)
      | (with_reducible exact LeO.refl _)
      | (with_reducible exact LeO.none _)
      | (with_reducible refine LeO.ite ?_ ?_)
      | (with_reducible refine LeO.bind ?_ (fun _ => ?_))
      | exact ih0 _ _ _
      | exact LeO.none _
      | refine LeO.ite ?_ ?_
      | refine LeO.bind ?_ (fun _ => ?_)
set_option maxHeartbeats 8000000 in
set_option maxRecDepth 100000 in
theorem spec_UTF8Text.calls (k : Nat) (A0 : Option Addr) (c0 : Nat) (l0 : List Int) (r : ByteArray) (w : World) (hr0 : Kd.C (Kd.int .u16) w A0 l0.length l0) (hc0 : l0.length ≤ c0) (h : spec_UTF8Text.f k l0 = some r) :
    Calls Tryz.prog 45 #[.slice A0 l0.length c0] w fun e w' => e = .returned (.string r) ∧ Below w.heap.size w w' := by
  have HR0 := Aside0.mk hr0
  have HC0 := Aside0.mk hc0
  clear hr0 hc0
  have HB := Aside0.mk (Below.refl w.heap.size w)
  have H : (spec_UTF8Text.l0 k l0 (⟨#[]⟩ : ByteArray) 0) = some r := h
  clear h
  have H' := Aside0.mk H
  clear H
  go_enter Tryz.func45, Tryz.ntmps45
  go_wp2
  go_loopg [3, 4] k (fun kq v3 v4 w' => ∃ (x3_1 : ByteArray) (x4_1 : Int), v3 = .string x3_1 ∧ v4 = .int .i64 x4_1 ∧ Aside0 (spec_UTF8Text.l0 kq l0 x3_1 x4_1 = some r) ∧ Aside0 (kq ≤ k) ∧ Aside0 (Below w.heap.size w w'))
  case atStart => exact ⟨((⟨#[]⟩ : ByteArray)), (0), (by first | rfl | (simp; done) | (simp [*]; done)), (by first | rfl | (simp; done) | (simp [*]; done)), H', ⟨Nat.le_refl _⟩, ⟨by repeat (first | (with_reducible first | exact HB.out | apply below_alloc | apply pw_below_drewN | apply below_drew1) | exact HB.out)⟩⟩
  case round =>
    clear H'
    obtain ⟨x3_1, x4_1, rfl, rfl, HA, HK1, HB⟩ := hrel
    cases gk with
    | zero => exact absurd HA.out (by simp [spec_UTF8Text.l0])
    | succ k1 =>
      have H := HA.out
      clear HA
      simp only [spec_UTF8Text.l0] at H
      by_cases c2 : x4_1 < (l0.length : Int)
      · rw [if_pos c2] at H
        have c2b0 : decide (x4_1 < (l0.length : Int)) = true := decide_eq_true c2
        clear c2
        by_cases c3 : 0 ≤ x4_1
        · rw [if_pos c3] at H
          have c3b0 : decide (0 ≤ x4_1) = true := decide_eq_true c3
          clear c3
          by_cases c4 : (rd l0 x4_1) ≥ 128
          · rw [if_pos c4] at H
            have c4b0 : decide (128 ≤ (rd l0 x4_1)) = true := decide_eq_true c4
            clear c4
            obtain rfl := Option.some.inj H
            have p101 : 0 ≤ (x4_1 : Int) := of_decide_eq_true (by first | (with_reducible assumption) | assumption)
            have q101 : x4_1 < (l0.length : Int) := of_decide_eq_true (by first | (with_reducible assumption) | assumption)
            obtain ⟨ad101, e101, hx101_0⟩ := Kd.at_int HR0.out x4_1 p101 q101
            cases e101
            replace hx101_0 := (HB.out.cell (World.block_lt_of_cell? w _ hx101_0)).trans hx101_0
            replace p101 := eq_true p101
            replace q101 := eq_true q101
            go_wp2
            go_ret
            exact ⟨by first | rfl | (simp [errW_none, errW_some] <;> rfl) | (simp [*, errW_none, errW_some] <;> rfl), by repeat (first | (with_reducible first | exact HB.out | apply below_alloc | apply pw_below_drewN | apply below_drew1) | exact HB.out)⟩
          · rw [if_neg c4] at H
            have c4b0 : decide (128 ≤ (rd l0 x4_1)) = false := decide_eq_false c4
            clear c4
            obtain ⟨y103, hy103⟩ : ∃ y_ : List Int, y_ = (([(rd l0 x4_1) % 256] : List Int)) := ⟨_, rfl⟩
            replace H : (if x3_1.size + (strOfNums y103).size ≤ 9223372036854775807 then (spec_UTF8Text.l0 k1 l0 (x3_1 ++ (strOfNums y103)) (wrap64 (x4_1 + 1))) else (none)) = some r := by first | (rw [hy103]; with_reducible exact H) | (have H2_ := (Option.bind_some _ _).symm.trans H; rw [hy103]; with_reducible exact H2_) | (have H2_ := (Option.bind_some _ _).symm.trans H; with_reducible exact H2_) | with_reducible exact H | (rw [hy103]; exact H) | exact H
            have Ny103 := Aside0.mk hy103
            clear hy103
            by_cases c5 : x3_1.size + (strOfNums y103).size ≤ 9223372036854775807
            · rw [if_pos c5] at H
              have c5b0 := eq_true c5
              have c5b1 : decide (x3_1.size + (strOfNums y103).size ≤ 9223372036854775807) = true := decide_eq_true c5
              try have c5b2 : (9223372036854775807 < x3_1.size + (strOfNums y103).size) = False := eq_false (Nat.not_lt.2 c5)
              have H' := Aside0.mk H
              clear H
              have p101 : 0 ≤ (x4_1 : Int) := of_decide_eq_true (by first | (with_reducible assumption) | assumption)
              have q101 : x4_1 < (l0.length : Int) := of_decide_eq_true (by first | (with_reducible assumption) | assumption)
              obtain ⟨ad101, e101, hx101_0⟩ := Kd.at_int HR0.out x4_1 p101 q101
              cases e101
              replace hx101_0 := (HB.out.cell (World.block_lt_of_cell? w _ hx101_0)).trans hx101_0
              replace p101 := eq_true p101
              replace q101 := eq_true q101
              have p102 : 0 ≤ (x4_1 : Int) := of_decide_eq_true (by first | (with_reducible assumption) | assumption)
              have q102 : x4_1 < (l0.length : Int) := of_decide_eq_true (by first | (with_reducible assumption) | assumption)
              obtain ⟨ad102, e102, hx102_0⟩ := Kd.at_int HR0.out x4_1 p102 q102
              obtain rfl : ad101 = ad102 := (by injection e102)
              replace hx102_0 := (HB.out.cell (World.block_lt_of_cell? w _ hx102_0)).trans hx102_0
              replace p102 := eq_true p102
              replace q102 := eq_true q102
              go_wp2_with (first | ((with_reducible refine gate_dst (N := 22) rfl ?_); refine Kd.R_lit (Kd.int .u8) _ 5 ?hg (N := 22) ?hd (xs := ([(rd l0 x4_1) % 256] : List Int)) (inner := [.int .u8 ((rd l0 x4_1) % 256)]) (ok := fun _ => True) (okp := fun _ => True) ?hr ?hp (fun _ hk => hk) trivial (Below.refl _ _) (Nat.le_refl _) (by simp) ?_; (case hd => rfl); (case hg => rfl); (case hr => first | (go_simp; done) | (go_simp; rfl)); (case hp => exact (Reps.one (show Kd.M (Kd.int .u8) _ _ _ ((rd l0 x4_1) % 256) [.int .u8 ((rd l0 x4_1) % 256)] from rfl) (Reps.none _ _))); intro v104 w6 ho7 hb hg_ hnew_; clear hg_ hnew_; (first | rw [← Ny103.out] at ho7 | (simp only [Int.reduceToNat] at ho7; rw [← Ny103.out] at ho7)); have n0_ := Aside0.mk (Kd.R_lower ho7 (below_size (by repeat (first | (with_reducible first | exact HB.out | apply below_alloc | apply pw_below_drewN | apply below_drew1) | exact HB.out)))); have n1_ := Aside0.mk (below_step (by repeat (first | (with_reducible first | exact HB.out | apply below_alloc | apply pw_below_drewN | apply below_drew1) | exact HB.out)) hb); clear HB; have HO105 := n0_; have HB := n1_; clear n0_ n1_; clear hb ho7; have hcv8 := own_string (P := Tryz.prog) Tryz.underlying223 Tryz.underlying5 Tryz.underlying9 (Kd.own_of_R HO105.out)))
              go_roundg k1
              case measure => have := HK1.out; omega
              case rel => exact ⟨(x3_1 ++ (strOfNums y103)), (wrap64 (x4_1 + 1)), (by first | rfl | (simp; done) | (simp [*]; done)), (by first | rfl | (simp; done) | (simp [*]; done)), H', ⟨by have := HK1.out; omega⟩, ⟨by repeat (first | (with_reducible first | exact HB.out | apply below_alloc | apply pw_below_drewN | apply below_drew1) | exact HB.out)⟩⟩
            · rw [if_neg c5] at H
              exact absurd H (by simp)
        · rw [if_neg c3] at H
          exact absurd H (by simp)
      · rw [if_neg c2] at H
        have c2b0 : decide (x4_1 < (l0.length : Int)) = false := decide_eq_false c2
        clear c2
        obtain rfl := Option.some.inj H
        go_wp2
        go_ret
        exact ⟨by first | rfl | (simp [errW_none, errW_some] <;> rfl) | (simp [*, errW_none, errW_some] <;> rfl), by repeat (first | (with_reducible first | exact HB.out | apply below_alloc | apply pw_below_drewN | apply below_drew1) | exact HB.out)⟩

end Go.Proofs.YtacokmkbikdmmaaGreatDoor.PFnChains
