-- PRINTED BY print.sh 35421559b90ae4d0a3588c463048766b98c2df88dd9212a6774a882060cdf62d: not written by this session
import Derived.Test.YtdhaifcjhmmdlaaPFnFinalizex0
import Derived.Test.YtdhaifcjhmmdlaaPFnFinalizex1
namespace Go.Proofs.Ytdhaifcjhmmdlaa.PFnFinalize
open Go.RowKit Go.Proofs.YtdhaifcjhmmdlaaW.PrintWords Go.Proofs.YtdhaifcjhmmdlaaW.PrintLast Go.Proofs.YtdhaifcjhmmdlaaW.PrintMore
attribute [local go_sem] max2_int min2_int max_two min_two max_three min_three max_four min_four   -- for this text's walks alone
set_option linter.unusedVariables false
set_option linter.unusedSimpArgs false

attribute [local go_sem high] eqA27
/-! ### spec_mapDigit: function 25 -/
def spec_mapDigit.l0 : Nat → Int → Int → Option (Int)
  | 0, _, _ => none
  | k + 1, x0, x3 => if x3 < 64 then (if 0 ≤ x3 then (if (bt (⟨#[65, 66, 67, 68, 69, 70, 71, 72, 73, 74, 75, 76, 77, 78, 79, 80, 81, 82, 83, 84, 85, 86, 87, 88, 89, 90, 97, 98, 99, 100, 101, 102, 103, 104, 105, 106, 107, 108, 109, 110, 111, 112, 113, 114, 115, 116, 117, 118, 119, 120, 121, 122, 48, 49, 50, 51, 52, 53, 54, 55, 56, 57, 43, 47]⟩ : ByteArray) x3) = x0 then (some x3) else (spec_mapDigit.l0 k x0 (wrap64 (x3 + 1)))) else (none)) else (some (-1))
def spec_mapDigit.f (k : Nat) (a0 : Int) : Option (Int) := spec_mapDigit.l0 k a0 0
theorem spec_mapDigit.mono_l : ∀ k, (∀ y0 y1, LeO (spec_mapDigit.l0 k y0 y1) (spec_mapDigit.l0 (k + 1) y0 y1))
  | 0 => fun _ _ r h => by simp [spec_mapDigit.l0] at h
  | k + 1 => by
    have ih0 := spec_mapDigit.mono_l k
    · intro y0 y1
      unfold spec_mapDigit.l0
      repeat' first
      | (with_reducible exact ih0 _ _)
      | (with_reducible exact LeO.refl _)
      | (with_reducible exact LeO.none _)
      | (with_reducible refine LeO.ite ?_ ?_)
      | (with_reducible refine LeO.bind ?_ (fun _ => ?_))
      | exact ih0 _ _
      | exact LeO.none _
      | refine LeO.ite ?_ ?_
      | refine LeO.bind ?_ (fun _ => ?_)
theorem spec_mapDigit.mono : ∀ a0 k, LeO (spec_mapDigit.f k a0) (spec_mapDigit.f (k + 1) a0) := by
  intro a0 k
  have ih0 := spec_mapDigit.mono_l k
  unfold spec_mapDigit.f
  repeat' first
      | (with_reducible exact ih0 _ _)
      | (with_reducible exact LeO.refl _)
      | (with_reducible exact LeO.none _)
      | (with_reducible refine LeO.ite ?_ ?_)
      | (with_reducible refine LeO.bind ?_ (fun _ => ?_))
      | exact ih0 _ _
      | exact LeO.none _
      | refine LeO.ite ?_ ?_
      | refine LeO.bind ?_ (fun _ => ?_)
set_option maxHeartbeats 8000000 in
set_option maxRecDepth 100000 in
theorem spec_mapDigit.calls (k : Nat) (a0 : Int) (r : Int) (w : World) (h : spec_mapDigit.f k a0 = some r) :
    Calls Try.prog 25 #[.int .u8 a0] w fun e w' => e = .returned (.int .i64 r) ∧ Drawn0 w w' := by
  have H : (spec_mapDigit.l0 k a0 0) = some r := h
  clear h
  have H' := Aside0.mk H
  clear H
  go_enter Try.func25, Try.ntmps25
  go_wp2
  go_loopg [3] k (fun kq v3 w' => ∃ (x3_1 : Int), v3 = .int .i64 x3_1 ∧ Aside0 (spec_mapDigit.l0 kq a0 x3_1 = some r) ∧ Aside0 (kq ≤ k) ∧ Drawn0 w w')
  case atStart => exact ⟨(0), (by first | rfl | (simp; done) | (simp [*]; done)), H', ⟨Nat.le_refl _⟩, by repeat (first | exact Drawn0.refl _ | apply Drawn0.step)⟩
  case round =>
    clear H'
    obtain ⟨x3_1, rfl, HA, HK1, ⟨m1, rfl⟩⟩ := hrel
    cases gk with
    | zero => exact absurd HA.out (by simp [spec_mapDigit.l0])
    | succ k1 =>
      have H := HA.out
      clear HA
      simp only [spec_mapDigit.l0] at H
      by_cases c2 : x3_1 < 64
      · rw [if_pos c2] at H
        have c2b0 : decide (x3_1 < 64) = true := decide_eq_true c2
        clear c2
        by_cases c3 : 0 ≤ x3_1
        · rw [if_pos c3] at H
          have c3b0 : decide (0 ≤ x3_1) = true := decide_eq_true c3
          clear c3
          by_cases c5 : (bt (⟨#[65, 66, 67, 68, 69, 70, 71, 72, 73, 74, 75, 76, 77, 78, 79, 80, 81, 82, 83, 84, 85, 86, 87, 88, 89, 90, 97, 98, 99, 100, 101, 102, 103, 104, 105, 106, 107, 108, 109, 110, 111, 112, 113, 114, 115, 116, 117, 118, 119, 120, 121, 122, 48, 49, 50, 51, 52, 53, 54, 55, 56, 57, 43, 47]⟩ : ByteArray) x3_1) = a0
          · rw [if_pos c5] at H
            have c5b0 : ((bt (⟨#[65, 66, 67, 68, 69, 70, 71, 72, 73, 74, 75, 76, 77, 78, 79, 80, 81, 82, 83, 84, 85, 86, 87, 88, 89, 90, 97, 98, 99, 100, 101, 102, 103, 104, 105, 106, 107, 108, 109, 110, 111, 112, 113, 114, 115, 116, 117, 118, 119, 120, 121, 122, 48, 49, 50, 51, 52, 53, 54, 55, 56, 57, 43, 47]⟩ : ByteArray) x3_1) == a0) = true := beq_iff_eq.mpr c5
            have c5b1 : ((bt (⟨#[65, 66, 67, 68, 69, 70, 71, 72, 73, 74, 75, 76, 77, 78, 79, 80, 81, 82, 83, 84, 85, 86, 87, 88, 89, 90, 97, 98, 99, 100, 101, 102, 103, 104, 105, 106, 107, 108, 109, 110, 111, 112, 113, 114, 115, 116, 117, 118, 119, 120, 121, 122, 48, 49, 50, 51, 52, 53, 54, 55, 56, 57, 43, 47]⟩ : ByteArray) x3_1) != a0) = false := bne_eq_false_iff_eq.mpr c5
            clear c5
            obtain rfl := Option.some.inj H
            have p4 : 0 ≤ (x3_1 : Int) := of_decide_eq_true (by first | (with_reducible assumption) | assumption)
            have q4 : x3_1 < (64 : Int) := of_decide_eq_true (by first | (with_reducible assumption) | assumption)
            have hx4 := bt_at (⟨#[65, 66, 67, 68, 69, 70, 71, 72, 73, 74, 75, 76, 77, 78, 79, 80, 81, 82, 83, 84, 85, 86, 87, 88, 89, 90, 97, 98, 99, 100, 101, 102, 103, 104, 105, 106, 107, 108, 109, 110, 111, 112, 113, 114, 115, 116, 117, 118, 119, 120, 121, 122, 48, 49, 50, 51, 52, 53, 54, 55, 56, 57, 43, 47]⟩ : ByteArray) x3_1
            replace p4 := eq_true p4
            replace q4 := eq_true q4
            go_wp2
            go_ret
            exact ⟨by first | rfl | (simp; done) | (simp [*]; done), by repeat (first | exact Drawn0.refl _ | apply Drawn0.step)⟩
          · rw [if_neg c5] at H
            have c5b0 : ((bt (⟨#[65, 66, 67, 68, 69, 70, 71, 72, 73, 74, 75, 76, 77, 78, 79, 80, 81, 82, 83, 84, 85, 86, 87, 88, 89, 90, 97, 98, 99, 100, 101, 102, 103, 104, 105, 106, 107, 108, 109, 110, 111, 112, 113, 114, 115, 116, 117, 118, 119, 120, 121, 122, 48, 49, 50, 51, 52, 53, 54, 55, 56, 57, 43, 47]⟩ : ByteArray) x3_1) == a0) = false := beq_eq_false_iff_ne.mpr c5
            have c5b1 : ((bt (⟨#[65, 66, 67, 68, 69, 70, 71, 72, 73, 74, 75, 76, 77, 78, 79, 80, 81, 82, 83, 84, 85, 86, 87, 88, 89, 90, 97, 98, 99, 100, 101, 102, 103, 104, 105, 106, 107, 108, 109, 110, 111, 112, 113, 114, 115, 116, 117, 118, 119, 120, 121, 122, 48, 49, 50, 51, 52, 53, 54, 55, 56, 57, 43, 47]⟩ : ByteArray) x3_1) != a0) = true := bne_iff_ne.mpr c5
            have H' := Aside0.mk H
            clear H
            have p4 : 0 ≤ (x3_1 : Int) := of_decide_eq_true (by first | (with_reducible assumption) | assumption)
            have q4 : x3_1 < (64 : Int) := of_decide_eq_true (by first | (with_reducible assumption) | assumption)
            have hx4 := bt_at (⟨#[65, 66, 67, 68, 69, 70, 71, 72, 73, 74, 75, 76, 77, 78, 79, 80, 81, 82, 83, 84, 85, 86, 87, 88, 89, 90, 97, 98, 99, 100, 101, 102, 103, 104, 105, 106, 107, 108, 109, 110, 111, 112, 113, 114, 115, 116, 117, 118, 119, 120, 121, 122, 48, 49, 50, 51, 52, 53, 54, 55, 56, 57, 43, 47]⟩ : ByteArray) x3_1
            replace p4 := eq_true p4
            replace q4 := eq_true q4
            go_wp2
            go_roundg k1
            case measure => have := HK1.out; omega
            case rel => exact ⟨(wrap64 (x3_1 + 1)), (by first | rfl | (simp; done) | (simp [*]; done)), H', ⟨by have := HK1.out; omega⟩, by repeat (first | exact Drawn0.refl _ | apply Drawn0.step)⟩
        · rw [if_neg c3] at H
          exact absurd H (by simp)
      · rw [if_neg c2] at H
        have c2b0 : decide (x3_1 < 64) = false := decide_eq_false c2
        clear c2
        obtain rfl := Option.some.inj H
        go_wp2
        go_ret
        exact ⟨by first | rfl | (simp; done) | (simp [*]; done), by repeat (first | exact Drawn0.refl _ | apply Drawn0.step)⟩

/-! ### spec_VLQ: function 17 -/
mutual
def spec_VLQ.l0 : Nat → ByteArray → Int → Int → Int → Option (Int × Int × Bool)
  | 0, _, _, _, _ => none
  | k + 1, x0, x1, x7, x8 => if x1 < 0 then (spec_VLQ.j1 k x0 x1 x7 x8 true) else (if x1 ≥ (x0.size : Int) then (spec_VLQ.j1 k x0 x1 x7 x8 true) else (spec_VLQ.j1 k x0 x1 x7 x8 (decide (x8 > 30))))
def spec_VLQ.j1 : Nat → ByteArray → Int → Int → Int → Bool → Option (Int × Int × Bool)
  | 0, _, _, _, _, _ => none
  | k + 1, x0, x1, x7, x8, x21 => if x21 = true then (some (0, x1, false)) else (if 0 ≤ x1 then (if x1 < (x0.size : Int) then ((spec_mapDigit.f k (bt x0 x1)).bind fun t124 => (if t124 < 0 then (some (0, wrap64 (x1 + 1), false)) else (if 0 ≤ x8 then (if t124 < 32 then (if (Go.bits .and .i64 (wrap64 (x7 + (shl .i64 (Go.bits .and .i64 t124 31) x8))) 1) = 1 then (if (wrap64 (-((wrap64 (x7 + (shl .i64 (Go.bits .and .i64 t124 31) x8))) / 2))) < 2147483648 then (if (wrap64 (-((wrap64 (x7 + (shl .i64 (Go.bits .and .i64 t124 31) x8))) / 2))) > (-2147483648) then (some (wrap64 (-((wrap64 (x7 + (shl .i64 (Go.bits .and .i64 t124 31) x8))) / 2)), wrap64 (x1 + 1), !((wrap64 (x7 + (shl .i64 (Go.bits .and .i64 t124 31) x8))) == 1))) else (some (wrap64 (-((wrap64 (x7 + (shl .i64 (Go.bits .and .i64 t124 31) x8))) / 2)), wrap64 (x1 + 1), false))) else (some (wrap64 (-((wrap64 (x7 + (shl .i64 (Go.bits .and .i64 t124 31) x8))) / 2)), wrap64 (x1 + 1), false))) else (if ((wrap64 (x7 + (shl .i64 (Go.bits .and .i64 t124 31) x8))) / 2) < 2147483648 then (if ((wrap64 (x7 + (shl .i64 (Go.bits .and .i64 t124 31) x8))) / 2) > (-2147483648) then (some ((wrap64 (x7 + (shl .i64 (Go.bits .and .i64 t124 31) x8))) / 2, wrap64 (x1 + 1), !((wrap64 (x7 + (shl .i64 (Go.bits .and .i64 t124 31) x8))) == 1))) else (some ((wrap64 (x7 + (shl .i64 (Go.bits .and .i64 t124 31) x8))) / 2, wrap64 (x1 + 1), false))) else (some ((wrap64 (x7 + (shl .i64 (Go.bits .and .i64 t124 31) x8))) / 2, wrap64 (x1 + 1), false)))) else (spec_VLQ.l0 k x0 (wrap64 (x1 + 1)) (wrap64 (x7 + (shl .i64 (Go.bits .and .i64 t124 31) x8))) (wrap64 (x8 + 5)))) else (none)))) else (none)) else (none))
end
def spec_VLQ.f (k : Nat) (a0 : ByteArray) (a1 : Int) : Option (Int × Int × Bool) := spec_VLQ.l0 k a0 a1 0 0
theorem spec_VLQ.mono_l : ∀ k, (∀ y0 y1 y2 y3, LeO (spec_VLQ.l0 k y0 y1 y2 y3) (spec_VLQ.l0 (k + 1) y0 y1 y2 y3)) ∧ (∀ y0 y1 y2 y3 y4, LeO (spec_VLQ.j1 k y0 y1 y2 y3 y4) (spec_VLQ.j1 (k + 1) y0 y1 y2 y3 y4))
  | 0 => ⟨fun _ _ _ _ r h => by simp [spec_VLQ.l0] at h, fun _ _ _ _ _ r h => by simp [spec_VLQ.j1] at h⟩
  | k + 1 => by
    obtain ⟨ih0, ih1⟩ := spec_VLQ.mono_l k
    refine ⟨?_, ?_⟩
    · intro y0 y1 y2 y3
      unfold spec_VLQ.l0
      repeat' first
      | (with_reducible exact ih0 _ _ _ _)
      | (with_reducible exact ih1 _ _ _ _ _)
      | (with_reducible exact spec_mapDigit.mono _ _)
      | (with_reducible exact LeO.refl _)
      | (with_reducible exact LeO.none _)
      | (with_reducible refine LeO.ite ?_ ?_)
      | (with_reducible refine LeO.bind ?_ (fun _ => ?_))
      | exact ih0 _ _ _ _
      | exact ih1 _ _ _ _ _
      | exact spec_mapDigit.mono _ _
      | exact LeO.none _
      | refine LeO.ite ?_ ?_
      | refine LeO.bind ?_ (fun _ => ?_)
    · intro y0 y1 y2 y3 y4
      unfold spec_VLQ.j1
      repeat' first
      | (with_reducible exact ih0 _ _ _ _)
      | (with_reducible exact ih1 _ _ _ _ _)
      | (with_reducible exact spec_mapDigit.mono _ _)
      | (with_reducible exact LeO.refl _)
      | (with_reducible exact LeO.none _)
      | (with_reducible refine LeO.ite ?_ ?_)
      | (with_reducible refine LeO.bind ?_ (fun _ => ?_))
      | exact ih0 _ _ _ _
      | exact ih1 _ _ _ _ _
      | exact spec_mapDigit.mono _ _
      | exact LeO.none _
      | refine LeO.ite ?_ ?_
      | refine LeO.bind ?_ (fun _ => ?_)
theorem spec_VLQ.mono : ∀ a0 a1 k, LeO (spec_VLQ.f k a0 a1) (spec_VLQ.f (k + 1) a0 a1) := by
  intro a0 a1 k
  obtain ⟨ih0, ih1⟩ := spec_VLQ.mono_l k
  unfold spec_VLQ.f
  repeat' first
      | (with_reducible exact ih0 _ _ _ _)
      | (with_reducible exact ih1 _ _ _ _ _)
      | (with_reducible exact spec_mapDigit.mono _ _)
      | (with_reducible exact LeO.refl _)
      | (with_reducible exact LeO.none _)
      | (with_reducible refine LeO.ite ?_ ?_)
      | (with_reducible refine LeO.bind ?_ (fun _ => ?_))
      | exact ih0 _ _ _ _
      | exact ih1 _ _ _ _ _
      | exact spec_mapDigit.mono _ _
      | exact LeO.none _
      | refine LeO.ite ?_ ?_
      | refine LeO.bind ?_ (fun _ => ?_)
set_option maxHeartbeats 8000000 in
set_option maxRecDepth 100000 in
theorem spec_VLQ.calls (k : Nat) (a0 : ByteArray) (a1 : Int) (r1 : Int) (r2 : Int) (r3 : Bool) (w : World) (h : spec_VLQ.f k a0 a1 = some (r1, r2, r3)) :
    Calls Try.prog 17 #[.string a0, .int .i64 a1] w fun e w' => e = .returned (.tuple #[.int .i64 r1, .int .i64 r2, .bool r3]) ∧ Drawn0 w w' := by
  have H : (spec_VLQ.l0 k a0 a1 0 0) = some (r1, r2, r3) := h
  clear h
  have H' := Aside0.mk H
  clear H
  go_enter Try.func17, Try.ntmps17
  go_wp2
  go_loopg [1, 7, 8] k (fun kq v1 v7 v8 w' => ∃ (x1_1 : Int) (x7_1 : Int) (x8_1 : Int), v1 = .int .i64 x1_1 ∧ v7 = .int .i64 x7_1 ∧ v8 = .int .i64 x8_1 ∧ Aside0 (spec_VLQ.l0 kq a0 x1_1 x7_1 x8_1 = some (r1, r2, r3)) ∧ Aside0 (kq ≤ k) ∧ Drawn0 w w')
  case atStart => exact ⟨(a1), (0), (0), (by first | rfl | (simp; done) | (simp [*]; done)), (by first | rfl | (simp; done) | (simp [*]; done)), (by first | rfl | (simp; done) | (simp [*]; done)), H', ⟨Nat.le_refl _⟩, by repeat (first | exact Drawn0.refl _ | apply Drawn0.step)⟩
  case round =>
    clear H'
    try clear c1
    try clear p2
    obtain ⟨x1_1, x7_1, x8_1, rfl, rfl, rfl, HA, HK1, ⟨m1, rfl⟩⟩ := hrel
    cases gk with
    | zero => exact absurd HA.out (by simp [spec_VLQ.l0])
    | succ k1 =>
      have H := HA.out
      clear HA
      simp only [spec_VLQ.l0] at H
      have HC3 := Aside0.mk H
      clear H
      go_upto_region 2 with (fail)
      go_cut [21] (fun v21 wc => ∃ (kq : Nat) (x21_2 : Bool), v21 = .bool x21_2 ∧ Aside0 (spec_VLQ.j1 kq a0 x1_1 x7_1 x8_1 x21_2 = some (r1, r2, r3)) ∧ Aside0 (kq ≤ k1) ∧ Drawn0 w wc)
      case first =>
        have H := HC3.out
        clear HC3
        by_cases c4 : x1_1 < 0
        · rw [if_pos c4] at H
          have c4b0 : decide (x1_1 < 0) = true := decide_eq_true c4
          clear c4
          (first | rw [c4b0] | (simp only [i64_w, i32_w]; rw [c4b0]) | skip)
          have H' := Aside0.mk H
          clear H
          go_wp2
          go_meet
          case rel => exact ⟨_, (true), (by first | rfl | (simp; done) | (simp [*]; done)), H', ⟨by have := HK1.out; first | omega | exact Nat.le_refl _⟩, by repeat (first | exact Drawn0.refl _ | apply Drawn0.step)⟩
        · rw [if_neg c4] at H
          have c4b0 : decide (x1_1 < 0) = false := decide_eq_false c4
          clear c4
          (first | rw [c4b0] | (simp only [i64_w, i32_w]; rw [c4b0]) | skip)
          by_cases c5 : x1_1 ≥ (a0.size : Int)
          · rw [if_pos c5] at H
            have c5b0 : decide ((a0.size : Int) ≤ x1_1) = true := decide_eq_true c5
            clear c5
            have H' := Aside0.mk H
            clear H
            go_wp2
            go_meet
            case rel => exact ⟨_, (true), (by first | rfl | (simp; done) | (simp [*]; done)), H', ⟨by have := HK1.out; first | omega | exact Nat.le_refl _⟩, by repeat (first | exact Drawn0.refl _ | apply Drawn0.step)⟩
          · rw [if_neg c5] at H
            have c5b0 : decide ((a0.size : Int) ≤ x1_1) = false := decide_eq_false c5
            clear c5
            have H' := Aside0.mk H
            clear H
            go_wp2
            go_meet
            case rel => exact ⟨_, (decide (x8_1 > 30)), (by first | rfl | (simp; done) | (simp [*]; done)), H', ⟨by have := HK1.out; first | omega | exact Nat.le_refl _⟩, by repeat (first | exact Drawn0.refl _ | apply Drawn0.step)⟩
      case rest =>
        clear HC3
        try clear c1
        try clear p2
        try clear c4
        try clear c4b0
        try clear c5
        try clear c5b0
        try clear p2
        obtain ⟨kq, x21_2, rfl, HA, HJ2, ⟨mc2, rfl⟩⟩ := hcut
        cases kq with
        | zero => exact absurd HA.out (by simp [spec_VLQ.j1])
        | succ kj2 =>
          have H := HA.out
          clear HA
          simp only [spec_VLQ.j1] at H
          by_cases c6 : x21_2 = true
          · subst c6
            have H1 : (some (0, x1_1, false)) = some (r1, r2, r3) := by rw [if_pos rfl] at H; exact H
            clear H
            have H := H1
            clear H1
            simp only [Option.some.injEq, Prod.mk.injEq] at H
            obtain ⟨rfl, rfl, rfl⟩ := H
            go_wp2
            go_ret3
            exact ⟨by first | rfl | (simp; done) | (simp [*]; done), by repeat (first | exact Drawn0.refl _ | apply Drawn0.step)⟩
          · replace c6 := Bool.eq_false_iff.mpr c6
            subst c6
            have H1 : (if 0 ≤ x1_1 then (if x1_1 < (a0.size : Int) then ((spec_mapDigit.f kj2 (bt a0 x1_1)).bind fun t124 => (if t124 < 0 then (some (0, wrap64 (x1_1 + 1), false)) else (if 0 ≤ x8_1 then (if t124 < 32 then (if (Go.bits .and .i64 (wrap64 (x7_1 + (shl .i64 (Go.bits .and .i64 t124 31) x8_1))) 1) = 1 then (if (wrap64 (-((wrap64 (x7_1 + (shl .i64 (Go.bits .and .i64 t124 31) x8_1))) / 2))) < 2147483648 then (if (wrap64 (-((wrap64 (x7_1 + (shl .i64 (Go.bits .and .i64 t124 31) x8_1))) / 2))) > (-2147483648) then (some (wrap64 (-((wrap64 (x7_1 + (shl .i64 (Go.bits .and .i64 t124 31) x8_1))) / 2)), wrap64 (x1_1 + 1), !((wrap64 (x7_1 + (shl .i64 (Go.bits .and .i64 t124 31) x8_1))) == 1))) else (some (wrap64 (-((wrap64 (x7_1 + (shl .i64 (Go.bits .and .i64 t124 31) x8_1))) / 2)), wrap64 (x1_1 + 1), false))) else (some (wrap64 (-((wrap64 (x7_1 + (shl .i64 (Go.bits .and .i64 t124 31) x8_1))) / 2)), wrap64 (x1_1 + 1), false))) else (if ((wrap64 (x7_1 + (shl .i64 (Go.bits .and .i64 t124 31) x8_1))) / 2) < 2147483648 then (if ((wrap64 (x7_1 + (shl .i64 (Go.bits .and .i64 t124 31) x8_1))) / 2) > (-2147483648) then (some ((wrap64 (x7_1 + (shl .i64 (Go.bits .and .i64 t124 31) x8_1))) / 2, wrap64 (x1_1 + 1), !((wrap64 (x7_1 + (shl .i64 (Go.bits .and .i64 t124 31) x8_1))) == 1))) else (some ((wrap64 (x7_1 + (shl .i64 (Go.bits .and .i64 t124 31) x8_1))) / 2, wrap64 (x1_1 + 1), false))) else (some ((wrap64 (x7_1 + (shl .i64 (Go.bits .and .i64 t124 31) x8_1))) / 2, wrap64 (x1_1 + 1), false)))) else (spec_VLQ.l0 kj2 a0 (wrap64 (x1_1 + 1)) (wrap64 (x7_1 + (shl .i64 (Go.bits .and .i64 t124 31) x8_1))) (wrap64 (x8_1 + 5)))) else (none)))) else (none)) else (none)) = some (r1, r2, r3) := by rw [if_neg (show ¬ (false = true) by decide)] at H; exact H
            clear H
            have H := H1
            clear H1
            by_cases c7 : 0 ≤ x1_1
            · rw [if_pos c7] at H
              have c7b0 : decide (0 ≤ x1_1) = true := decide_eq_true c7
              clear c7
              by_cases c8 : x1_1 < (a0.size : Int)
              · rw [if_pos c8] at H
                have c8b0 : decide (x1_1 < (a0.size : Int)) = true := decide_eq_true c8
                clear c8
                replace H := Option.bind_eq_some_iff.mp H
                obtain ⟨t124, A100, H⟩ := H
                replace H : (if t124 < 0 then (some (0, wrap64 (x1_1 + 1), false)) else (if 0 ≤ x8_1 then (if t124 < 32 then (if (Go.bits .and .i64 (wrap64 (x7_1 + (shl .i64 (Go.bits .and .i64 t124 31) x8_1))) 1) = 1 then (if (wrap64 (-((wrap64 (x7_1 + (shl .i64 (Go.bits .and .i64 t124 31) x8_1))) / 2))) < 2147483648 then (if (wrap64 (-((wrap64 (x7_1 + (shl .i64 (Go.bits .and .i64 t124 31) x8_1))) / 2))) > (-2147483648) then (some (wrap64 (-((wrap64 (x7_1 + (shl .i64 (Go.bits .and .i64 t124 31) x8_1))) / 2)), wrap64 (x1_1 + 1), !((wrap64 (x7_1 + (shl .i64 (Go.bits .and .i64 t124 31) x8_1))) == 1))) else (some (wrap64 (-((wrap64 (x7_1 + (shl .i64 (Go.bits .and .i64 t124 31) x8_1))) / 2)), wrap64 (x1_1 + 1), false))) else (some (wrap64 (-((wrap64 (x7_1 + (shl .i64 (Go.bits .and .i64 t124 31) x8_1))) / 2)), wrap64 (x1_1 + 1), false))) else (if ((wrap64 (x7_1 + (shl .i64 (Go.bits .and .i64 t124 31) x8_1))) / 2) < 2147483648 then (if ((wrap64 (x7_1 + (shl .i64 (Go.bits .and .i64 t124 31) x8_1))) / 2) > (-2147483648) then (some ((wrap64 (x7_1 + (shl .i64 (Go.bits .and .i64 t124 31) x8_1))) / 2, wrap64 (x1_1 + 1), !((wrap64 (x7_1 + (shl .i64 (Go.bits .and .i64 t124 31) x8_1))) == 1))) else (some ((wrap64 (x7_1 + (shl .i64 (Go.bits .and .i64 t124 31) x8_1))) / 2, wrap64 (x1_1 + 1), false))) else (some ((wrap64 (x7_1 + (shl .i64 (Go.bits .and .i64 t124 31) x8_1))) / 2, wrap64 (x1_1 + 1), false)))) else (spec_VLQ.l0 kj2 a0 (wrap64 (x1_1 + 1)) (wrap64 (x7_1 + (shl .i64 (Go.bits .and .i64 t124 31) x8_1))) (wrap64 (x8_1 + 5)))) else (none))) = some (r1, r2, r3) := H
                have A10 := Aside0.mk A100
                clear A100
                by_cases c11 : t124 < 0
                · rw [if_pos c11] at H
                  have c11b0 : decide (t124 < 0) = true := decide_eq_true c11
                  clear c11
                  simp only [Option.some.injEq, Prod.mk.injEq] at H
                  obtain ⟨rfl, rfl, rfl⟩ := H
                  have p9 : 0 ≤ (x1_1 : Int) := of_decide_eq_true (by first | (with_reducible assumption) | assumption)
                  have q9 : x1_1 < (a0.size : Int) := of_decide_eq_true (by first | (with_reducible assumption) | assumption)
                  have hx9 := bt_at a0 x1_1
                  replace p9 := eq_true p9
                  replace q9 := eq_true q9
                  go_wp2_with (first | ((with_reducible refine gate_callee (f := 25) rfl ?_); refine goesL_ (some 26) rfl rfl Try.func25 (by kernel_rfl) rfl #[.int .u8 (bt a0 x1_1)] rfl (by (try simp only [List.map_toArray, List.map_cons, List.map_nil]); first | done | rfl | (simp only [List.length_drop, List.length_take]; rfl)) ?_; (with_reducible refine (spec_mapDigit.calls kj2 (bt a0 x1_1) t124 _ A10.out).mono ?_); rintro e w' ⟨rfl, ⟨nd, rfl⟩⟩; refine ⟨_, rfl, ?_⟩))
                  go_ret3
                  exact ⟨by first | rfl | (simp; done) | (simp [*]; done), by repeat (first | exact Drawn0.refl _ | apply Drawn0.step)⟩
                · rw [if_neg c11] at H
                  have c11b0 : decide (t124 < 0) = false := decide_eq_false c11
                  clear c11
                  by_cases c12 : 0 ≤ x8_1
                  · rw [if_pos c12] at H
                    have c12b0 := eq_true c12
                    have c12b1 : decide (0 ≤ x8_1) = true := decide_eq_true c12
                    clear c12
                    obtain ⟨ji13, hji13⟩ : ∃ j_ : Int, (shl .i64 (Go.bits .and .i64 t124 31) x8_1) = j_ := ⟨_, rfl⟩
                    replace H : (if t124 < 32 then (if (Go.bits .and .i64 (wrap64 (x7_1 + (ji13))) 1) = 1 then (if (wrap64 (-((wrap64 (x7_1 + (ji13))) / 2))) < 2147483648 then (if (wrap64 (-((wrap64 (x7_1 + (ji13))) / 2))) > (-2147483648) then (some (wrap64 (-((wrap64 (x7_1 + (ji13))) / 2)), wrap64 (x1_1 + 1), !((wrap64 (x7_1 + (ji13))) == 1))) else (some (wrap64 (-((wrap64 (x7_1 + (ji13))) / 2)), wrap64 (x1_1 + 1), false))) else (some (wrap64 (-((wrap64 (x7_1 + (ji13))) / 2)), wrap64 (x1_1 + 1), false))) else (if ((wrap64 (x7_1 + (ji13))) / 2) < 2147483648 then (if ((wrap64 (x7_1 + (ji13))) / 2) > (-2147483648) then (some ((wrap64 (x7_1 + (ji13))) / 2, wrap64 (x1_1 + 1), !((wrap64 (x7_1 + (ji13))) == 1))) else (some ((wrap64 (x7_1 + (ji13))) / 2, wrap64 (x1_1 + 1), false))) else (some ((wrap64 (x7_1 + (ji13))) / 2, wrap64 (x1_1 + 1), false)))) else (spec_VLQ.l0 kj2 a0 (wrap64 (x1_1 + 1)) (wrap64 (x7_1 + (ji13))) (wrap64 (x8_1 + 5)))) = some (r1, r2, r3) := by first | (rw [hji13] at H; exact H) | (simp only [hji13] at H ⊢; exact H)
                    (try rw [hji13] at A10)
                    have hji13_ : (IntKind.i64.wrap ((Go.bits .and .i64 t124 31) * 2 ^ min x8_1.toNat 64)) = ji13 := hji13
                    have hji13z : x8_1 ≤ 64 → (IntKind.i64.wrap ((Go.bits .and .i64 t124 31) * 2 ^ x8_1.toNat)) = ji13 := shl_small hji13
                    have hji13y : (wrap64 ((Go.bits .and .i64 t124 31) * 2 ^ min x8_1.toNat 64)) = ji13 := (i64_w _).symm.trans hji13_
                    have hji13x : x8_1 ≤ 64 → (wrap64 ((Go.bits .and .i64 t124 31) * 2 ^ x8_1.toNat)) = ji13 := fun h_ => (i64_w _).symm.trans (hji13z h_)
                    by_cases c14 : t124 < 32
                    · rw [if_pos c14] at H
                      have c14b0 : decide (t124 < 32) = true := decide_eq_true c14
                      clear c14
                      by_cases c15 : (Go.bits .and .i64 (wrap64 (x7_1 + (ji13))) 1) = 1
                      · rw [if_pos c15] at H
                        have c15b0 : ((Go.bits .and .i64 (wrap64 (x7_1 + (ji13))) 1) == 1) = true := beq_iff_eq.mpr c15
                        have c15b1 : ((Go.bits .and .i64 (wrap64 (x7_1 + (ji13))) 1) != 1) = false := bne_eq_false_iff_eq.mpr c15
                        clear c15
                        by_cases c16 : (wrap64 (-((wrap64 (x7_1 + (ji13))) / 2))) < 2147483648
                        · rw [if_pos c16] at H
                          have c16b0 : decide ((wrap64 (-((wrap64 (x7_1 + (ji13))) / 2))) < 2147483648) = true := decide_eq_true c16
                          clear c16
                          by_cases c17 : (wrap64 (-((wrap64 (x7_1 + (ji13))) / 2))) > (-2147483648)
                          · rw [if_pos c17] at H
                            have c17b0 : decide ((-2147483648) < (wrap64 (-((wrap64 (x7_1 + (ji13))) / 2)))) = true := decide_eq_true c17
                            clear c17
                            simp only [Option.some.injEq, Prod.mk.injEq] at H
                            obtain ⟨rfl, rfl, rfl⟩ := H
                            have p9 : 0 ≤ (x1_1 : Int) := of_decide_eq_true (by first | (with_reducible assumption) | assumption)
                            have q9 : x1_1 < (a0.size : Int) := of_decide_eq_true (by first | (with_reducible assumption) | assumption)
                            have hx9 := bt_at a0 x1_1
                            replace p9 := eq_true p9
                            replace q9 := eq_true q9
                            go_wp2_with (first | ((with_reducible refine gate_callee (f := 25) rfl ?_); refine goesL_ (some 26) rfl rfl Try.func25 (by kernel_rfl) rfl #[.int .u8 (bt a0 x1_1)] rfl (by (try simp only [List.map_toArray, List.map_cons, List.map_nil]); first | done | rfl | (simp only [List.length_drop, List.length_take]; rfl)) ?_; (with_reducible refine (spec_mapDigit.calls kj2 (bt a0 x1_1) t124 _ A10.out).mono ?_); rintro e w' ⟨rfl, ⟨nd, rfl⟩⟩; refine ⟨_, rfl, ?_⟩))
                            go_ret3
                            exact ⟨by first | rfl | (simp; done) | (simp only [← hji13] <;> (first | rfl | simp)) | (simp [*]; done), by repeat (first | exact Drawn0.refl _ | apply Drawn0.step)⟩
                          · rw [if_neg c17] at H
                            have c17b0 : decide ((-2147483648) < (wrap64 (-((wrap64 (x7_1 + (ji13))) / 2)))) = false := decide_eq_false c17
                            clear c17
                            simp only [Option.some.injEq, Prod.mk.injEq] at H
                            obtain ⟨rfl, rfl, rfl⟩ := H
                            have p9 : 0 ≤ (x1_1 : Int) := of_decide_eq_true (by first | (with_reducible assumption) | assumption)
                            have q9 : x1_1 < (a0.size : Int) := of_decide_eq_true (by first | (with_reducible assumption) | assumption)
                            have hx9 := bt_at a0 x1_1
                            replace p9 := eq_true p9
                            replace q9 := eq_true q9
                            go_wp2_with (first | ((with_reducible refine gate_callee (f := 25) rfl ?_); refine goesL_ (some 26) rfl rfl Try.func25 (by kernel_rfl) rfl #[.int .u8 (bt a0 x1_1)] rfl (by (try simp only [List.map_toArray, List.map_cons, List.map_nil]); first | done | rfl | (simp only [List.length_drop, List.length_take]; rfl)) ?_; (with_reducible refine (spec_mapDigit.calls kj2 (bt a0 x1_1) t124 _ A10.out).mono ?_); rintro e w' ⟨rfl, ⟨nd, rfl⟩⟩; refine ⟨_, rfl, ?_⟩))
                            go_ret3
                            exact ⟨by first | rfl | (simp; done) | (simp only [← hji13] <;> (first | rfl | simp)) | (simp [*]; done), by repeat (first | exact Drawn0.refl _ | apply Drawn0.step)⟩
                        · rw [if_neg c16] at H
                          have c16b0 : decide ((wrap64 (-((wrap64 (x7_1 + (ji13))) / 2))) < 2147483648) = false := decide_eq_false c16
                          clear c16
                          simp only [Option.some.injEq, Prod.mk.injEq] at H
                          obtain ⟨rfl, rfl, rfl⟩ := H
                          have p9 : 0 ≤ (x1_1 : Int) := of_decide_eq_true (by first | (with_reducible assumption) | assumption)
                          have q9 : x1_1 < (a0.size : Int) := of_decide_eq_true (by first | (with_reducible assumption) | assumption)
                          have hx9 := bt_at a0 x1_1
                          replace p9 := eq_true p9
                          replace q9 := eq_true q9
                          go_wp2_with (first | ((with_reducible refine gate_callee (f := 25) rfl ?_); refine goesL_ (some 26) rfl rfl Try.func25 (by kernel_rfl) rfl #[.int .u8 (bt a0 x1_1)] rfl (by (try simp only [List.map_toArray, List.map_cons, List.map_nil]); first | done | rfl | (simp only [List.length_drop, List.length_take]; rfl)) ?_; (with_reducible refine (spec_mapDigit.calls kj2 (bt a0 x1_1) t124 _ A10.out).mono ?_); rintro e w' ⟨rfl, ⟨nd, rfl⟩⟩; refine ⟨_, rfl, ?_⟩))
                          go_ret3
                          exact ⟨by first | rfl | (simp; done) | (simp only [← hji13] <;> (first | rfl | simp)) | (simp [*]; done), by repeat (first | exact Drawn0.refl _ | apply Drawn0.step)⟩
                      · rw [if_neg c15] at H
                        have c15b0 : ((Go.bits .and .i64 (wrap64 (x7_1 + (ji13))) 1) == 1) = false := beq_eq_false_iff_ne.mpr c15
                        have c15b1 : ((Go.bits .and .i64 (wrap64 (x7_1 + (ji13))) 1) != 1) = true := bne_iff_ne.mpr c15
                        by_cases c18 : ((wrap64 (x7_1 + (ji13))) / 2) < 2147483648
                        · rw [if_pos c18] at H
                          have c18b0 : decide (((wrap64 (x7_1 + (ji13))) / 2) < 2147483648) = true := decide_eq_true c18
                          clear c18
                          by_cases c19 : ((wrap64 (x7_1 + (ji13))) / 2) > (-2147483648)
                          · rw [if_pos c19] at H
                            have c19b0 : decide ((-2147483648) < ((wrap64 (x7_1 + (ji13))) / 2)) = true := decide_eq_true c19
                            clear c19
                            simp only [Option.some.injEq, Prod.mk.injEq] at H
                            obtain ⟨rfl, rfl, rfl⟩ := H
                            have p9 : 0 ≤ (x1_1 : Int) := of_decide_eq_true (by first | (with_reducible assumption) | assumption)
                            have q9 : x1_1 < (a0.size : Int) := of_decide_eq_true (by first | (with_reducible assumption) | assumption)
                            have hx9 := bt_at a0 x1_1
                            replace p9 := eq_true p9
                            replace q9 := eq_true q9
                            go_wp2_with (first | ((with_reducible refine gate_callee (f := 25) rfl ?_); refine goesL_ (some 26) rfl rfl Try.func25 (by kernel_rfl) rfl #[.int .u8 (bt a0 x1_1)] rfl (by (try simp only [List.map_toArray, List.map_cons, List.map_nil]); first | done | rfl | (simp only [List.length_drop, List.length_take]; rfl)) ?_; (with_reducible refine (spec_mapDigit.calls kj2 (bt a0 x1_1) t124 _ A10.out).mono ?_); rintro e w' ⟨rfl, ⟨nd, rfl⟩⟩; refine ⟨_, rfl, ?_⟩))
                            go_ret3
                            exact ⟨by first | rfl | (simp; done) | (simp only [← hji13] <;> (first | rfl | simp)) | (simp [*]; done), by repeat (first | exact Drawn0.refl _ | apply Drawn0.step)⟩
                          · rw [if_neg c19] at H
                            have c19b0 : decide ((-2147483648) < ((wrap64 (x7_1 + (ji13))) / 2)) = false := decide_eq_false c19
                            clear c19
                            simp only [Option.some.injEq, Prod.mk.injEq] at H
                            obtain ⟨rfl, rfl, rfl⟩ := H
                            have p9 : 0 ≤ (x1_1 : Int) := of_decide_eq_true (by first | (with_reducible assumption) | assumption)
                            have q9 : x1_1 < (a0.size : Int) := of_decide_eq_true (by first | (with_reducible assumption) | assumption)
                            have hx9 := bt_at a0 x1_1
                            replace p9 := eq_true p9
                            replace q9 := eq_true q9
                            go_wp2_with (first | ((with_reducible refine gate_callee (f := 25) rfl ?_); refine goesL_ (some 26) rfl rfl Try.func25 (by kernel_rfl) rfl #[.int .u8 (bt a0 x1_1)] rfl (by (try simp only [List.map_toArray, List.map_cons, List.map_nil]); first | done | rfl | (simp only [List.length_drop, List.length_take]; rfl)) ?_; (with_reducible refine (spec_mapDigit.calls kj2 (bt a0 x1_1) t124 _ A10.out).mono ?_); rintro e w' ⟨rfl, ⟨nd, rfl⟩⟩; refine ⟨_, rfl, ?_⟩))
                            go_ret3
                            exact ⟨by first | rfl | (simp; done) | (simp only [← hji13] <;> (first | rfl | simp)) | (simp [*]; done), by repeat (first | exact Drawn0.refl _ | apply Drawn0.step)⟩
                        · rw [if_neg c18] at H
                          have c18b0 : decide (((wrap64 (x7_1 + (ji13))) / 2) < 2147483648) = false := decide_eq_false c18
                          clear c18
                          simp only [Option.some.injEq, Prod.mk.injEq] at H
                          obtain ⟨rfl, rfl, rfl⟩ := H
                          have p9 : 0 ≤ (x1_1 : Int) := of_decide_eq_true (by first | (with_reducible assumption) | assumption)
                          have q9 : x1_1 < (a0.size : Int) := of_decide_eq_true (by first | (with_reducible assumption) | assumption)
                          have hx9 := bt_at a0 x1_1
                          replace p9 := eq_true p9
                          replace q9 := eq_true q9
                          go_wp2_with (first | ((with_reducible refine gate_callee (f := 25) rfl ?_); refine goesL_ (some 26) rfl rfl Try.func25 (by kernel_rfl) rfl #[.int .u8 (bt a0 x1_1)] rfl (by (try simp only [List.map_toArray, List.map_cons, List.map_nil]); first | done | rfl | (simp only [List.length_drop, List.length_take]; rfl)) ?_; (with_reducible refine (spec_mapDigit.calls kj2 (bt a0 x1_1) t124 _ A10.out).mono ?_); rintro e w' ⟨rfl, ⟨nd, rfl⟩⟩; refine ⟨_, rfl, ?_⟩))
                          go_ret3
                          exact ⟨by first | rfl | (simp; done) | (simp only [← hji13] <;> (first | rfl | simp)) | (simp [*]; done), by repeat (first | exact Drawn0.refl _ | apply Drawn0.step)⟩
                    · rw [if_neg c14] at H
                      have c14b0 : decide (t124 < 32) = false := decide_eq_false c14
                      clear c14
                      have H' := Aside0.mk H
                      clear H
                      have p9 : 0 ≤ (x1_1 : Int) := of_decide_eq_true (by first | (with_reducible assumption) | assumption)
                      have q9 : x1_1 < (a0.size : Int) := of_decide_eq_true (by first | (with_reducible assumption) | assumption)
                      have hx9 := bt_at a0 x1_1
                      replace p9 := eq_true p9
                      replace q9 := eq_true q9
                      go_wp2_with (first | ((with_reducible refine gate_callee (f := 25) rfl ?_); refine goesL_ (some 26) rfl rfl Try.func25 (by kernel_rfl) rfl #[.int .u8 (bt a0 x1_1)] rfl (by (try simp only [List.map_toArray, List.map_cons, List.map_nil]); first | done | rfl | (simp only [List.length_drop, List.length_take]; rfl)) ?_; (with_reducible refine (spec_mapDigit.calls kj2 (bt a0 x1_1) t124 _ A10.out).mono ?_); rintro e w' ⟨rfl, ⟨nd, rfl⟩⟩; refine ⟨_, rfl, ?_⟩))
                      go_roundg kj2
                      case measure => have := HK1.out; have := HJ2.out; omega
                      case rel => exact ⟨(wrap64 (x1_1 + 1)), (wrap64 (x7_1 + (ji13))), (wrap64 (x8_1 + 5)), (by first | rfl | (simp; done) | (simp [*]; done)), (by first | rfl | (simp; done) | (simp only [← hji13] <;> (first | rfl | simp)) | (simp [*]; done)), (by first | rfl | (simp; done) | (simp [*]; done)), H', ⟨by have := HK1.out; have := HJ2.out; omega⟩, by repeat (first | exact Drawn0.refl _ | apply Drawn0.step)⟩
                  · rw [if_neg c12] at H
                    exact absurd H (by simp)
              · rw [if_neg c8] at H
                exact absurd H (by simp)
            · rw [if_neg c7] at H
              exact absurd H (by simp)

/-! ### spec_mapFits: function 18 -/
def spec_mapFits.l0 : Nat → List Int → Int → Int → Option (Bool)
  | 0, _, _, _ => none
  | k + 1, x17, x18, x19 => if x19 < x18 then (if 0 ≤ x19 then (if x19 < (x17.length : Int) then (if (rd x17 x19) < 0 then (some false) else (if (rd x17 x19) ≥ 2147483648 then (some false) else (spec_mapFits.l0 k x17 x18 (wrap64 (x19 + 1))))) else (none)) else (none)) else (some true)
def spec_mapFits.f (k : Nat) (a0_0 : Int) (a0_1 : Int) (a0_2 : Int) (a0_3 : Int) (a0_4 : Int) (a0_5 : Int) : Option (Bool) := (some (([a0_0, a0_1, a0_2, a0_3, a0_4, a0_5] : List Int) : List Int)).bind fun y126 => (spec_mapFits.l0 k y126 (y126.length : Int) 0)
theorem spec_mapFits.mono_l : ∀ k, (∀ y0 y1 y2, LeO (spec_mapFits.l0 k y0 y1 y2) (spec_mapFits.l0 (k + 1) y0 y1 y2))
  | 0 => fun _ _ _ r h => by simp [spec_mapFits.l0] at h
  | k + 1 => by
    have ih0 := spec_mapFits.mono_l k
    · intro y0 y1 y2
      unfold spec_mapFits.l0
      repeat' first
      | (with_reducible exact ih0 _ _ _)
      | (with_reducible exact LeO.refl _)
      | (with_reducible exact LeO.none _)
      | (with_reducible refine LeO.ite ?_ ?_)
      | (with_reducible refine LeO.bind ?_ (fun _ => ?_))
      | exact ih0 _ _ _
      | exact LeO.none _
      | refine LeO.ite ?_ ?_
      | refine LeO.bind ?_ (fun _ => ?_)
theorem spec_mapFits.mono : ∀ a0 a1 a2 a3 a4 a5 k, LeO (spec_mapFits.f k a0 a1 a2 a3 a4 a5) (spec_mapFits.f (k + 1) a0 a1 a2 a3 a4 a5) := by
  intro a0 a1 a2 a3 a4 a5 k
  have ih0 := spec_mapFits.mono_l k
  unfold spec_mapFits.f
  repeat' first
      | (with_reducible exact ih0 _ _ _)
      | (with_reducible exact LeO.refl _)
      | (with_reducible exact LeO.none _)
      | (with_reducible refine LeO.ite ?_ ?_)
      | (with_reducible refine LeO.bind ?_ (fun _ => ?_))
      | exact ih0 _ _ _
      | exact LeO.none _
      | refine LeO.ite ?_ ?_
      | refine LeO.bind ?_ (fun _ => ?_)
set_option maxHeartbeats 8000000 in
set_option maxRecDepth 100000 in
theorem spec_mapFits.calls (k : Nat) (a0_0 : Int) (a0_1 : Int) (a0_2 : Int) (a0_3 : Int) (a0_4 : Int) (a0_5 : Int) (r : Bool) (w : World) (h : spec_mapFits.f k a0_0 a0_1 a0_2 a0_3 a0_4 a0_5 = some r) :
    Calls Try.prog 18 #[.agg #[.int .i64 a0_0, .int .i64 a0_1, .int .i64 a0_2, .int .i64 a0_3, .int .i64 a0_4, .int .i64 a0_5]] w fun e w' => e = .returned (.bool r) ∧ Below w.heap.size w w' := by
  have hu32 := Try.underlying32
  have HB := Aside0.mk (Below.refl w.heap.size w)
  have H : ((some (([a0_0, a0_1, a0_2, a0_3, a0_4, a0_5] : List Int) : List Int)).bind fun y126 => (spec_mapFits.l0 k y126 (y126.length : Int) 0)) = some r := h
  clear h
  obtain ⟨y126, hy126⟩ : ∃ y_ : List Int, y_ = (([a0_0, a0_1, a0_2, a0_3, a0_4, a0_5] : List Int)) := ⟨_, rfl⟩
  replace H : (spec_mapFits.l0 k y126 (y126.length : Int) 0) = some r := by first | (rw [hy126]; with_reducible exact H) | (have H2_ := (Option.bind_some _ _).symm.trans H; rw [hy126]; with_reducible exact H2_) | (have H2_ := (Option.bind_some _ _).symm.trans H; with_reducible exact H2_) | with_reducible exact H | (rw [hy126]; exact H) | exact H
  have Ny126 := Aside0.mk hy126
  clear hy126
  have H' := Aside0.mk H
  clear H
  go_enter Try.func18, Try.ntmps18
  go_wp2_with (first | ((with_reducible refine gate_dst (N := 1) rfl ?_); refine box_event ?hg (N := 1) ?hd (cs := #[.int .i64 a0_0, .int .i64 a0_1, .int .i64 a0_2, .int .i64 a0_3, .int .i64 a0_4, .int .i64 a0_5]) (t := 32) ?hr ?_; (case hd => rfl); (case hg => rfl); (case hr => first | (go_simp; done) | (go_simp; rfl)); intro gb125 hg w2 hbox hb; have n0_ := Aside0.mk (below_step (by repeat (first | (with_reducible first | exact HB.out | apply below_alloc | apply pw_below_drewN | apply below_drew1) | exact HB.out)) hb); have n1_ := Aside0.mk (hbox); have n2_ := Aside0.mk ((by rw [hg]; exact (below_size (by repeat (first | (with_reducible first | exact HB.out | apply below_alloc | apply pw_below_drewN | apply below_drew1) | exact HB.out))) : w.heap.size ≤ gb125)); have n3_ := Aside0.mk ((by rw [hg]; exact (below_size (by repeat (first | (with_reducible first | exact HB.out | apply below_alloc | apply pw_below_drewN | apply below_drew1) | exact HB.out))) : w.heap.size ≤ gb125)); clear HB; have HB := n0_; have BK125 := n1_; have GW125 := n2_; have GE125 := n3_; clear n0_ n1_ n2_ n3_; clear hb hbox hg; have hcz3_0 : w2.cell? ⟨gb125, 0, none⟩ = some (.int .i64 a0_0) := (blk_cell BK125.out 0).trans rfl; have hcz3_1 : w2.cell? ⟨gb125, 1, none⟩ = some (.int .i64 a0_1) := (blk_cell BK125.out 1).trans rfl; have hcz3_2 : w2.cell? ⟨gb125, 2, none⟩ = some (.int .i64 a0_2) := (blk_cell BK125.out 2).trans rfl; have hcz3_3 : w2.cell? ⟨gb125, 3, none⟩ = some (.int .i64 a0_3) := (blk_cell BK125.out 3).trans rfl; have hcz3_4 : w2.cell? ⟨gb125, 4, none⟩ = some (.int .i64 a0_4) := (blk_cell BK125.out 4).trans rfl; have hcz3_5 : w2.cell? ⟨gb125, 5, none⟩ = some (.int .i64 a0_5) := (blk_cell BK125.out 5).trans rfl; have hfz3_0 := blk_frozen BK125.out 0; have hfz3_1 := blk_frozen BK125.out 1; have hfz3_2 := blk_frozen BK125.out 2; have hfz3_3 := blk_frozen BK125.out 3; have hfz3_4 := blk_frozen BK125.out 4; have hfz3_5 := blk_frozen BK125.out 5) | ((with_reducible refine gate_dst (N := 17) rfl ?_); refine Kd.R_lit (Kd.int .i64) _ 3 ?hg (N := 17) ?hd (xs := ([a0_0, a0_1, a0_2, a0_3, a0_4, a0_5] : List Int)) (inner := [.int .i64 a0_0, .int .i64 a0_1, .int .i64 a0_2, .int .i64 a0_3, .int .i64 a0_4, .int .i64 a0_5]) (ok := fun _ => True) (okp := fun _ => True) ?hr ?hp (fun _ hk => hk) trivial (Below.refl _ _) (Nat.le_refl _) (by simp) ?_; (case hd => rfl); (case hg => rfl); (case hr => first | (go_simp; done) | (go_simp; rfl)); (case hp => exact (Reps.one (show Kd.M (Kd.int .i64) _ _ _ a0_0 [.int .i64 a0_0] from rfl) (Reps.one (show Kd.M (Kd.int .i64) _ _ _ a0_1 [.int .i64 a0_1] from rfl) (Reps.one (show Kd.M (Kd.int .i64) _ _ _ a0_2 [.int .i64 a0_2] from rfl) (Reps.one (show Kd.M (Kd.int .i64) _ _ _ a0_3 [.int .i64 a0_3] from rfl) (Reps.one (show Kd.M (Kd.int .i64) _ _ _ a0_4 [.int .i64 a0_4] from rfl) (Reps.one (show Kd.M (Kd.int .i64) _ _ _ a0_5 [.int .i64 a0_5] from rfl) (Reps.none _ _)))))))); intro v127 w4 ho5 hb hg_ hnew_; clear hg_ hnew_; (first | rw [← Ny126.out] at ho5 | (simp only [Int.reduceToNat] at ho5; rw [← Ny126.out] at ho5)); have n0_ := Aside0.mk (Kd.R_lower ho5 (below_size (by repeat (first | (with_reducible first | exact HB.out | apply below_alloc | apply pw_below_drewN | apply below_drew1 | refine below_set ?_ GE125.out) | exact HB.out)))); have n1_ := Aside0.mk (blk_below (g := gb125) (o := .cells #[.int .i64 a0_0, .int .i64 a0_1, .int .i64 a0_2, .int .i64 a0_3, .int .i64 a0_4, .int .i64 a0_5] 32 (0, 0)) (by (with_reducible repeat (first | refine blk_drewN ?_ _ | refine blk_drew ?_ | refine blk_alloc ?_ _)); exact BK125.out) hb); have n2_ := Aside0.mk (below_step (by repeat (first | (with_reducible first | exact HB.out | apply below_alloc | apply pw_below_drewN | apply below_drew1 | refine below_set ?_ GE125.out) | exact HB.out)) hb); clear BK125; clear HB; have HO128 := n0_; have BK125 := n1_; have HB := n2_; clear n0_ n1_ n2_; clear hb ho5; obtain ⟨Ao6, co6, eo6⟩ := Kd.R_slice HO128.out; subst eo6))
  go_loopg [19] k (fun kq v19 w' => ∃ (x19_1 : Int), v19 = .int .i64 x19_1 ∧ Aside0 (spec_mapFits.l0 kq y126 (y126.length : Int) x19_1 = some r) ∧ Aside0 (kq ≤ k) ∧ Aside0 (Kd.R (Kd.int .i64) 3 w' w.heap.size (fun _ => True) (.slice Ao6 y126.length co6) y126) ∧ Aside0 (w'.heap[gb125]? = some (.cells #[.int .i64 a0_0, .int .i64 a0_1, .int .i64 a0_2, .int .i64 a0_3, .int .i64 a0_4, .int .i64 a0_5] 32 (0, 0))) ∧ Aside0 (Below w.heap.size w w'))
  case atStart => exact ⟨(0), (by first | rfl | (simp; done) | (simp [*]; done)), H', ⟨Nat.le_refl _⟩, ⟨by (with_reducible repeat (first | apply Kd.R_alloc | apply Kd.R_drewN | apply Kd.R_drew)); exact HO128.out⟩, ⟨by (with_reducible repeat (first | refine blk_drewN ?_ _ | refine blk_drew ?_ | refine blk_alloc ?_ _)); exact BK125.out⟩, ⟨by repeat (first | (with_reducible first | exact HB.out | apply below_alloc | apply pw_below_drewN | apply below_drew1 | refine below_set ?_ GE125.out) | exact HB.out)⟩⟩
  case round =>
    clear H'
    try clear c1
    try clear p2
    try clear hcz3_0
    try clear hcz3_1
    try clear hcz3_2
    try clear hcz3_3
    try clear hcz3_4
    try clear hcz3_5
    try clear hfz3_0
    try clear hfz3_1
    try clear hfz3_2
    try clear hfz3_3
    try clear hfz3_4
    try clear hfz3_5
    obtain ⟨x19_1, rfl, HA, HK1, HO_17, BK125, HB⟩ := hrel
    cases gk with
    | zero => exact absurd HA.out (by simp [spec_mapFits.l0])
    | succ k1 =>
      have H := HA.out
      clear HA
      simp only [spec_mapFits.l0] at H
      by_cases c7 : x19_1 < (y126.length : Int)
      · rw [if_pos c7] at H
        have c7b0 : decide (x19_1 < (y126.length : Int)) = true := decide_eq_true c7
        clear c7
        by_cases c8 : 0 ≤ x19_1
        · rw [if_pos c8] at H
          have c8b0 : decide (0 ≤ x19_1) = true := decide_eq_true c8
          clear c8
          by_cases c9 : x19_1 < (y126.length : Int)
          · rw [if_pos c9] at H
            have c9b0 : decide (x19_1 < (y126.length : Int)) = true := decide_eq_true c9
            clear c9
            by_cases c10 : (rd y126 x19_1) < 0
            · rw [if_pos c10] at H
              have c10b0 : decide ((rd y126 x19_1) < 0) = true := decide_eq_true c10
              clear c10
              obtain rfl := Option.some.inj H
              have p129 : 0 ≤ (x19_1 : Int) := of_decide_eq_true (by first | (with_reducible assumption) | assumption)
              have q129 : x19_1 < (y126.length : Int) := of_decide_eq_true (by first | (with_reducible assumption) | assumption)
              obtain ⟨ad129, e129, hx129_0⟩ := Kd.at_int (Kd.R_reads' HO_17.out).2.2 x19_1 p129 q129
              cases e129
              replace p129 := eq_true p129
              replace q129 := eq_true q129
              go_wp2
              go_ret
              exact ⟨by first | rfl | (simp [errW_none, errW_some] <;> rfl) | (simp [*, errW_none, errW_some] <;> rfl), by repeat (first | (with_reducible first | exact HB.out | apply below_alloc | apply pw_below_drewN | apply below_drew1 | refine below_set ?_ GE125.out) | exact HB.out)⟩
            · rw [if_neg c10] at H
              have c10b0 : decide ((rd y126 x19_1) < 0) = false := decide_eq_false c10
              clear c10
              by_cases c11 : (rd y126 x19_1) ≥ 2147483648
              · rw [if_pos c11] at H
                have c11b0 : decide (2147483648 ≤ (rd y126 x19_1)) = true := decide_eq_true c11
                clear c11
                obtain rfl := Option.some.inj H
                have p129 : 0 ≤ (x19_1 : Int) := of_decide_eq_true (by first | (with_reducible assumption) | assumption)
                have q129 : x19_1 < (y126.length : Int) := of_decide_eq_true (by first | (with_reducible assumption) | assumption)
                obtain ⟨ad129, e129, hx129_0⟩ := Kd.at_int (Kd.R_reads' HO_17.out).2.2 x19_1 p129 q129
                cases e129
                replace p129 := eq_true p129
                replace q129 := eq_true q129
                go_wp2
                go_ret
                exact ⟨by first | rfl | (simp [errW_none, errW_some] <;> rfl) | (simp [*, errW_none, errW_some] <;> rfl), by repeat (first | (with_reducible first | exact HB.out | apply below_alloc | apply pw_below_drewN | apply below_drew1 | refine below_set ?_ GE125.out) | exact HB.out)⟩
              · rw [if_neg c11] at H
                have c11b0 : decide (2147483648 ≤ (rd y126 x19_1)) = false := decide_eq_false c11
                clear c11
                have H' := Aside0.mk H
                clear H
                have p129 : 0 ≤ (x19_1 : Int) := of_decide_eq_true (by first | (with_reducible assumption) | assumption)
                have q129 : x19_1 < (y126.length : Int) := of_decide_eq_true (by first | (with_reducible assumption) | assumption)
                obtain ⟨ad129, e129, hx129_0⟩ := Kd.at_int (Kd.R_reads' HO_17.out).2.2 x19_1 p129 q129
                cases e129
                replace p129 := eq_true p129
                replace q129 := eq_true q129
                go_wp2
                go_roundg k1
                case measure => have := HK1.out; omega
                case rel => exact ⟨(wrap64 (x19_1 + 1)), (by first | rfl | (simp; done) | (simp [*]; done)), H', ⟨by have := HK1.out; omega⟩, ⟨by (with_reducible repeat (first | apply Kd.R_alloc | apply Kd.R_drewN | apply Kd.R_drew)); exact HO_17.out⟩, ⟨by (with_reducible repeat (first | refine blk_drewN ?_ _ | refine blk_drew ?_ | refine blk_alloc ?_ _)); exact BK125.out⟩, ⟨by repeat (first | (with_reducible first | exact HB.out | apply below_alloc | apply pw_below_drewN | apply below_drew1 | refine below_set ?_ GE125.out) | exact HB.out)⟩⟩
          · rw [if_neg c9] at H
            exact absurd H (by simp)
        · rw [if_neg c8] at H
          exact absurd H (by simp)
      · rw [if_neg c7] at H
        have c7b0 : decide (x19_1 < (y126.length : Int)) = false := decide_eq_false c7
        clear c7
        obtain rfl := Option.some.inj H
        go_wp2
        go_ret
        exact ⟨by first | rfl | (simp [errW_none, errW_some] <;> rfl) | (simp [*, errW_none, errW_some] <;> rfl), by repeat (first | (with_reducible first | exact HB.out | apply below_alloc | apply pw_below_drewN | apply below_drew1 | refine below_set ?_ GE125.out) | exact HB.out)⟩

-- NOT PRINTED: function 8 (spec_Mappings)

/-! ### spec_SameMappings: function 9 -/
def spec_SameMappings.l0 : Nat → List (S27) → List (S27) → Int → Int → Option (Bool)
  | 0, _, _, _, _ => none
  | k + 1, x0, x1, x12, x13 => if x13 < x12 then (if 0 ≤ x13 then (if x13 < (x0.length : Int) then (if x13 < (x1.length : Int) then (if (!(((rd_T27 x0 x13).f0) == ((rd_T27 x1 x13).f0)) || (!(((rd_T27 x0 x13).f1) == ((rd_T27 x1 x13).f1)) || (!(((rd_T27 x0 x13).f2) == ((rd_T27 x1 x13).f2)) || (!(((rd_T27 x0 x13).f3) == ((rd_T27 x1 x13).f3)) || (!(((rd_T27 x0 x13).f4) == ((rd_T27 x1 x13).f4)) || (!(((rd_T27 x0 x13).f5) == ((rd_T27 x1 x13).f5)))))))) = true then (some false) else (spec_SameMappings.l0 k x0 x1 x12 (wrap64 (x13 + 1)))) else (none)) else (none)) else (none)) else (some true)
def spec_SameMappings.f (k : Nat) (l0 : List (S27)) (l1 : List (S27)) : Option (Bool) := if (l0.length : Int) = (l1.length : Int) then (spec_SameMappings.l0 k l0 l1 (l0.length : Int) 0) else (some false)
theorem spec_SameMappings.mono_l : ∀ k, (∀ y0 y1 y2 y3, LeO (spec_SameMappings.l0 k y0 y1 y2 y3) (spec_SameMappings.l0 (k + 1) y0 y1 y2 y3))
  | 0 => fun _ _ _ _ r h => by simp [spec_SameMappings.l0] at h
  | k + 1 => by
    have ih0 := spec_SameMappings.mono_l k
    · intro y0 y1 y2 y3
      unfold spec_SameMappings.l0
      repeat' first
      | (with_reducible exact ih0 _ _ _ _)
      | (with_reducible exact LeO.refl _)
      | (with_reducible exact LeO.none _)
      | (with_reducible refine LeO.ite ?_ ?_)
      | (with_reducible refine LeO.bind ?_ (fun _ => ?_))
      | exact ih0 _ _ _ _
      | exact LeO.none _
      | refine LeO.ite ?_ ?_
      | refine LeO.bind ?_ (fun _ => ?_)
theorem spec_SameMappings.mono : ∀ a0 a1 k, LeO (spec_SameMappings.f k a0 a1) (spec_SameMappings.f (k + 1) a0 a1) := by
  intro a0 a1 k
  have ih0 := spec_SameMappings.mono_l k
  unfold spec_SameMappings.f
  repeat' first
      | (with_reducible exact ih0 _ _ _ _)
      | (with_reducible exact LeO.refl _)
      | (with_reducible exact LeO.none _)
      | (with_reducible refine LeO.ite ?_ ?_)
      | (with_reducible refine LeO.bind ?_ (fun _ => ?_))
      | exact ih0 _ _ _ _
      | exact LeO.none _
      | refine LeO.ite ?_ ?_
      | refine LeO.bind ?_ (fun _ => ?_)
set_option maxHeartbeats 8000000 in
set_option maxRecDepth 100000 in
theorem spec_SameMappings.calls (k : Nat) (A0 : Option Addr) (c0 : Nat) (l0 : List (S27)) (A1 : Option Addr) (c1 : Nat) (l1 : List (S27)) (r : Bool) (w : World) (hr0 : Kd.C k27 w A0 l0.length l0) (hc0 : l0.length ≤ c0) (hr1 : Kd.C k27 w A1 l1.length l1) (hc1 : l1.length ≤ c1) (h : spec_SameMappings.f k l0 l1 = some r) :
    Calls Try.prog 9 #[.slice A0 l0.length c0, .slice A1 l1.length c1] w fun e w' => e = .returned (.bool r) ∧ Drawn0 w w' := by
  have hu27 := Try.underlying27
  have HR0 := Aside0.mk hr0
  have HC0 := Aside0.mk hc0
  clear hr0 hc0
  have HR1 := Aside0.mk hr1
  have HC1 := Aside0.mk hc1
  clear hr1 hc1
  have H : (if (l0.length : Int) = (l1.length : Int) then (spec_SameMappings.l0 k l0 l1 (l0.length : Int) 0) else (some false)) = some r := h
  clear h
  by_cases c3 : (l0.length : Int) = (l1.length : Int)
  · rw [if_pos c3] at H
    have c3b0 : ((l0.length : Int) == (l1.length : Int)) = true := beq_iff_eq.mpr c3
    have c3b1 : ((l0.length : Int) != (l1.length : Int)) = false := bne_eq_false_iff_eq.mpr c3
    have c3b2 : (l0.length == l1.length) = true := by first | simpa using c3 | (simp at c3 ⊢; omega)
    clear c3
    have H' := Aside0.mk H
    clear H
    go_enter Try.func9, Try.ntmps9
    go_wp2
    repeat (go_quiet (fail); try go_wp2)
    go_loopg [13] k (fun kq v13 w' => ∃ (x13_1 : Int), v13 = .int .i64 x13_1 ∧ Aside0 (spec_SameMappings.l0 kq l0 l1 (l0.length : Int) x13_1 = some r) ∧ Aside0 (kq ≤ k) ∧ Drawn0 w w')
    case atStart => exact ⟨(0), (by first | rfl | (simp; done) | (simp [*]; done)), H', ⟨Nat.le_refl _⟩, by repeat (first | exact Drawn0.refl _ | apply Drawn0.step)⟩
    case round =>
      clear H'
      try clear c1
      try clear p2
      try clear c3
      try clear c3b0
      try clear c3b1
      try clear c3b2
      obtain ⟨x13_1, rfl, HA, HK1, ⟨m1, rfl⟩⟩ := hrel
      cases gk with
      | zero => exact absurd HA.out (by simp [spec_SameMappings.l0])
      | succ k1 =>
        have H := HA.out
        clear HA
        simp only [spec_SameMappings.l0] at H
        by_cases c4 : x13_1 < (l0.length : Int)
        · rw [if_pos c4] at H
          have c4b0 : decide (x13_1 < (l0.length : Int)) = true := decide_eq_true c4
          clear c4
          by_cases c5 : 0 ≤ x13_1
          · rw [if_pos c5] at H
            have c5b0 : decide (0 ≤ x13_1) = true := decide_eq_true c5
            clear c5
            by_cases c6 : x13_1 < (l0.length : Int)
            · rw [if_pos c6] at H
              have c6b0 : decide (x13_1 < (l0.length : Int)) = true := decide_eq_true c6
              clear c6
              by_cases c7 : x13_1 < (l1.length : Int)
              · rw [if_pos c7] at H
                have c7b0 : decide (x13_1 < (l1.length : Int)) = true := decide_eq_true c7
                clear c7
                by_cases c8 : (!(((rd_T27 l0 x13_1).f0) == ((rd_T27 l1 x13_1).f0)) || (!(((rd_T27 l0 x13_1).f1) == ((rd_T27 l1 x13_1).f1)) || (!(((rd_T27 l0 x13_1).f2) == ((rd_T27 l1 x13_1).f2)) || (!(((rd_T27 l0 x13_1).f3) == ((rd_T27 l1 x13_1).f3)) || (!(((rd_T27 l0 x13_1).f4) == ((rd_T27 l1 x13_1).f4)) || (!(((rd_T27 l0 x13_1).f5) == ((rd_T27 l1 x13_1).f5)))))))) = true
                · rw [if_pos c8] at H
                  have c8b0 : (!(((rd_T27 l0 x13_1).f0) == ((rd_T27 l1 x13_1).f0)) || (!(((rd_T27 l0 x13_1).f1) == ((rd_T27 l1 x13_1).f1)) || (!(((rd_T27 l0 x13_1).f2) == ((rd_T27 l1 x13_1).f2)) || (!(((rd_T27 l0 x13_1).f3) == ((rd_T27 l1 x13_1).f3)) || (!(((rd_T27 l0 x13_1).f4) == ((rd_T27 l1 x13_1).f4)) || (!(((rd_T27 l0 x13_1).f5) == ((rd_T27 l1 x13_1).f5)))))))) = true := c8
                  clear c8
                  obtain rfl := Option.some.inj H
                  have p152 : 0 ≤ (x13_1 : Int) := of_decide_eq_true (by first | (with_reducible assumption) | assumption)
                  have q152 : x13_1 < (l0.length : Int) := of_decide_eq_true (by first | (with_reducible assumption) | assumption)
                  obtain ⟨ad152, e152, hx152_0, hx152_1, hx152_2, hx152_3, hx152_4, hx152_5⟩ := at_T27 HR0.out x13_1 p152 q152
                  cases e152
                  replace p152 := eq_true p152
                  replace q152 := eq_true q152
                  have p153 : 0 ≤ (x13_1 : Int) := of_decide_eq_true (by first | (with_reducible assumption) | assumption)
                  have q153 : x13_1 < (l1.length : Int) := of_decide_eq_true (by first | (with_reducible assumption) | assumption)
                  obtain ⟨ad153, e153, hx153_0, hx153_1, hx153_2, hx153_3, hx153_4, hx153_5⟩ := at_T27 HR1.out x13_1 p153 q153
                  cases e153
                  replace p153 := eq_true p153
                  replace q153 := eq_true q153
                  go_wp2
                  repeat (go_quiet (fail); try go_wp2)
                  go_ret
                  exact ⟨by first | rfl | (simp; done) | (simp [*]; done), by repeat (first | exact Drawn0.refl _ | apply Drawn0.step)⟩
                · rw [if_neg c8] at H
                  have c8b0 : (!(((rd_T27 l0 x13_1).f0) == ((rd_T27 l1 x13_1).f0)) || (!(((rd_T27 l0 x13_1).f1) == ((rd_T27 l1 x13_1).f1)) || (!(((rd_T27 l0 x13_1).f2) == ((rd_T27 l1 x13_1).f2)) || (!(((rd_T27 l0 x13_1).f3) == ((rd_T27 l1 x13_1).f3)) || (!(((rd_T27 l0 x13_1).f4) == ((rd_T27 l1 x13_1).f4)) || (!(((rd_T27 l0 x13_1).f5) == ((rd_T27 l1 x13_1).f5)))))))) = false := by simpa using c8
                  clear c8
                  have H' := Aside0.mk H
                  clear H
                  have p152 : 0 ≤ (x13_1 : Int) := of_decide_eq_true (by first | (with_reducible assumption) | assumption)
                  have q152 : x13_1 < (l0.length : Int) := of_decide_eq_true (by first | (with_reducible assumption) | assumption)
                  obtain ⟨ad152, e152, hx152_0, hx152_1, hx152_2, hx152_3, hx152_4, hx152_5⟩ := at_T27 HR0.out x13_1 p152 q152
                  cases e152
                  replace p152 := eq_true p152
                  replace q152 := eq_true q152
                  have p153 : 0 ≤ (x13_1 : Int) := of_decide_eq_true (by first | (with_reducible assumption) | assumption)
                  have q153 : x13_1 < (l1.length : Int) := of_decide_eq_true (by first | (with_reducible assumption) | assumption)
                  obtain ⟨ad153, e153, hx153_0, hx153_1, hx153_2, hx153_3, hx153_4, hx153_5⟩ := at_T27 HR1.out x13_1 p153 q153
                  cases e153
                  replace p153 := eq_true p153
                  replace q153 := eq_true q153
                  go_wp2
                  repeat (go_quiet (fail); try go_wp2)
                  go_roundg k1
                  case measure => have := HK1.out; omega
                  case rel => exact ⟨(wrap64 (x13_1 + 1)), (by first | rfl | (simp; done) | (simp [*]; done)), H', ⟨by have := HK1.out; omega⟩, by repeat (first | exact Drawn0.refl _ | apply Drawn0.step)⟩
              · rw [if_neg c7] at H
                exact absurd H (by simp)
            · rw [if_neg c6] at H
              exact absurd H (by simp)
          · rw [if_neg c5] at H
            exact absurd H (by simp)
        · rw [if_neg c4] at H
          have c4b0 : decide (x13_1 < (l0.length : Int)) = false := decide_eq_false c4
          clear c4
          obtain rfl := Option.some.inj H
          go_wp2
          repeat (go_quiet (fail); try go_wp2)
          go_ret
          exact ⟨by first | rfl | (simp; done) | (simp [*]; done), by repeat (first | exact Drawn0.refl _ | apply Drawn0.step)⟩
  · rw [if_neg c3] at H
    have c3b0 : ((l0.length : Int) == (l1.length : Int)) = false := beq_eq_false_iff_ne.mpr c3
    have c3b1 : ((l0.length : Int) != (l1.length : Int)) = true := bne_iff_ne.mpr c3
    have c3b2 : (l0.length == l1.length) = false := by first | simpa using c3 | (simp at c3 ⊢; omega)
    obtain rfl := Option.some.inj H
    go_enter Try.func9, Try.ntmps9
    go_wp2
    repeat (go_quiet (fail); try go_wp2)
    go_ret
    exact ⟨by first | rfl | (simp; done) | (simp [*]; done), by repeat (first | exact Drawn0.refl _ | apply Drawn0.step)⟩

-- NOT PRINTED: function 3 (laws_FnFinalize)

end Go.Proofs.Ytdhaifcjhmmdlaa.PFnFinalize
