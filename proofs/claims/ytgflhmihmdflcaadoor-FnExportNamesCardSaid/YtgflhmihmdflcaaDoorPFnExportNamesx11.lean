-- PRINTED BY print.sh 35421559b90ae4d0a3588c463048766b98c2df88dd9212a6774a882060cdf62d: not written by this session
import Derived.Test.YtgflhmihmdflcaaDoorPFnExportNamesx0
namespace Go.Proofs.YtgflhmihmdflcaaDoor.PFnExportNames
open Go.RowKit Go.Proofs.YtgflhmihmdflcaaDoorW.PrintWords Go.Proofs.YtgflhmihmdflcaaDoorW.PrintLast Go.Proofs.YtgflhmihmdflcaaDoorW.PrintMore
attribute [local go_sem] max2_int min2_int max_two min_two max_three min_three max_four min_four   -- for this text's walks alone
set_option linter.unusedVariables false
set_option linter.unusedSimpArgs false

-- NOT PRINTED: function 13 (spec_Next)

-- NOT PRINTED: function 9 (spec_isIdentifierName)

/-! ### spec_has: function 21 -/
def spec_has.l0 : Nat → List ByteArray → ByteArray → Int → Option (Bool)
  | 0, _, _, _ => none
  | k + 1, x0, x1, x5 => if x5 < (x0.length : Int) then (if 0 ≤ x5 then (if (rdOf ByteArray.empty x0 x5).toList = x1.toList then (some true) else (spec_has.l0 k x0 x1 (wrap64 (x5 + 1)))) else (none)) else (some false)
def spec_has.f (k : Nat) (l0 : List ByteArray) (a1 : ByteArray) : Option (Bool) := spec_has.l0 k l0 a1 0
theorem spec_has.mono_l : ∀ k, (∀ y0 y1 y2, LeO (spec_has.l0 k y0 y1 y2) (spec_has.l0 (k + 1) y0 y1 y2))
  | 0 => fun _ _ _ r h => by simp [spec_has.l0] at h
  | k + 1 => by
    have ih0 := spec_has.mono_l k
    · intro y0 y1 y2
      unfold spec_has.l0
      repeat' first
      | (with_reducible exact ih0 _ _ _)
      | (with_reducible exact LeO.refl _)
      | (with_reducible exact LeO.none _)
      | (with_reducible refine LeO.ite ?_ ?_)
      | (with_reducible refine LeO.bind ?_ (fun _ => ?_))
      | exact ih0 _ _ _
      | exact LeO.none _
      | refine LeO.ite ?_ ?_
      | refine LeO.bind ?_ (fun _ => ?_)
theorem spec_has.mono : ∀ a0 a1 k, LeO (spec_has.f k a0 a1) (spec_has.f (k + 1) a0 a1) := by
  intro a0 a1 k
  have ih0 := spec_has.mono_l k
  unfold spec_has.f
  repeat' first
      | (with_reducible exact ih0 _ _ _)
      | (with_reducible exact LeO.refl _)
      | (with_reducible exact LeO.none _)
      | (with_reducible refine LeO.ite ?_ ?_)
      | (with_reducible refine LeO.bind ?_ (fun _ => ?_))
      | exact ih0 _ _ _
      | exact LeO.none _
      | refine LeO.ite ?_ ?_
      | refine LeO.bind ?_ (fun _ => ?_)
set_option maxHeartbeats 8000000 in
set_option maxRecDepth 100000 in
theorem spec_has.calls (k : Nat) (A0 : Option Addr) (c0 : Nat) (l0 : List ByteArray) (a1 : ByteArray) (r : Bool) (w : World) (hr0 : Kd.C Kd.string w A0 l0.length l0) (hc0 : l0.length ≤ c0) (h : spec_has.f k l0 a1 = some r) :
    Calls Tryd.prog 21 #[.slice A0 l0.length c0, .string a1] w fun e w' => e = .returned (.bool r) ∧ Drawn0 w w' := by
  have HR0 := Aside0.mk hr0
  have HC0 := Aside0.mk hc0
  clear hr0 hc0
  have H : (spec_has.l0 k l0 a1 0) = some r := h
  clear h
  have H' := Aside0.mk H
  clear H
  go_enter Tryd.func21, Tryd.ntmps21
  go_wp2
  go_loopg [5] k (fun kq v5 w' => ∃ (x5_1 : Int), v5 = .int .i64 x5_1 ∧ Aside0 (spec_has.l0 kq l0 a1 x5_1 = some r) ∧ Aside0 (kq ≤ k) ∧ Drawn0 w w')
  case atStart => exact ⟨(0), (by first | rfl | (simp; done) | (simp [*]; done)), H', ⟨Nat.le_refl _⟩, by repeat (first | exact Drawn0.refl _ | apply Drawn0.step)⟩
  case round =>
    clear H'
    try clear c2
    try clear p2
    obtain ⟨x5_1, rfl, HA, HK1, ⟨m1, rfl⟩⟩ := hrel
    cases gk with
    | zero => exact absurd HA.out (by simp [spec_has.l0])
    | succ k1 =>
      have H := HA.out
      clear HA
      simp only [spec_has.l0] at H
      by_cases c3 : x5_1 < (l0.length : Int)
      · rw [if_pos c3] at H
        have c3b0 : decide (x5_1 < (l0.length : Int)) = true := decide_eq_true c3
        clear c3
        by_cases c4 : 0 ≤ x5_1
        · rw [if_pos c4] at H
          have c4b0 : decide (0 ≤ x5_1) = true := decide_eq_true c4
          clear c4
          by_cases c5 : (rdOf ByteArray.empty l0 x5_1).toList = a1.toList
          · rw [if_pos c5] at H
            have c5b0 : ((rdOf ByteArray.empty l0 x5_1).toList == a1.toList) = true := beq_iff_eq.mpr c5
            have c5b1 : ((rdOf ByteArray.empty l0 x5_1).toList != a1.toList) = false := bne_eq_false_iff_eq.mpr c5
            clear c5
            obtain rfl := Option.some.inj H
            have p829 : 0 ≤ (x5_1 : Int) := of_decide_eq_true (by first | (with_reducible assumption) | assumption)
            have q829 : x5_1 < (l0.length : Int) := of_decide_eq_true (by first | (with_reducible assumption) | assumption)
            obtain ⟨ad829, e829, hx829_0⟩ := Kd.at_string HR0.out x5_1 p829 q829
            cases e829
            replace p829 := eq_true p829
            replace q829 := eq_true q829
            go_wp2
            go_ret
            exact ⟨by first | rfl | (simp; done) | (simp [*]; done), by repeat (first | exact Drawn0.refl _ | apply Drawn0.step)⟩
          · rw [if_neg c5] at H
            have c5b0 : ((rdOf ByteArray.empty l0 x5_1).toList == a1.toList) = false := beq_eq_false_iff_ne.mpr c5
            have c5b1 : ((rdOf ByteArray.empty l0 x5_1).toList != a1.toList) = true := bne_iff_ne.mpr c5
            have H' := Aside0.mk H
            clear H
            have p829 : 0 ≤ (x5_1 : Int) := of_decide_eq_true (by first | (with_reducible assumption) | assumption)
            have q829 : x5_1 < (l0.length : Int) := of_decide_eq_true (by first | (with_reducible assumption) | assumption)
            obtain ⟨ad829, e829, hx829_0⟩ := Kd.at_string HR0.out x5_1 p829 q829
            cases e829
            replace p829 := eq_true p829
            replace q829 := eq_true q829
            go_wp2
            go_roundg k1
            case measure => have := HK1.out; omega
            case rel => exact ⟨(wrap64 (x5_1 + 1)), (by first | rfl | (simp; done) | (simp [*]; done)), H', ⟨by have := HK1.out; omega⟩, by repeat (first | exact Drawn0.refl _ | apply Drawn0.step)⟩
        · rw [if_neg c4] at H
          exact absurd H (by simp)
      · rw [if_neg c3] at H
        have c3b0 : decide (x5_1 < (l0.length : Int)) = false := decide_eq_false c3
        clear c3
        obtain rfl := Option.some.inj H
        go_wp2
        go_ret
        exact ⟨by first | rfl | (simp; done) | (simp [*]; done), by repeat (first | exact Drawn0.refl _ | apply Drawn0.step)⟩

/-! ### spec_Reserved: function 14 -/
def spec_Reserved.f (k : Nat) (a0 : ByteArray) : Option (Bool) := (spec_has.f k (([(⟨#[98, 114, 101, 97, 107]⟩ : ByteArray), (⟨#[99, 97, 115, 101]⟩ : ByteArray), (⟨#[99, 97, 116, 99, 104]⟩ : ByteArray), (⟨#[99, 108, 97, 115, 115]⟩ : ByteArray), (⟨#[99, 111, 110, 115, 116]⟩ : ByteArray), (⟨#[99, 111, 110, 116, 105, 110, 117, 101]⟩ : ByteArray), (⟨#[100, 101, 98, 117, 103, 103, 101, 114]⟩ : ByteArray), (⟨#[100, 101, 102, 97, 117, 108, 116]⟩ : ByteArray), (⟨#[100, 101, 108, 101, 116, 101]⟩ : ByteArray), (⟨#[100, 111]⟩ : ByteArray), (⟨#[101, 108, 115, 101]⟩ : ByteArray), (⟨#[101, 110, 117, 109]⟩ : ByteArray), (⟨#[101, 120, 112, 111, 114, 116]⟩ : ByteArray), (⟨#[101, 120, 116, 101, 110, 100, 115]⟩ : ByteArray), (⟨#[102, 97, 108, 115, 101]⟩ : ByteArray), (⟨#[102, 105, 110, 97, 108, 108, 121]⟩ : ByteArray), (⟨#[102, 111, 114]⟩ : ByteArray), (⟨#[102, 117, 110, 99, 116, 105, 111, 110]⟩ : ByteArray), (⟨#[105, 102]⟩ : ByteArray), (⟨#[105, 109, 112, 111, 114, 116]⟩ : ByteArray), (⟨#[105, 110]⟩ : ByteArray), (⟨#[105, 110, 115, 116, 97, 110, 99, 101, 111, 102]⟩ : ByteArray), (⟨#[110, 101, 119]⟩ : ByteArray), (⟨#[110, 117, 108, 108]⟩ : ByteArray), (⟨#[114, 101, 116, 117, 114, 110]⟩ : ByteArray), (⟨#[115, 117, 112, 101, 114]⟩ : ByteArray), (⟨#[115, 119, 105, 116, 99, 104]⟩ : ByteArray), (⟨#[116, 104, 105, 115]⟩ : ByteArray), (⟨#[116, 104, 114, 111, 119]⟩ : ByteArray), (⟨#[116, 114, 117, 101]⟩ : ByteArray), (⟨#[116, 114, 121]⟩ : ByteArray), (⟨#[116, 121, 112, 101, 111, 102]⟩ : ByteArray), (⟨#[118, 97, 114]⟩ : ByteArray), (⟨#[118, 111, 105, 100]⟩ : ByteArray), (⟨#[119, 104, 105, 108, 101]⟩ : ByteArray), (⟨#[119, 105, 116, 104]⟩ : ByteArray)] : List ByteArray)) a0).bind fun t833 => (some t833)
theorem spec_Reserved.mono : ∀ a0 k, LeO (spec_Reserved.f k a0) (spec_Reserved.f (k + 1) a0) := by
  intro a0 k
  unfold spec_Reserved.f
  repeat' first
      | (with_reducible exact spec_has.mono _ _ _)
      | (with_reducible exact LeO.refl _)
      | (with_reducible exact LeO.none _)
      | (with_reducible refine LeO.ite ?_ ?_)
      | (with_reducible refine LeO.bind ?_ (fun _ => ?_))
      | exact spec_has.mono _ _ _
      | exact LeO.none _
      | refine LeO.ite ?_ ?_
      | refine LeO.bind ?_ (fun _ => ?_)
set_option maxHeartbeats 8000000 in
set_option maxRecDepth 100000 in
theorem spec_Reserved.calls (k : Nat) (a0 : ByteArray) (r : Bool) (w : World) (h : spec_Reserved.f k a0 = some r) :
    Calls Tryd.prog 14 #[.string a0] w fun e w' => e = .returned (.bool r) ∧ Below w.heap.size w w' := by
  have HB := Aside0.mk (Below.refl w.heap.size w)
  have H : ((spec_has.f k (([(⟨#[98, 114, 101, 97, 107]⟩ : ByteArray), (⟨#[99, 97, 115, 101]⟩ : ByteArray), (⟨#[99, 97, 116, 99, 104]⟩ : ByteArray), (⟨#[99, 108, 97, 115, 115]⟩ : ByteArray), (⟨#[99, 111, 110, 115, 116]⟩ : ByteArray), (⟨#[99, 111, 110, 116, 105, 110, 117, 101]⟩ : ByteArray), (⟨#[100, 101, 98, 117, 103, 103, 101, 114]⟩ : ByteArray), (⟨#[100, 101, 102, 97, 117, 108, 116]⟩ : ByteArray), (⟨#[100, 101, 108, 101, 116, 101]⟩ : ByteArray), (⟨#[100, 111]⟩ : ByteArray), (⟨#[101, 108, 115, 101]⟩ : ByteArray), (⟨#[101, 110, 117, 109]⟩ : ByteArray), (⟨#[101, 120, 112, 111, 114, 116]⟩ : ByteArray), (⟨#[101, 120, 116, 101, 110, 100, 115]⟩ : ByteArray), (⟨#[102, 97, 108, 115, 101]⟩ : ByteArray), (⟨#[102, 105, 110, 97, 108, 108, 121]⟩ : ByteArray), (⟨#[102, 111, 114]⟩ : ByteArray), (⟨#[102, 117, 110, 99, 116, 105, 111, 110]⟩ : ByteArray), (⟨#[105, 102]⟩ : ByteArray), (⟨#[105, 109, 112, 111, 114, 116]⟩ : ByteArray), (⟨#[105, 110]⟩ : ByteArray), (⟨#[105, 110, 115, 116, 97, 110, 99, 101, 111, 102]⟩ : ByteArray), (⟨#[110, 101, 119]⟩ : ByteArray), (⟨#[110, 117, 108, 108]⟩ : ByteArray), (⟨#[114, 101, 116, 117, 114, 110]⟩ : ByteArray), (⟨#[115, 117, 112, 101, 114]⟩ : ByteArray), (⟨#[115, 119, 105, 116, 99, 104]⟩ : ByteArray), (⟨#[116, 104, 105, 115]⟩ : ByteArray), (⟨#[116, 104, 114, 111, 119]⟩ : ByteArray), (⟨#[116, 114, 117, 101]⟩ : ByteArray), (⟨#[116, 114, 121]⟩ : ByteArray), (⟨#[116, 121, 112, 101, 111, 102]⟩ : ByteArray), (⟨#[118, 97, 114]⟩ : ByteArray), (⟨#[118, 111, 105, 100]⟩ : ByteArray), (⟨#[119, 104, 105, 108, 101]⟩ : ByteArray), (⟨#[119, 105, 116, 104]⟩ : ByteArray)] : List ByteArray)) a0).bind fun t833 => (some t833)) = some r := h
  clear h
  obtain ⟨y830, hy830⟩ : ∃ y_ : List ByteArray, y_ = (([(⟨#[98, 114, 101, 97, 107]⟩ : ByteArray), (⟨#[99, 97, 115, 101]⟩ : ByteArray), (⟨#[99, 97, 116, 99, 104]⟩ : ByteArray), (⟨#[99, 108, 97, 115, 115]⟩ : ByteArray), (⟨#[99, 111, 110, 115, 116]⟩ : ByteArray), (⟨#[99, 111, 110, 116, 105, 110, 117, 101]⟩ : ByteArray), (⟨#[100, 101, 98, 117, 103, 103, 101, 114]⟩ : ByteArray), (⟨#[100, 101, 102, 97, 117, 108, 116]⟩ : ByteArray), (⟨#[100, 101, 108, 101, 116, 101]⟩ : ByteArray), (⟨#[100, 111]⟩ : ByteArray), (⟨#[101, 108, 115, 101]⟩ : ByteArray), (⟨#[101, 110, 117, 109]⟩ : ByteArray), (⟨#[101, 120, 112, 111, 114, 116]⟩ : ByteArray), (⟨#[101, 120, 116, 101, 110, 100, 115]⟩ : ByteArray), (⟨#[102, 97, 108, 115, 101]⟩ : ByteArray), (⟨#[102, 105, 110, 97, 108, 108, 121]⟩ : ByteArray), (⟨#[102, 111, 114]⟩ : ByteArray), (⟨#[102, 117, 110, 99, 116, 105, 111, 110]⟩ : ByteArray), (⟨#[105, 102]⟩ : ByteArray), (⟨#[105, 109, 112, 111, 114, 116]⟩ : ByteArray), (⟨#[105, 110]⟩ : ByteArray), (⟨#[105, 110, 115, 116, 97, 110, 99, 101, 111, 102]⟩ : ByteArray), (⟨#[110, 101, 119]⟩ : ByteArray), (⟨#[110, 117, 108, 108]⟩ : ByteArray), (⟨#[114, 101, 116, 117, 114, 110]⟩ : ByteArray), (⟨#[115, 117, 112, 101, 114]⟩ : ByteArray), (⟨#[115, 119, 105, 116, 99, 104]⟩ : ByteArray), (⟨#[116, 104, 105, 115]⟩ : ByteArray), (⟨#[116, 104, 114, 111, 119]⟩ : ByteArray), (⟨#[116, 114, 117, 101]⟩ : ByteArray), (⟨#[116, 114, 121]⟩ : ByteArray), (⟨#[116, 121, 112, 101, 111, 102]⟩ : ByteArray), (⟨#[118, 97, 114]⟩ : ByteArray), (⟨#[118, 111, 105, 100]⟩ : ByteArray), (⟨#[119, 104, 105, 108, 101]⟩ : ByteArray), (⟨#[119, 105, 116, 104]⟩ : ByteArray)] : List ByteArray)) := ⟨_, rfl⟩
  replace H : ((spec_has.f k y830 a0).bind fun t833 => (some t833)) = some r := by first | (rw [hy830]; with_reducible exact H) | (have H2_ := (Option.bind_some _ _).symm.trans H; rw [hy830]; with_reducible exact H2_) | (have H2_ := (Option.bind_some _ _).symm.trans H; with_reducible exact H2_) | with_reducible exact H | (rw [hy830]; exact H) | exact H
  have Ny830 := Aside0.mk hy830
  clear hy830
  replace H := Option.bind_eq_some_iff.mp H
  obtain ⟨t833, A20, H⟩ := H
  replace H : (some t833) = some r := H
  have A2 := Aside0.mk A20
  clear A20
  obtain rfl := Option.some.inj H
  go_enter Tryd.func14, Tryd.ntmps14
  go_wp2_with (first | ((with_reducible refine gate_dst (N := 3) rfl ?_); refine Kd.R_lit Kd.string _ 9 ?hg (N := 3) ?hd (xs := ([(⟨#[98, 114, 101, 97, 107]⟩ : ByteArray), (⟨#[99, 97, 115, 101]⟩ : ByteArray), (⟨#[99, 97, 116, 99, 104]⟩ : ByteArray), (⟨#[99, 108, 97, 115, 115]⟩ : ByteArray), (⟨#[99, 111, 110, 115, 116]⟩ : ByteArray), (⟨#[99, 111, 110, 116, 105, 110, 117, 101]⟩ : ByteArray), (⟨#[100, 101, 98, 117, 103, 103, 101, 114]⟩ : ByteArray), (⟨#[100, 101, 102, 97, 117, 108, 116]⟩ : ByteArray), (⟨#[100, 101, 108, 101, 116, 101]⟩ : ByteArray), (⟨#[100, 111]⟩ : ByteArray), (⟨#[101, 108, 115, 101]⟩ : ByteArray), (⟨#[101, 110, 117, 109]⟩ : ByteArray), (⟨#[101, 120, 112, 111, 114, 116]⟩ : ByteArray), (⟨#[101, 120, 116, 101, 110, 100, 115]⟩ : ByteArray), (⟨#[102, 97, 108, 115, 101]⟩ : ByteArray), (⟨#[102, 105, 110, 97, 108, 108, 121]⟩ : ByteArray), (⟨#[102, 111, 114]⟩ : ByteArray), (⟨#[102, 117, 110, 99, 116, 105, 111, 110]⟩ : ByteArray), (⟨#[105, 102]⟩ : ByteArray), (⟨#[105, 109, 112, 111, 114, 116]⟩ : ByteArray), (⟨#[105, 110]⟩ : ByteArray), (⟨#[105, 110, 115, 116, 97, 110, 99, 101, 111, 102]⟩ : ByteArray), (⟨#[110, 101, 119]⟩ : ByteArray), (⟨#[110, 117, 108, 108]⟩ : ByteArray), (⟨#[114, 101, 116, 117, 114, 110]⟩ : ByteArray), (⟨#[115, 117, 112, 101, 114]⟩ : ByteArray), (⟨#[115, 119, 105, 116, 99, 104]⟩ : ByteArray), (⟨#[116, 104, 105, 115]⟩ : ByteArray), (⟨#[116, 104, 114, 111, 119]⟩ : ByteArray), (⟨#[116, 114, 117, 101]⟩ : ByteArray), (⟨#[116, 114, 121]⟩ : ByteArray), (⟨#[116, 121, 112, 101, 111, 102]⟩ : ByteArray), (⟨#[118, 97, 114]⟩ : ByteArray), (⟨#[118, 111, 105, 100]⟩ : ByteArray), (⟨#[119, 104, 105, 108, 101]⟩ : ByteArray), (⟨#[119, 105, 116, 104]⟩ : ByteArray)] : List ByteArray)) (inner := [.string (⟨#[98, 114, 101, 97, 107]⟩ : ByteArray), .string (⟨#[99, 97, 115, 101]⟩ : ByteArray), .string (⟨#[99, 97, 116, 99, 104]⟩ : ByteArray), .string (⟨#[99, 108, 97, 115, 115]⟩ : ByteArray), .string (⟨#[99, 111, 110, 115, 116]⟩ : ByteArray), .string (⟨#[99, 111, 110, 116, 105, 110, 117, 101]⟩ : ByteArray), .string (⟨#[100, 101, 98, 117, 103, 103, 101, 114]⟩ : ByteArray), .string (⟨#[100, 101, 102, 97, 117, 108, 116]⟩ : ByteArray), .string (⟨#[100, 101, 108, 101, 116, 101]⟩ : ByteArray), .string (⟨#[100, 111]⟩ : ByteArray), .string (⟨#[101, 108, 115, 101]⟩ : ByteArray), .string (⟨#[101, 110, 117, 109]⟩ : ByteArray), .string (⟨#[101, 120, 112, 111, 114, 116]⟩ : ByteArray), .string (⟨#[101, 120, 116, 101, 110, 100, 115]⟩ : ByteArray), .string (⟨#[102, 97, 108, 115, 101]⟩ : ByteArray), .string (⟨#[102, 105, 110, 97, 108, 108, 121]⟩ : ByteArray), .string (⟨#[102, 111, 114]⟩ : ByteArray), .string (⟨#[102, 117, 110, 99, 116, 105, 111, 110]⟩ : ByteArray), .string (⟨#[105, 102]⟩ : ByteArray), .string (⟨#[105, 109, 112, 111, 114, 116]⟩ : ByteArray), .string (⟨#[105, 110]⟩ : ByteArray), .string (⟨#[105, 110, 115, 116, 97, 110, 99, 101, 111, 102]⟩ : ByteArray), .string (⟨#[110, 101, 119]⟩ : ByteArray), .string (⟨#[110, 117, 108, 108]⟩ : ByteArray), .string (⟨#[114, 101, 116, 117, 114, 110]⟩ : ByteArray), .string (⟨#[115, 117, 112, 101, 114]⟩ : ByteArray), .string (⟨#[115, 119, 105, 116, 99, 104]⟩ : ByteArray), .string (⟨#[116, 104, 105, 115]⟩ : ByteArray), .string (⟨#[116, 104, 114, 111, 119]⟩ : ByteArray), .string (⟨#[116, 114, 117, 101]⟩ : ByteArray), .string (⟨#[116, 114, 121]⟩ : ByteArray), .string (⟨#[116, 121, 112, 101, 111, 102]⟩ : ByteArray), .string (⟨#[118, 97, 114]⟩ : ByteArray), .string (⟨#[118, 111, 105, 100]⟩ : ByteArray), .string (⟨#[119, 104, 105, 108, 101]⟩ : ByteArray), .string (⟨#[119, 105, 116, 104]⟩ : ByteArray)]) (ok := fun _ => True) (okp := fun _ => True) ?hr ?hp (fun _ hk => hk) trivial (Below.refl _ _) (Nat.le_refl _) (by simp) ?_; (case hd => rfl); (case hg => rfl); (case hr => first | (go_simp; done) | (go_simp; rfl)); (case hp => exact (Reps.one (show Kd.M Kd.string _ _ _ (⟨#[98, 114, 101, 97, 107]⟩ : ByteArray) [.string (⟨#[98, 114, 101, 97, 107]⟩ : ByteArray)] from rfl) (Reps.one (show Kd.M Kd.string _ _ _ (⟨#[99, 97, 115, 101]⟩ : ByteArray) [.string (⟨#[99, 97, 115, 101]⟩ : ByteArray)] from rfl) (Reps.one (show Kd.M Kd.string _ _ _ (⟨#[99, 97, 116, 99, 104]⟩ : ByteArray) [.string (⟨#[99, 97, 116, 99, 104]⟩ : ByteArray)] from rfl) (Reps.one (show Kd.M Kd.string _ _ _ (⟨#[99, 108, 97, 115, 115]⟩ : ByteArray) [.string (⟨#[99, 108, 97, 115, 115]⟩ : ByteArray)] from rfl) (Reps.one (show Kd.M Kd.string _ _ _ (⟨#[99, 111, 110, 115, 116]⟩ : ByteArray) [.string (⟨#[99, 111, 110, 115, 116]⟩ : ByteArray)] from rfl) (Reps.one (show Kd.M Kd.string _ _ _ (⟨#[99, 111, 110, 116, 105, 110, 117, 101]⟩ : ByteArray) [.string (⟨#[99, 111, 110, 116, 105, 110, 117, 101]⟩ : ByteArray)] from rfl) (Reps.one (show Kd.M Kd.string _ _ _ (⟨#[100, 101, 98, 117, 103, 103, 101, 114]⟩ : ByteArray) [.string (⟨#[100, 101, 98, 117, 103, 103, 101, 114]⟩ : ByteArray)] from rfl) (Reps.one (show Kd.M Kd.string _ _ _ (⟨#[100, 101, 102, 97, 117, 108, 116]⟩ : ByteArray) [.string (⟨#[100, 101, 102, 97, 117, 108, 116]⟩ : ByteArray)] from rfl) (Reps.one (show Kd.M Kd.string _ _ _ (⟨#[100, 101, 108, 101, 116, 101]⟩ : ByteArray) [.string (⟨#[100, 101, 108, 101, 116, 101]⟩ : ByteArray)] from rfl) (Reps.one (show Kd.M Kd.string _ _ _ (⟨#[100, 111]⟩ : ByteArray) [.string (⟨#[100, 111]⟩ : ByteArray)] from rfl) (Reps.one (show Kd.M Kd.string _ _ _ (⟨#[101, 108, 115, 101]⟩ : ByteArray) [.string (⟨#[101, 108, 115, 101]⟩ : ByteArray)] from rfl) (Reps.one (show Kd.M Kd.string _ _ _ (⟨#[101, 110, 117, 109]⟩ : ByteArray) [.string (⟨#[101, 110, 117, 109]⟩ : ByteArray)] from rfl) (Reps.one (show Kd.M Kd.string _ _ _ (⟨#[101, 120, 112, 111, 114, 116]⟩ : ByteArray) [.string (⟨#[101, 120, 112, 111, 114, 116]⟩ : ByteArray)] from rfl) (Reps.one (show Kd.M Kd.string _ _ _ (⟨#[101, 120, 116, 101, 110, 100, 115]⟩ : ByteArray) [.string (⟨#[101, 120, 116, 101, 110, 100, 115]⟩ : ByteArray)] from rfl) (Reps.one (show Kd.M Kd.string _ _ _ (⟨#[102, 97, 108, 115, 101]⟩ : ByteArray) [.string (⟨#[102, 97, 108, 115, 101]⟩ : ByteArray)] from rfl) (Reps.one (show Kd.M Kd.string _ _ _ (⟨#[102, 105, 110, 97, 108, 108, 121]⟩ : ByteArray) [.string (⟨#[102, 105, 110, 97, 108, 108, 121]⟩ : ByteArray)] from rfl) (Reps.one (show Kd.M Kd.string _ _ _ (⟨#[102, 111, 114]⟩ : ByteArray) [.string (⟨#[102, 111, 114]⟩ : ByteArray)] from rfl) (Reps.one (show Kd.M Kd.string _ _ _ (⟨#[102, 117, 110, 99, 116, 105, 111, 110]⟩ : ByteArray) [.string (⟨#[102, 117, 110, 99, 116, 105, 111, 110]⟩ : ByteArray)] from rfl) (Reps.one (show Kd.M Kd.string _ _ _ (⟨#[105, 102]⟩ : ByteArray) [.string (⟨#[105, 102]⟩ : ByteArray)] from rfl) (Reps.one (show Kd.M Kd.string _ _ _ (⟨#[105, 109, 112, 111, 114, 116]⟩ : ByteArray) [.string (⟨#[105, 109, 112, 111, 114, 116]⟩ : ByteArray)] from rfl) (Reps.one (show Kd.M Kd.string _ _ _ (⟨#[105, 110]⟩ : ByteArray) [.string (⟨#[105, 110]⟩ : ByteArray)] from rfl) (Reps.one (show Kd.M Kd.string _ _ _ (⟨#[105, 110, 115, 116, 97, 110, 99, 101, 111, 102]⟩ : ByteArray) [.string (⟨#[105, 110, 115, 116, 97, 110, 99, 101, 111, 102]⟩ : ByteArray)] from rfl) (Reps.one (show Kd.M Kd.string _ _ _ (⟨#[110, 101, 119]⟩ : ByteArray) [.string (⟨#[110, 101, 119]⟩ : ByteArray)] from rfl) (Reps.one (show Kd.M Kd.string _ _ _ (⟨#[110, 117, 108, 108]⟩ : ByteArray) [.string (⟨#[110, 117, 108, 108]⟩ : ByteArray)] from rfl) (Reps.one (show Kd.M Kd.string _ _ _ (⟨#[114, 101, 116, 117, 114, 110]⟩ : ByteArray) [.string (⟨#[114, 101, 116, 117, 114, 110]⟩ : ByteArray)] from rfl) (Reps.one (show Kd.M Kd.string _ _ _ (⟨#[115, 117, 112, 101, 114]⟩ : ByteArray) [.string (⟨#[115, 117, 112, 101, 114]⟩ : ByteArray)] from rfl) (Reps.one (show Kd.M Kd.string _ _ _ (⟨#[115, 119, 105, 116, 99, 104]⟩ : ByteArray) [.string (⟨#[115, 119, 105, 116, 99, 104]⟩ : ByteArray)] from rfl) (Reps.one (show Kd.M Kd.string _ _ _ (⟨#[116, 104, 105, 115]⟩ : ByteArray) [.string (⟨#[116, 104, 105, 115]⟩ : ByteArray)] from rfl) (Reps.one (show Kd.M Kd.string _ _ _ (⟨#[116, 104, 114, 111, 119]⟩ : ByteArray) [.string (⟨#[116, 104, 114, 111, 119]⟩ : ByteArray)] from rfl) (Reps.one (show Kd.M Kd.string _ _ _ (⟨#[116, 114, 117, 101]⟩ : ByteArray) [.string (⟨#[116, 114, 117, 101]⟩ : ByteArray)] from rfl) (Reps.one (show Kd.M Kd.string _ _ _ (⟨#[116, 114, 121]⟩ : ByteArray) [.string (⟨#[116, 114, 121]⟩ : ByteArray)] from rfl) (Reps.one (show Kd.M Kd.string _ _ _ (⟨#[116, 121, 112, 101, 111, 102]⟩ : ByteArray) [.string (⟨#[116, 121, 112, 101, 111, 102]⟩ : ByteArray)] from rfl) (Reps.one (show Kd.M Kd.string _ _ _ (⟨#[118, 97, 114]⟩ : ByteArray) [.string (⟨#[118, 97, 114]⟩ : ByteArray)] from rfl) (Reps.one (show Kd.M Kd.string _ _ _ (⟨#[118, 111, 105, 100]⟩ : ByteArray) [.string (⟨#[118, 111, 105, 100]⟩ : ByteArray)] from rfl) (Reps.one (show Kd.M Kd.string _ _ _ (⟨#[119, 104, 105, 108, 101]⟩ : ByteArray) [.string (⟨#[119, 104, 105, 108, 101]⟩ : ByteArray)] from rfl) (Reps.one (show Kd.M Kd.string _ _ _ (⟨#[119, 105, 116, 104]⟩ : ByteArray) [.string (⟨#[119, 105, 116, 104]⟩ : ByteArray)] from rfl) (Reps.none _ _)))))))))))))))))))))))))))))))))))))); intro v831 w3 ho4 hb hg_ hnew_; clear hg_ hnew_; (first | rw [← Ny830.out] at ho4 | (simp only [Int.reduceToNat] at ho4; rw [← Ny830.out] at ho4)); have n0_ := Aside0.mk (Kd.R_lower ho4 (below_size (by repeat (first | (with_reducible first | exact HB.out | apply below_alloc | apply pw_below_drewN | apply below_drew1) | exact HB.out)))); have n1_ := Aside0.mk (below_step (by repeat (first | (with_reducible first | exact HB.out | apply below_alloc | apply pw_below_drewN | apply below_drew1) | exact HB.out)) hb); clear HB; have HO832 := n0_; have HB := n1_; clear n0_ n1_; clear hb ho4; obtain ⟨Ao5, co5, eo5⟩ := Kd.R_slice HO832.out; subst eo5) | ((with_reducible refine gate_callee (f := 21) rfl ?_); refine goesL_ (some 5) rfl rfl Tryd.func21 (by kernel_rfl) rfl #[.slice Ao5 y830.length co5, .string a0] rfl (by (try simp only [List.map_toArray, List.map_cons, List.map_nil]); first | done | rfl | (simp only [List.length_drop, List.length_take]; rfl)) ?_; (with_reducible refine (spec_has.calls k _ _ y830 a0 t833 _ ?side1 ?side2 A2.out).mono ?_); (case side1 => repeat (first | exact (Kd.R_reads' HO832.out).2.2 | (with_reducible refine Kd.C_alloc ?_ _) | (with_reducible refine Kd.C_drewN ?_ _) | (with_reducible refine Kd.C_drew ?_))); (case side2 => exact (Kd.R_reads' HO832.out).2.1); rintro e w' ⟨rfl, ⟨nd, rfl⟩⟩; refine ⟨_, rfl, ?_⟩))
  go_ret
  exact ⟨by first | rfl | (simp [errW_none, errW_some] <;> rfl) | (simp [*, errW_none, errW_some] <;> rfl), by repeat (first | (with_reducible first | exact HB.out | apply below_alloc | apply pw_below_drewN | apply below_drew1) | exact HB.out)⟩

/-! ### spec_StrictWord: function 15 -/
def spec_StrictWord.f (k : Nat) (a0 : ByteArray) : Option (Bool) := (spec_has.f k (([(⟨#[105, 109, 112, 108, 101, 109, 101, 110, 116, 115]⟩ : ByteArray), (⟨#[105, 110, 116, 101, 114, 102, 97, 99, 101]⟩ : ByteArray), (⟨#[108, 101, 116]⟩ : ByteArray), (⟨#[112, 97, 99, 107, 97, 103, 101]⟩ : ByteArray), (⟨#[112, 114, 105, 118, 97, 116, 101]⟩ : ByteArray), (⟨#[112, 114, 111, 116, 101, 99, 116, 101, 100]⟩ : ByteArray), (⟨#[112, 117, 98, 108, 105, 99]⟩ : ByteArray), (⟨#[115, 116, 97, 116, 105, 99]⟩ : ByteArray), (⟨#[121, 105, 101, 108, 100]⟩ : ByteArray)] : List ByteArray)) a0).bind fun t837 => (some t837)
theorem spec_StrictWord.mono : ∀ a0 k, LeO (spec_StrictWord.f k a0) (spec_StrictWord.f (k + 1) a0) := by
  intro a0 k
  unfold spec_StrictWord.f
  repeat' first
      | (with_reducible exact spec_has.mono _ _ _)
      | (with_reducible exact LeO.refl _)
      | (with_reducible exact LeO.none _)
      | (with_reducible refine LeO.ite ?_ ?_)
      | (with_reducible refine LeO.bind ?_ (fun _ => ?_))
      | exact spec_has.mono _ _ _
      | exact LeO.none _
      | refine LeO.ite ?_ ?_
      | refine LeO.bind ?_ (fun _ => ?_)
set_option maxHeartbeats 8000000 in
set_option maxRecDepth 100000 in
theorem spec_StrictWord.calls (k : Nat) (a0 : ByteArray) (r : Bool) (w : World) (h : spec_StrictWord.f k a0 = some r) :
    Calls Tryd.prog 15 #[.string a0] w fun e w' => e = .returned (.bool r) ∧ Below w.heap.size w w' := by
  have HB := Aside0.mk (Below.refl w.heap.size w)
  have H : ((spec_has.f k (([(⟨#[105, 109, 112, 108, 101, 109, 101, 110, 116, 115]⟩ : ByteArray), (⟨#[105, 110, 116, 101, 114, 102, 97, 99, 101]⟩ : ByteArray), (⟨#[108, 101, 116]⟩ : ByteArray), (⟨#[112, 97, 99, 107, 97, 103, 101]⟩ : ByteArray), (⟨#[112, 114, 105, 118, 97, 116, 101]⟩ : ByteArray), (⟨#[112, 114, 111, 116, 101, 99, 116, 101, 100]⟩ : ByteArray), (⟨#[112, 117, 98, 108, 105, 99]⟩ : ByteArray), (⟨#[115, 116, 97, 116, 105, 99]⟩ : ByteArray), (⟨#[121, 105, 101, 108, 100]⟩ : ByteArray)] : List ByteArray)) a0).bind fun t837 => (some t837)) = some r := h
  clear h
  obtain ⟨y834, hy834⟩ : ∃ y_ : List ByteArray, y_ = (([(⟨#[105, 109, 112, 108, 101, 109, 101, 110, 116, 115]⟩ : ByteArray), (⟨#[105, 110, 116, 101, 114, 102, 97, 99, 101]⟩ : ByteArray), (⟨#[108, 101, 116]⟩ : ByteArray), (⟨#[112, 97, 99, 107, 97, 103, 101]⟩ : ByteArray), (⟨#[112, 114, 105, 118, 97, 116, 101]⟩ : ByteArray), (⟨#[112, 114, 111, 116, 101, 99, 116, 101, 100]⟩ : ByteArray), (⟨#[112, 117, 98, 108, 105, 99]⟩ : ByteArray), (⟨#[115, 116, 97, 116, 105, 99]⟩ : ByteArray), (⟨#[121, 105, 101, 108, 100]⟩ : ByteArray)] : List ByteArray)) := ⟨_, rfl⟩
  replace H : ((spec_has.f k y834 a0).bind fun t837 => (some t837)) = some r := by first | (rw [hy834]; with_reducible exact H) | (have H2_ := (Option.bind_some _ _).symm.trans H; rw [hy834]; with_reducible exact H2_) | (have H2_ := (Option.bind_some _ _).symm.trans H; with_reducible exact H2_) | with_reducible exact H | (rw [hy834]; exact H) | exact H
  have Ny834 := Aside0.mk hy834
  clear hy834
  replace H := Option.bind_eq_some_iff.mp H
  obtain ⟨t837, A20, H⟩ := H
  replace H : (some t837) = some r := H
  have A2 := Aside0.mk A20
  clear A20
  obtain rfl := Option.some.inj H
  go_enter Tryd.func15, Tryd.ntmps15
  go_wp2_with (first | ((with_reducible refine gate_dst (N := 3) rfl ?_); refine Kd.R_lit Kd.string _ 9 ?hg (N := 3) ?hd (xs := ([(⟨#[105, 109, 112, 108, 101, 109, 101, 110, 116, 115]⟩ : ByteArray), (⟨#[105, 110, 116, 101, 114, 102, 97, 99, 101]⟩ : ByteArray), (⟨#[108, 101, 116]⟩ : ByteArray), (⟨#[112, 97, 99, 107, 97, 103, 101]⟩ : ByteArray), (⟨#[112, 114, 105, 118, 97, 116, 101]⟩ : ByteArray), (⟨#[112, 114, 111, 116, 101, 99, 116, 101, 100]⟩ : ByteArray), (⟨#[112, 117, 98, 108, 105, 99]⟩ : ByteArray), (⟨#[115, 116, 97, 116, 105, 99]⟩ : ByteArray), (⟨#[121, 105, 101, 108, 100]⟩ : ByteArray)] : List ByteArray)) (inner := [.string (⟨#[105, 109, 112, 108, 101, 109, 101, 110, 116, 115]⟩ : ByteArray), .string (⟨#[105, 110, 116, 101, 114, 102, 97, 99, 101]⟩ : ByteArray), .string (⟨#[108, 101, 116]⟩ : ByteArray), .string (⟨#[112, 97, 99, 107, 97, 103, 101]⟩ : ByteArray), .string (⟨#[112, 114, 105, 118, 97, 116, 101]⟩ : ByteArray), .string (⟨#[112, 114, 111, 116, 101, 99, 116, 101, 100]⟩ : ByteArray), .string (⟨#[112, 117, 98, 108, 105, 99]⟩ : ByteArray), .string (⟨#[115, 116, 97, 116, 105, 99]⟩ : ByteArray), .string (⟨#[121, 105, 101, 108, 100]⟩ : ByteArray)]) (ok := fun _ => True) (okp := fun _ => True) ?hr ?hp (fun _ hk => hk) trivial (Below.refl _ _) (Nat.le_refl _) (by simp) ?_; (case hd => rfl); (case hg => rfl); (case hr => first | (go_simp; done) | (go_simp; rfl)); (case hp => exact (Reps.one (show Kd.M Kd.string _ _ _ (⟨#[105, 109, 112, 108, 101, 109, 101, 110, 116, 115]⟩ : ByteArray) [.string (⟨#[105, 109, 112, 108, 101, 109, 101, 110, 116, 115]⟩ : ByteArray)] from rfl) (Reps.one (show Kd.M Kd.string _ _ _ (⟨#[105, 110, 116, 101, 114, 102, 97, 99, 101]⟩ : ByteArray) [.string (⟨#[105, 110, 116, 101, 114, 102, 97, 99, 101]⟩ : ByteArray)] from rfl) (Reps.one (show Kd.M Kd.string _ _ _ (⟨#[108, 101, 116]⟩ : ByteArray) [.string (⟨#[108, 101, 116]⟩ : ByteArray)] from rfl) (Reps.one (show Kd.M Kd.string _ _ _ (⟨#[112, 97, 99, 107, 97, 103, 101]⟩ : ByteArray) [.string (⟨#[112, 97, 99, 107, 97, 103, 101]⟩ : ByteArray)] from rfl) (Reps.one (show Kd.M Kd.string _ _ _ (⟨#[112, 114, 105, 118, 97, 116, 101]⟩ : ByteArray) [.string (⟨#[112, 114, 105, 118, 97, 116, 101]⟩ : ByteArray)] from rfl) (Reps.one (show Kd.M Kd.string _ _ _ (⟨#[112, 114, 111, 116, 101, 99, 116, 101, 100]⟩ : ByteArray) [.string (⟨#[112, 114, 111, 116, 101, 99, 116, 101, 100]⟩ : ByteArray)] from rfl) (Reps.one (show Kd.M Kd.string _ _ _ (⟨#[112, 117, 98, 108, 105, 99]⟩ : ByteArray) [.string (⟨#[112, 117, 98, 108, 105, 99]⟩ : ByteArray)] from rfl) (Reps.one (show Kd.M Kd.string _ _ _ (⟨#[115, 116, 97, 116, 105, 99]⟩ : ByteArray) [.string (⟨#[115, 116, 97, 116, 105, 99]⟩ : ByteArray)] from rfl) (Reps.one (show Kd.M Kd.string _ _ _ (⟨#[121, 105, 101, 108, 100]⟩ : ByteArray) [.string (⟨#[121, 105, 101, 108, 100]⟩ : ByteArray)] from rfl) (Reps.none _ _))))))))))); intro v835 w3 ho4 hb hg_ hnew_; clear hg_ hnew_; (first | rw [← Ny834.out] at ho4 | (simp only [Int.reduceToNat] at ho4; rw [← Ny834.out] at ho4)); have n0_ := Aside0.mk (Kd.R_lower ho4 (below_size (by repeat (first | (with_reducible first | exact HB.out | apply below_alloc | apply pw_below_drewN | apply below_drew1) | exact HB.out)))); have n1_ := Aside0.mk (below_step (by repeat (first | (with_reducible first | exact HB.out | apply below_alloc | apply pw_below_drewN | apply below_drew1) | exact HB.out)) hb); clear HB; have HO836 := n0_; have HB := n1_; clear n0_ n1_; clear hb ho4; obtain ⟨Ao5, co5, eo5⟩ := Kd.R_slice HO836.out; subst eo5) | ((with_reducible refine gate_callee (f := 21) rfl ?_); refine goesL_ (some 5) rfl rfl Tryd.func21 (by kernel_rfl) rfl #[.slice Ao5 y834.length co5, .string a0] rfl (by (try simp only [List.map_toArray, List.map_cons, List.map_nil]); first | done | rfl | (simp only [List.length_drop, List.length_take]; rfl)) ?_; (with_reducible refine (spec_has.calls k _ _ y834 a0 t837 _ ?side1 ?side2 A2.out).mono ?_); (case side1 => repeat (first | exact (Kd.R_reads' HO836.out).2.2 | (with_reducible refine Kd.C_alloc ?_ _) | (with_reducible refine Kd.C_drewN ?_ _) | (with_reducible refine Kd.C_drew ?_))); (case side2 => exact (Kd.R_reads' HO836.out).2.1); rintro e w' ⟨rfl, ⟨nd, rfl⟩⟩; refine ⟨_, rfl, ?_⟩))
  go_ret
  exact ⟨by first | rfl | (simp [errW_none, errW_some] <;> rfl) | (simp [*, errW_none, errW_some] <;> rfl), by repeat (first | (with_reducible first | exact HB.out | apply below_alloc | apply pw_below_drewN | apply below_drew1) | exact HB.out)⟩

/-! ### spec_NameFree: function 10 -/
def spec_NameFree.f (k : Nat) (a0 : ByteArray) : Option (Bool) := (spec_Reserved.f k a0).bind fun t838 => (if t838 = true then (some false) else ((spec_StrictWord.f k a0).bind fun t839 => (if t839 = true then (some false) else (if a0.toList = ([97, 119, 97, 105, 116] : List UInt8) then (some false) else (if a0.toList = ([101, 118, 97, 108] : List UInt8) then (some false) else (some (a0.toList != ([97, 114, 103, 117, 109, 101, 110, 116, 115] : List UInt8))))))))
theorem spec_NameFree.mono : ∀ a0 k, LeO (spec_NameFree.f k a0) (spec_NameFree.f (k + 1) a0) := by
  intro a0 k
  unfold spec_NameFree.f
  repeat' first
      | (with_reducible exact spec_Reserved.mono _ _)
      | (with_reducible exact spec_StrictWord.mono _ _)
      | (with_reducible exact LeO.refl _)
      | (with_reducible exact LeO.none _)
      | (with_reducible refine LeO.ite ?_ ?_)
      | (with_reducible refine LeO.bind ?_ (fun _ => ?_))
      | exact spec_Reserved.mono _ _
      | exact spec_StrictWord.mono _ _
      | exact LeO.none _
      | refine LeO.ite ?_ ?_
      | refine LeO.bind ?_ (fun _ => ?_)
set_option maxHeartbeats 8000000 in
set_option maxRecDepth 100000 in
theorem spec_NameFree.calls (k : Nat) (a0 : ByteArray) (r : Bool) (w : World) (h : spec_NameFree.f k a0 = some r) :
    Calls Tryd.prog 10 #[.string a0] w fun e w' => e = .returned (.bool r) ∧ Below w.heap.size w w' := by
  have HB := Aside0.mk (Below.refl w.heap.size w)
  have H : ((spec_Reserved.f k a0).bind fun t838 => (if t838 = true then (some false) else ((spec_StrictWord.f k a0).bind fun t839 => (if t839 = true then (some false) else (if a0.toList = ([97, 119, 97, 105, 116] : List UInt8) then (some false) else (if a0.toList = ([101, 118, 97, 108] : List UInt8) then (some false) else (some (a0.toList != ([97, 114, 103, 117, 109, 101, 110, 116, 115] : List UInt8))))))))) = some r := h
  clear h
  replace H := Option.bind_eq_some_iff.mp H
  obtain ⟨t838, A20, H⟩ := H
  replace H : (if t838 = true then (some false) else ((spec_StrictWord.f k a0).bind fun t839 => (if t839 = true then (some false) else (if a0.toList = ([97, 119, 97, 105, 116] : List UInt8) then (some false) else (if a0.toList = ([101, 118, 97, 108] : List UInt8) then (some false) else (some (a0.toList != ([97, 114, 103, 117, 109, 101, 110, 116, 115] : List UInt8)))))))) = some r := H
  have A2 := Aside0.mk A20
  clear A20
  by_cases c3 : t838 = true
  · subst c3
    have H1 : (some false) = some r := by rw [if_pos rfl] at H; exact H
    clear H
    have H := H1
    clear H1
    obtain rfl := Option.some.inj H
    go_enter Tryd.func10, Tryd.ntmps10
    go_wp2_with (first | ((with_reducible refine gate_callee (f := 14) rfl ?_); refine goesL_ (some 4) rfl rfl Tryd.func14 (by kernel_rfl) rfl #[.string a0] rfl (by (try simp only [List.map_toArray, List.map_cons, List.map_nil]); first | done | rfl | (simp only [List.length_drop, List.length_take]; rfl)) ?_; (with_reducible refine (spec_Reserved.calls k a0 true _ A2.out).mono ?_); rintro e w4 ⟨rfl, hb⟩; refine ⟨_, rfl, ?_⟩; have n0_ := Aside0.mk (below_step (by repeat (first | (with_reducible first | exact HB.out | apply below_alloc | apply pw_below_drewN | apply below_drew1) | exact HB.out)) hb); clear HB; have HB := n0_; clear n0_; (try clear hb); (try clear hb2); (try clear hk); (try clear hi)))
    go_ret
    exact ⟨by first | rfl | (simp [errW_none, errW_some] <;> rfl) | (simp [*, errW_none, errW_some] <;> rfl), by repeat (first | (with_reducible first | exact HB.out | apply below_alloc | apply pw_below_drewN | apply below_drew1) | exact HB.out)⟩
  · replace c3 := Bool.eq_false_iff.mpr c3
    subst c3
    have H1 : ((spec_StrictWord.f k a0).bind fun t839 => (if t839 = true then (some false) else (if a0.toList = ([97, 119, 97, 105, 116] : List UInt8) then (some false) else (if a0.toList = ([101, 118, 97, 108] : List UInt8) then (some false) else (some (a0.toList != ([97, 114, 103, 117, 109, 101, 110, 116, 115] : List UInt8))))))) = some r := by rw [if_neg (show ¬ (false = true) by decide)] at H; exact H
    clear H
    have H := H1
    clear H1
    replace H := Option.bind_eq_some_iff.mp H
    obtain ⟨t839, A50, H⟩ := H
    replace H : (if t839 = true then (some false) else (if a0.toList = ([97, 119, 97, 105, 116] : List UInt8) then (some false) else (if a0.toList = ([101, 118, 97, 108] : List UInt8) then (some false) else (some (a0.toList != ([97, 114, 103, 117, 109, 101, 110, 116, 115] : List UInt8)))))) = some r := H
    have A5 := Aside0.mk A50
    clear A50
    by_cases c6 : t839 = true
    · subst c6
      have H1 : (some false) = some r := by rw [if_pos rfl] at H; exact H
      clear H
      have H := H1
      clear H1
      obtain rfl := Option.some.inj H
      go_enter Tryd.func10, Tryd.ntmps10
      go_wp2_with (first | ((with_reducible refine gate_callee (f := 14) rfl ?_); refine goesL_ (some 4) rfl rfl Tryd.func14 (by kernel_rfl) rfl #[.string a0] rfl (by (try simp only [List.map_toArray, List.map_cons, List.map_nil]); first | done | rfl | (simp only [List.length_drop, List.length_take]; rfl)) ?_; (with_reducible refine (spec_Reserved.calls k a0 false _ A2.out).mono ?_); rintro e w7 ⟨rfl, hb⟩; refine ⟨_, rfl, ?_⟩; have n0_ := Aside0.mk (below_step (by repeat (first | (with_reducible first | exact HB.out | apply below_alloc | apply pw_below_drewN | apply below_drew1) | exact HB.out)) hb); clear HB; have HB := n0_; clear n0_; (try clear hb); (try clear hb2); (try clear hk); (try clear hi)) | (go_at_call 15; (with_reducible refine (spec_StrictWord.calls k a0 true _ A5.out).mono ?_); rintro e w8 ⟨rfl, hb⟩; have n0_ := Aside0.mk (below_step (by repeat (first | (with_reducible first | exact HB.out | apply below_alloc | apply pw_below_drewN | apply below_drew1) | exact HB.out)) hb); clear HB; have HB := n0_; clear n0_; (try clear hb); (try clear hb2); (try clear hk); (try clear hi)))
      go_ret
      exact ⟨by first | rfl | (simp [errW_none, errW_some] <;> rfl) | (simp [*, errW_none, errW_some] <;> rfl), by repeat (first | (with_reducible first | exact HB.out | apply below_alloc | apply pw_below_drewN | apply below_drew1) | exact HB.out)⟩
    · replace c6 := Bool.eq_false_iff.mpr c6
      subst c6
      have H1 : (if a0.toList = ([97, 119, 97, 105, 116] : List UInt8) then (some false) else (if a0.toList = ([101, 118, 97, 108] : List UInt8) then (some false) else (some (a0.toList != ([97, 114, 103, 117, 109, 101, 110, 116, 115] : List UInt8))))) = some r := by rw [if_neg (show ¬ (false = true) by decide)] at H; exact H
      clear H
      have H := H1
      clear H1
      by_cases c9 : a0.toList = ([97, 119, 97, 105, 116] : List UInt8)
      · rw [if_pos c9] at H
        have c9b0 : (a0.toList == ([97, 119, 97, 105, 116] : List UInt8)) = true := beq_iff_eq.mpr c9
        have c9b1 : (a0.toList != ([97, 119, 97, 105, 116] : List UInt8)) = false := bne_eq_false_iff_eq.mpr c9
        clear c9
        obtain rfl := Option.some.inj H
        go_enter Tryd.func10, Tryd.ntmps10
        go_wp2_with (first | ((with_reducible refine gate_callee (f := 14) rfl ?_); refine goesL_ (some 4) rfl rfl Tryd.func14 (by kernel_rfl) rfl #[.string a0] rfl (by (try simp only [List.map_toArray, List.map_cons, List.map_nil]); first | done | rfl | (simp only [List.length_drop, List.length_take]; rfl)) ?_; (with_reducible refine (spec_Reserved.calls k a0 false _ A2.out).mono ?_); rintro e w10 ⟨rfl, hb⟩; refine ⟨_, rfl, ?_⟩; have n0_ := Aside0.mk (below_step (by repeat (first | (with_reducible first | exact HB.out | apply below_alloc | apply pw_below_drewN | apply below_drew1) | exact HB.out)) hb); clear HB; have HB := n0_; clear n0_; (try clear hb); (try clear hb2); (try clear hk); (try clear hi)) | (go_at_call 15; (with_reducible refine (spec_StrictWord.calls k a0 false _ A5.out).mono ?_); rintro e w11 ⟨rfl, hb⟩; have n0_ := Aside0.mk (below_step (by repeat (first | (with_reducible first | exact HB.out | apply below_alloc | apply pw_below_drewN | apply below_drew1) | exact HB.out)) hb); clear HB; have HB := n0_; clear n0_; (try clear hb); (try clear hb2); (try clear hk); (try clear hi)))
        go_ret
        exact ⟨by first | rfl | (simp [errW_none, errW_some] <;> rfl) | (simp [*, errW_none, errW_some] <;> rfl), by repeat (first | (with_reducible first | exact HB.out | apply below_alloc | apply pw_below_drewN | apply below_drew1) | exact HB.out)⟩
      · rw [if_neg c9] at H
        have c9b0 : (a0.toList == ([97, 119, 97, 105, 116] : List UInt8)) = false := beq_eq_false_iff_ne.mpr c9
        have c9b1 : (a0.toList != ([97, 119, 97, 105, 116] : List UInt8)) = true := bne_iff_ne.mpr c9
        by_cases c12 : a0.toList = ([101, 118, 97, 108] : List UInt8)
        · rw [if_pos c12] at H
          have c12b0 : (a0.toList == ([101, 118, 97, 108] : List UInt8)) = true := beq_iff_eq.mpr c12
          have c12b1 : (a0.toList != ([101, 118, 97, 108] : List UInt8)) = false := bne_eq_false_iff_eq.mpr c12
          clear c12
          obtain rfl := Option.some.inj H
          go_enter Tryd.func10, Tryd.ntmps10
          go_wp2_with (first | ((with_reducible refine gate_callee (f := 14) rfl ?_); refine goesL_ (some 4) rfl rfl Tryd.func14 (by kernel_rfl) rfl #[.string a0] rfl (by (try simp only [List.map_toArray, List.map_cons, List.map_nil]); first | done | rfl | (simp only [List.length_drop, List.length_take]; rfl)) ?_; (with_reducible refine (spec_Reserved.calls k a0 false _ A2.out).mono ?_); rintro e w13 ⟨rfl, hb⟩; refine ⟨_, rfl, ?_⟩; have n0_ := Aside0.mk (below_step (by repeat (first | (with_reducible first | exact HB.out | apply below_alloc | apply pw_below_drewN | apply below_drew1) | exact HB.out)) hb); clear HB; have HB := n0_; clear n0_; (try clear hb); (try clear hb2); (try clear hk); (try clear hi)) | (go_at_call 15; (with_reducible refine (spec_StrictWord.calls k a0 false _ A5.out).mono ?_); rintro e w14 ⟨rfl, hb⟩; have n0_ := Aside0.mk (below_step (by repeat (first | (with_reducible first | exact HB.out | apply below_alloc | apply pw_below_drewN | apply below_drew1) | exact HB.out)) hb); clear HB; have HB := n0_; clear n0_; (try clear hb); (try clear hb2); (try clear hk); (try clear hi)))
          go_ret
          exact ⟨by first | rfl | (simp [errW_none, errW_some] <;> rfl) | (simp [*, errW_none, errW_some] <;> rfl), by repeat (first | (with_reducible first | exact HB.out | apply below_alloc | apply pw_below_drewN | apply below_drew1) | exact HB.out)⟩
        · rw [if_neg c12] at H
          have c12b0 : (a0.toList == ([101, 118, 97, 108] : List UInt8)) = false := beq_eq_false_iff_ne.mpr c12
          have c12b1 : (a0.toList != ([101, 118, 97, 108] : List UInt8)) = true := bne_iff_ne.mpr c12
          obtain rfl := Option.some.inj H
          go_enter Tryd.func10, Tryd.ntmps10
          go_wp2_with (first | ((with_reducible refine gate_callee (f := 14) rfl ?_); refine goesL_ (some 4) rfl rfl Tryd.func14 (by kernel_rfl) rfl #[.string a0] rfl (by (try simp only [List.map_toArray, List.map_cons, List.map_nil]); first | done | rfl | (simp only [List.length_drop, List.length_take]; rfl)) ?_; (with_reducible refine (spec_Reserved.calls k a0 false _ A2.out).mono ?_); rintro e w15 ⟨rfl, hb⟩; refine ⟨_, rfl, ?_⟩; have n0_ := Aside0.mk (below_step (by repeat (first | (with_reducible first | exact HB.out | apply below_alloc | apply pw_below_drewN | apply below_drew1) | exact HB.out)) hb); clear HB; have HB := n0_; clear n0_; (try clear hb); (try clear hb2); (try clear hk); (try clear hi)) | (go_at_call 15; (with_reducible refine (spec_StrictWord.calls k a0 false _ A5.out).mono ?_); rintro e w16 ⟨rfl, hb⟩; have n0_ := Aside0.mk (below_step (by repeat (first | (with_reducible first | exact HB.out | apply below_alloc | apply pw_below_drewN | apply below_drew1) | exact HB.out)) hb); clear HB; have HB := n0_; clear n0_; (try clear hb); (try clear hb2); (try clear hk); (try clear hi)))
          go_ret
          exact ⟨by first | rfl | (simp [errW_none, errW_some] <;> rfl) | (simp [*, errW_none, errW_some] <;> rfl), by repeat (first | (with_reducible first | exact HB.out | apply below_alloc | apply pw_below_drewN | apply below_drew1) | exact HB.out)⟩

-- NOT PRINTED: function 6 (spec_EntityName)

-- NOT PRINTED: function 3 (laws_FnExportNames)

end Go.Proofs.YtgflhmihmdflcaaDoor.PFnExportNames
