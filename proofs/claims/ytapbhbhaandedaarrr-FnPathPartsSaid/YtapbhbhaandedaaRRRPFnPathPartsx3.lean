-- PRINTED BY print.sh 35421559b90ae4d0a3588c463048766b98c2df88dd9212a6774a882060cdf62d: not written by this session
import Derived.Test.YtapbhbhaandedaaRRRPFnPathPartsx0
import Derived.Test.YtapbhbhaandedaaRRRPFnPathPartsx2
namespace Go.Proofs.YtapbhbhaandedaaRRR.PFnPathParts
open Go.RowKit Go.Proofs.YtapbhbhaandedaaRRRW.PrintWords Go.Proofs.YtapbhbhaandedaaRRRW.PrintLast Go.Proofs.YtapbhbhaandedaaRRRW.PrintMore
attribute [local go_sem] max2_int min2_int max_two min_two max_three min_three max_four min_four   -- for this text's walks alone
set_option linter.unusedVariables false
set_option linter.unusedSimpArgs false

/-! ### impl_PathParts: function 6 -/
def impl_PathParts.f (k : Nat) (a0 : ByteArray) : Option (ByteArray × ByteArray × ByteArray) := (logger_PlatformIndependentPathDirBaseExt.f k a0).bind fun bt106 => (some (bt106.1, bt106.2.1, bt106.2.2))
theorem impl_PathParts.mono : ∀ a0 k, LeO (impl_PathParts.f k a0) (impl_PathParts.f (k + 1) a0) := by
  intro a0 k
  unfold impl_PathParts.f
  repeat' first
      | (with_reducible exact logger_PlatformIndependentPathDirBaseExt.mono _ _)
      | (with_reducible exact LeO.refl _)
      | (with_reducible exact LeO.none _)
      | (with_reducible refine LeO.ite ?_ ?_)
      | (with_reducible refine LeO.bind ?_ (fun _ => ?_))
      | exact logger_PlatformIndependentPathDirBaseExt.mono _ _
      | exact LeO.none _
      | refine LeO.ite ?_ ?_
      | refine LeO.bind ?_ (fun _ => ?_)
set_option maxHeartbeats 8000000 in
set_option maxRecDepth 100000 in
theorem impl_PathParts.calls (k : Nat) (a0 : ByteArray) (r1 : ByteArray) (r2 : ByteArray) (r3 : ByteArray) (w : World) (h : impl_PathParts.f k a0 = some (r1, r2, r3)) :
    Calls Try.prog 6 #[.string a0] w fun e w' => e = .returned (.tuple #[.string r1, .string r2, .string r3]) ∧ Below w.heap.size w w' := by
  have HB := Aside0.mk (Below.refl w.heap.size w)
  have H : ((logger_PlatformIndependentPathDirBaseExt.f k a0).bind fun bt106 => (some (bt106.1, bt106.2.1, bt106.2.2))) = some (r1, r2, r3) := h
  clear h
  replace H := Option.bind_eq_some_iff.mp H
  obtain ⟨⟨t106, t107, t108⟩, A20, H⟩ := H
  replace H : (some (t106, t107, t108)) = some (r1, r2, r3) := H
  have A2 := Aside0.mk A20
  clear A20
  simp only [Option.some.injEq, Prod.mk.injEq] at H
  obtain ⟨rfl, rfl, rfl⟩ := H
  go_enter Try.func6, Try.ntmps6
  go_wp2_with (first | ((with_reducible refine gate_callee (f := 15) rfl ?_); refine goesL_ (some 6) rfl rfl Try.func15 (by kernel_rfl) rfl #[.string a0] rfl (by (try simp only [List.map_toArray, List.map_cons, List.map_nil]); first | done | rfl | (simp only [List.length_drop, List.length_take]; rfl)) ?_; (with_reducible refine (logger_PlatformIndependentPathDirBaseExt.calls k a0 t106 t107 t108 _ A2.out).mono ?_); rintro e w3 ⟨rfl, hb⟩; refine ⟨_, rfl, ?_⟩; have n0_ := Aside0.mk (below_step (by repeat (first | (with_reducible first | exact HB.out | apply below_alloc | apply pw_below_drewN | apply below_drew1) | exact HB.out)) hb); clear HB; have HB := n0_; clear n0_; (try clear hb); (try clear hb2); (try clear hk); (try clear hi)))
  go_ret3
  exact ⟨by first | rfl | (simp [errW_none, errW_some] <;> rfl) | (simp [*, errW_none, errW_some] <;> rfl), by repeat (first | (with_reducible first | exact HB.out | apply below_alloc | apply pw_below_drewN | apply below_drew1) | exact HB.out)⟩

/-! ### spec_PathOf: function 7 -/
mutual
def spec_PathOf.j1 : Nat → ByteArray → ByteArray → Int → Option (ByteArray × ByteArray × ByteArray)
  | 0, _, _, _ => none
  | k + 1, x0, x2, x5 => if 0 ≤ x5 then (if x5 ≤ (x0.size : Int) then (if x5 > 0 then (if 0 ≤ (wrap64 (x5 - 1)) then (if (wrap64 (x5 - 1)) ≤ (x0.size : Int) then (spec_PathOf.j2 k (x0.extract 0 ((wrap64 (x5 - 1)) : Int).toNat) (x0.extract (x5 : Int).toNat x0.size)) else (none)) else (none)) else (spec_PathOf.j2 k x2 (x0.extract (x5 : Int).toNat x0.size))) else (none)) else (none)
def spec_PathOf.j2 : Nat → ByteArray → ByteArray → Option (ByteArray × ByteArray × ByteArray)
  | 0, _, _ => none
  | k + 1, x2, x3 => spec_PathOf.l1 k x2 x3 (wrap64 ((x3.size : Int) - 1))
def spec_PathOf.l1 : Nat → ByteArray → ByteArray → Int → Option (ByteArray × ByteArray × ByteArray)
  | 0, _, _, _ => none
  | k + 1, x2, x3, x6 => if x6 ≥ 0 then (if 0 ≤ x6 then (if x6 < (x3.size : Int) then (if (bt x3 x6) = 46 then (if x6 ≤ (x3.size : Int) then (some (x2, x3.extract 0 (x6 : Int).toNat, x3.extract (x6 : Int).toNat x3.size)) else (none)) else (spec_PathOf.l1 k x2 x3 (wrap64 (x6 - 1)))) else (none)) else (none)) else (some (x2, x3, (⟨#[]⟩ : ByteArray)))
def spec_PathOf.l0 : Nat → ByteArray → ByteArray → Int → Option (ByteArray × ByteArray × ByteArray)
  | 0, _, _, _ => none
  | k + 1, x0, x2, x5 => if x5 > 0 then (if 0 ≤ (wrap64 (x5 - 1)) then (if (wrap64 (x5 - 1)) < (x0.size : Int) then (if (bt x0 (wrap64 (x5 - 1))) = 47 then (spec_PathOf.j1 k x0 x2 x5) else (if (bt x0 (wrap64 (x5 - 1))) = 92 then (spec_PathOf.j1 k x0 x2 x5) else (spec_PathOf.l0 k x0 x2 (wrap64 (x5 - 1))))) else (none)) else (none)) else (spec_PathOf.j1 k x0 x2 x5)
end
def spec_PathOf.f (k : Nat) (a0 : ByteArray) : Option (ByteArray × ByteArray × ByteArray) := spec_PathOf.l0 k a0 (⟨#[]⟩ : ByteArray) (a0.size : Int)
theorem spec_PathOf.mono_l : ∀ k, (∀ y0 y1 y2, LeO (spec_PathOf.j1 k y0 y1 y2) (spec_PathOf.j1 (k + 1) y0 y1 y2)) ∧ (∀ y0 y1, LeO (spec_PathOf.j2 k y0 y1) (spec_PathOf.j2 (k + 1) y0 y1)) ∧ (∀ y0 y1 y2, LeO (spec_PathOf.l1 k y0 y1 y2) (spec_PathOf.l1 (k + 1) y0 y1 y2)) ∧ (∀ y0 y1 y2, LeO (spec_PathOf.l0 k y0 y1 y2) (spec_PathOf.l0 (k + 1) y0 y1 y2))
  | 0 => ⟨fun _ _ _ r h => by simp [spec_PathOf.j1] at h, fun _ _ r h => by simp [spec_PathOf.j2] at h, fun _ _ _ r h => by simp [spec_PathOf.l1] at h, fun _ _ _ r h => by simp [spec_PathOf.l0] at h⟩
  | k + 1 => by
    obtain ⟨ih0, ih1, ih2, ih3⟩ := spec_PathOf.mono_l k
    refine ⟨?_, ?_, ?_, ?_⟩
    · intro y0 y1 y2
      unfold spec_PathOf.j1
      repeat' first
      | (with_reducible exact ih0 _ _ _)
      | (with_reducible exact ih1 _ _)
      | (with_reducible exact ih2 _ _ _)
      | (with_reducible exact ih3 _ _ _)
      | (with_reducible exact LeO.refl _)
      | (with_reducible exact LeO.none _)
      | (with_reducible refine LeO.ite ?_ ?_)
      | (with_reducible refine LeO.bind ?_ (fun _ => ?_))
      | exact ih0 _ _ _
      | exact ih1 _ _
      | exact ih2 _ _ _
      | exact ih3 _ _ _
      | exact LeO.none _
      | refine LeO.ite ?_ ?_
      | refine LeO.bind ?_ (fun _ => ?_)
    · intro y0 y1
      unfold spec_PathOf.j2
      repeat' first
      | (with_reducible exact ih0 _ _ _)
      | (with_reducible exact ih1 _ _)
      | (with_reducible exact ih2 _ _ _)
      | (with_reducible exact ih3 _ _ _)
      | (with_reducible exact LeO.refl _)
      | (with_reducible exact LeO.none _)
      | (with_reducible refine LeO.ite ?_ ?_)
      | (with_reducible refine LeO.bind ?_ (fun _ => ?_))
      | exact ih0 _ _ _
      | exact ih1 _ _
      | exact ih2 _ _ _
      | exact ih3 _ _ _
      | exact LeO.none _
      | refine LeO.ite ?_ ?_
      | refine LeO.bind ?_ (fun _ => ?_)
    · intro y0 y1 y2
      unfold spec_PathOf.l1
      repeat' first
      | (with_reducible exact ih0 _ _ _)
      | (with_reducible exact ih1 _ _)
      | (with_reducible exact ih2 _ _ _)
      | (with_reducible exact ih3 _ _ _)
      | (with_reducible exact LeO.refl _)
      | (with_reducible exact LeO.none _)
      | (with_reducible refine LeO.ite ?_ ?_)
      | (with_reducible refine LeO.bind ?_ (fun _ => ?_))
      | exact ih0 _ _ _
      | exact ih1 _ _
      | exact ih2 _ _ _
      | exact ih3 _ _ _
      | exact LeO.none _
      | refine LeO.ite ?_ ?_
      | refine LeO.bind ?_ (fun _ => ?_)
    · intro y0 y1 y2
      unfold spec_PathOf.l0
      repeat' first
      | (with_reducible exact ih0 _ _ _)
      | (with_reducible exact ih1 _ _)
      | (with_reducible exact ih2 _ _ _)
      | (with_reducible exact ih3 _ _ _)
      | (with_reducible exact LeO.refl _)
      | (with_reducible exact LeO.none _)
      | (with_reducible refine LeO.ite ?_ ?_)
      | (with_reducible refine LeO.bind ?_ (fun _ => ?_))
      | exact ih0 _ _ _
      | exact ih1 _ _
      | exact ih2 _ _ _
      | exact ih3 _ _ _
      | exact LeO.none _
      | refine LeO.ite ?_ ?_
      | refine LeO.bind ?_ (fun _ => ?_)
theorem spec_PathOf.mono : ∀ a0 k, LeO (spec_PathOf.f k a0) (spec_PathOf.f (k + 1) a0) := by
  intro a0 k
  obtain ⟨ih0, ih1, ih2, ih3⟩ := spec_PathOf.mono_l k
  unfold spec_PathOf.f
  repeat' first
      | (with_reducible exact ih0 _ _ _)
      | (with_reducible exact ih1 _ _)
      | (with_reducible exact ih2 _ _ _)
      | (with_reducible exact ih3 _ _ _)
      | (with_reducible exact LeO.refl _)
      | (with_reducible exact LeO.none _)
      | (with_reducible refine LeO.ite ?_ ?_)
      | (with_reducible refine LeO.bind ?_ (fun _ => ?_))
      | exact ih0 _ _ _
      | exact ih1 _ _
      | exact ih2 _ _ _
      | exact ih3 _ _ _
      | exact LeO.none _
      | refine LeO.ite ?_ ?_
      | refine LeO.bind ?_ (fun _ => ?_)
set_option maxHeartbeats 8000000 in
set_option maxRecDepth 100000 in
theorem spec_PathOf.calls (k : Nat) (a0 : ByteArray) (r1 : ByteArray) (r2 : ByteArray) (r3 : ByteArray) (w : World) (h : spec_PathOf.f k a0 = some (r1, r2, r3)) :
    Calls Try.prog 7 #[.string a0] w fun e w' => e = .returned (.tuple #[.string r1, .string r2, .string r3]) ∧ Drawn0 w w' := by
  have H : (spec_PathOf.l0 k a0 (⟨#[]⟩ : ByteArray) (a0.size : Int)) = some (r1, r2, r3) := h
  clear h
  have HC2 := Aside0.mk H
  clear H
  go_enter Try.func7, Try.ntmps7
  go_upto_block 0 with (fail)
  repeat (go_quiet (fail); go_upto_block 0 with (fail))
  go_cut [5] (fun v5 wc => ∃ (kq : Nat) (x5_1 : Int), v5 = .int .i64 x5_1 ∧ Aside0 (spec_PathOf.j1 kq a0 (⟨#[]⟩ : ByteArray) x5_1 = some (r1, r2, r3)) ∧ Aside0 (kq ≤ k) ∧ Drawn0 w wc)
  case first =>
    have H := HC2.out
    clear HC2
    have H' := Aside0.mk H
    clear H
    go_wp2
    repeat (go_quiet (fail); try go_wp2)
    go_loopg [5] k (fun kq v5 w' => ∃ (x5_1 : Int), v5 = .int .i64 x5_1 ∧ Aside0 (spec_PathOf.l0 kq a0 (⟨#[]⟩ : ByteArray) x5_1 = some (r1, r2, r3)) ∧ Aside0 (kq ≤ k) ∧ Drawn0 w w')
    case atStart => exact ⟨((a0.size : Int)), (by first | rfl | (simp; done) | (simp [*]; done)), H', ⟨Nat.le_refl _⟩, by repeat (first | exact Drawn0.refl _ | apply Drawn0.step)⟩
    case round =>
      clear H'
      try clear p2
      obtain ⟨x5_1, rfl, HA, HK1, ⟨m1, rfl⟩⟩ := hrel
      cases gk with
      | zero => exact absurd HA.out (by simp [spec_PathOf.l0])
      | succ k1 =>
        have H := HA.out
        clear HA
        simp only [spec_PathOf.l0] at H
        by_cases c3 : x5_1 > 0
        · rw [if_pos c3] at H
          have c3b0 : decide (0 < x5_1) = true := decide_eq_true c3
          clear c3
          (first | rw [c3b0] | (simp only [i64_w, i32_w]; rw [c3b0]) | skip)
          obtain ⟨ji4, hji4⟩ : ∃ j_ : Int, (wrap64 (x5_1 - 1)) = j_ := ⟨_, rfl⟩
          replace H : (if 0 ≤ (ji4) then (if (ji4) < (a0.size : Int) then (if (bt a0 (ji4)) = 47 then (spec_PathOf.j1 k1 a0 (⟨#[]⟩ : ByteArray) x5_1) else (if (bt a0 (ji4)) = 92 then (spec_PathOf.j1 k1 a0 (⟨#[]⟩ : ByteArray) x5_1) else (spec_PathOf.l0 k1 a0 (⟨#[]⟩ : ByteArray) ji4))) else (none)) else (none)) = some (r1, r2, r3) := by first | (rw [hji4] at H; exact H) | (simp only [hji4] at H ⊢; exact H)
          have hji4w : (IntKind.i64.wrap (x5_1 - 1)) = ji4 := (i64_w _).trans hji4
          by_cases c5 : 0 ≤ (ji4)
          · rw [if_pos c5] at H
            have c5b0 : decide (0 ≤ (ji4)) = true := decide_eq_true c5
            clear c5
            by_cases c6 : (ji4) < (a0.size : Int)
            · rw [if_pos c6] at H
              have c6b0 : decide ((ji4) < (a0.size : Int)) = true := decide_eq_true c6
              clear c6
              by_cases c8 : (bt a0 (ji4)) = 47
              · rw [if_pos c8] at H
                have c8b0 : ((bt a0 (ji4)) == 47) = true := beq_iff_eq.mpr c8
                have c8b1 : ((bt a0 (ji4)) != 47) = false := bne_eq_false_iff_eq.mpr c8
                clear c8
                have H' := Aside0.mk H
                clear H
                have p7 : 0 ≤ ((ji4) : Int) := of_decide_eq_true (by first | (with_reducible assumption) | assumption)
                have q7 : (ji4) < (a0.size : Int) := of_decide_eq_true (by first | (with_reducible assumption) | assumption)
                have hx7 := bt_at a0 (ji4)
                replace p7 := eq_true p7
                replace q7 := eq_true q7
                go_wp2
                repeat (go_quiet (fail); try go_wp2)
                go_meet
                case rel => exact ⟨_, (x5_1), (by first | rfl | (simp; done) | (simp [*]; done)), H', ⟨by have := HK1.out; first | omega | exact Nat.le_refl _⟩, by repeat (first | exact Drawn0.refl _ | apply Drawn0.step)⟩
              · rw [if_neg c8] at H
                have c8b0 : ((bt a0 (ji4)) == 47) = false := beq_eq_false_iff_ne.mpr c8
                have c8b1 : ((bt a0 (ji4)) != 47) = true := bne_iff_ne.mpr c8
                by_cases c10 : (bt a0 (ji4)) = 92
                · rw [if_pos c10] at H
                  have c10b0 : ((bt a0 (ji4)) == 92) = true := beq_iff_eq.mpr c10
                  have c10b1 : ((bt a0 (ji4)) != 92) = false := bne_eq_false_iff_eq.mpr c10
                  clear c10
                  have H' := Aside0.mk H
                  clear H
                  have p7 : 0 ≤ ((ji4) : Int) := of_decide_eq_true (by first | (with_reducible assumption) | assumption)
                  have q7 : (ji4) < (a0.size : Int) := of_decide_eq_true (by first | (with_reducible assumption) | assumption)
                  have hx7 := bt_at a0 (ji4)
                  replace p7 := eq_true p7
                  replace q7 := eq_true q7
                  have p9 : 0 ≤ ((ji4) : Int) := of_decide_eq_true (by first | (with_reducible assumption) | assumption)
                  have q9 : (ji4) < (a0.size : Int) := of_decide_eq_true (by first | (with_reducible assumption) | assumption)
                  have hx9 := bt_at a0 (ji4)
                  replace p9 := eq_true p9
                  replace q9 := eq_true q9
                  go_wp2
                  repeat (go_quiet (fail); try go_wp2)
                  go_meet
                  case rel => exact ⟨_, (x5_1), (by first | rfl | (simp; done) | (simp [*]; done)), H', ⟨by have := HK1.out; first | omega | exact Nat.le_refl _⟩, by repeat (first | exact Drawn0.refl _ | apply Drawn0.step)⟩
                · rw [if_neg c10] at H
                  have c10b0 : ((bt a0 (ji4)) == 92) = false := beq_eq_false_iff_ne.mpr c10
                  have c10b1 : ((bt a0 (ji4)) != 92) = true := bne_iff_ne.mpr c10
                  have H' := Aside0.mk H
                  clear H
                  have p7 : 0 ≤ ((ji4) : Int) := of_decide_eq_true (by first | (with_reducible assumption) | assumption)
                  have q7 : (ji4) < (a0.size : Int) := of_decide_eq_true (by first | (with_reducible assumption) | assumption)
                  have hx7 := bt_at a0 (ji4)
                  replace p7 := eq_true p7
                  replace q7 := eq_true q7
                  have p9 : 0 ≤ ((ji4) : Int) := of_decide_eq_true (by first | (with_reducible assumption) | assumption)
                  have q9 : (ji4) < (a0.size : Int) := of_decide_eq_true (by first | (with_reducible assumption) | assumption)
                  have hx9 := bt_at a0 (ji4)
                  replace p9 := eq_true p9
                  replace q9 := eq_true q9
                  go_wp2
                  repeat (go_quiet (fail); try go_wp2)
                  go_roundg k1
                  case measure => have := HK1.out; omega
                  case rel => exact ⟨(ji4), (by first | rfl | (simp; done) | (simp only [← hji4] <;> (first | rfl | simp)) | (simp [*]; done)), H', ⟨by have := HK1.out; omega⟩, by repeat (first | exact Drawn0.refl _ | apply Drawn0.step)⟩
            · rw [if_neg c6] at H
              exact absurd H (by simp)
          · rw [if_neg c5] at H
            exact absurd H (by simp)
        · rw [if_neg c3] at H
          have c3b0 : decide (0 < x5_1) = false := decide_eq_false c3
          clear c3
          (first | rw [c3b0] | (simp only [i64_w, i32_w]; rw [c3b0]) | skip)
          have H' := Aside0.mk H
          clear H
          go_wp2
          repeat (go_quiet (fail); try go_wp2)
          go_meet
          case rel => exact ⟨_, (x5_1), (by first | rfl | (simp; done) | (simp [*]; done)), H', ⟨by have := HK1.out; first | omega | exact Nat.le_refl _⟩, by repeat (first | exact Drawn0.refl _ | apply Drawn0.step)⟩
  case rest =>
    clear HC2
    try clear c1
    try clear p2
    try clear c3
    try clear c3b0
    try clear c5
    try clear c5b0
    try clear c6
    try clear c6b0
    try clear p6
    try clear c7
    try clear p7
    try clear q7
    try clear hx7
    try clear c8
    try clear c8b0
    try clear c8b1
    try clear p9
    try clear q9
    try clear hx9
    try clear c10
    try clear c10b0
    try clear c10b1
    try clear p2
    try clear p7
    try clear p9
    try clear q7
    try clear q9
    obtain ⟨kq, x5_1, rfl, HA, HJ1, ⟨mc1, rfl⟩⟩ := hcut
    cases kq with
    | zero => exact absurd HA.out (by simp [spec_PathOf.j1])
    | succ kj1 =>
      have H := HA.out
      clear HA
      simp only [spec_PathOf.j1] at H
      by_cases c11 : 0 ≤ x5_1
      · rw [if_pos c11] at H
        have c11b0 := eq_true c11
        have c11b1 : decide (0 ≤ x5_1) = true := decide_eq_true c11
        clear c11
        by_cases c12 : x5_1 ≤ (a0.size : Int)
        · rw [if_pos c12] at H
          have c12b0 := eq_true c12
          have c12b1 : decide (x5_1 ≤ (a0.size : Int)) = true := decide_eq_true c12
          clear c12
          have HC13 := Aside0.mk H
          clear H
          go_upto_if 31 with (fail)
          repeat (go_quiet (fail); go_upto_if 31 with (fail))
          go_cut [2] (fun v2 wc => ∃ (kq : Nat) (x2_12 : ByteArray), v2 = .string x2_12 ∧ Aside0 (spec_PathOf.j2 kq x2_12 (a0.extract (x5_1 : Int).toNat a0.size) = some (r1, r2, r3)) ∧ Aside0 (kq ≤ kj1) ∧ Drawn0 w wc)
          case first =>
            have H := HC13.out
            clear HC13
            by_cases c14 : x5_1 > 0
            · rw [if_pos c14] at H
              have c14b0 : decide (0 < x5_1) = true := decide_eq_true c14
              clear c14
              (first | rw [c14b0] | (simp only [i64_w, i32_w]; rw [c14b0]) | skip)
              obtain ⟨ji15, hji15⟩ : ∃ j_ : Int, (wrap64 (x5_1 - 1)) = j_ := ⟨_, rfl⟩
              replace H : (if 0 ≤ (ji15) then (if (ji15) ≤ (a0.size : Int) then (spec_PathOf.j2 kj1 (a0.extract 0 ((ji15) : Int).toNat) (a0.extract (x5_1 : Int).toNat a0.size)) else (none)) else (none)) = some (r1, r2, r3) := by first | (rw [hji15] at H; exact H) | (simp only [hji15] at H ⊢; exact H)
              have hji15w : (IntKind.i64.wrap (x5_1 - 1)) = ji15 := (i64_w _).trans hji15
              by_cases c16 : 0 ≤ (ji15)
              · rw [if_pos c16] at H
                have c16b0 := eq_true c16
                have c16b1 : decide (0 ≤ (ji15)) = true := decide_eq_true c16
                clear c16
                by_cases c17 : (ji15) ≤ (a0.size : Int)
                · rw [if_pos c17] at H
                  have c17b0 := eq_true c17
                  have c17b1 : decide ((ji15) ≤ (a0.size : Int)) = true := decide_eq_true c17
                  clear c17
                  have H' := Aside0.mk H
                  clear H
                  go_wp2
                  repeat (go_quiet (fail); try go_wp2)
                  go_meet
                  case rel => exact ⟨_, (a0.extract 0 ((ji15) : Int).toNat), (by first | rfl | (simp; done) | (simp only [← hji15] <;> (first | rfl | simp)) | (simp [*]; done)), H', ⟨by have := HJ1.out; first | omega | exact Nat.le_refl _⟩, by repeat (first | exact Drawn0.refl _ | apply Drawn0.step)⟩
                · rw [if_neg c17] at H
                  exact absurd H (by simp)
              · rw [if_neg c16] at H
                exact absurd H (by simp)
            · rw [if_neg c14] at H
              have c14b0 : decide (0 < x5_1) = false := decide_eq_false c14
              clear c14
              (first | rw [c14b0] | (simp only [i64_w, i32_w]; rw [c14b0]) | skip)
              have H' := Aside0.mk H
              clear H
              go_wp2
              repeat (go_quiet (fail); try go_wp2)
              go_meet
              case rel => exact ⟨_, ((⟨#[]⟩ : ByteArray)), (by first | rfl | (simp; done) | (simp [*]; done)), H', ⟨by have := HJ1.out; first | omega | exact Nat.le_refl _⟩, by repeat (first | exact Drawn0.refl _ | apply Drawn0.step)⟩
          case rest =>
            clear HC13
            try clear c1
            try clear p2
            try clear c3
            try clear c3b0
            try clear c5
            try clear c5b0
            try clear c6
            try clear c6b0
            try clear p6
            try clear c7
            try clear p7
            try clear q7
            try clear hx7
            try clear c8
            try clear c8b0
            try clear c8b1
            try clear p9
            try clear q9
            try clear hx9
            try clear c10
            try clear c10b0
            try clear c10b1
            try clear c11
            try clear c11b0
            try clear c11b1
            try clear c12
            try clear c12b0
            try clear c12b1
            try clear c14
            try clear c14b0
            try clear c16
            try clear c16b0
            try clear c16b1
            try clear c17
            try clear c17b0
            try clear c17b1
            try clear p2
            try clear p6
            try clear p7
            try clear p9
            try clear q7
            try clear q9
            obtain ⟨kq, x2_12, rfl, HA, HJ12, ⟨mc12, rfl⟩⟩ := hcut
            cases kq with
            | zero => exact absurd HA.out (by simp [spec_PathOf.j2])
            | succ kj12 =>
              have H := HA.out
              clear HA
              simp only [spec_PathOf.j2] at H
              have H' := Aside0.mk H
              clear H
              go_wp2
              repeat (go_quiet (fail); try go_wp2)
              go_loopg [2, 3, 6] kj12 (fun kq v2 v3 v6 w' => ∃ (x2_3 : ByteArray) (x3_3 : ByteArray) (x6_3 : Int), v2 = .string x2_3 ∧ v3 = .string x3_3 ∧ v6 = .int .i64 x6_3 ∧ Aside0 (spec_PathOf.l1 kq x2_3 x3_3 x6_3 = some (r1, r2, r3)) ∧ Aside0 (kq ≤ kj12) ∧ Drawn0 w w')
              case atStart => exact ⟨(x2_12), ((a0.extract (x5_1 : Int).toNat a0.size)), (wrap64 (((a0.extract (x5_1 : Int).toNat a0.size).size : Int) - 1)), (by first | rfl | (simp; done) | (simp [*]; done)), (by first | rfl | (simp; done) | (simp [*]; done)), (by first | rfl | (simp; done) | (simp [*]; done)), H', ⟨Nat.le_refl _⟩, by repeat (first | exact Drawn0.refl _ | apply Drawn0.step)⟩
              case round =>
                clear H'
                try clear c1
                try clear p2
                try clear c3
                try clear c3b0
                try clear c5
                try clear c5b0
                try clear c6
                try clear c6b0
                try clear p6
                try clear c7
                try clear p7
                try clear q7
                try clear hx7
                try clear c8
                try clear c8b0
                try clear c8b1
                try clear p9
                try clear q9
                try clear hx9
                try clear c10
                try clear c10b0
                try clear c10b1
                try clear c11
                try clear c11b0
                try clear c11b1
                try clear c12
                try clear c12b0
                try clear c12b1
                try clear c14
                try clear c14b0
                try clear c16
                try clear c16b0
                try clear c16b1
                try clear c17
                try clear c17b0
                try clear c17b1
                try clear p2
                try clear p6
                try clear p7
                try clear p9
                try clear q7
                try clear q9
                obtain ⟨x2_3, x3_3, x6_3, rfl, rfl, rfl, HA, HK3, ⟨m3, rfl⟩⟩ := hrel
                cases gk with
                | zero => exact absurd HA.out (by simp [spec_PathOf.l1])
                | succ k3 =>
                  have H := HA.out
                  clear HA
                  simp only [spec_PathOf.l1] at H
                  by_cases c18 : x6_3 ≥ 0
                  · rw [if_pos c18] at H
                    have c18b0 : decide (0 ≤ x6_3) = true := decide_eq_true c18
                    clear c18
                    by_cases c19 : 0 ≤ x6_3
                    · rw [if_pos c19] at H
                      have c19b0 : decide (0 ≤ x6_3) = true := decide_eq_true c19
                      clear c19
                      by_cases c20 : x6_3 < (x3_3.size : Int)
                      · rw [if_pos c20] at H
                        have c20b0 : decide (x6_3 < (x3_3.size : Int)) = true := decide_eq_true c20
                        clear c20
                        by_cases c22 : (bt x3_3 x6_3) = 46
                        · rw [if_pos c22] at H
                          have c22b0 : ((bt x3_3 x6_3) == 46) = true := beq_iff_eq.mpr c22
                          have c22b1 : ((bt x3_3 x6_3) != 46) = false := bne_eq_false_iff_eq.mpr c22
                          clear c22
                          have c23b0 := eq_true (of_decide_eq_true (by first | (with_reducible assumption) | assumption) : 0 ≤ x6_3)
                          by_cases c24 : x6_3 ≤ (x3_3.size : Int)
                          · rw [if_pos c24] at H
                            have c24b0 := eq_true c24
                            have c24b1 : decide (x6_3 ≤ (x3_3.size : Int)) = true := decide_eq_true c24
                            clear c24
                            have c25b0 := eq_true (of_decide_eq_true (by first | (with_reducible assumption) | assumption) : 0 ≤ x6_3)
                            have c26b0 := eq_true (of_decide_eq_true (by first | (with_reducible assumption) | assumption) : x6_3 ≤ (x3_3.size : Int))
                            simp only [Option.some.injEq, Prod.mk.injEq] at H
                            obtain ⟨rfl, rfl, rfl⟩ := H
                            have p21 : 0 ≤ (x6_3 : Int) := of_decide_eq_true (by first | (with_reducible assumption) | assumption)
                            have q21 : x6_3 < (x3_3.size : Int) := of_decide_eq_true (by first | (with_reducible assumption) | assumption)
                            have hx21 := bt_at x3_3 x6_3
                            replace p21 := eq_true p21
                            replace q21 := eq_true q21
                            go_wp2
                            repeat (go_quiet (fail); try go_wp2)
                            go_ret3
                            exact ⟨by first | rfl | (simp; done) | (simp [*]; done), by repeat (first | exact Drawn0.refl _ | apply Drawn0.step)⟩
                          · rw [if_neg c24] at H
                            exact absurd H (by simp)
                        · rw [if_neg c22] at H
                          have c22b0 : ((bt x3_3 x6_3) == 46) = false := beq_eq_false_iff_ne.mpr c22
                          have c22b1 : ((bt x3_3 x6_3) != 46) = true := bne_iff_ne.mpr c22
                          have H' := Aside0.mk H
                          clear H
                          have p21 : 0 ≤ (x6_3 : Int) := of_decide_eq_true (by first | (with_reducible assumption) | assumption)
                          have q21 : x6_3 < (x3_3.size : Int) := of_decide_eq_true (by first | (with_reducible assumption) | assumption)
                          have hx21 := bt_at x3_3 x6_3
                          replace p21 := eq_true p21
                          replace q21 := eq_true q21
                          go_wp2
                          repeat (go_quiet (fail); try go_wp2)
                          go_roundg k3
                          case measure => have := HJ1.out; have := HJ12.out; have := HK3.out; omega
                          case rel => exact ⟨(x2_3), (x3_3), (wrap64 (x6_3 - 1)), (by first | rfl | (simp; done) | (simp [*]; done)), (by first | rfl | (simp; done) | (simp [*]; done)), (by first | rfl | (simp; done) | (simp [*]; done)), H', ⟨by have := HJ1.out; have := HJ12.out; have := HK3.out; omega⟩, by repeat (first | exact Drawn0.refl _ | apply Drawn0.step)⟩
                      · rw [if_neg c20] at H
                        exact absurd H (by simp)
                    · rw [if_neg c19] at H
                      exact absurd H (by simp)
                  · rw [if_neg c18] at H
                    have c18b0 : decide (0 ≤ x6_3) = false := decide_eq_false c18
                    clear c18
                    simp only [Option.some.injEq, Prod.mk.injEq] at H
                    obtain ⟨rfl, rfl, rfl⟩ := H
                    go_wp2
                    repeat (go_quiet (fail); try go_wp2)
                    go_ret3
                    exact ⟨by first | rfl | (simp; done) | (simp [*]; done), by repeat (first | exact Drawn0.refl _ | apply Drawn0.step)⟩
        · rw [if_neg c12] at H
          exact absurd H (by simp)
      · rw [if_neg c11] at H
        exact absurd H (by simp)

/-! ### laws_styled: function 8 -/
def laws_styled.f (a0 : ByteArray) : Option (Bool) := if (a0.size : Int) ≥ 11 then (if 0 ≤ (wrap64 ((a0.size : Int) - 11)) then (if (wrap64 ((a0.size : Int) - 11)) ≤ (a0.size : Int) then (some ((a0.extract ((wrap64 ((a0.size : Int) - 11)) : Int).toNat a0.size).toList == ([46, 109, 111, 100, 117, 108, 101, 46, 99, 115, 115] : List UInt8))) else (none)) else (none)) else (some false)
set_option maxHeartbeats 8000000 in
set_option maxRecDepth 100000 in
theorem laws_styled.calls (a0 : ByteArray) (r : Bool) (w : World) (h : laws_styled.f a0 = some r) :
    Calls Try.prog 8 #[.string a0] w fun e w' => e = .returned (.bool r) ∧ Drawn0 w w' := by
  have H : (if (a0.size : Int) ≥ 11 then (if 0 ≤ (wrap64 ((a0.size : Int) - 11)) then (if (wrap64 ((a0.size : Int) - 11)) ≤ (a0.size : Int) then (some ((a0.extract ((wrap64 ((a0.size : Int) - 11)) : Int).toNat a0.size).toList == ([46, 109, 111, 100, 117, 108, 101, 46, 99, 115, 115] : List UInt8))) else (none)) else (none)) else (some false)) = some r := h
  clear h
  by_cases c2 : (a0.size : Int) ≥ 11
  · rw [if_pos c2] at H
    have c2b0 : decide (11 ≤ (a0.size : Int)) = true := decide_eq_true c2
    have c2b1 : decide (11 ≤ a0.size) = true := decide_eq_true (by omega)
    clear c2
    obtain ⟨ji3, hji3⟩ : ∃ j_ : Int, (wrap64 ((a0.size : Int) - 11)) = j_ := ⟨_, rfl⟩
    replace H : (if 0 ≤ (ji3) then (if (ji3) ≤ (a0.size : Int) then (some ((a0.extract ((ji3) : Int).toNat a0.size).toList == ([46, 109, 111, 100, 117, 108, 101, 46, 99, 115, 115] : List UInt8))) else (none)) else (none)) = some r := by first | (rw [hji3] at H; exact H) | (simp only [hji3] at H ⊢; exact H)
    have hji3w : (IntKind.i64.wrap ((a0.size : Int) - 11)) = ji3 := (i64_w _).trans hji3
    by_cases c4 : 0 ≤ (ji3)
    · rw [if_pos c4] at H
      have c4b0 := eq_true c4
      have c4b1 : decide (0 ≤ (ji3)) = true := decide_eq_true c4
      clear c4
      by_cases c5 : (ji3) ≤ (a0.size : Int)
      · rw [if_pos c5] at H
        have c5b0 := eq_true c5
        have c5b1 : decide ((ji3) ≤ (a0.size : Int)) = true := decide_eq_true c5
        clear c5
        obtain rfl := Option.some.inj H
        go_enter Try.func8, Try.ntmps8
        go_wp2
        go_ret
        exact ⟨by first | rfl | (simp; done) | (simp only [← hji3] <;> (first | rfl | simp)) | (simp [*]; done), by repeat (first | exact Drawn0.refl _ | apply Drawn0.step)⟩
      · rw [if_neg c5] at H
        exact absurd H (by simp)
    · rw [if_neg c4] at H
      exact absurd H (by simp)
  · rw [if_neg c2] at H
    have c2b0 : decide (11 ≤ (a0.size : Int)) = false := decide_eq_false c2
    have c2b1 : decide (11 ≤ a0.size) = false := decide_eq_false (by omega)
    clear c2
    obtain rfl := Option.some.inj H
    go_enter Try.func8, Try.ntmps8
    go_wp2
    go_ret
    exact ⟨by first | rfl | (simp; done) | (simp [*]; done), by repeat (first | exact Drawn0.refl _ | apply Drawn0.step)⟩

end Go.Proofs.YtapbhbhaandedaaRRR.PFnPathParts
