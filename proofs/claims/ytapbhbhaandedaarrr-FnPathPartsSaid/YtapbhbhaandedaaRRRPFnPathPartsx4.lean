-- PRINTED BY print.sh 35421559b90ae4d0a3588c463048766b98c2df88dd9212a6774a882060cdf62d: not written by this session
import Derived.Test.YtapbhbhaandedaaRRRPFnPathPartsx0
import Derived.Test.YtapbhbhaandedaaRRRPFnPathPartsx3
namespace Go.Proofs.YtapbhbhaandedaaRRR.PFnPathParts
open Go.RowKit Go.Proofs.YtapbhbhaandedaaRRRW.PrintWords Go.Proofs.YtapbhbhaandedaaRRRW.PrintLast Go.Proofs.YtapbhbhaandedaaRRRW.PrintMore
attribute [local go_sem] max2_int min2_int max_two min_two max_three min_three max_four min_four   -- for this text's walks alone
set_option linter.unusedVariables false
set_option linter.unusedSimpArgs false

/-! ### laws_FnPathParts: function 3 -/
mutual
def laws_FnPathParts.j0 : Nat → ByteArray → Bool → Option (Bool)
  | 0, _, _ => none
  | k + 1, x0, x6 => (spec_PathOf.f k x0).bind fun bt112 => (if (x0.size : Int) > 1000 then (laws_FnPathParts.j1 k x0 x6 bt112.1 bt112.2.1 bt112.2.2 (x0.size : Int) true) else ((laws_styled.f x0).bind fun t115 => (if t115 = true then (laws_FnPathParts.j1 k x0 x6 bt112.1 bt112.2.1 bt112.2.2 (x0.size : Int) true) else (if (x0.size : Int) > 0 then (if 0 ≤ (wrap64 ((x0.size : Int) - 1)) then (if (wrap64 ((x0.size : Int) - 1)) < (x0.size : Int) then (if (bt x0 (wrap64 ((x0.size : Int) - 1))) = 47 then (laws_FnPathParts.j1 k x0 x6 bt112.1 bt112.2.1 bt112.2.2 (x0.size : Int) true) else (if (bt x0 (wrap64 ((x0.size : Int) - 1))) = 92 then (laws_FnPathParts.j1 k x0 x6 bt112.1 bt112.2.1 bt112.2.2 (x0.size : Int) true) else (if bt112.1.toList = ([] : List UInt8) then (if (wrap64 ((bt112.2.1.size : Int) + (bt112.2.2.size : Int))) = (x0.size : Int) then (if (bt112.1.size : Int) = 2 then (if 1 < (bt112.1.size : Int) then (laws_FnPathParts.j1 k x0 x6 bt112.1 bt112.2.1 bt112.2.2 (x0.size : Int) ((bt bt112.1 1) == 58)) else (none)) else (laws_FnPathParts.j1 k x0 x6 bt112.1 bt112.2.1 bt112.2.2 (x0.size : Int) false)) else (laws_FnPathParts.j1 k x0 x6 bt112.1 bt112.2.1 bt112.2.2 (x0.size : Int) true)) else (if (bt112.1.size : Int) = 2 then (if 1 < (bt112.1.size : Int) then (laws_FnPathParts.j1 k x0 x6 bt112.1 bt112.2.1 bt112.2.2 (x0.size : Int) ((bt bt112.1 1) == 58)) else (none)) else (laws_FnPathParts.j1 k x0 x6 bt112.1 bt112.2.1 bt112.2.2 (x0.size : Int) false))))) else (none)) else (none)) else (if bt112.1.toList = ([] : List UInt8) then (if (wrap64 ((bt112.2.1.size : Int) + (bt112.2.2.size : Int))) = (x0.size : Int) then (if (bt112.1.size : Int) = 2 then (if 1 < (bt112.1.size : Int) then (laws_FnPathParts.j1 k x0 x6 bt112.1 bt112.2.1 bt112.2.2 (x0.size : Int) ((bt bt112.1 1) == 58)) else (none)) else (laws_FnPathParts.j1 k x0 x6 bt112.1 bt112.2.1 bt112.2.2 (x0.size : Int) false)) else (laws_FnPathParts.j1 k x0 x6 bt112.1 bt112.2.1 bt112.2.2 (x0.size : Int) true)) else (if (bt112.1.size : Int) = 2 then (if 1 < (bt112.1.size : Int) then (laws_FnPathParts.j1 k x0 x6 bt112.1 bt112.2.1 bt112.2.2 (x0.size : Int) ((bt bt112.1 1) == 58)) else (none)) else (laws_FnPathParts.j1 k x0 x6 bt112.1 bt112.2.1 bt112.2.2 (x0.size : Int) false)))))))
def laws_FnPathParts.j1 : Nat → ByteArray → Bool → ByteArray → ByteArray → ByteArray → Int → Bool → Option (Bool)
  | 0, _, _, _, _, _, _, _ => none
  | k + 1, x0, x6, x7, x8, x9, x10, x86 => if x86 = true then (some x6) else (if x10 > 0 then (if 0 < (x0.size : Int) then (if (bt x0 0) = 47 then (if (x7.size : Int) < 2 then (some x6) else ((impl_PathParts.f k x0).bind fun bt116 => (if x6 = true then (if bt116.1.toList = x7.toList then (if bt116.2.1.toList = x8.toList then (some (bt116.2.2.toList == x9.toList)) else (some false)) else (some false)) else (some false)))) else (if (bt x0 0) = 92 then (if (x7.size : Int) < 2 then (some x6) else ((impl_PathParts.f k x0).bind fun bt119 => (if x6 = true then (if bt119.1.toList = x7.toList then (if bt119.2.1.toList = x8.toList then (some (bt119.2.2.toList == x9.toList)) else (some false)) else (some false)) else (some false)))) else ((impl_PathParts.f k x0).bind fun bt122 => (if x6 = true then (if bt122.1.toList = x7.toList then (if bt122.2.1.toList = x8.toList then (some (bt122.2.2.toList == x9.toList)) else (some false)) else (some false)) else (some false))))) else (none)) else ((impl_PathParts.f k x0).bind fun bt125 => (if x6 = true then (if bt125.1.toList = x7.toList then (if bt125.2.1.toList = x8.toList then (some (bt125.2.2.toList == x9.toList)) else (some false)) else (some false)) else (some false))))
end
def laws_FnPathParts.f (k : Nat) (a0 : ByteArray) : Option (Bool) := if (a0.size : Int) > 2147483647 then (some true) else ((impl_PathParts.f k (⟨#[97, 47, 98, 46, 99]⟩ : ByteArray)).bind fun bt109 => (if bt109.1.toList = ([97] : List UInt8) then (if bt109.2.1.toList = ([98] : List UInt8) then (laws_FnPathParts.j0 k a0 (bt109.2.2.toList == ([46, 99] : List UInt8))) else (laws_FnPathParts.j0 k a0 false)) else (laws_FnPathParts.j0 k a0 false)))
theorem laws_FnPathParts.mono_l : ∀ k, (∀ y0 y1, LeO (laws_FnPathParts.j0 k y0 y1) (laws_FnPathParts.j0 (k + 1) y0 y1)) ∧ (∀ y0 y1 y2 y3 y4 y5 y6, LeO (laws_FnPathParts.j1 k y0 y1 y2 y3 y4 y5 y6) (laws_FnPathParts.j1 (k + 1) y0 y1 y2 y3 y4 y5 y6))
  | 0 => ⟨fun _ _ r h => by simp [laws_FnPathParts.j0] at h, fun _ _ _ _ _ _ _ r h => by simp [laws_FnPathParts.j1] at h⟩
  | k + 1 => by
    obtain ⟨ih0, ih1⟩ := laws_FnPathParts.mono_l k
    refine ⟨?_, ?_⟩
    · intro y0 y1
      unfold laws_FnPathParts.j0
      repeat' first
      | (with_reducible exact ih0 _ _)
      | (with_reducible exact ih1 _ _ _ _ _ _ _)
      | (with_reducible exact impl_PathParts.mono _ _)
      | (with_reducible exact spec_PathOf.mono _ _)
      | (with_reducible exact LeO.refl _)
      | (with_reducible exact LeO.none _)
      | (with_reducible refine LeO.ite ?_ ?_)
      | (with_reducible refine LeO.bind ?_ (fun _ => ?_))
      | exact ih0 _ _
      | exact ih1 _ _ _ _ _ _ _
      | exact impl_PathParts.mono _ _
      | exact spec_PathOf.mono _ _
      | exact LeO.none _
      | refine LeO.ite ?_ ?_
      | refine LeO.bind ?_ (fun _ => ?_)
    · intro y0 y1 y2 y3 y4 y5 y6
      unfold laws_FnPathParts.j1
      repeat' first
      | (with_reducible exact ih0 _ _)
      | (with_reducible exact ih1 _ _ _ _ _ _ _)
      | (with_reducible exact impl_PathParts.mono _ _)
      | (with_reducible exact spec_PathOf.mono _ _)
      | (with_reducible exact LeO.refl _)
      | (with_reducible exact LeO.none _)
      | (with_reducible refine LeO.ite ?_ ?_)
      | (with_reducible refine LeO.bind ?_ (fun _ => ?_))
      | exact ih0 _ _
      | exact ih1 _ _ _ _ _ _ _
      | exact impl_PathParts.mono _ _
      | exact spec_PathOf.mono _ _
      | exact LeO.none _
      | refine LeO.ite ?_ ?_
      | refine LeO.bind ?_ (fun _ => ?_)
theorem laws_FnPathParts.mono : ∀ a0 k, LeO (laws_FnPathParts.f k a0) (laws_FnPathParts.f (k + 1) a0) := by
  intro a0 k
  obtain ⟨ih0, ih1⟩ := laws_FnPathParts.mono_l k
  unfold laws_FnPathParts.f
  repeat' first
      | (with_reducible exact ih0 _ _)
      | (with_reducible exact ih1 _ _ _ _ _ _ _)
      | (with_reducible exact impl_PathParts.mono _ _)
      | (with_reducible exact spec_PathOf.mono _ _)
      | (with_reducible exact LeO.refl _)
      | (with_reducible exact LeO.none _)
      | (with_reducible refine LeO.ite ?_ ?_)
      | (with_reducible refine LeO.bind ?_ (fun _ => ?_))
      | exact ih0 _ _
      | exact ih1 _ _ _ _ _ _ _
      | exact impl_PathParts.mono _ _
      | exact spec_PathOf.mono _ _
      | exact LeO.none _
      | refine LeO.ite ?_ ?_
      | refine LeO.bind ?_ (fun _ => ?_)
set_option maxHeartbeats 8000000 in
set_option maxRecDepth 100000 in
theorem laws_FnPathParts.calls (k : Nat) (a0 : ByteArray) (r : Bool) (w : World) (h : laws_FnPathParts.f k a0 = some r) :
    Calls Try.prog 3 #[.string a0] w fun e w' => e = .returned (.bool r) ∧ Below w.heap.size w w' := by
  have HB := Aside0.mk (Below.refl w.heap.size w)
  have H : (if (a0.size : Int) > 2147483647 then (some true) else ((impl_PathParts.f k (⟨#[97, 47, 98, 46, 99]⟩ : ByteArray)).bind fun bt109 => (if bt109.1.toList = ([97] : List UInt8) then (if bt109.2.1.toList = ([98] : List UInt8) then (laws_FnPathParts.j0 k a0 (bt109.2.2.toList == ([46, 99] : List UInt8))) else (laws_FnPathParts.j0 k a0 false)) else (laws_FnPathParts.j0 k a0 false)))) = some r := h
  clear h
  by_cases c2 : (a0.size : Int) > 2147483647
  · rw [if_pos c2] at H
    have c2b0 : decide (2147483647 < (a0.size : Int)) = true := decide_eq_true c2
    have c2b1 : decide (2147483647 < a0.size) = true := decide_eq_true (by omega)
    clear c2
    obtain rfl := Option.some.inj H
    go_enter Try.func3, Try.ntmps3
    go_wp2
    go_ret
    exact ⟨by first | rfl | (simp [errW_none, errW_some] <;> rfl) | (simp [*, errW_none, errW_some] <;> rfl), by repeat (first | (with_reducible first | exact HB.out | apply below_alloc | apply pw_below_drewN | apply below_drew1) | exact HB.out)⟩
  · rw [if_neg c2] at H
    have c2b0 : decide (2147483647 < (a0.size : Int)) = false := decide_eq_false c2
    have c2b1 : decide (2147483647 < a0.size) = false := decide_eq_false (by omega)
    clear c2
    replace H := Option.bind_eq_some_iff.mp H
    obtain ⟨⟨t109, t110, t111⟩, A30, H⟩ := H
    replace H : (if t109.toList = ([97] : List UInt8) then (if t110.toList = ([98] : List UInt8) then (laws_FnPathParts.j0 k a0 (t111.toList == ([46, 99] : List UInt8))) else (laws_FnPathParts.j0 k a0 false)) else (laws_FnPathParts.j0 k a0 false)) = some r := H
    have A3 := Aside0.mk A30
    clear A30
    have HC4 := Aside0.mk H
    clear H
    go_enter Try.func3, Try.ntmps3
    go_upto_region 4 with (first | ((with_reducible refine gate_callee (f := 6) rfl ?_); refine goesL_ (some 18) rfl rfl Try.func6 (by kernel_rfl) rfl #[.string (⟨#[97, 47, 98, 46, 99]⟩ : ByteArray)] rfl (by (try simp only [List.map_toArray, List.map_cons, List.map_nil]); first | done | rfl | (simp only [List.length_drop, List.length_take]; rfl)) ?_; (with_reducible refine (impl_PathParts.calls k (⟨#[97, 47, 98, 46, 99]⟩ : ByteArray) t109 t110 t111 _ A3.out).mono ?_); rintro e w5 ⟨rfl, hb⟩; refine ⟨_, rfl, ?_⟩; have n0_ := Aside0.mk (below_step (by repeat (first | (with_reducible first | exact HB.out | apply below_alloc | apply pw_below_drewN | apply below_drew1) | exact HB.out)) hb); clear HB; have HB := n0_; clear n0_; (try clear hb); (try clear hb2); (try clear hk); (try clear hi)))
    (try simp only [Act.put, List.setIfInBounds_toArray, List.set_cons_zero, List.set_cons_succ])
    go_cut [6] (fun v6 wc => ∃ (kq : Nat) (x6_3 : Bool), v6 = .bool x6_3 ∧ Aside0 (laws_FnPathParts.j0 kq a0 x6_3 = some r) ∧ Aside0 (kq ≤ k) ∧ Aside0 (Below w.heap.size w wc))
    case first =>
      have H := HC4.out
      clear HC4
      by_cases c6 : t109.toList = ([97] : List UInt8)
      · rw [if_pos c6] at H
        have c6b0 : (t109.toList == ([97] : List UInt8)) = true := beq_iff_eq.mpr c6
        have c6b1 : (t109.toList != ([97] : List UInt8)) = false := bne_eq_false_iff_eq.mpr c6
        clear c6
        (first | rw [c6b0] | (simp only [i64_w, i32_w]; rw [c6b0]) | skip)
        by_cases c7 : t110.toList = ([98] : List UInt8)
        · rw [if_pos c7] at H
          have c7b0 : (t110.toList == ([98] : List UInt8)) = true := beq_iff_eq.mpr c7
          have c7b1 : (t110.toList != ([98] : List UInt8)) = false := bne_eq_false_iff_eq.mpr c7
          clear c7
          have H' := Aside0.mk H
          clear H
          go_wp2
          go_meet
          case rel => exact ⟨_, ((t111.toList == ([46, 99] : List UInt8))), (by first | rfl | (simp; done) | (simp [*]; done)), H', ⟨by first | omega | exact Nat.le_refl _⟩, ⟨by repeat (first | (with_reducible first | exact HB.out | apply below_alloc | apply pw_below_drewN | apply below_drew1) | exact HB.out)⟩⟩
        · rw [if_neg c7] at H
          have c7b0 : (t110.toList == ([98] : List UInt8)) = false := beq_eq_false_iff_ne.mpr c7
          have c7b1 : (t110.toList != ([98] : List UInt8)) = true := bne_iff_ne.mpr c7
          have H' := Aside0.mk H
          clear H
          go_wp2
          go_meet
          case rel => exact ⟨_, (false), (by first | rfl | (simp; done) | (simp [*]; done)), H', ⟨by first | omega | exact Nat.le_refl _⟩, ⟨by repeat (first | (with_reducible first | exact HB.out | apply below_alloc | apply pw_below_drewN | apply below_drew1) | exact HB.out)⟩⟩
      · rw [if_neg c6] at H
        have c6b0 : (t109.toList == ([97] : List UInt8)) = false := beq_eq_false_iff_ne.mpr c6
        have c6b1 : (t109.toList != ([97] : List UInt8)) = true := bne_iff_ne.mpr c6
        (first | rw [c6b0] | (simp only [i64_w, i32_w]; rw [c6b0]) | skip)
        have H' := Aside0.mk H
        clear H
        go_wp2
        go_meet
        case rel => exact ⟨_, (false), (by first | rfl | (simp; done) | (simp [*]; done)), H', ⟨by first | omega | exact Nat.le_refl _⟩, ⟨by repeat (first | (with_reducible first | exact HB.out | apply below_alloc | apply pw_below_drewN | apply below_drew1) | exact HB.out)⟩⟩
    case rest =>
      clear HC4
      try clear c2
      try clear c2b0
      try clear c2b1
      try clear p2
      try clear c3
      try clear c6
      try clear c6b0
      try clear c6b1
      try clear c7
      try clear c7b0
      try clear c7b1
      obtain ⟨kq, x6_3, rfl, HA, HJ3, HB⟩ := hcut
      cases kq with
      | zero => exact absurd HA.out (by simp [laws_FnPathParts.j0])
      | succ kj3 =>
        have H := HA.out
        clear HA
        simp only [laws_FnPathParts.j0] at H
        replace H := Option.bind_eq_some_iff.mp H
        obtain ⟨⟨t112, t113, t114⟩, A80, H⟩ := H
        replace H : (if (a0.size : Int) > 1000 then (laws_FnPathParts.j1 kj3 a0 x6_3 t112 t113 t114 (a0.size : Int) true) else ((laws_styled.f a0).bind fun t115 => (if t115 = true then (laws_FnPathParts.j1 kj3 a0 x6_3 t112 t113 t114 (a0.size : Int) true) else (if (a0.size : Int) > 0 then (if 0 ≤ (wrap64 ((a0.size : Int) - 1)) then (if (wrap64 ((a0.size : Int) - 1)) < (a0.size : Int) then (if (bt a0 (wrap64 ((a0.size : Int) - 1))) = 47 then (laws_FnPathParts.j1 kj3 a0 x6_3 t112 t113 t114 (a0.size : Int) true) else (if (bt a0 (wrap64 ((a0.size : Int) - 1))) = 92 then (laws_FnPathParts.j1 kj3 a0 x6_3 t112 t113 t114 (a0.size : Int) true) else (if t112.toList = ([] : List UInt8) then (if (wrap64 ((t113.size : Int) + (t114.size : Int))) = (a0.size : Int) then (if (t112.size : Int) = 2 then (if 1 < (t112.size : Int) then (laws_FnPathParts.j1 kj3 a0 x6_3 t112 t113 t114 (a0.size : Int) ((bt t112 1) == 58)) else (none)) else (laws_FnPathParts.j1 kj3 a0 x6_3 t112 t113 t114 (a0.size : Int) false)) else (laws_FnPathParts.j1 kj3 a0 x6_3 t112 t113 t114 (a0.size : Int) true)) else (if (t112.size : Int) = 2 then (if 1 < (t112.size : Int) then (laws_FnPathParts.j1 kj3 a0 x6_3 t112 t113 t114 (a0.size : Int) ((bt t112 1) == 58)) else (none)) else (laws_FnPathParts.j1 kj3 a0 x6_3 t112 t113 t114 (a0.size : Int) false))))) else (none)) else (none)) else (if t112.toList = ([] : List UInt8) then (if (wrap64 ((t113.size : Int) + (t114.size : Int))) = (a0.size : Int) then (if (t112.size : Int) = 2 then (if 1 < (t112.size : Int) then (laws_FnPathParts.j1 kj3 a0 x6_3 t112 t113 t114 (a0.size : Int) ((bt t112 1) == 58)) else (none)) else (laws_FnPathParts.j1 kj3 a0 x6_3 t112 t113 t114 (a0.size : Int) false)) else (laws_FnPathParts.j1 kj3 a0 x6_3 t112 t113 t114 (a0.size : Int) true)) else (if (t112.size : Int) = 2 then (if 1 < (t112.size : Int) then (laws_FnPathParts.j1 kj3 a0 x6_3 t112 t113 t114 (a0.size : Int) ((bt t112 1) == 58)) else (none)) else (laws_FnPathParts.j1 kj3 a0 x6_3 t112 t113 t114 (a0.size : Int) false))))))) = some r := H
        have A8 := Aside0.mk A80
        clear A80
        have HC9 := Aside0.mk H
        clear H
        go_upto_region 7 with (first | ((with_reducible refine gate_callee (f := 7) rfl ?_); refine goesL_ (some 34) rfl rfl Try.func7 (by kernel_rfl) rfl #[.string a0] rfl (by (try simp only [List.map_toArray, List.map_cons, List.map_nil]); first | done | rfl | (simp only [List.length_drop, List.length_take]; rfl)) ?_; (with_reducible refine (spec_PathOf.calls kj3 a0 t112 t113 t114 _ A8.out).mono ?_); rintro e w' ⟨rfl, ⟨nd, rfl⟩⟩; refine ⟨_, rfl, ?_⟩))
        (try simp only [Act.put, List.setIfInBounds_toArray, List.set_cons_zero, List.set_cons_succ])
        go_cut [86] (fun v86 wc => ∃ (kq : Nat) (x86_8 : Bool), v86 = .bool x86_8 ∧ Aside0 (laws_FnPathParts.j1 kq a0 x6_3 t112 t113 t114 (a0.size : Int) x86_8 = some r) ∧ Aside0 (kq ≤ kj3) ∧ Aside0 (Below w.heap.size w wc))
        case first =>
          have H := HC9.out
          clear HC9
          by_cases c10 : (a0.size : Int) > 1000
          · rw [if_pos c10] at H
            have c10b0 : decide (1000 < (a0.size : Int)) = true := decide_eq_true c10
            have c10b1 : decide (1000 < a0.size) = true := decide_eq_true (by omega)
            clear c10
            (first | rw [c10b0] | (simp only [i64_w, i32_w]; rw [c10b0]) | skip)
            have H' := Aside0.mk H
            clear H
            go_wp2
            go_meet
            case rel => exact ⟨_, (true), (by first | rfl | (simp; done) | (simp [*]; done)), H', ⟨by have := HJ3.out; first | omega | exact Nat.le_refl _⟩, ⟨by repeat (first | (with_reducible first | exact HB.out | apply below_alloc | apply pw_below_drewN | apply below_drew1) | exact HB.out)⟩⟩
          · rw [if_neg c10] at H
            have c10b0 : decide (1000 < (a0.size : Int)) = false := decide_eq_false c10
            have c10b1 : decide (1000 < a0.size) = false := decide_eq_false (by omega)
            clear c10
            (first | rw [c10b0] | (simp only [i64_w, i32_w]; rw [c10b0]) | skip)
            replace H := Option.bind_eq_some_iff.mp H
            obtain ⟨t115, A110, H⟩ := H
            replace H : (if t115 = true then (laws_FnPathParts.j1 kj3 a0 x6_3 t112 t113 t114 (a0.size : Int) true) else (if (a0.size : Int) > 0 then (if 0 ≤ (wrap64 ((a0.size : Int) - 1)) then (if (wrap64 ((a0.size : Int) - 1)) < (a0.size : Int) then (if (bt a0 (wrap64 ((a0.size : Int) - 1))) = 47 then (laws_FnPathParts.j1 kj3 a0 x6_3 t112 t113 t114 (a0.size : Int) true) else (if (bt a0 (wrap64 ((a0.size : Int) - 1))) = 92 then (laws_FnPathParts.j1 kj3 a0 x6_3 t112 t113 t114 (a0.size : Int) true) else (if t112.toList = ([] : List UInt8) then (if (wrap64 ((t113.size : Int) + (t114.size : Int))) = (a0.size : Int) then (if (t112.size : Int) = 2 then (if 1 < (t112.size : Int) then (laws_FnPathParts.j1 kj3 a0 x6_3 t112 t113 t114 (a0.size : Int) ((bt t112 1) == 58)) else (none)) else (laws_FnPathParts.j1 kj3 a0 x6_3 t112 t113 t114 (a0.size : Int) false)) else (laws_FnPathParts.j1 kj3 a0 x6_3 t112 t113 t114 (a0.size : Int) true)) else (if (t112.size : Int) = 2 then (if 1 < (t112.size : Int) then (laws_FnPathParts.j1 kj3 a0 x6_3 t112 t113 t114 (a0.size : Int) ((bt t112 1) == 58)) else (none)) else (laws_FnPathParts.j1 kj3 a0 x6_3 t112 t113 t114 (a0.size : Int) false))))) else (none)) else (none)) else (if t112.toList = ([] : List UInt8) then (if (wrap64 ((t113.size : Int) + (t114.size : Int))) = (a0.size : Int) then (if (t112.size : Int) = 2 then (if 1 < (t112.size : Int) then (laws_FnPathParts.j1 kj3 a0 x6_3 t112 t113 t114 (a0.size : Int) ((bt t112 1) == 58)) else (none)) else (laws_FnPathParts.j1 kj3 a0 x6_3 t112 t113 t114 (a0.size : Int) false)) else (laws_FnPathParts.j1 kj3 a0 x6_3 t112 t113 t114 (a0.size : Int) true)) else (if (t112.size : Int) = 2 then (if 1 < (t112.size : Int) then (laws_FnPathParts.j1 kj3 a0 x6_3 t112 t113 t114 (a0.size : Int) ((bt t112 1) == 58)) else (none)) else (laws_FnPathParts.j1 kj3 a0 x6_3 t112 t113 t114 (a0.size : Int) false))))) = some r := H
            have A11 := Aside0.mk A110
            clear A110
            by_cases c12 : t115 = true
            · subst c12
              have H1 : (laws_FnPathParts.j1 kj3 a0 x6_3 t112 t113 t114 (a0.size : Int) true) = some r := by rw [if_pos rfl] at H; exact H
              clear H
              have H := H1
              clear H1
              have H' := Aside0.mk H
              clear H
              go_wp2_with (first | (go_at_call 8; (with_reducible refine (laws_styled.calls a0 true _ A11.out).mono ?_); rintro e w' ⟨rfl, ⟨nd, rfl⟩⟩))
              go_meet
              case rel => exact ⟨_, (true), (by first | rfl | (simp; done) | (simp [*]; done)), H', ⟨by have := HJ3.out; first | omega | exact Nat.le_refl _⟩, ⟨by repeat (first | (with_reducible first | exact HB.out | apply below_alloc | apply pw_below_drewN | apply below_drew1) | exact HB.out)⟩⟩
            · replace c12 := Bool.eq_false_iff.mpr c12
              subst c12
              have H1 : (if (a0.size : Int) > 0 then (if 0 ≤ (wrap64 ((a0.size : Int) - 1)) then (if (wrap64 ((a0.size : Int) - 1)) < (a0.size : Int) then (if (bt a0 (wrap64 ((a0.size : Int) - 1))) = 47 then (laws_FnPathParts.j1 kj3 a0 x6_3 t112 t113 t114 (a0.size : Int) true) else (if (bt a0 (wrap64 ((a0.size : Int) - 1))) = 92 then (laws_FnPathParts.j1 kj3 a0 x6_3 t112 t113 t114 (a0.size : Int) true) else (if t112.toList = ([] : List UInt8) then (if (wrap64 ((t113.size : Int) + (t114.size : Int))) = (a0.size : Int) then (if (t112.size : Int) = 2 then (if 1 < (t112.size : Int) then (laws_FnPathParts.j1 kj3 a0 x6_3 t112 t113 t114 (a0.size : Int) ((bt t112 1) == 58)) else (none)) else (laws_FnPathParts.j1 kj3 a0 x6_3 t112 t113 t114 (a0.size : Int) false)) else (laws_FnPathParts.j1 kj3 a0 x6_3 t112 t113 t114 (a0.size : Int) true)) else (if (t112.size : Int) = 2 then (if 1 < (t112.size : Int) then (laws_FnPathParts.j1 kj3 a0 x6_3 t112 t113 t114 (a0.size : Int) ((bt t112 1) == 58)) else (none)) else (laws_FnPathParts.j1 kj3 a0 x6_3 t112 t113 t114 (a0.size : Int) false))))) else (none)) else (none)) else (if t112.toList = ([] : List UInt8) then (if (wrap64 ((t113.size : Int) + (t114.size : Int))) = (a0.size : Int) then (if (t112.size : Int) = 2 then (if 1 < (t112.size : Int) then (laws_FnPathParts.j1 kj3 a0 x6_3 t112 t113 t114 (a0.size : Int) ((bt t112 1) == 58)) else (none)) else (laws_FnPathParts.j1 kj3 a0 x6_3 t112 t113 t114 (a0.size : Int) false)) else (laws_FnPathParts.j1 kj3 a0 x6_3 t112 t113 t114 (a0.size : Int) true)) else (if (t112.size : Int) = 2 then (if 1 < (t112.size : Int) then (laws_FnPathParts.j1 kj3 a0 x6_3 t112 t113 t114 (a0.size : Int) ((bt t112 1) == 58)) else (none)) else (laws_FnPathParts.j1 kj3 a0 x6_3 t112 t113 t114 (a0.size : Int) false)))) = some r := by rw [if_neg (show ¬ (false = true) by decide)] at H; exact H
              clear H
              have H := H1
              clear H1
              by_cases c13 : (a0.size : Int) > 0
              · rw [if_pos c13] at H
                have c13b0 : decide (0 < (a0.size : Int)) = true := decide_eq_true c13
                have c13b1 : decide (0 < a0.size) = true := decide_eq_true (by omega)
                clear c13
                obtain ⟨ji14, hji14⟩ : ∃ j_ : Int, (wrap64 ((a0.size : Int) - 1)) = j_ := ⟨_, rfl⟩
                replace H : (if 0 ≤ (ji14) then (if (ji14) < (a0.size : Int) then (if (bt a0 (ji14)) = 47 then (laws_FnPathParts.j1 kj3 a0 x6_3 t112 t113 t114 (a0.size : Int) true) else (if (bt a0 (ji14)) = 92 then (laws_FnPathParts.j1 kj3 a0 x6_3 t112 t113 t114 (a0.size : Int) true) else (if t112.toList = ([] : List UInt8) then (if (wrap64 ((t113.size : Int) + (t114.size : Int))) = (a0.size : Int) then (if (t112.size : Int) = 2 then (if 1 < (t112.size : Int) then (laws_FnPathParts.j1 kj3 a0 x6_3 t112 t113 t114 (a0.size : Int) ((bt t112 1) == 58)) else (none)) else (laws_FnPathParts.j1 kj3 a0 x6_3 t112 t113 t114 (a0.size : Int) false)) else (laws_FnPathParts.j1 kj3 a0 x6_3 t112 t113 t114 (a0.size : Int) true)) else (if (t112.size : Int) = 2 then (if 1 < (t112.size : Int) then (laws_FnPathParts.j1 kj3 a0 x6_3 t112 t113 t114 (a0.size : Int) ((bt t112 1) == 58)) else (none)) else (laws_FnPathParts.j1 kj3 a0 x6_3 t112 t113 t114 (a0.size : Int) false))))) else (none)) else (none)) = some r := by first | (rw [hji14] at H; exact H) | (simp only [hji14] at H ⊢; exact H)
                (try rw [hji14] at A11)
                have hji14w : (IntKind.i64.wrap ((a0.size : Int) - 1)) = ji14 := (i64_w _).trans hji14
                by_cases c15 : 0 ≤ (ji14)
                · rw [if_pos c15] at H
                  have c15b0 : decide (0 ≤ (ji14)) = true := decide_eq_true c15
                  clear c15
                  by_cases c16 : (ji14) < (a0.size : Int)
                  · rw [if_pos c16] at H
                    have c16b0 : decide ((ji14) < (a0.size : Int)) = true := decide_eq_true c16
                    clear c16
                    by_cases c18 : (bt a0 (ji14)) = 47
                    · rw [if_pos c18] at H
                      have c18b0 : ((bt a0 (ji14)) == 47) = true := beq_iff_eq.mpr c18
                      have c18b1 : ((bt a0 (ji14)) != 47) = false := bne_eq_false_iff_eq.mpr c18
                      clear c18
                      have H' := Aside0.mk H
                      clear H
                      go_wp2_with (first | (go_at_call 8; (with_reducible refine (laws_styled.calls a0 false _ A11.out).mono ?_); rintro e w' ⟨rfl, ⟨nd, rfl⟩⟩; have p17 : 0 ≤ ((ji14) : Int) := of_decide_eq_true (by first | (with_reducible assumption) | assumption); have q17 : (ji14) < (a0.size : Int) := of_decide_eq_true (by first | (with_reducible assumption) | assumption); have hx17 := bt_at a0 (ji14); replace p17 := eq_true p17; replace q17 := eq_true q17))
                      go_meet
                      case rel => exact ⟨_, (true), (by first | rfl | (simp; done) | (simp [*]; done)), H', ⟨by have := HJ3.out; first | omega | exact Nat.le_refl _⟩, ⟨by repeat (first | (with_reducible first | exact HB.out | apply below_alloc | apply pw_below_drewN | apply below_drew1) | exact HB.out)⟩⟩
                    · rw [if_neg c18] at H
                      have c18b0 : ((bt a0 (ji14)) == 47) = false := beq_eq_false_iff_ne.mpr c18
                      have c18b1 : ((bt a0 (ji14)) != 47) = true := bne_iff_ne.mpr c18
                      by_cases c20 : (bt a0 (ji14)) = 92
                      · rw [if_pos c20] at H
                        have c20b0 : ((bt a0 (ji14)) == 92) = true := beq_iff_eq.mpr c20
                        have c20b1 : ((bt a0 (ji14)) != 92) = false := bne_eq_false_iff_eq.mpr c20
                        clear c20
                        have H' := Aside0.mk H
                        clear H
                        go_wp2_with (first | (go_at_call 8; (with_reducible refine (laws_styled.calls a0 false _ A11.out).mono ?_); rintro e w' ⟨rfl, ⟨nd, rfl⟩⟩; have p17 : 0 ≤ ((ji14) : Int) := of_decide_eq_true (by first | (with_reducible assumption) | assumption); have q17 : (ji14) < (a0.size : Int) := of_decide_eq_true (by first | (with_reducible assumption) | assumption); have hx17 := bt_at a0 (ji14); replace p17 := eq_true p17; replace q17 := eq_true q17; have p19 : 0 ≤ ((ji14) : Int) := of_decide_eq_true (by first | (with_reducible assumption) | assumption); have q19 : (ji14) < (a0.size : Int) := of_decide_eq_true (by first | (with_reducible assumption) | assumption); have hx19 := bt_at a0 (ji14); replace p19 := eq_true p19; replace q19 := eq_true q19))
                        go_meet
                        case rel => exact ⟨_, (true), (by first | rfl | (simp; done) | (simp [*]; done)), H', ⟨by have := HJ3.out; first | omega | exact Nat.le_refl _⟩, ⟨by repeat (first | (with_reducible first | exact HB.out | apply below_alloc | apply pw_below_drewN | apply below_drew1) | exact HB.out)⟩⟩
                      · rw [if_neg c20] at H
                        have c20b0 : ((bt a0 (ji14)) == 92) = false := beq_eq_false_iff_ne.mpr c20
                        have c20b1 : ((bt a0 (ji14)) != 92) = true := bne_iff_ne.mpr c20
                        by_cases c21 : t112.toList = ([] : List UInt8)
                        · rw [if_pos c21] at H
                          have c21b0 : (t112.toList == ([] : List UInt8)) = true := beq_iff_eq.mpr c21
                          have c21b1 : (t112.toList != ([] : List UInt8)) = false := bne_eq_false_iff_eq.mpr c21
                          clear c21
                          by_cases c22 : (wrap64 ((t113.size : Int) + (t114.size : Int))) = (a0.size : Int)
                          · rw [if_pos c22] at H
                            have c22b0 : ((wrap64 ((t113.size : Int) + (t114.size : Int))) == (a0.size : Int)) = true := beq_iff_eq.mpr c22
                            have c22b1 : ((wrap64 ((t113.size : Int) + (t114.size : Int))) != (a0.size : Int)) = false := bne_eq_false_iff_eq.mpr c22
                            clear c22
                            by_cases c23 : (t112.size : Int) = 2
                            · rw [if_pos c23] at H
                              have c23b0 : ((t112.size : Int) == 2) = true := beq_iff_eq.mpr c23
                              have c23b1 : ((t112.size : Int) != 2) = false := bne_eq_false_iff_eq.mpr c23
                              clear c23
                              by_cases c24 : 1 < (t112.size : Int)
                              · rw [if_pos c24] at H
                                have c24b0 : decide (1 < (t112.size : Int)) = true := decide_eq_true c24
                                have c24b1 : decide (1 < t112.size) = true := decide_eq_true (by omega)
                                clear c24
                                have H' := Aside0.mk H
                                clear H
                                go_wp2_with (first | (go_at_call 8; (with_reducible refine (laws_styled.calls a0 false _ A11.out).mono ?_); rintro e w' ⟨rfl, ⟨nd, rfl⟩⟩; have p17 : 0 ≤ ((ji14) : Int) := of_decide_eq_true (by first | (with_reducible assumption) | assumption); have q17 : (ji14) < (a0.size : Int) := of_decide_eq_true (by first | (with_reducible assumption) | assumption); have hx17 := bt_at a0 (ji14); replace p17 := eq_true p17; replace q17 := eq_true q17; have p19 : 0 ≤ ((ji14) : Int) := of_decide_eq_true (by first | (with_reducible assumption) | assumption); have q19 : (ji14) < (a0.size : Int) := of_decide_eq_true (by first | (with_reducible assumption) | assumption); have hx19 := bt_at a0 (ji14); replace p19 := eq_true p19; replace q19 := eq_true q19; have p25 : 0 ≤ (1 : Int) := (by omega); have q25 : 1 < t112.size := (by have : (1 : Int) < (t112.size : Int) := of_decide_eq_true (by first | (with_reducible assumption) | assumption); omega); have hx25 : ∀ h : 1 < t112.size, ((t112[1]'h).toNat : Int) = bt t112 1 := bt_at t112 1; clear p25; have qi25 : (1 < (t112.size : Int)) = True := eq_true (of_decide_eq_true (by first | (with_reducible assumption) | assumption)); replace q25 := eq_true q25))
                                go_meet
                                case rel => exact ⟨_, (((bt t112 1) == 58)), (by first | rfl | (simp; done) | (simp [*]; done)), H', ⟨by have := HJ3.out; first | omega | exact Nat.le_refl _⟩, ⟨by repeat (first | (with_reducible first | exact HB.out | apply below_alloc | apply pw_below_drewN | apply below_drew1) | exact HB.out)⟩⟩
                              · rw [if_neg c24] at H
                                exact absurd H (by simp)
                            · rw [if_neg c23] at H
                              have c23b0 : ((t112.size : Int) == 2) = false := beq_eq_false_iff_ne.mpr c23
                              have c23b1 : ((t112.size : Int) != 2) = true := bne_iff_ne.mpr c23
                              have H' := Aside0.mk H
                              clear H
                              go_wp2_with (first | (go_at_call 8; (with_reducible refine (laws_styled.calls a0 false _ A11.out).mono ?_); rintro e w' ⟨rfl, ⟨nd, rfl⟩⟩; have p17 : 0 ≤ ((ji14) : Int) := of_decide_eq_true (by first | (with_reducible assumption) | assumption); have q17 : (ji14) < (a0.size : Int) := of_decide_eq_true (by first | (with_reducible assumption) | assumption); have hx17 := bt_at a0 (ji14); replace p17 := eq_true p17; replace q17 := eq_true q17; have p19 : 0 ≤ ((ji14) : Int) := of_decide_eq_true (by first | (with_reducible assumption) | assumption); have q19 : (ji14) < (a0.size : Int) := of_decide_eq_true (by first | (with_reducible assumption) | assumption); have hx19 := bt_at a0 (ji14); replace p19 := eq_true p19; replace q19 := eq_true q19))
                              go_meet
                              case rel => exact ⟨_, (false), (by first | rfl | (simp; done) | (simp [*]; done)), H', ⟨by have := HJ3.out; first | omega | exact Nat.le_refl _⟩, ⟨by repeat (first | (with_reducible first | exact HB.out | apply below_alloc | apply pw_below_drewN | apply below_drew1) | exact HB.out)⟩⟩
                          · rw [if_neg c22] at H
                            have c22b0 : ((wrap64 ((t113.size : Int) + (t114.size : Int))) == (a0.size : Int)) = false := beq_eq_false_iff_ne.mpr c22
                            have c22b1 : ((wrap64 ((t113.size : Int) + (t114.size : Int))) != (a0.size : Int)) = true := bne_iff_ne.mpr c22
                            have H' := Aside0.mk H
                            clear H
                            go_wp2_with (first | (go_at_call 8; (with_reducible refine (laws_styled.calls a0 false _ A11.out).mono ?_); rintro e w' ⟨rfl, ⟨nd, rfl⟩⟩; have p17 : 0 ≤ ((ji14) : Int) := of_decide_eq_true (by first | (with_reducible assumption) | assumption); have q17 : (ji14) < (a0.size : Int) := of_decide_eq_true (by first | (with_reducible assumption) | assumption); have hx17 := bt_at a0 (ji14); replace p17 := eq_true p17; replace q17 := eq_true q17; have p19 : 0 ≤ ((ji14) : Int) := of_decide_eq_true (by first | (with_reducible assumption) | assumption); have q19 : (ji14) < (a0.size : Int) := of_decide_eq_true (by first | (with_reducible assumption) | assumption); have hx19 := bt_at a0 (ji14); replace p19 := eq_true p19; replace q19 := eq_true q19))
                            go_meet
                            case rel => exact ⟨_, (true), (by first | rfl | (simp; done) | (simp [*]; done)), H', ⟨by have := HJ3.out; first | omega | exact Nat.le_refl _⟩, ⟨by repeat (first | (with_reducible first | exact HB.out | apply below_alloc | apply pw_below_drewN | apply below_drew1) | exact HB.out)⟩⟩
                        · rw [if_neg c21] at H
                          have c21b0 : (t112.toList == ([] : List UInt8)) = false := beq_eq_false_iff_ne.mpr c21
                          have c21b1 : (t112.toList != ([] : List UInt8)) = true := bne_iff_ne.mpr c21
                          by_cases c26 : (t112.size : Int) = 2
                          · rw [if_pos c26] at H
                            have c26b0 : ((t112.size : Int) == 2) = true := beq_iff_eq.mpr c26
                            have c26b1 : ((t112.size : Int) != 2) = false := bne_eq_false_iff_eq.mpr c26
                            clear c26
                            by_cases c27 : 1 < (t112.size : Int)
                            · rw [if_pos c27] at H
                              have c27b0 : decide (1 < (t112.size : Int)) = true := decide_eq_true c27
                              have c27b1 : decide (1 < t112.size) = true := decide_eq_true (by omega)
                              clear c27
                              have H' := Aside0.mk H
                              clear H
                              go_wp2_with (first | (go_at_call 8; (with_reducible refine (laws_styled.calls a0 false _ A11.out).mono ?_); rintro e w' ⟨rfl, ⟨nd, rfl⟩⟩; have p17 : 0 ≤ ((ji14) : Int) := of_decide_eq_true (by first | (with_reducible assumption) | assumption); have q17 : (ji14) < (a0.size : Int) := of_decide_eq_true (by first | (with_reducible assumption) | assumption); have hx17 := bt_at a0 (ji14); replace p17 := eq_true p17; replace q17 := eq_true q17; have p19 : 0 ≤ ((ji14) : Int) := of_decide_eq_true (by first | (with_reducible assumption) | assumption); have q19 : (ji14) < (a0.size : Int) := of_decide_eq_true (by first | (with_reducible assumption) | assumption); have hx19 := bt_at a0 (ji14); replace p19 := eq_true p19; replace q19 := eq_true q19; have p28 : 0 ≤ (1 : Int) := (by omega); have q28 : 1 < t112.size := (by have : (1 : Int) < (t112.size : Int) := of_decide_eq_true (by first | (with_reducible assumption) | assumption); omega); have hx28 : ∀ h : 1 < t112.size, ((t112[1]'h).toNat : Int) = bt t112 1 := bt_at t112 1; clear p28; have qi28 : (1 < (t112.size : Int)) = True := eq_true (of_decide_eq_true (by first | (with_reducible assumption) | assumption)); replace q28 := eq_true q28))
                              go_meet
                              case rel => exact ⟨_, (((bt t112 1) == 58)), (by first | rfl | (simp; done) | (simp [*]; done)), H', ⟨by have := HJ3.out; first | omega | exact Nat.le_refl _⟩, ⟨by repeat (first | (with_reducible first | exact HB.out | apply below_alloc | apply pw_below_drewN | apply below_drew1) | exact HB.out)⟩⟩
                            · rw [if_neg c27] at H
                              exact absurd H (by simp)
                          · rw [if_neg c26] at H
                            have c26b0 : ((t112.size : Int) == 2) = false := beq_eq_false_iff_ne.mpr c26
                            have c26b1 : ((t112.size : Int) != 2) = true := bne_iff_ne.mpr c26
                            have H' := Aside0.mk H
                            clear H
                            go_wp2_with (first | (go_at_call 8; (with_reducible refine (laws_styled.calls a0 false _ A11.out).mono ?_); rintro e w' ⟨rfl, ⟨nd, rfl⟩⟩; have p17 : 0 ≤ ((ji14) : Int) := of_decide_eq_true (by first | (with_reducible assumption) | assumption); have q17 : (ji14) < (a0.size : Int) := of_decide_eq_true (by first | (with_reducible assumption) | assumption); have hx17 := bt_at a0 (ji14); replace p17 := eq_true p17; replace q17 := eq_true q17; have p19 : 0 ≤ ((ji14) : Int) := of_decide_eq_true (by first | (with_reducible assumption) | assumption); have q19 : (ji14) < (a0.size : Int) := of_decide_eq_true (by first | (with_reducible assumption) | assumption); have hx19 := bt_at a0 (ji14); replace p19 := eq_true p19; replace q19 := eq_true q19))
                            go_meet
                            case rel => exact ⟨_, (false), (by first | rfl | (simp; done) | (simp [*]; done)), H', ⟨by have := HJ3.out; first | omega | exact Nat.le_refl _⟩, ⟨by repeat (first | (with_reducible first | exact HB.out | apply below_alloc | apply pw_below_drewN | apply below_drew1) | exact HB.out)⟩⟩
                  · rw [if_neg c16] at H
                    exact absurd H (by simp)
                · rw [if_neg c15] at H
                  exact absurd H (by simp)
              · rw [if_neg c13] at H
                have c13b0 : decide (0 < (a0.size : Int)) = false := decide_eq_false c13
                have c13b1 : decide (0 < a0.size) = false := decide_eq_false (by omega)
                clear c13
                by_cases c29 : t112.toList = ([] : List UInt8)
                · rw [if_pos c29] at H
                  have c29b0 : (t112.toList == ([] : List UInt8)) = true := beq_iff_eq.mpr c29
                  have c29b1 : (t112.toList != ([] : List UInt8)) = false := bne_eq_false_iff_eq.mpr c29
                  clear c29
                  by_cases c30 : (wrap64 ((t113.size : Int) + (t114.size : Int))) = (a0.size : Int)
                  · rw [if_pos c30] at H
                    have c30b0 : ((wrap64 ((t113.size : Int) + (t114.size : Int))) == (a0.size : Int)) = true := beq_iff_eq.mpr c30
                    have c30b1 : ((wrap64 ((t113.size : Int) + (t114.size : Int))) != (a0.size : Int)) = false := bne_eq_false_iff_eq.mpr c30
                    clear c30
                    by_cases c31 : (t112.size : Int) = 2
                    · rw [if_pos c31] at H
                      have c31b0 : ((t112.size : Int) == 2) = true := beq_iff_eq.mpr c31
                      have c31b1 : ((t112.size : Int) != 2) = false := bne_eq_false_iff_eq.mpr c31
                      clear c31
                      by_cases c32 : 1 < (t112.size : Int)
                      · rw [if_pos c32] at H
                        have c32b0 : decide (1 < (t112.size : Int)) = true := decide_eq_true c32
                        have c32b1 : decide (1 < t112.size) = true := decide_eq_true (by omega)
                        clear c32
                        have H' := Aside0.mk H
                        clear H
                        go_wp2_with (first | (go_at_call 8; (with_reducible refine (laws_styled.calls a0 false _ A11.out).mono ?_); rintro e w' ⟨rfl, ⟨nd, rfl⟩⟩; have p33 : 0 ≤ (1 : Int) := (by omega); have q33 : 1 < t112.size := (by have : (1 : Int) < (t112.size : Int) := of_decide_eq_true (by first | (with_reducible assumption) | assumption); omega); have hx33 : ∀ h : 1 < t112.size, ((t112[1]'h).toNat : Int) = bt t112 1 := bt_at t112 1; clear p33; have qi33 : (1 < (t112.size : Int)) = True := eq_true (of_decide_eq_true (by first | (with_reducible assumption) | assumption)); replace q33 := eq_true q33))
                        go_meet
                        case rel => exact ⟨_, (((bt t112 1) == 58)), (by first | rfl | (simp; done) | (simp [*]; done)), H', ⟨by have := HJ3.out; first | omega | exact Nat.le_refl _⟩, ⟨by repeat (first | (with_reducible first | exact HB.out | apply below_alloc | apply pw_below_drewN | apply below_drew1) | exact HB.out)⟩⟩
                      · rw [if_neg c32] at H
                        exact absurd H (by simp)
                    · rw [if_neg c31] at H
                      have c31b0 : ((t112.size : Int) == 2) = false := beq_eq_false_iff_ne.mpr c31
                      have c31b1 : ((t112.size : Int) != 2) = true := bne_iff_ne.mpr c31
                      have H' := Aside0.mk H
                      clear H
                      go_wp2_with (first | (go_at_call 8; (with_reducible refine (laws_styled.calls a0 false _ A11.out).mono ?_); rintro e w' ⟨rfl, ⟨nd, rfl⟩⟩))
                      go_meet
                      case rel => exact ⟨_, (false), (by first | rfl | (simp; done) | (simp [*]; done)), H', ⟨by have := HJ3.out; first | omega | exact Nat.le_refl _⟩, ⟨by repeat (first | (with_reducible first | exact HB.out | apply below_alloc | apply pw_below_drewN | apply below_drew1) | exact HB.out)⟩⟩
                  · rw [if_neg c30] at H
                    have c30b0 : ((wrap64 ((t113.size : Int) + (t114.size : Int))) == (a0.size : Int)) = false := beq_eq_false_iff_ne.mpr c30
                    have c30b1 : ((wrap64 ((t113.size : Int) + (t114.size : Int))) != (a0.size : Int)) = true := bne_iff_ne.mpr c30
                    have H' := Aside0.mk H
                    clear H
                    go_wp2_with (first | (go_at_call 8; (with_reducible refine (laws_styled.calls a0 false _ A11.out).mono ?_); rintro e w' ⟨rfl, ⟨nd, rfl⟩⟩))
                    go_meet
                    case rel => exact ⟨_, (true), (by first | rfl | (simp; done) | (simp [*]; done)), H', ⟨by have := HJ3.out; first | omega | exact Nat.le_refl _⟩, ⟨by repeat (first | (with_reducible first | exact HB.out | apply below_alloc | apply pw_below_drewN | apply below_drew1) | exact HB.out)⟩⟩
                · rw [if_neg c29] at H
                  have c29b0 : (t112.toList == ([] : List UInt8)) = false := beq_eq_false_iff_ne.mpr c29
                  have c29b1 : (t112.toList != ([] : List UInt8)) = true := bne_iff_ne.mpr c29
                  by_cases c34 : (t112.size : Int) = 2
                  · rw [if_pos c34] at H
                    have c34b0 : ((t112.size : Int) == 2) = true := beq_iff_eq.mpr c34
                    have c34b1 : ((t112.size : Int) != 2) = false := bne_eq_false_iff_eq.mpr c34
                    clear c34
                    by_cases c35 : 1 < (t112.size : Int)
                    · rw [if_pos c35] at H
                      have c35b0 : decide (1 < (t112.size : Int)) = true := decide_eq_true c35
                      have c35b1 : decide (1 < t112.size) = true := decide_eq_true (by omega)
                      clear c35
                      have H' := Aside0.mk H
                      clear H
                      go_wp2_with (first | (go_at_call 8; (with_reducible refine (laws_styled.calls a0 false _ A11.out).mono ?_); rintro e w' ⟨rfl, ⟨nd, rfl⟩⟩; have p36 : 0 ≤ (1 : Int) := (by omega); have q36 : 1 < t112.size := (by have : (1 : Int) < (t112.size : Int) := of_decide_eq_true (by first | (with_reducible assumption) | assumption); omega); have hx36 : ∀ h : 1 < t112.size, ((t112[1]'h).toNat : Int) = bt t112 1 := bt_at t112 1; clear p36; have qi36 : (1 < (t112.size : Int)) = True := eq_true (of_decide_eq_true (by first | (with_reducible assumption) | assumption)); replace q36 := eq_true q36))
                      go_meet
                      case rel => exact ⟨_, (((bt t112 1) == 58)), (by first | rfl | (simp; done) | (simp [*]; done)), H', ⟨by have := HJ3.out; first | omega | exact Nat.le_refl _⟩, ⟨by repeat (first | (with_reducible first | exact HB.out | apply below_alloc | apply pw_below_drewN | apply below_drew1) | exact HB.out)⟩⟩
                    · rw [if_neg c35] at H
                      exact absurd H (by simp)
                  · rw [if_neg c34] at H
                    have c34b0 : ((t112.size : Int) == 2) = false := beq_eq_false_iff_ne.mpr c34
                    have c34b1 : ((t112.size : Int) != 2) = true := bne_iff_ne.mpr c34
                    have H' := Aside0.mk H
                    clear H
                    go_wp2_with (first | (go_at_call 8; (with_reducible refine (laws_styled.calls a0 false _ A11.out).mono ?_); rintro e w' ⟨rfl, ⟨nd, rfl⟩⟩))
                    go_meet
                    case rel => exact ⟨_, (false), (by first | rfl | (simp; done) | (simp [*]; done)), H', ⟨by have := HJ3.out; first | omega | exact Nat.le_refl _⟩, ⟨by repeat (first | (with_reducible first | exact HB.out | apply below_alloc | apply pw_below_drewN | apply below_drew1) | exact HB.out)⟩⟩
        case rest =>
          clear HC9
          try clear c1
          try clear p1
          try clear q1
          try clear hx1
          try clear c2
          try clear c2b0
          try clear c2b1
          try clear p2
          try clear q2
          try clear hx2
          try clear qi2
          try clear c3
          try clear p3
          try clear q3
          try clear hx3
          try clear qi3
          try clear c6
          try clear c6b0
          try clear c6b1
          try clear p6
          try clear c7
          try clear c7b0
          try clear c7b1
          try clear c10
          try clear c10b0
          try clear c10b1
          try clear c12
          try clear c13
          try clear c13b0
          try clear c13b1
          try clear c15
          try clear c15b0
          try clear c16
          try clear c16b0
          try clear p17
          try clear q17
          try clear hx17
          try clear c18
          try clear c18b0
          try clear c18b1
          try clear p19
          try clear q19
          try clear hx19
          try clear c20
          try clear c20b0
          try clear c20b1
          try clear c21
          try clear c21b0
          try clear c21b1
          try clear c22
          try clear c22b0
          try clear c22b1
          try clear c23
          try clear c23b0
          try clear c23b1
          try clear c24
          try clear c24b0
          try clear c24b1
          try clear p25
          try clear q25
          try clear hx25
          try clear qi25
          try clear c26
          try clear c26b0
          try clear c26b1
          try clear c27
          try clear c27b0
          try clear c27b1
          try clear p28
          try clear q28
          try clear hx28
          try clear qi28
          try clear c29
          try clear c29b0
          try clear c29b1
          try clear c30
          try clear c30b0
          try clear c30b1
          try clear c31
          try clear c31b0
          try clear c31b1
          try clear c32
          try clear c32b0
          try clear c32b1
          try clear p33
          try clear q33
          try clear hx33
          try clear qi33
          try clear c34
          try clear c34b0
          try clear c34b1
          try clear c35
          try clear c35b0
          try clear c35b1
          try clear p36
          try clear q36
          try clear hx36
          try clear qi36
          try clear p17
          try clear p19
          try clear p2
          try clear p25
          try clear p28
          try clear p33
          try clear p36
          try clear q17
          try clear q19
          try clear q25
          try clear q28
          try clear q33
          try clear q36
          obtain ⟨kq, x86_8, rfl, HA, HJ8, HB⟩ := hcut
          cases kq with
          | zero => exact absurd HA.out (by simp [laws_FnPathParts.j1])
          | succ kj8 =>
            have H := HA.out
            clear HA
            simp only [laws_FnPathParts.j1] at H
            by_cases c37 : x86_8 = true
            · subst c37
              have H1 : (some x6_3) = some r := by rw [if_pos rfl] at H; exact H
              clear H
              have H := H1
              clear H1
              obtain rfl := Option.some.inj H
              go_wp2
              go_ret
              exact ⟨by first | rfl | (simp [errW_none, errW_some] <;> rfl) | (simp [*, errW_none, errW_some] <;> rfl), by repeat (first | (with_reducible first | exact HB.out | apply below_alloc | apply pw_below_drewN | apply below_drew1) | exact HB.out)⟩
            · replace c37 := Bool.eq_false_iff.mpr c37
              subst c37
              have H1 : (if (a0.size : Int) > 0 then (if 0 < (a0.size : Int) then (if (bt a0 0) = 47 then (if (t112.size : Int) < 2 then (some x6_3) else ((impl_PathParts.f kj8 a0).bind fun bt116 => (if x6_3 = true then (if bt116.1.toList = t112.toList then (if bt116.2.1.toList = t113.toList then (some (bt116.2.2.toList == t114.toList)) else (some false)) else (some false)) else (some false)))) else (if (bt a0 0) = 92 then (if (t112.size : Int) < 2 then (some x6_3) else ((impl_PathParts.f kj8 a0).bind fun bt119 => (if x6_3 = true then (if bt119.1.toList = t112.toList then (if bt119.2.1.toList = t113.toList then (some (bt119.2.2.toList == t114.toList)) else (some false)) else (some false)) else (some false)))) else ((impl_PathParts.f kj8 a0).bind fun bt122 => (if x6_3 = true then (if bt122.1.toList = t112.toList then (if bt122.2.1.toList = t113.toList then (some (bt122.2.2.toList == t114.toList)) else (some false)) else (some false)) else (some false))))) else (none)) else ((impl_PathParts.f kj8 a0).bind fun bt125 => (if x6_3 = true then (if bt125.1.toList = t112.toList then (if bt125.2.1.toList = t113.toList then (some (bt125.2.2.toList == t114.toList)) else (some false)) else (some false)) else (some false)))) = some r := by rw [if_neg (show ¬ (false = true) by decide)] at H; exact H
              clear H
              have H := H1
              clear H1
              by_cases c38 : (a0.size : Int) > 0
              · rw [if_pos c38] at H
                have c38b0 : decide (0 < (a0.size : Int)) = true := decide_eq_true c38
                have c38b1 : decide (0 < a0.size) = true := decide_eq_true (by omega)
                clear c38
                by_cases c39 : 0 < (a0.size : Int)
                · rw [if_pos c39] at H
                  have c39b0 : decide (0 < (a0.size : Int)) = true := decide_eq_true c39
                  have c39b1 : decide (0 < a0.size) = true := decide_eq_true (by omega)
                  clear c39
                  by_cases c41 : (bt a0 0) = 47
                  · rw [if_pos c41] at H
                    have c41b0 : ((bt a0 0) == 47) = true := beq_iff_eq.mpr c41
                    have c41b1 : ((bt a0 0) != 47) = false := bne_eq_false_iff_eq.mpr c41
                    clear c41
                    by_cases c42 : (t112.size : Int) < 2
                    · rw [if_pos c42] at H
                      have c42b0 : decide ((t112.size : Int) < 2) = true := decide_eq_true c42
                      have c42b1 : decide (t112.size < 2) = true := decide_eq_true (by omega)
                      clear c42
                      obtain rfl := Option.some.inj H
                      have p40 : 0 ≤ (0 : Int) := (by omega)
                      have q40 : 0 < a0.size := (by have : (0 : Int) < (a0.size : Int) := of_decide_eq_true (by first | (with_reducible assumption) | assumption); omega)
                      have hx40 : ∀ h : 0 < a0.size, ((a0[0]'h).toNat : Int) = bt a0 0 := bt_at a0 0
                      clear p40
                      have qi40 : (0 < (a0.size : Int)) = True := eq_true (of_decide_eq_true (by first | (with_reducible assumption) | assumption))
                      replace q40 := eq_true q40
                      go_wp2
                      go_ret
                      exact ⟨by first | rfl | (simp [errW_none, errW_some] <;> rfl) | (simp [*, errW_none, errW_some] <;> rfl), by repeat (first | (with_reducible first | exact HB.out | apply below_alloc | apply pw_below_drewN | apply below_drew1) | exact HB.out)⟩
                    · rw [if_neg c42] at H
                      have c42b0 : decide ((t112.size : Int) < 2) = false := decide_eq_false c42
                      have c42b1 : decide (t112.size < 2) = false := decide_eq_false (by omega)
                      clear c42
                      replace H := Option.bind_eq_some_iff.mp H
                      obtain ⟨⟨t116, t117, t118⟩, A430, H⟩ := H
                      replace H : (if x6_3 = true then (if t116.toList = t112.toList then (if t117.toList = t113.toList then (some (t118.toList == t114.toList)) else (some false)) else (some false)) else (some false)) = some r := H
                      have A43 := Aside0.mk A430
                      clear A430
                      by_cases c44 : x6_3 = true
                      · subst c44
                        have H1 : (if t116.toList = t112.toList then (if t117.toList = t113.toList then (some (t118.toList == t114.toList)) else (some false)) else (some false)) = some r := by rw [if_pos rfl] at H; exact H
                        clear H
                        have H := H1
                        clear H1
                        by_cases c45 : t116.toList = t112.toList
                        · rw [if_pos c45] at H
                          have c45b0 : (t116.toList == t112.toList) = true := beq_iff_eq.mpr c45
                          have c45b1 : (t116.toList != t112.toList) = false := bne_eq_false_iff_eq.mpr c45
                          clear c45
                          by_cases c46 : t117.toList = t113.toList
                          · rw [if_pos c46] at H
                            have c46b0 : (t117.toList == t113.toList) = true := beq_iff_eq.mpr c46
                            have c46b1 : (t117.toList != t113.toList) = false := bne_eq_false_iff_eq.mpr c46
                            clear c46
                            obtain rfl := Option.some.inj H
                            have p40 : 0 ≤ (0 : Int) := (by omega)
                            have q40 : 0 < a0.size := (by have : (0 : Int) < (a0.size : Int) := of_decide_eq_true (by first | (with_reducible assumption) | assumption); omega)
                            have hx40 : ∀ h : 0 < a0.size, ((a0[0]'h).toNat : Int) = bt a0 0 := bt_at a0 0
                            clear p40
                            have qi40 : (0 < (a0.size : Int)) = True := eq_true (of_decide_eq_true (by first | (with_reducible assumption) | assumption))
                            replace q40 := eq_true q40
                            go_wp2_with (first | ((with_reducible refine gate_callee (f := 6) rfl ?_); refine goesL_ (some 108) rfl rfl Try.func6 (by kernel_rfl) rfl #[.string a0] rfl (by (try simp only [List.map_toArray, List.map_cons, List.map_nil]); first | done | rfl | (simp only [List.length_drop, List.length_take]; rfl)) ?_; (with_reducible refine (impl_PathParts.calls kj8 a0 t116 t117 t118 _ A43.out).mono ?_); rintro e w47 ⟨rfl, hb⟩; refine ⟨_, rfl, ?_⟩; have n0_ := Aside0.mk (below_step (by repeat (first | (with_reducible first | exact HB.out | apply below_alloc | apply pw_below_drewN | apply below_drew1) | exact HB.out)) hb); clear HB; have HB := n0_; clear n0_; (try clear hb); (try clear hb2); (try clear hk); (try clear hi)))
                            go_ret
                            exact ⟨by first | rfl | (simp [errW_none, errW_some] <;> rfl) | (simp [*, errW_none, errW_some] <;> rfl), by repeat (first | (with_reducible first | exact HB.out | apply below_alloc | apply pw_below_drewN | apply below_drew1) | exact HB.out)⟩
                          · rw [if_neg c46] at H
                            have c46b0 : (t117.toList == t113.toList) = false := beq_eq_false_iff_ne.mpr c46
                            have c46b1 : (t117.toList != t113.toList) = true := bne_iff_ne.mpr c46
                            obtain rfl := Option.some.inj H
                            have p40 : 0 ≤ (0 : Int) := (by omega)
                            have q40 : 0 < a0.size := (by have : (0 : Int) < (a0.size : Int) := of_decide_eq_true (by first | (with_reducible assumption) | assumption); omega)
                            have hx40 : ∀ h : 0 < a0.size, ((a0[0]'h).toNat : Int) = bt a0 0 := bt_at a0 0
                            clear p40
                            have qi40 : (0 < (a0.size : Int)) = True := eq_true (of_decide_eq_true (by first | (with_reducible assumption) | assumption))
                            replace q40 := eq_true q40
                            go_wp2_with (first | ((with_reducible refine gate_callee (f := 6) rfl ?_); refine goesL_ (some 108) rfl rfl Try.func6 (by kernel_rfl) rfl #[.string a0] rfl (by (try simp only [List.map_toArray, List.map_cons, List.map_nil]); first | done | rfl | (simp only [List.length_drop, List.length_take]; rfl)) ?_; (with_reducible refine (impl_PathParts.calls kj8 a0 t116 t117 t118 _ A43.out).mono ?_); rintro e w48 ⟨rfl, hb⟩; refine ⟨_, rfl, ?_⟩; have n0_ := Aside0.mk (below_step (by repeat (first | (with_reducible first | exact HB.out | apply below_alloc | apply pw_below_drewN | apply below_drew1) | exact HB.out)) hb); clear HB; have HB := n0_; clear n0_; (try clear hb); (try clear hb2); (try clear hk); (try clear hi)))
                            go_ret
                            exact ⟨by first | rfl | (simp [errW_none, errW_some] <;> rfl) | (simp [*, errW_none, errW_some] <;> rfl), by repeat (first | (with_reducible first | exact HB.out | apply below_alloc | apply pw_below_drewN | apply below_drew1) | exact HB.out)⟩
                        · rw [if_neg c45] at H
                          have c45b0 : (t116.toList == t112.toList) = false := beq_eq_false_iff_ne.mpr c45
                          have c45b1 : (t116.toList != t112.toList) = true := bne_iff_ne.mpr c45
                          obtain rfl := Option.some.inj H
                          have p40 : 0 ≤ (0 : Int) := (by omega)
                          have q40 : 0 < a0.size := (by have : (0 : Int) < (a0.size : Int) := of_decide_eq_true (by first | (with_reducible assumption) | assumption); omega)
                          have hx40 : ∀ h : 0 < a0.size, ((a0[0]'h).toNat : Int) = bt a0 0 := bt_at a0 0
                          clear p40
                          have qi40 : (0 < (a0.size : Int)) = True := eq_true (of_decide_eq_true (by first | (with_reducible assumption) | assumption))
                          replace q40 := eq_true q40
                          go_wp2_with (first | ((with_reducible refine gate_callee (f := 6) rfl ?_); refine goesL_ (some 108) rfl rfl Try.func6 (by kernel_rfl) rfl #[.string a0] rfl (by (try simp only [List.map_toArray, List.map_cons, List.map_nil]); first | done | rfl | (simp only [List.length_drop, List.length_take]; rfl)) ?_; (with_reducible refine (impl_PathParts.calls kj8 a0 t116 t117 t118 _ A43.out).mono ?_); rintro e w49 ⟨rfl, hb⟩; refine ⟨_, rfl, ?_⟩; have n0_ := Aside0.mk (below_step (by repeat (first | (with_reducible first | exact HB.out | apply below_alloc | apply pw_below_drewN | apply below_drew1) | exact HB.out)) hb); clear HB; have HB := n0_; clear n0_; (try clear hb); (try clear hb2); (try clear hk); (try clear hi)))
                          go_ret
                          exact ⟨by first | rfl | (simp [errW_none, errW_some] <;> rfl) | (simp [*, errW_none, errW_some] <;> rfl), by repeat (first | (with_reducible first | exact HB.out | apply below_alloc | apply pw_below_drewN | apply below_drew1) | exact HB.out)⟩
                      · replace c44 := Bool.eq_false_iff.mpr c44
                        subst c44
                        have H1 : (some false) = some r := by rw [if_neg (show ¬ (false = true) by decide)] at H; exact H
                        clear H
                        have H := H1
                        clear H1
                        obtain rfl := Option.some.inj H
                        have p40 : 0 ≤ (0 : Int) := (by omega)
                        have q40 : 0 < a0.size := (by have : (0 : Int) < (a0.size : Int) := of_decide_eq_true (by first | (with_reducible assumption) | assumption); omega)
                        have hx40 : ∀ h : 0 < a0.size, ((a0[0]'h).toNat : Int) = bt a0 0 := bt_at a0 0
                        clear p40
                        have qi40 : (0 < (a0.size : Int)) = True := eq_true (of_decide_eq_true (by first | (with_reducible assumption) | assumption))
                        replace q40 := eq_true q40
                        go_wp2_with (first | ((with_reducible refine gate_callee (f := 6) rfl ?_); refine goesL_ (some 108) rfl rfl Try.func6 (by kernel_rfl) rfl #[.string a0] rfl (by (try simp only [List.map_toArray, List.map_cons, List.map_nil]); first | done | rfl | (simp only [List.length_drop, List.length_take]; rfl)) ?_; (with_reducible refine (impl_PathParts.calls kj8 a0 t116 t117 t118 _ A43.out).mono ?_); rintro e w50 ⟨rfl, hb⟩; refine ⟨_, rfl, ?_⟩; have n0_ := Aside0.mk (below_step (by repeat (first | (with_reducible first | exact HB.out | apply below_alloc | apply pw_below_drewN | apply below_drew1) | exact HB.out)) hb); clear HB; have HB := n0_; clear n0_; (try clear hb); (try clear hb2); (try clear hk); (try clear hi)))
                        go_ret
                        exact ⟨by first | rfl | (simp [errW_none, errW_some] <;> rfl) | (simp [*, errW_none, errW_some] <;> rfl), by repeat (first | (with_reducible first | exact HB.out | apply below_alloc | apply pw_below_drewN | apply below_drew1) | exact HB.out)⟩
                  · rw [if_neg c41] at H
                    have c41b0 : ((bt a0 0) == 47) = false := beq_eq_false_iff_ne.mpr c41
                    have c41b1 : ((bt a0 0) != 47) = true := bne_iff_ne.mpr c41
                    by_cases c52 : (bt a0 0) = 92
                    · rw [if_pos c52] at H
                      have c52b0 : ((bt a0 0) == 92) = true := beq_iff_eq.mpr c52
                      have c52b1 : ((bt a0 0) != 92) = false := bne_eq_false_iff_eq.mpr c52
                      clear c52
                      by_cases c53 : (t112.size : Int) < 2
                      · rw [if_pos c53] at H
                        have c53b0 : decide ((t112.size : Int) < 2) = true := decide_eq_true c53
                        have c53b1 : decide (t112.size < 2) = true := decide_eq_true (by omega)
                        clear c53
                        obtain rfl := Option.some.inj H
                        have p40 : 0 ≤ (0 : Int) := (by omega)
                        have q40 : 0 < a0.size := (by have : (0 : Int) < (a0.size : Int) := of_decide_eq_true (by first | (with_reducible assumption) | assumption); omega)
                        have hx40 : ∀ h : 0 < a0.size, ((a0[0]'h).toNat : Int) = bt a0 0 := bt_at a0 0
                        clear p40
                        have qi40 : (0 < (a0.size : Int)) = True := eq_true (of_decide_eq_true (by first | (with_reducible assumption) | assumption))
                        replace q40 := eq_true q40
                        have p51 : 0 ≤ (0 : Int) := (by omega)
                        have q51 : 0 < a0.size := (by have : (0 : Int) < (a0.size : Int) := of_decide_eq_true (by first | (with_reducible assumption) | assumption); omega)
                        have hx51 : ∀ h : 0 < a0.size, ((a0[0]'h).toNat : Int) = bt a0 0 := bt_at a0 0
                        clear p51
                        have qi51 : (0 < (a0.size : Int)) = True := eq_true (of_decide_eq_true (by first | (with_reducible assumption) | assumption))
                        replace q51 := eq_true q51
                        go_wp2
                        go_ret
                        exact ⟨by first | rfl | (simp [errW_none, errW_some] <;> rfl) | (simp [*, errW_none, errW_some] <;> rfl), by repeat (first | (with_reducible first | exact HB.out | apply below_alloc | apply pw_below_drewN | apply below_drew1) | exact HB.out)⟩
                      · rw [if_neg c53] at H
                        have c53b0 : decide ((t112.size : Int) < 2) = false := decide_eq_false c53
                        have c53b1 : decide (t112.size < 2) = false := decide_eq_false (by omega)
                        clear c53
                        replace H := Option.bind_eq_some_iff.mp H
                        obtain ⟨⟨t119, t120, t121⟩, A540, H⟩ := H
                        replace H : (if x6_3 = true then (if t119.toList = t112.toList then (if t120.toList = t113.toList then (some (t121.toList == t114.toList)) else (some false)) else (some false)) else (some false)) = some r := H
                        have A54 := Aside0.mk A540
                        clear A540
                        by_cases c55 : x6_3 = true
                        · subst c55
                          have H1 : (if t119.toList = t112.toList then (if t120.toList = t113.toList then (some (t121.toList == t114.toList)) else (some false)) else (some false)) = some r := by rw [if_pos rfl] at H; exact H
                          clear H
                          have H := H1
                          clear H1
                          by_cases c56 : t119.toList = t112.toList
                          · rw [if_pos c56] at H
                            have c56b0 : (t119.toList == t112.toList) = true := beq_iff_eq.mpr c56
                            have c56b1 : (t119.toList != t112.toList) = false := bne_eq_false_iff_eq.mpr c56
                            clear c56
                            by_cases c57 : t120.toList = t113.toList
                            · rw [if_pos c57] at H
                              have c57b0 : (t120.toList == t113.toList) = true := beq_iff_eq.mpr c57
                              have c57b1 : (t120.toList != t113.toList) = false := bne_eq_false_iff_eq.mpr c57
                              clear c57
                              obtain rfl := Option.some.inj H
                              have p40 : 0 ≤ (0 : Int) := (by omega)
                              have q40 : 0 < a0.size := (by have : (0 : Int) < (a0.size : Int) := of_decide_eq_true (by first | (with_reducible assumption) | assumption); omega)
                              have hx40 : ∀ h : 0 < a0.size, ((a0[0]'h).toNat : Int) = bt a0 0 := bt_at a0 0
                              clear p40
                              have qi40 : (0 < (a0.size : Int)) = True := eq_true (of_decide_eq_true (by first | (with_reducible assumption) | assumption))
                              replace q40 := eq_true q40
                              have p51 : 0 ≤ (0 : Int) := (by omega)
                              have q51 : 0 < a0.size := (by have : (0 : Int) < (a0.size : Int) := of_decide_eq_true (by first | (with_reducible assumption) | assumption); omega)
                              have hx51 : ∀ h : 0 < a0.size, ((a0[0]'h).toNat : Int) = bt a0 0 := bt_at a0 0
                              clear p51
                              have qi51 : (0 < (a0.size : Int)) = True := eq_true (of_decide_eq_true (by first | (with_reducible assumption) | assumption))
                              replace q51 := eq_true q51
                              go_wp2_with (first | ((with_reducible refine gate_callee (f := 6) rfl ?_); refine goesL_ (some 108) rfl rfl Try.func6 (by kernel_rfl) rfl #[.string a0] rfl (by (try simp only [List.map_toArray, List.map_cons, List.map_nil]); first | done | rfl | (simp only [List.length_drop, List.length_take]; rfl)) ?_; (with_reducible refine (impl_PathParts.calls kj8 a0 t119 t120 t121 _ A54.out).mono ?_); rintro e w58 ⟨rfl, hb⟩; refine ⟨_, rfl, ?_⟩; have n0_ := Aside0.mk (below_step (by repeat (first | (with_reducible first | exact HB.out | apply below_alloc | apply pw_below_drewN | apply below_drew1) | exact HB.out)) hb); clear HB; have HB := n0_; clear n0_; (try clear hb); (try clear hb2); (try clear hk); (try clear hi)))
                              go_ret
                              exact ⟨by first | rfl | (simp [errW_none, errW_some] <;> rfl) | (simp [*, errW_none, errW_some] <;> rfl), by repeat (first | (with_reducible first | exact HB.out | apply below_alloc | apply pw_below_drewN | apply below_drew1) | exact HB.out)⟩
                            · rw [if_neg c57] at H
                              have c57b0 : (t120.toList == t113.toList) = false := beq_eq_false_iff_ne.mpr c57
                              have c57b1 : (t120.toList != t113.toList) = true := bne_iff_ne.mpr c57
                              obtain rfl := Option.some.inj H
                              have p40 : 0 ≤ (0 : Int) := (by omega)
                              have q40 : 0 < a0.size := (by have : (0 : Int) < (a0.size : Int) := of_decide_eq_true (by first | (with_reducible assumption) | assumption); omega)
                              have hx40 : ∀ h : 0 < a0.size, ((a0[0]'h).toNat : Int) = bt a0 0 := bt_at a0 0
                              clear p40
                              have qi40 : (0 < (a0.size : Int)) = True := eq_true (of_decide_eq_true (by first | (with_reducible assumption) | assumption))
                              replace q40 := eq_true q40
                              have p51 : 0 ≤ (0 : Int) := (by omega)
                              have q51 : 0 < a0.size := (by have : (0 : Int) < (a0.size : Int) := of_decide_eq_true (by first | (with_reducible assumption) | assumption); omega)
                              have hx51 : ∀ h : 0 < a0.size, ((a0[0]'h).toNat : Int) = bt a0 0 := bt_at a0 0
                              clear p51
                              have qi51 : (0 < (a0.size : Int)) = True := eq_true (of_decide_eq_true (by first | (with_reducible assumption) | assumption))
                              replace q51 := eq_true q51
                              go_wp2_with (first | ((with_reducible refine gate_callee (f := 6) rfl ?_); refine goesL_ (some 108) rfl rfl Try.func6 (by kernel_rfl) rfl #[.string a0] rfl (by (try simp only [List.map_toArray, List.map_cons, List.map_nil]); first | done | rfl | (simp only [List.length_drop, List.length_take]; rfl)) ?_; (with_reducible refine (impl_PathParts.calls kj8 a0 t119 t120 t121 _ A54.out).mono ?_); rintro e w59 ⟨rfl, hb⟩; refine ⟨_, rfl, ?_⟩; have n0_ := Aside0.mk (below_step (by repeat (first | (with_reducible first | exact HB.out | apply below_alloc | apply pw_below_drewN | apply below_drew1) | exact HB.out)) hb); clear HB; have HB := n0_; clear n0_; (try clear hb); (try clear hb2); (try clear hk); (try clear hi)))
                              go_ret
                              exact ⟨by first | rfl | (simp [errW_none, errW_some] <;> rfl) | (simp [*, errW_none, errW_some] <;> rfl), by repeat (first | (with_reducible first | exact HB.out | apply below_alloc | apply pw_below_drewN | apply below_drew1) | exact HB.out)⟩
                          · rw [if_neg c56] at H
                            have c56b0 : (t119.toList == t112.toList) = false := beq_eq_false_iff_ne.mpr c56
                            have c56b1 : (t119.toList != t112.toList) = true := bne_iff_ne.mpr c56
                            obtain rfl := Option.some.inj H
                            have p40 : 0 ≤ (0 : Int) := (by omega)
                            have q40 : 0 < a0.size := (by have : (0 : Int) < (a0.size : Int) := of_decide_eq_true (by first | (with_reducible assumption) | assumption); omega)
                            have hx40 : ∀ h : 0 < a0.size, ((a0[0]'h).toNat : Int) = bt a0 0 := bt_at a0 0
                            clear p40
                            have qi40 : (0 < (a0.size : Int)) = True := eq_true (of_decide_eq_true (by first | (with_reducible assumption) | assumption))
                            replace q40 := eq_true q40
                            have p51 : 0 ≤ (0 : Int) := (by omega)
                            have q51 : 0 < a0.size := (by have : (0 : Int) < (a0.size : Int) := of_decide_eq_true (by first | (with_reducible assumption) | assumption); omega)
                            have hx51 : ∀ h : 0 < a0.size, ((a0[0]'h).toNat : Int) = bt a0 0 := bt_at a0 0
                            clear p51
                            have qi51 : (0 < (a0.size : Int)) = True := eq_true (of_decide_eq_true (by first | (with_reducible assumption) | assumption))
                            replace q51 := eq_true q51
                            go_wp2_with (first | ((with_reducible refine gate_callee (f := 6) rfl ?_); refine goesL_ (some 108) rfl rfl Try.func6 (by kernel_rfl) rfl #[.string a0] rfl (by (try simp only [List.map_toArray, List.map_cons, List.map_nil]); first | done | rfl | (simp only [List.length_drop, List.length_take]; rfl)) ?_; (with_reducible refine (impl_PathParts.calls kj8 a0 t119 t120 t121 _ A54.out).mono ?_); rintro e w60 ⟨rfl, hb⟩; refine ⟨_, rfl, ?_⟩; have n0_ := Aside0.mk (below_step (by repeat (first | (with_reducible first | exact HB.out | apply below_alloc | apply pw_below_drewN | apply below_drew1) | exact HB.out)) hb); clear HB; have HB := n0_; clear n0_; (try clear hb); (try clear hb2); (try clear hk); (try clear hi)))
                            go_ret
                            exact ⟨by first | rfl | (simp [errW_none, errW_some] <;> rfl) | (simp [*, errW_none, errW_some] <;> rfl), by repeat (first | (with_reducible first | exact HB.out | apply below_alloc | apply pw_below_drewN | apply below_drew1) | exact HB.out)⟩
                        · replace c55 := Bool.eq_false_iff.mpr c55
                          subst c55
                          have H1 : (some false) = some r := by rw [if_neg (show ¬ (false = true) by decide)] at H; exact H
                          clear H
                          have H := H1
                          clear H1
                          obtain rfl := Option.some.inj H
                          have p40 : 0 ≤ (0 : Int) := (by omega)
                          have q40 : 0 < a0.size := (by have : (0 : Int) < (a0.size : Int) := of_decide_eq_true (by first | (with_reducible assumption) | assumption); omega)
                          have hx40 : ∀ h : 0 < a0.size, ((a0[0]'h).toNat : Int) = bt a0 0 := bt_at a0 0
                          clear p40
                          have qi40 : (0 < (a0.size : Int)) = True := eq_true (of_decide_eq_true (by first | (with_reducible assumption) | assumption))
                          replace q40 := eq_true q40
                          have p51 : 0 ≤ (0 : Int) := (by omega)
                          have q51 : 0 < a0.size := (by have : (0 : Int) < (a0.size : Int) := of_decide_eq_true (by first | (with_reducible assumption) | assumption); omega)
                          have hx51 : ∀ h : 0 < a0.size, ((a0[0]'h).toNat : Int) = bt a0 0 := bt_at a0 0
                          clear p51
                          have qi51 : (0 < (a0.size : Int)) = True := eq_true (of_decide_eq_true (by first | (with_reducible assumption) | assumption))
                          replace q51 := eq_true q51
                          go_wp2_with (first | ((with_reducible refine gate_callee (f := 6) rfl ?_); refine goesL_ (some 108) rfl rfl Try.func6 (by kernel_rfl) rfl #[.string a0] rfl (by (try simp only [List.map_toArray, List.map_cons, List.map_nil]); first | done | rfl | (simp only [List.length_drop, List.length_take]; rfl)) ?_; (with_reducible refine (impl_PathParts.calls kj8 a0 t119 t120 t121 _ A54.out).mono ?_); rintro e w61 ⟨rfl, hb⟩; refine ⟨_, rfl, ?_⟩; have n0_ := Aside0.mk (below_step (by repeat (first | (with_reducible first | exact HB.out | apply below_alloc | apply pw_below_drewN | apply below_drew1) | exact HB.out)) hb); clear HB; have HB := n0_; clear n0_; (try clear hb); (try clear hb2); (try clear hk); (try clear hi)))
                          go_ret
                          exact ⟨by first | rfl | (simp [errW_none, errW_some] <;> rfl) | (simp [*, errW_none, errW_some] <;> rfl), by repeat (first | (with_reducible first | exact HB.out | apply below_alloc | apply pw_below_drewN | apply below_drew1) | exact HB.out)⟩
                    · rw [if_neg c52] at H
                      have c52b0 : ((bt a0 0) == 92) = false := beq_eq_false_iff_ne.mpr c52
                      have c52b1 : ((bt a0 0) != 92) = true := bne_iff_ne.mpr c52
                      replace H := Option.bind_eq_some_iff.mp H
                      obtain ⟨⟨t122, t123, t124⟩, A620, H⟩ := H
                      replace H : (if x6_3 = true then (if t122.toList = t112.toList then (if t123.toList = t113.toList then (some (t124.toList == t114.toList)) else (some false)) else (some false)) else (some false)) = some r := H
                      have A62 := Aside0.mk A620
                      clear A620
                      by_cases c63 : x6_3 = true
                      · subst c63
                        have H1 : (if t122.toList = t112.toList then (if t123.toList = t113.toList then (some (t124.toList == t114.toList)) else (some false)) else (some false)) = some r := by rw [if_pos rfl] at H; exact H
                        clear H
                        have H := H1
                        clear H1
                        by_cases c64 : t122.toList = t112.toList
                        · rw [if_pos c64] at H
                          have c64b0 : (t122.toList == t112.toList) = true := beq_iff_eq.mpr c64
                          have c64b1 : (t122.toList != t112.toList) = false := bne_eq_false_iff_eq.mpr c64
                          clear c64
                          by_cases c65 : t123.toList = t113.toList
                          · rw [if_pos c65] at H
                            have c65b0 : (t123.toList == t113.toList) = true := beq_iff_eq.mpr c65
                            have c65b1 : (t123.toList != t113.toList) = false := bne_eq_false_iff_eq.mpr c65
                            clear c65
                            obtain rfl := Option.some.inj H
                            have p40 : 0 ≤ (0 : Int) := (by omega)
                            have q40 : 0 < a0.size := (by have : (0 : Int) < (a0.size : Int) := of_decide_eq_true (by first | (with_reducible assumption) | assumption); omega)
                            have hx40 : ∀ h : 0 < a0.size, ((a0[0]'h).toNat : Int) = bt a0 0 := bt_at a0 0
                            clear p40
                            have qi40 : (0 < (a0.size : Int)) = True := eq_true (of_decide_eq_true (by first | (with_reducible assumption) | assumption))
                            replace q40 := eq_true q40
                            have p51 : 0 ≤ (0 : Int) := (by omega)
                            have q51 : 0 < a0.size := (by have : (0 : Int) < (a0.size : Int) := of_decide_eq_true (by first | (with_reducible assumption) | assumption); omega)
                            have hx51 : ∀ h : 0 < a0.size, ((a0[0]'h).toNat : Int) = bt a0 0 := bt_at a0 0
                            clear p51
                            have qi51 : (0 < (a0.size : Int)) = True := eq_true (of_decide_eq_true (by first | (with_reducible assumption) | assumption))
                            replace q51 := eq_true q51
                            go_wp2_with (first | ((with_reducible refine gate_callee (f := 6) rfl ?_); refine goesL_ (some 108) rfl rfl Try.func6 (by kernel_rfl) rfl #[.string a0] rfl (by (try simp only [List.map_toArray, List.map_cons, List.map_nil]); first | done | rfl | (simp only [List.length_drop, List.length_take]; rfl)) ?_; (with_reducible refine (impl_PathParts.calls kj8 a0 t122 t123 t124 _ A62.out).mono ?_); rintro e w66 ⟨rfl, hb⟩; refine ⟨_, rfl, ?_⟩; have n0_ := Aside0.mk (below_step (by repeat (first | (with_reducible first | exact HB.out | apply below_alloc | apply pw_below_drewN | apply below_drew1) | exact HB.out)) hb); clear HB; have HB := n0_; clear n0_; (try clear hb); (try clear hb2); (try clear hk); (try clear hi)))
                            go_ret
                            exact ⟨by first | rfl | (simp [errW_none, errW_some] <;> rfl) | (simp [*, errW_none, errW_some] <;> rfl), by repeat (first | (with_reducible first | exact HB.out | apply below_alloc | apply pw_below_drewN | apply below_drew1) | exact HB.out)⟩
                          · rw [if_neg c65] at H
                            have c65b0 : (t123.toList == t113.toList) = false := beq_eq_false_iff_ne.mpr c65
                            have c65b1 : (t123.toList != t113.toList) = true := bne_iff_ne.mpr c65
                            obtain rfl := Option.some.inj H
                            have p40 : 0 ≤ (0 : Int) := (by omega)
                            have q40 : 0 < a0.size := (by have : (0 : Int) < (a0.size : Int) := of_decide_eq_true (by first | (with_reducible assumption) | assumption); omega)
                            have hx40 : ∀ h : 0 < a0.size, ((a0[0]'h).toNat : Int) = bt a0 0 := bt_at a0 0
                            clear p40
                            have qi40 : (0 < (a0.size : Int)) = True := eq_true (of_decide_eq_true (by first | (with_reducible assumption) | assumption))
                            replace q40 := eq_true q40
                            have p51 : 0 ≤ (0 : Int) := (by omega)
                            have q51 : 0 < a0.size := (by have : (0 : Int) < (a0.size : Int) := of_decide_eq_true (by first | (with_reducible assumption) | assumption); omega)
                            have hx51 : ∀ h : 0 < a0.size, ((a0[0]'h).toNat : Int) = bt a0 0 := bt_at a0 0
                            clear p51
                            have qi51 : (0 < (a0.size : Int)) = True := eq_true (of_decide_eq_true (by first | (with_reducible assumption) | assumption))
                            replace q51 := eq_true q51
                            go_wp2_with (first | ((with_reducible refine gate_callee (f := 6) rfl ?_); refine goesL_ (some 108) rfl rfl Try.func6 (by kernel_rfl) rfl #[.string a0] rfl (by (try simp only [List.map_toArray, List.map_cons, List.map_nil]); first | done | rfl | (simp only [List.length_drop, List.length_take]; rfl)) ?_; (with_reducible refine (impl_PathParts.calls kj8 a0 t122 t123 t124 _ A62.out).mono ?_); rintro e w67 ⟨rfl, hb⟩; refine ⟨_, rfl, ?_⟩; have n0_ := Aside0.mk (below_step (by repeat (first | (with_reducible first | exact HB.out | apply below_alloc | apply pw_below_drewN | apply below_drew1) | exact HB.out)) hb); clear HB; have HB := n0_; clear n0_; (try clear hb); (try clear hb2); (try clear hk); (try clear hi)))
                            go_ret
                            exact ⟨by first | rfl | (simp [errW_none, errW_some] <;> rfl) | (simp [*, errW_none, errW_some] <;> rfl), by repeat (first | (with_reducible first | exact HB.out | apply below_alloc | apply pw_below_drewN | apply below_drew1) | exact HB.out)⟩
                        · rw [if_neg c64] at H
                          have c64b0 : (t122.toList == t112.toList) = false := beq_eq_false_iff_ne.mpr c64
                          have c64b1 : (t122.toList != t112.toList) = true := bne_iff_ne.mpr c64
                          obtain rfl := Option.some.inj H
                          have p40 : 0 ≤ (0 : Int) := (by omega)
                          have q40 : 0 < a0.size := (by have : (0 : Int) < (a0.size : Int) := of_decide_eq_true (by first | (with_reducible assumption) | assumption); omega)
                          have hx40 : ∀ h : 0 < a0.size, ((a0[0]'h).toNat : Int) = bt a0 0 := bt_at a0 0
                          clear p40
                          have qi40 : (0 < (a0.size : Int)) = True := eq_true (of_decide_eq_true (by first | (with_reducible assumption) | assumption))
                          replace q40 := eq_true q40
                          have p51 : 0 ≤ (0 : Int) := (by omega)
                          have q51 : 0 < a0.size := (by have : (0 : Int) < (a0.size : Int) := of_decide_eq_true (by first | (with_reducible assumption) | assumption); omega)
                          have hx51 : ∀ h : 0 < a0.size, ((a0[0]'h).toNat : Int) = bt a0 0 := bt_at a0 0
                          clear p51
                          have qi51 : (0 < (a0.size : Int)) = True := eq_true (of_decide_eq_true (by first | (with_reducible assumption) | assumption))
                          replace q51 := eq_true q51
                          go_wp2_with (first | ((with_reducible refine gate_callee (f := 6) rfl ?_); refine goesL_ (some 108) rfl rfl Try.func6 (by kernel_rfl) rfl #[.string a0] rfl (by (try simp only [List.map_toArray, List.map_cons, List.map_nil]); first | done | rfl | (simp only [List.length_drop, List.length_take]; rfl)) ?_; (with_reducible refine (impl_PathParts.calls kj8 a0 t122 t123 t124 _ A62.out).mono ?_); rintro e w68 ⟨rfl, hb⟩; refine ⟨_, rfl, ?_⟩; have n0_ := Aside0.mk (below_step (by repeat (first | (with_reducible first | exact HB.out | apply below_alloc | apply pw_below_drewN | apply below_drew1) | exact HB.out)) hb); clear HB; have HB := n0_; clear n0_; (try clear hb); (try clear hb2); (try clear hk); (try clear hi)))
                          go_ret
                          exact ⟨by first | rfl | (simp [errW_none, errW_some] <;> rfl) | (simp [*, errW_none, errW_some] <;> rfl), by repeat (first | (with_reducible first | exact HB.out | apply below_alloc | apply pw_below_drewN | apply below_drew1) | exact HB.out)⟩
                      · replace c63 := Bool.eq_false_iff.mpr c63
                        subst c63
                        have H1 : (some false) = some r := by rw [if_neg (show ¬ (false = true) by decide)] at H; exact H
                        clear H
                        have H := H1
                        clear H1
                        obtain rfl := Option.some.inj H
                        have p40 : 0 ≤ (0 : Int) := (by omega)
                        have q40 : 0 < a0.size := (by have : (0 : Int) < (a0.size : Int) := of_decide_eq_true (by first | (with_reducible assumption) | assumption); omega)
                        have hx40 : ∀ h : 0 < a0.size, ((a0[0]'h).toNat : Int) = bt a0 0 := bt_at a0 0
                        clear p40
                        have qi40 : (0 < (a0.size : Int)) = True := eq_true (of_decide_eq_true (by first | (with_reducible assumption) | assumption))
                        replace q40 := eq_true q40
                        have p51 : 0 ≤ (0 : Int) := (by omega)
                        have q51 : 0 < a0.size := (by have : (0 : Int) < (a0.size : Int) := of_decide_eq_true (by first | (with_reducible assumption) | assumption); omega)
                        have hx51 : ∀ h : 0 < a0.size, ((a0[0]'h).toNat : Int) = bt a0 0 := bt_at a0 0
                        clear p51
                        have qi51 : (0 < (a0.size : Int)) = True := eq_true (of_decide_eq_true (by first | (with_reducible assumption) | assumption))
                        replace q51 := eq_true q51
                        go_wp2_with (first | ((with_reducible refine gate_callee (f := 6) rfl ?_); refine goesL_ (some 108) rfl rfl Try.func6 (by kernel_rfl) rfl #[.string a0] rfl (by (try simp only [List.map_toArray, List.map_cons, List.map_nil]); first | done | rfl | (simp only [List.length_drop, List.length_take]; rfl)) ?_; (with_reducible refine (impl_PathParts.calls kj8 a0 t122 t123 t124 _ A62.out).mono ?_); rintro e w69 ⟨rfl, hb⟩; refine ⟨_, rfl, ?_⟩; have n0_ := Aside0.mk (below_step (by repeat (first | (with_reducible first | exact HB.out | apply below_alloc | apply pw_below_drewN | apply below_drew1) | exact HB.out)) hb); clear HB; have HB := n0_; clear n0_; (try clear hb); (try clear hb2); (try clear hk); (try clear hi)))
                        go_ret
                        exact ⟨by first | rfl | (simp [errW_none, errW_some] <;> rfl) | (simp [*, errW_none, errW_some] <;> rfl), by repeat (first | (with_reducible first | exact HB.out | apply below_alloc | apply pw_below_drewN | apply below_drew1) | exact HB.out)⟩
                · rw [if_neg c39] at H
                  exact absurd H (by simp)
              · rw [if_neg c38] at H
                have c38b0 : decide (0 < (a0.size : Int)) = false := decide_eq_false c38
                have c38b1 : decide (0 < a0.size) = false := decide_eq_false (by omega)
                clear c38
                replace H := Option.bind_eq_some_iff.mp H
                obtain ⟨⟨t125, t126, t127⟩, A700, H⟩ := H
                replace H : (if x6_3 = true then (if t125.toList = t112.toList then (if t126.toList = t113.toList then (some (t127.toList == t114.toList)) else (some false)) else (some false)) else (some false)) = some r := H
                have A70 := Aside0.mk A700
                clear A700
                by_cases c71 : x6_3 = true
                · subst c71
                  have H1 : (if t125.toList = t112.toList then (if t126.toList = t113.toList then (some (t127.toList == t114.toList)) else (some false)) else (some false)) = some r := by rw [if_pos rfl] at H; exact H
                  clear H
                  have H := H1
                  clear H1
                  by_cases c72 : t125.toList = t112.toList
                  · rw [if_pos c72] at H
                    have c72b0 : (t125.toList == t112.toList) = true := beq_iff_eq.mpr c72
                    have c72b1 : (t125.toList != t112.toList) = false := bne_eq_false_iff_eq.mpr c72
                    clear c72
                    by_cases c73 : t126.toList = t113.toList
                    · rw [if_pos c73] at H
                      have c73b0 : (t126.toList == t113.toList) = true := beq_iff_eq.mpr c73
                      have c73b1 : (t126.toList != t113.toList) = false := bne_eq_false_iff_eq.mpr c73
                      clear c73
                      obtain rfl := Option.some.inj H
                      go_wp2_with (first | ((with_reducible refine gate_callee (f := 6) rfl ?_); refine goesL_ (some 108) rfl rfl Try.func6 (by kernel_rfl) rfl #[.string a0] rfl (by (try simp only [List.map_toArray, List.map_cons, List.map_nil]); first | done | rfl | (simp only [List.length_drop, List.length_take]; rfl)) ?_; (with_reducible refine (impl_PathParts.calls kj8 a0 t125 t126 t127 _ A70.out).mono ?_); rintro e w74 ⟨rfl, hb⟩; refine ⟨_, rfl, ?_⟩; have n0_ := Aside0.mk (below_step (by repeat (first | (with_reducible first | exact HB.out | apply below_alloc | apply pw_below_drewN | apply below_drew1) | exact HB.out)) hb); clear HB; have HB := n0_; clear n0_; (try clear hb); (try clear hb2); (try clear hk); (try clear hi)))
                      go_ret
                      exact ⟨by first | rfl | (simp [errW_none, errW_some] <;> rfl) | (simp [*, errW_none, errW_some] <;> rfl), by repeat (first | (with_reducible first | exact HB.out | apply below_alloc | apply pw_below_drewN | apply below_drew1) | exact HB.out)⟩
                    · rw [if_neg c73] at H
                      have c73b0 : (t126.toList == t113.toList) = false := beq_eq_false_iff_ne.mpr c73
                      have c73b1 : (t126.toList != t113.toList) = true := bne_iff_ne.mpr c73
                      obtain rfl := Option.some.inj H
                      go_wp2_with (first | ((with_reducible refine gate_callee (f := 6) rfl ?_); refine goesL_ (some 108) rfl rfl Try.func6 (by kernel_rfl) rfl #[.string a0] rfl (by (try simp only [List.map_toArray, List.map_cons, List.map_nil]); first | done | rfl | (simp only [List.length_drop, List.length_take]; rfl)) ?_; (with_reducible refine (impl_PathParts.calls kj8 a0 t125 t126 t127 _ A70.out).mono ?_); rintro e w75 ⟨rfl, hb⟩; refine ⟨_, rfl, ?_⟩; have n0_ := Aside0.mk (below_step (by repeat (first | (with_reducible first | exact HB.out | apply below_alloc | apply pw_below_drewN | apply below_drew1) | exact HB.out)) hb); clear HB; have HB := n0_; clear n0_; (try clear hb); (try clear hb2); (try clear hk); (try clear hi)))
                      go_ret
                      exact ⟨by first | rfl | (simp [errW_none, errW_some] <;> rfl) | (simp [*, errW_none, errW_some] <;> rfl), by repeat (first | (with_reducible first | exact HB.out | apply below_alloc | apply pw_below_drewN | apply below_drew1) | exact HB.out)⟩
                  · rw [if_neg c72] at H
                    have c72b0 : (t125.toList == t112.toList) = false := beq_eq_false_iff_ne.mpr c72
                    have c72b1 : (t125.toList != t112.toList) = true := bne_iff_ne.mpr c72
                    obtain rfl := Option.some.inj H
                    go_wp2_with (first | ((with_reducible refine gate_callee (f := 6) rfl ?_); refine goesL_ (some 108) rfl rfl Try.func6 (by kernel_rfl) rfl #[.string a0] rfl (by (try simp only [List.map_toArray, List.map_cons, List.map_nil]); first | done | rfl | (simp only [List.length_drop, List.length_take]; rfl)) ?_; (with_reducible refine (impl_PathParts.calls kj8 a0 t125 t126 t127 _ A70.out).mono ?_); rintro e w76 ⟨rfl, hb⟩; refine ⟨_, rfl, ?_⟩; have n0_ := Aside0.mk (below_step (by repeat (first | (with_reducible first | exact HB.out | apply below_alloc | apply pw_below_drewN | apply below_drew1) | exact HB.out)) hb); clear HB; have HB := n0_; clear n0_; (try clear hb); (try clear hb2); (try clear hk); (try clear hi)))
                    go_ret
                    exact ⟨by first | rfl | (simp [errW_none, errW_some] <;> rfl) | (simp [*, errW_none, errW_some] <;> rfl), by repeat (first | (with_reducible first | exact HB.out | apply below_alloc | apply pw_below_drewN | apply below_drew1) | exact HB.out)⟩
                · replace c71 := Bool.eq_false_iff.mpr c71
                  subst c71
                  have H1 : (some false) = some r := by rw [if_neg (show ¬ (false = true) by decide)] at H; exact H
                  clear H
                  have H := H1
                  clear H1
                  obtain rfl := Option.some.inj H
                  go_wp2_with (first | ((with_reducible refine gate_callee (f := 6) rfl ?_); refine goesL_ (some 108) rfl rfl Try.func6 (by kernel_rfl) rfl #[.string a0] rfl (by (try simp only [List.map_toArray, List.map_cons, List.map_nil]); first | done | rfl | (simp only [List.length_drop, List.length_take]; rfl)) ?_; (with_reducible refine (impl_PathParts.calls kj8 a0 t125 t126 t127 _ A70.out).mono ?_); rintro e w77 ⟨rfl, hb⟩; refine ⟨_, rfl, ?_⟩; have n0_ := Aside0.mk (below_step (by repeat (first | (with_reducible first | exact HB.out | apply below_alloc | apply pw_below_drewN | apply below_drew1) | exact HB.out)) hb); clear HB; have HB := n0_; clear n0_; (try clear hb); (try clear hb2); (try clear hk); (try clear hi)))
                  go_ret
                  exact ⟨by first | rfl | (simp [errW_none, errW_some] <;> rfl) | (simp [*, errW_none, errW_some] <;> rfl), by repeat (first | (with_reducible first | exact HB.out | apply below_alloc | apply pw_below_drewN | apply below_drew1) | exact HB.out)⟩

/-- THE ONE PURE STATEMENT of laws_FnPathParts: yours. -/
def laws_FnPathParts.Pure : Prop := ∀ (a0 : ByteArray), a0.size ≤ 140737488351232 → ∃ k, laws_FnPathParts.f k a0 = some true
theorem laws_FnPathParts.walk (P : laws_FnPathParts.Pure) (a0 : ByteArray) (w : World) (w0 : a0.size ≤ 140737488351232) :
    Calls Try.prog 3 #[.string a0] w fun e w' => e = .returned (.bool true) ∧ Below w.heap.size w w' := by
  obtain ⟨k, h⟩ := P a0 w0
  refine (laws_FnPathParts.calls k a0 true w h).mono ?_
  rintro e w' ⟨rfl, hd⟩
  exact ⟨rfl, hd⟩

end Go.Proofs.YtapbhbhaandedaaRRR.PFnPathParts
