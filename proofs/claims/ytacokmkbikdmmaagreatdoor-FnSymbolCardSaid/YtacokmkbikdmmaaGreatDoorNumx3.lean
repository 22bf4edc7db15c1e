/-
  The printed contracts of whole numbers, over the mended digits.
  Conditions: none.
-/
import Derived.Test.YtacokmkbikdmmaaGreatDoorPFnChainsx0
import Derived.Test.YtacokmkbikdmmaaGreatDoorNumx2
namespace Go.Proofs.YtacokmkbikdmmaaGreatDoor.PFnChains
open Go.RowKit Go.Proofs.YtacokmkbikdmmaaGreatDoorW.PrintWords Go.Proofs.YtacokmkbikdmmaaGreatDoorW.PrintLast Go.Proofs.YtacokmkbikdmmaaGreatDoorW.PrintMore
attribute [local go_sem] max2_int min2_int max_two min_two max_three min_three max_four min_four   -- for this text's walks alone
set_option linter.unusedVariables false
set_option linter.unusedSimpArgs false

/-! ### spec_natTimes: function 85 -/
def spec_natTimes.l0 : Nat → List Int → Int → Int → List Int → Int → Option (List Int)
  | 0, _, _, _, _, _ => none
  | k + 1, x0, x1, x2, x7, x8 => if x8 < (x0.length : Int) then (if 0 ≤ x8 then (if x7.length < 17592186044416 then (spec_natTimes.l0 k x0 x1 ((IntKind.u64.wrap (x2 + (IntKind.u64.wrap ((rd x0 x8) * x1)))) / 4294967296) (x7 ++ [Go.bits .and .u64 (IntKind.u64.wrap (x2 + (IntKind.u64.wrap ((rd x0 x8) * x1)))) 4294967295]) (wrap64 (x8 + 1))) else (none)) else (none)) else (if x7.length < 17592186044416 then ((spec_natTrim.f k (x7 ++ [x2])).bind fun t126 => (some t126)) else (none))
def spec_natTimes.f (k : Nat) (l0 : List Int) (a1 : Int) (a2 : Int) : Option (List Int) := spec_natTimes.l0 k l0 a1 a2 ([] : List Int) 0
theorem spec_natTimes.mono_l : ∀ k, (∀ y0 y1 y2 y3 y4, LeO (spec_natTimes.l0 k y0 y1 y2 y3 y4) (spec_natTimes.l0 (k + 1) y0 y1 y2 y3 y4))
  | 0 => fun _ _ _ _ _ r h => by simp [spec_natTimes.l0] at h
  | k + 1 => by
    have ih0 := spec_natTimes.mono_l k
    · intro y0 y1 y2 y3 y4
      unfold spec_natTimes.l0
      repeat' first
      | (with_reducible exact ih0 _ _ _ _ _)
      | (with_reducible exact spec_natTrim.mono _ _)
      | (with_reducible exact LeO.refl _)
      | (with_reducible exact LeO.none _)
      | (with_reducible refine LeO.ite ?_ ?_)
      | (with_reducible refine LeO.bind ?_ (fun _ => ?_))
      | exact ih0 _ _ _ _ _
      | exact spec_natTrim.mono _ _
      | exact LeO.none _
      | refine LeO.ite ?_ ?_
      | refine LeO.bind ?_ (fun _ => ?_)
theorem spec_natTimes.mono : ∀ a0 a1 a2 k, LeO (spec_natTimes.f k a0 a1 a2) (spec_natTimes.f (k + 1) a0 a1 a2) := by
  intro a0 a1 a2 k
  have ih0 := spec_natTimes.mono_l k
  unfold spec_natTimes.f
  repeat' first
      | (with_reducible exact ih0 _ _ _ _ _)
      | (with_reducible exact spec_natTrim.mono _ _)
      | (with_reducible exact LeO.refl _)
      | (with_reducible exact LeO.none _)
      | (with_reducible refine LeO.ite ?_ ?_)
      | (with_reducible refine LeO.bind ?_ (fun _ => ?_))
      | exact ih0 _ _ _ _ _
      | exact spec_natTrim.mono _ _
      | exact LeO.none _
      | refine LeO.ite ?_ ?_
      | refine LeO.bind ?_ (fun _ => ?_)
set_option maxHeartbeats 8000000 in
set_option maxRecDepth 100000 in
theorem spec_natTimes.calls (k : Nat) (A0 : Option Addr) (c0 : Nat) (l0 : List Int) (a1 : Int) (a2 : Int) (r : List Int) (w : World) (hr0 : Kd.C (Kd.int .u64) w A0 l0.length l0) (hc0 : l0.length ≤ c0) (h : spec_natTimes.f k l0 a1 a2 = some r) :
    Calls Tryz.prog 85 #[.slice A0 l0.length c0, .int .u64 a1, .int .u64 a2] w fun e w' => ∃ v0_ : Value, e = .returned (v0_) ∧ Kd.R (Kd.int .u64) 78 w' w.heap.size (fun _ => True) v0_ r ∧ Below w.heap.size w w' := by
  have HR0 := Aside0.mk hr0
  have HC0 := Aside0.mk hc0
  clear hr0 hc0
  have HB := Aside0.mk (Below.refl w.heap.size w)
  have H : (spec_natTimes.l0 k l0 a1 a2 ([] : List Int) 0) = some r := h
  clear h
  have H' := Aside0.mk H
  clear H
  go_enter Tryz.func85, Tryz.ntmps85
  go_wp2
  go_loopg [2, 7, 8] k (fun kq v2 v7 v8 w' => ∃ (x2_1 : Int) (x7_1 : List Int) (x8_1 : Int), v2 = .int .u64 x2_1 ∧ v8 = .int .i64 x8_1 ∧ Aside0 (spec_natTimes.l0 kq l0 a1 x2_1 x7_1 x8_1 = some r) ∧ Aside0 (kq ≤ k) ∧ Aside0 (Kd.R (Kd.int .u64) 78 w' w.heap.size (fun _ => True) v7 x7_1) ∧ Aside0 (Below w.heap.size w w'))
  case atStart => exact ⟨(a2), (([] : List Int)), (0), (by first | rfl | (simp; done) | (simp [*]; done)), (by first | rfl | (simp; done) | (simp [*]; done)), H', ⟨Nat.le_refl _⟩, ⟨by first | exact Kd.R_nil _ _ _ _ _ | exact Kd.N_nil _ _ _ _ _ | exact Kd.V_nil _ _ _ _ _ | exact Kd.Q_nil _ _ _ _ _ | exact Kd.S_nil _ _ _ _ _⟩, ⟨by repeat (first | (with_reducible first | exact HB.out | apply below_alloc | apply pw_below_drewN | apply below_drew1) | exact HB.out)⟩⟩
  case round =>
    clear H'
    try clear p2
    obtain ⟨x2_1, x7_1, x8_1, rfl, rfl, HA, HK1, HO_7, HB⟩ := hrel
    cases gk with
    | zero => exact absurd HA.out (by simp [spec_natTimes.l0])
    | succ k1 =>
      have H := HA.out
      clear HA
      simp only [spec_natTimes.l0] at H
      by_cases c4 : x8_1 < (l0.length : Int)
      · rw [if_pos c4] at H
        have c4b0 : decide (x8_1 < (l0.length : Int)) = true := decide_eq_true c4
        clear c4
        by_cases c5 : 0 ≤ x8_1
        · rw [if_pos c5] at H
          have c5b0 : decide (0 ≤ x8_1) = true := decide_eq_true c5
          clear c5
          by_cases c6 : x7_1.length < 17592186044416
          · rw [if_pos c6] at H
            have LMc6 := Aside0.mk c6
            clear c6
            obtain ⟨y120, hy120⟩ : ∃ y_ : List Int, y_ = (x7_1 ++ [Go.bits .and .u64 (IntKind.u64.wrap (x2_1 + (IntKind.u64.wrap ((rd l0 x8_1) * a1)))) 4294967295]) := ⟨_, rfl⟩
            replace H : (spec_natTimes.l0 k1 l0 a1 ((IntKind.u64.wrap (x2_1 + (IntKind.u64.wrap ((rd l0 x8_1) * a1)))) / 4294967296) y120 (wrap64 (x8_1 + 1))) = some r := by first | (rw [hy120]; with_reducible exact H) | (have H2_ := (Option.bind_some _ _).symm.trans H; rw [hy120]; with_reducible exact H2_) | (have H2_ := (Option.bind_some _ _).symm.trans H; with_reducible exact H2_) | with_reducible exact H | (rw [hy120]; exact H) | exact H
            have Ny120 := Aside0.mk hy120
            clear hy120
            have H' := Aside0.mk H
            clear H
            have p119 : 0 ≤ (x8_1 : Int) := of_decide_eq_true (by first | (with_reducible assumption) | assumption)
            have q119 : x8_1 < (l0.length : Int) := of_decide_eq_true (by first | (with_reducible assumption) | assumption)
            obtain ⟨ad119, e119, hx119_0⟩ := Kd.at_int HR0.out x8_1 p119 q119
            cases e119
            replace hx119_0 := (HB.out.cell (World.block_lt_of_cell? w _ hx119_0)).trans hx119_0
            replace p119 := eq_true p119
            replace q119 := eq_true q119
            go_wp2_with (first | ((with_reducible refine gate_builtin (b := .append) (xs := #[.tmp 23, .tmp 26]) rfl ?_); at_builtin; refine Kd.R_append (Kd.int .u64) (w0 := w) w.heap.size rfl (.tmp 23) (.tmp 26) 83 78 (.int .u64 0) 8 rfl Tryz.underlying83 info78 rfl (by decide) (by omega) u7 x7_1 (Go.bits .and .u64 (IntKind.u64.wrap (x2_1 + (IntKind.u64.wrap ((rd l0 x8_1) * a1)))) 4294967295) [.int .u64 (Go.bits .and .u64 (IntKind.u64.wrap (x2_1 + (IntKind.u64.wrap ((rd l0 x8_1) * a1)))) 4294967295)] (fun _ => True) (fun _ => False) rfl rfl ?aP (fun _ hk => hk.elim) ?aF ?aO ?aB ?aS ?aL ?_; (case aP => exact rfl); (case aB => exact (by repeat (first | (with_reducible first | exact HB.out | apply below_alloc | apply pw_below_drewN | apply below_drew1) | exact HB.out))); (case aF => exact (fun _ _ => trivial)); (case aO => exact (by (with_reducible repeat (first | apply Kd.R_alloc | apply Kd.R_drewN | apply Kd.R_drew)); exact HO_7.out)); (case aS => exact (below_size (by repeat (first | (with_reducible first | exact HB.out | apply below_alloc | apply pw_below_drewN | apply below_drew1) | exact HB.out)))); (case aL => have := LMc6.out; omega); intro v121 w7 ho hb hg hat; rw [← Ny120.out] at ho; have n0_ := Aside0.mk (hb); have n1_ := Aside0.mk (ho); clear HB; clear HO_7; have HB := n0_; have HO122 := n1_; clear n0_ n1_; clear ho hb hg hat))
            go_roundg k1
            case measure => have := HK1.out; omega
            case rel => exact ⟨((IntKind.u64.wrap (x2_1 + (IntKind.u64.wrap ((rd l0 x8_1) * a1)))) / 4294967296), (y120), (wrap64 (x8_1 + 1)), (by first | rfl | (simp; done) | (simp [*]; done)), (by first | rfl | (simp; done) | (simp [*]; done)), H', ⟨by have := HK1.out; omega⟩, ⟨by (with_reducible repeat (first | apply Kd.R_alloc | apply Kd.R_drewN | apply Kd.R_drew)); exact HO122.out⟩, ⟨by repeat (first | (with_reducible first | exact HB.out | apply below_alloc | apply pw_below_drewN | apply below_drew1) | exact HB.out)⟩⟩
          · rw [if_neg c6] at H
            exact absurd H (by simp)
        · rw [if_neg c5] at H
          exact absurd H (by simp)
      · rw [if_neg c4] at H
        have c4b0 : decide (x8_1 < (l0.length : Int)) = false := decide_eq_false c4
        clear c4
        by_cases c8 : x7_1.length < 17592186044416
        · rw [if_pos c8] at H
          have LMc8 := Aside0.mk c8
          clear c8
          obtain ⟨y123, hy123⟩ : ∃ y_ : List Int, y_ = (x7_1 ++ [x2_1]) := ⟨_, rfl⟩
          replace H : ((spec_natTrim.f k1 y123).bind fun t126 => (some t126)) = some r := by first | (rw [hy123]; with_reducible exact H) | (have H2_ := (Option.bind_some _ _).symm.trans H; rw [hy123]; with_reducible exact H2_) | (have H2_ := (Option.bind_some _ _).symm.trans H; with_reducible exact H2_) | with_reducible exact H | (rw [hy123]; exact H) | exact H
          have Ny123 := Aside0.mk hy123
          clear hy123
          replace H := Option.bind_eq_some_iff.mp H
          obtain ⟨t126, A90, H⟩ := H
          replace H : (some t126) = some r := H
          have A9 := Aside0.mk A90
          clear A90
          obtain rfl := Option.some.inj H
          go_wp2_with (first | ((with_reducible refine gate_builtin (b := .append) (xs := #[.tmp 30, .tmp 32]) rfl ?_); at_builtin; refine Kd.R_append (Kd.int .u64) (w0 := w) w.heap.size rfl (.tmp 30) (.tmp 32) 83 78 (.int .u64 0) 8 rfl Tryz.underlying83 info78 rfl (by decide) (by omega) u7 x7_1 x2_1 [.int .u64 x2_1] (fun _ => True) (fun _ => False) rfl rfl ?aP (fun _ hk => hk.elim) ?aF ?aO ?aB ?aS ?aL ?_; (case aP => exact rfl); (case aB => exact (by repeat (first | (with_reducible first | exact HB.out | apply below_alloc | apply pw_below_drewN | apply below_drew1) | exact HB.out))); (case aF => exact (fun _ _ => trivial)); (case aO => exact (by (with_reducible repeat (first | apply Kd.R_alloc | apply Kd.R_drewN | apply Kd.R_drew)); exact HO_7.out)); (case aS => exact (below_size (by repeat (first | (with_reducible first | exact HB.out | apply below_alloc | apply pw_below_drewN | apply below_drew1) | exact HB.out)))); (case aL => have := LMc8.out; omega); intro v124 w10 ho hb hg hat; rw [← Ny123.out] at ho; have n0_ := Aside0.mk (hb); have n1_ := Aside0.mk (ho); clear HB; clear HO_7; have HB := n0_; have HO125 := n1_; clear n0_ n1_; clear ho hb hg hat; obtain ⟨Ao11, co11, eo11⟩ := Kd.R_slice HO125.out; subst eo11) | ((with_reducible refine gate_callee (f := 92) rfl ?_); refine goesL_ (some 34) rfl rfl Tryz.func92 (by kernel_rfl) rfl #[.slice Ao11 y123.length co11] rfl (by (try simp only [List.map_toArray, List.map_cons, List.map_nil]); first | done | rfl | (simp only [List.length_drop, List.length_take]; rfl)) ?_; (with_reducible refine (spec_natTrim.calls k1 (fun k_ => some k_ = (.slice Ao11 y123.length co11 : Value).ownBlock) (.slice Ao11 y123.length co11) y123 t126 w _ ?side1 ?side2 A9.out).mono ?_); (case side1 => repeat (first | (with_reducible first | exact HB.out | apply below_alloc | apply pw_below_drewN | apply below_drew1) | exact HB.out)); (case side2 => exact Kd.R_tight rfl HO125.out); rintro e w12 ⟨v127, rfl, ho0, hb, hkp⟩; refine ⟨_, rfl, ?_⟩; have n0_ := Aside0.mk (Kd.R_mono (ok' := fun k_ => True) ho0 (fun k_ hk_ => trivial)); have n1_ := Aside0.mk (hb); clear HB; clear HO125; have HO128 := n0_; have HB := n1_; clear n0_ n1_; (try clear hb); (try clear hkp); (try clear ho0)))
          go_ret
          exact ⟨_, by first | rfl | (simp [errW_none, errW_some] <;> rfl) | (simp [*, errW_none, errW_some] <;> rfl), by (with_reducible repeat (first | apply Kd.R_alloc | apply Kd.R_drewN | apply Kd.R_drew)); exact HO128.out, by repeat (first | (with_reducible first | exact HB.out | apply below_alloc | apply pw_below_drewN | apply below_drew1) | exact HB.out)⟩
        · rw [if_neg c8] at H
          exact absurd H (by simp)

/-! ### spec_Natural: function 73 -/
def spec_Natural.l0 : Nat → ByteArray → Int → List Int → Int → Option (List Int)
  | 0, _, _, _, _ => none
  | k + 1, x0, x1, x5, x6 => if x6 < (x0.size : Int) then (if 0 ≤ x6 then ((spec_Hex.f (wrap64 (bt x0 x6))).bind fun t129 => ((spec_natTimes.f k x5 (IntKind.u64.wrap (x1)) (IntKind.u64.wrap (t129))).bind fun t130 => (spec_Natural.l0 k x0 x1 t130 (wrap64 (x6 + 1))))) else (none)) else (some x5)
def spec_Natural.f (k : Nat) (a0 : ByteArray) (a1 : Int) : Option (List Int) := spec_Natural.l0 k a0 a1 ([] : List Int) 0
theorem spec_Natural.mono_l : ∀ k, (∀ y0 y1 y2 y3, LeO (spec_Natural.l0 k y0 y1 y2 y3) (spec_Natural.l0 (k + 1) y0 y1 y2 y3))
  | 0 => fun _ _ _ _ r h => by simp [spec_Natural.l0] at h
  | k + 1 => by
    have ih0 := spec_Natural.mono_l k
    · intro y0 y1 y2 y3
      unfold spec_Natural.l0
      repeat' first
      | (with_reducible exact ih0 _ _ _ _)
      | (with_reducible exact spec_natTimes.mono _ _ _ _)
      | (with_reducible exact LeO.refl _)
      | (with_reducible exact LeO.none _)
      | (with_reducible refine LeO.ite ?_ ?_)
      | (with_reducible refine LeO.bind ?_ (fun _ => ?_))
      | exact ih0 _ _ _ _
      | exact spec_natTimes.mono _ _ _ _
      | exact LeO.none _
      | refine LeO.ite ?_ ?_
      | refine LeO.bind ?_ (fun _ => ?_)
theorem spec_Natural.mono : ∀ a0 a1 k, LeO (spec_Natural.f k a0 a1) (spec_Natural.f (k + 1) a0 a1) := by
  intro a0 a1 k
  have ih0 := spec_Natural.mono_l k
  unfold spec_Natural.f
  repeat' first
      | (with_reducible exact ih0 _ _ _ _)
      | (with_reducible exact spec_natTimes.mono _ _ _ _)
      | (with_reducible exact LeO.refl _)
      | (with_reducible exact LeO.none _)
      | (with_reducible refine LeO.ite ?_ ?_)
      | (with_reducible refine LeO.bind ?_ (fun _ => ?_))
      | exact ih0 _ _ _ _
      | exact spec_natTimes.mono _ _ _ _
      | exact LeO.none _
      | refine LeO.ite ?_ ?_
      | refine LeO.bind ?_ (fun _ => ?_)
set_option maxHeartbeats 8000000 in
set_option maxRecDepth 100000 in
theorem spec_Natural.calls (k : Nat) (a0 : ByteArray) (a1 : Int) (r : List Int) (w : World) (h : spec_Natural.f k a0 a1 = some r) :
    Calls Tryz.prog 73 #[.string a0, .int .i64 a1] w fun e w' => ∃ v0_ : Value, e = .returned (v0_) ∧ Kd.R (Kd.int .u64) 78 w' w.heap.size (fun _ => True) v0_ r ∧ Below w.heap.size w w' := by
  have HB := Aside0.mk (Below.refl w.heap.size w)
  have H : (spec_Natural.l0 k a0 a1 ([] : List Int) 0) = some r := h
  clear h
  have H' := Aside0.mk H
  clear H
  go_enter Tryz.func73, Tryz.ntmps73
  go_wp2
  go_loopg [5, 6] k (fun kq v5 v6 w' => ∃ (x5_1 : List Int) (x6_1 : Int), v6 = .int .i64 x6_1 ∧ Aside0 (spec_Natural.l0 kq a0 a1 x5_1 x6_1 = some r) ∧ Aside0 (kq ≤ k) ∧ Aside0 (Kd.R (Kd.int .u64) 78 w' w.heap.size (fun _ => True) v5 x5_1) ∧ Aside0 (Below w.heap.size w w'))
  case atStart => exact ⟨(([] : List Int)), (0), (by first | rfl | (simp; done) | (simp [*]; done)), H', ⟨Nat.le_refl _⟩, ⟨by first | exact Kd.R_nil _ _ _ _ _ | exact Kd.N_nil _ _ _ _ _ | exact Kd.V_nil _ _ _ _ _ | exact Kd.Q_nil _ _ _ _ _ | exact Kd.S_nil _ _ _ _ _⟩, ⟨by repeat (first | (with_reducible first | exact HB.out | apply below_alloc | apply pw_below_drewN | apply below_drew1) | exact HB.out)⟩⟩
  case round =>
    clear H'
    try clear p2
    obtain ⟨x5_1, x6_1, rfl, HA, HK1, HO_5, HB⟩ := hrel
    cases gk with
    | zero => exact absurd HA.out (by simp [spec_Natural.l0])
    | succ k1 =>
      have H := HA.out
      clear HA
      simp only [spec_Natural.l0] at H
      by_cases c3 : x6_1 < (a0.size : Int)
      · rw [if_pos c3] at H
        have c3b0 : decide (x6_1 < (a0.size : Int)) = true := decide_eq_true c3
        clear c3
        by_cases c4 : 0 ≤ x6_1
        · rw [if_pos c4] at H
          have c4b0 : decide (0 ≤ x6_1) = true := decide_eq_true c4
          clear c4
          replace H := Option.bind_eq_some_iff.mp H
          obtain ⟨t129, A60, H⟩ := H
          replace H : ((spec_natTimes.f k1 x5_1 (IntKind.u64.wrap (a1)) (IntKind.u64.wrap (t129))).bind fun t130 => (spec_Natural.l0 k1 a0 a1 t130 (wrap64 (x6_1 + 1)))) = some r := H
          have A6 := Aside0.mk A60
          clear A60
          replace H := Option.bind_eq_some_iff.mp H
          obtain ⟨t130, A70, H⟩ := H
          replace H : (spec_Natural.l0 k1 a0 a1 t130 (wrap64 (x6_1 + 1))) = some r := H
          have A7 := Aside0.mk A70
          clear A70
          have H' := Aside0.mk H
          clear H
          have p5 : 0 ≤ (x6_1 : Int) := of_decide_eq_true (by first | (with_reducible assumption) | assumption)
          have q5 : x6_1 < (a0.size : Int) := of_decide_eq_true (by first | (with_reducible assumption) | assumption)
          have hx5 := bt_at a0 x6_1
          replace p5 := eq_true p5
          replace q5 := eq_true q5
          go_wp2_with (first | ((with_reducible refine gate_callee (f := 84) rfl ?_); refine goesL_ (some 20) rfl rfl Tryz.func84 (by kernel_rfl) rfl #[.int .i64 (wrap64 (bt a0 x6_1))] rfl (by (try simp only [List.map_toArray, List.map_cons, List.map_nil]); first | done | rfl | (simp only [List.length_drop, List.length_take]; rfl)) ?_; (with_reducible refine (spec_Hex.calls (wrap64 (bt a0 x6_1)) t129 _ A6.out).mono ?_); rintro e w' ⟨rfl, ⟨nd, rfl⟩⟩; refine ⟨_, rfl, ?_⟩; obtain ⟨Ao8, co8, eo8⟩ := Kd.R_slice HO_5.out; subst eo8) | ((with_reducible refine gate_callee (f := 85) rfl ?_); refine goesL_ (some 22) rfl rfl Tryz.func85 (by kernel_rfl) rfl #[.slice Ao8 x5_1.length co8, .int .u64 (IntKind.u64.wrap (a1)), .int .u64 (IntKind.u64.wrap (t129))] rfl (by (try simp only [List.map_toArray, List.map_cons, List.map_nil]); first | done | rfl | (simp only [List.length_drop, List.length_take]; rfl)) ?_; (with_reducible refine (spec_natTimes.calls k1 _ _ x5_1 (IntKind.u64.wrap (a1)) (IntKind.u64.wrap (t129)) t130 _ ?side1 ?side2 A7.out).mono ?_); (case side1 => repeat (first | exact (Kd.R_reads' HO_5.out).2.2 | (with_reducible refine Kd.C_alloc ?_ _) | (with_reducible refine Kd.C_drewN ?_ _) | (with_reducible refine Kd.C_drew ?_))); (case side2 => exact (Kd.R_reads' HO_5.out).2.1); rintro e w9 ⟨v131, rfl, ho0, hb⟩; refine ⟨_, rfl, ?_⟩; have n0_ := Aside0.mk (Kd.R_elder' (by (with_reducible repeat (first | apply Kd.R_alloc | apply Kd.R_drewN | apply Kd.R_drew)); exact HO_5.out) (Kd.R_base ho0) hb); have n1_ := Aside0.mk (Kd.R_lower (Kd.R_new' ho0 (Kd.R_lt (by (with_reducible repeat (first | apply Kd.R_alloc | apply Kd.R_drewN | apply Kd.R_drew)); exact HO_5.out))) (below_size (by repeat (first | (with_reducible first | exact HB.out | apply below_alloc | apply pw_below_drewN | apply below_drew1) | exact HB.out)))); have n2_ := Aside0.mk (below_step (by repeat (first | (with_reducible first | exact HB.out | apply below_alloc | apply pw_below_drewN | apply below_drew1) | exact HB.out)) hb); clear HO_5; clear HB; have HO_5 := n0_; have HO132 := n1_; have HB := n2_; clear n0_ n1_ n2_; (try clear hb); (try clear hb2); (try clear hk); (try clear hi); (try clear ho0)))
          go_roundg k1
          case measure => have := HK1.out; omega
          case rel => exact ⟨(t130), (wrap64 (x6_1 + 1)), (by first | rfl | (simp; done) | (simp [*]; done)), H', ⟨by have := HK1.out; omega⟩, ⟨by (with_reducible repeat (first | apply Kd.R_alloc | apply Kd.R_drewN | apply Kd.R_drew)); exact Kd.R_mono HO132.out (fun _ hk => trivial)⟩, ⟨by repeat (first | (with_reducible first | exact HB.out | apply below_alloc | apply pw_below_drewN | apply below_drew1) | exact HB.out)⟩⟩
        · rw [if_neg c4] at H
          exact absurd H (by simp)
      · rw [if_neg c3] at H
        have c3b0 : decide (x6_1 < (a0.size : Int)) = false := decide_eq_false c3
        clear c3
        obtain rfl := Option.some.inj H
        go_wp2
        go_ret
        exact ⟨_, by first | rfl | (simp [errW_none, errW_some] <;> rfl) | (simp [*, errW_none, errW_some] <;> rfl), by (with_reducible repeat (first | apply Kd.R_alloc | apply Kd.R_drewN | apply Kd.R_drew)); exact HO_5.out, by repeat (first | (with_reducible first | exact HB.out | apply below_alloc | apply pw_below_drewN | apply below_drew1) | exact HB.out)⟩

/-! ### spec_NumBig: function 46 -/
def spec_NumBig.f (k : Nat) (a0 : ByteArray) : Option (List Int × Bool) := (spec_numBase.f k a0).bind fun t133 => (if t133 > 0 then ((spec_numRun.f k a0 2 t133).bind fun t134 => (if 2 ≤ (a0.size : Int) then ((spec_Natural.f k (a0.extract 2 a0.size) t133).bind fun t135 => (if t134 > 0 then (some (t135, ((wrap64 (2 + t134)) == (a0.size : Int)))) else (some (t135, false)))) else (none))) else ((spec_numRun.f k a0 0 10).bind fun t138 => (if t138 = 0 then (some (([] : List Int), false)) else (if t138 = (a0.size : Int) then (if t138 > 1 then (if 0 < (a0.size : Int) then (if (bt a0 0) = 48 then (some (([] : List Int), false)) else ((spec_Natural.f k a0 10).bind fun t139 => (some (t139, true)))) else (none)) else ((spec_Natural.f k a0 10).bind fun t142 => (some (t142, true)))) else (some (([] : List Int), false))))))
theorem spec_NumBig.mono : ∀ a0 k, LeO (spec_NumBig.f k a0) (spec_NumBig.f (k + 1) a0) := by
  intro a0 k
  unfold spec_NumBig.f
  repeat' first
      | (with_reducible exact spec_Natural.mono _ _ _)
      | (with_reducible exact spec_numBase.mono _ _)
      | (with_reducible exact spec_numRun.mono _ _ _ _)
      | (with_reducible exact LeO.refl _)
      | (with_reducible exact LeO.none _)
      | (with_reducible refine LeO.ite ?_ ?_)
      | (with_reducible refine LeO.bind ?_ (fun _ => ?_))
      | exact spec_Natural.mono _ _ _
      | exact spec_numBase.mono _ _
      | exact spec_numRun.mono _ _ _ _
      | exact LeO.none _
      | refine LeO.ite ?_ ?_
      | refine LeO.bind ?_ (fun _ => ?_)
set_option maxHeartbeats 8000000 in
set_option maxRecDepth 100000 in
theorem spec_NumBig.calls (k : Nat) (a0 : ByteArray) (r1 : List Int) (r2 : Bool) (w : World) (h : spec_NumBig.f k a0 = some (r1, r2)) :
    Calls Tryz.prog 46 #[.string a0] w fun e w' => ∃ v0_ : Value, e = .returned (.tuple #[v0_, .bool r2]) ∧ Kd.R (Kd.int .u64) 78 w' w.heap.size (fun _ => True) v0_ r1 ∧ Below w.heap.size w w' := by
  have HB := Aside0.mk (Below.refl w.heap.size w)
  have H : ((spec_numBase.f k a0).bind fun t133 => (if t133 > 0 then ((spec_numRun.f k a0 2 t133).bind fun t134 => (if 2 ≤ (a0.size : Int) then ((spec_Natural.f k (a0.extract 2 a0.size) t133).bind fun t135 => (if t134 > 0 then (some (t135, ((wrap64 (2 + t134)) == (a0.size : Int)))) else (some (t135, false)))) else (none))) else ((spec_numRun.f k a0 0 10).bind fun t138 => (if t138 = 0 then (some (([] : List Int), false)) else (if t138 = (a0.size : Int) then (if t138 > 1 then (if 0 < (a0.size : Int) then (if (bt a0 0) = 48 then (some (([] : List Int), false)) else ((spec_Natural.f k a0 10).bind fun t139 => (some (t139, true)))) else (none)) else ((spec_Natural.f k a0 10).bind fun t142 => (some (t142, true)))) else (some (([] : List Int), false))))))) = some (r1, r2) := h
  clear h
  replace H := Option.bind_eq_some_iff.mp H
  obtain ⟨t133, A20, H⟩ := H
  replace H : (if t133 > 0 then ((spec_numRun.f k a0 2 t133).bind fun t134 => (if 2 ≤ (a0.size : Int) then ((spec_Natural.f k (a0.extract 2 a0.size) t133).bind fun t135 => (if t134 > 0 then (some (t135, ((wrap64 (2 + t134)) == (a0.size : Int)))) else (some (t135, false)))) else (none))) else ((spec_numRun.f k a0 0 10).bind fun t138 => (if t138 = 0 then (some (([] : List Int), false)) else (if t138 = (a0.size : Int) then (if t138 > 1 then (if 0 < (a0.size : Int) then (if (bt a0 0) = 48 then (some (([] : List Int), false)) else ((spec_Natural.f k a0 10).bind fun t139 => (some (t139, true)))) else (none)) else ((spec_Natural.f k a0 10).bind fun t142 => (some (t142, true)))) else (some (([] : List Int), false)))))) = some (r1, r2) := H
  have A2 := Aside0.mk A20
  clear A20
  by_cases c3 : t133 > 0
  · rw [if_pos c3] at H
    have c3b0 : decide (0 < t133) = true := decide_eq_true c3
    clear c3
    replace H := Option.bind_eq_some_iff.mp H
    obtain ⟨t134, A40, H⟩ := H
    replace H : (if 2 ≤ (a0.size : Int) then ((spec_Natural.f k (a0.extract 2 a0.size) t133).bind fun t135 => (if t134 > 0 then (some (t135, ((wrap64 (2 + t134)) == (a0.size : Int)))) else (some (t135, false)))) else (none)) = some (r1, r2) := H
    have A4 := Aside0.mk A40
    clear A40
    by_cases c5 : 2 ≤ (a0.size : Int)
    · rw [if_pos c5] at H
      have c5b0 := eq_true c5
      have c5b1 : decide (2 ≤ (a0.size : Int)) = true := decide_eq_true c5
      clear c5
      replace H := Option.bind_eq_some_iff.mp H
      obtain ⟨t135, A60, H⟩ := H
      replace H : (if t134 > 0 then (some (t135, ((wrap64 (2 + t134)) == (a0.size : Int)))) else (some (t135, false))) = some (r1, r2) := H
      have A6 := Aside0.mk A60
      clear A60
      by_cases c7 : t134 > 0
      · rw [if_pos c7] at H
        have c7b0 : decide (0 < t134) = true := decide_eq_true c7
        clear c7
        simp only [Option.some.injEq, Prod.mk.injEq] at H
        obtain ⟨rfl, rfl⟩ := H
        go_enter Tryz.func46, Tryz.ntmps46
        go_wp2_with (first | ((with_reducible refine gate_callee (f := 71) rfl ?_); refine goesL_ (some 8) rfl rfl Tryz.func71 (by kernel_rfl) rfl #[.string a0] rfl (by (try simp only [List.map_toArray, List.map_cons, List.map_nil]); first | done | rfl | (simp only [List.length_drop, List.length_take]; rfl)) ?_; (with_reducible refine (spec_numBase.calls k a0 t133 _ A2.out).mono ?_); rintro e w' ⟨rfl, ⟨nd, rfl⟩⟩; refine ⟨_, rfl, ?_⟩) | ((with_reducible refine gate_callee (f := 72) rfl ?_); refine goesL_ (some 13) rfl rfl Tryz.func72 (by kernel_rfl) rfl #[.string a0, .int .i64 2, .int .i64 t133] rfl (by (try simp only [List.map_toArray, List.map_cons, List.map_nil]); first | done | rfl | (simp only [List.length_drop, List.length_take]; rfl)) ?_; (with_reducible refine (spec_numRun.calls k a0 2 t133 t134 _ A4.out).mono ?_); rintro e w' ⟨rfl, ⟨nd, rfl⟩⟩; refine ⟨_, rfl, ?_⟩) | ((with_reducible refine gate_callee (f := 73) rfl ?_); refine goesL_ (some 17) rfl rfl Tryz.func73 (by kernel_rfl) rfl #[.string (a0.extract 2 a0.size), .int .i64 t133] rfl (by (try simp only [List.map_toArray, List.map_cons, List.map_nil]); first | done | rfl | (simp only [List.length_drop, List.length_take]; rfl)) ?_; (with_reducible refine (spec_Natural.calls k (a0.extract 2 a0.size) t133 t135 _ A6.out).mono ?_); rintro e w8 ⟨v136, rfl, ho0, hb⟩; refine ⟨_, rfl, ?_⟩; have n0_ := Aside0.mk (Kd.R_lower ho0 (below_size (by repeat (first | (with_reducible first | exact HB.out | apply below_alloc | apply pw_below_drewN | apply below_drew1) | exact HB.out)))); have n1_ := Aside0.mk (below_step (by repeat (first | (with_reducible first | exact HB.out | apply below_alloc | apply pw_below_drewN | apply below_drew1) | exact HB.out)) hb); clear HB; have HO137 := n0_; have HB := n1_; clear n0_ n1_; (try clear hb); (try clear hb2); (try clear hk); (try clear hi); (try clear ho0)))
        go_ret2
        exact ⟨_, by first | rfl | (simp [errW_none, errW_some] <;> rfl) | (simp [*, errW_none, errW_some] <;> rfl), by (with_reducible repeat (first | apply Kd.R_alloc | apply Kd.R_drewN | apply Kd.R_drew)); exact HO137.out, by repeat (first | (with_reducible first | exact HB.out | apply below_alloc | apply pw_below_drewN | apply below_drew1) | exact HB.out)⟩
      · rw [if_neg c7] at H
        have c7b0 : decide (0 < t134) = false := decide_eq_false c7
        clear c7
        simp only [Option.some.injEq, Prod.mk.injEq] at H
        obtain ⟨rfl, rfl⟩ := H
        go_enter Tryz.func46, Tryz.ntmps46
        go_wp2_with (first | ((with_reducible refine gate_callee (f := 71) rfl ?_); refine goesL_ (some 8) rfl rfl Tryz.func71 (by kernel_rfl) rfl #[.string a0] rfl (by (try simp only [List.map_toArray, List.map_cons, List.map_nil]); first | done | rfl | (simp only [List.length_drop, List.length_take]; rfl)) ?_; (with_reducible refine (spec_numBase.calls k a0 t133 _ A2.out).mono ?_); rintro e w' ⟨rfl, ⟨nd, rfl⟩⟩; refine ⟨_, rfl, ?_⟩) | ((with_reducible refine gate_callee (f := 72) rfl ?_); refine goesL_ (some 13) rfl rfl Tryz.func72 (by kernel_rfl) rfl #[.string a0, .int .i64 2, .int .i64 t133] rfl (by (try simp only [List.map_toArray, List.map_cons, List.map_nil]); first | done | rfl | (simp only [List.length_drop, List.length_take]; rfl)) ?_; (with_reducible refine (spec_numRun.calls k a0 2 t133 t134 _ A4.out).mono ?_); rintro e w' ⟨rfl, ⟨nd, rfl⟩⟩; refine ⟨_, rfl, ?_⟩) | ((with_reducible refine gate_callee (f := 73) rfl ?_); refine goesL_ (some 17) rfl rfl Tryz.func73 (by kernel_rfl) rfl #[.string (a0.extract 2 a0.size), .int .i64 t133] rfl (by (try simp only [List.map_toArray, List.map_cons, List.map_nil]); first | done | rfl | (simp only [List.length_drop, List.length_take]; rfl)) ?_; (with_reducible refine (spec_Natural.calls k (a0.extract 2 a0.size) t133 t135 _ A6.out).mono ?_); rintro e w9 ⟨v136, rfl, ho0, hb⟩; refine ⟨_, rfl, ?_⟩; have n0_ := Aside0.mk (Kd.R_lower ho0 (below_size (by repeat (first | (with_reducible first | exact HB.out | apply below_alloc | apply pw_below_drewN | apply below_drew1) | exact HB.out)))); have n1_ := Aside0.mk (below_step (by repeat (first | (with_reducible first | exact HB.out | apply below_alloc | apply pw_below_drewN | apply below_drew1) | exact HB.out)) hb); clear HB; have HO137 := n0_; have HB := n1_; clear n0_ n1_; (try clear hb); (try clear hb2); (try clear hk); (try clear hi); (try clear ho0)))
        go_ret2
        exact ⟨_, by first | rfl | (simp [errW_none, errW_some] <;> rfl) | (simp [*, errW_none, errW_some] <;> rfl), by (with_reducible repeat (first | apply Kd.R_alloc | apply Kd.R_drewN | apply Kd.R_drew)); exact HO137.out, by repeat (first | (with_reducible first | exact HB.out | apply below_alloc | apply pw_below_drewN | apply below_drew1) | exact HB.out)⟩
    · rw [if_neg c5] at H
      exact absurd H (by simp)
  · rw [if_neg c3] at H
    have c3b0 : decide (0 < t133) = false := decide_eq_false c3
    clear c3
    replace H := Option.bind_eq_some_iff.mp H
    obtain ⟨t138, A100, H⟩ := H
    replace H : (if t138 = 0 then (some (([] : List Int), false)) else (if t138 = (a0.size : Int) then (if t138 > 1 then (if 0 < (a0.size : Int) then (if (bt a0 0) = 48 then (some (([] : List Int), false)) else ((spec_Natural.f k a0 10).bind fun t139 => (some (t139, true)))) else (none)) else ((spec_Natural.f k a0 10).bind fun t142 => (some (t142, true)))) else (some (([] : List Int), false)))) = some (r1, r2) := H
    have A10 := Aside0.mk A100
    clear A100
    by_cases c11 : t138 = 0
    · rw [if_pos c11] at H
      have c11b0 : (t138 == 0) = true := beq_iff_eq.mpr c11
      have c11b1 : (t138 != 0) = false := bne_eq_false_iff_eq.mpr c11
      clear c11
      simp only [Option.some.injEq, Prod.mk.injEq] at H
      obtain ⟨rfl, rfl⟩ := H
      go_enter Tryz.func46, Tryz.ntmps46
      go_wp2_with (first | ((with_reducible refine gate_callee (f := 71) rfl ?_); refine goesL_ (some 8) rfl rfl Tryz.func71 (by kernel_rfl) rfl #[.string a0] rfl (by (try simp only [List.map_toArray, List.map_cons, List.map_nil]); first | done | rfl | (simp only [List.length_drop, List.length_take]; rfl)) ?_; (with_reducible refine (spec_numBase.calls k a0 t133 _ A2.out).mono ?_); rintro e w' ⟨rfl, ⟨nd, rfl⟩⟩; refine ⟨_, rfl, ?_⟩) | ((with_reducible refine gate_callee (f := 72) rfl ?_); refine goesL_ (some 28) rfl rfl Tryz.func72 (by kernel_rfl) rfl #[.string a0, .int .i64 0, .int .i64 10] rfl (by (try simp only [List.map_toArray, List.map_cons, List.map_nil]); first | done | rfl | (simp only [List.length_drop, List.length_take]; rfl)) ?_; (with_reducible refine (spec_numRun.calls k a0 0 10 t138 _ A10.out).mono ?_); rintro e w' ⟨rfl, ⟨nd, rfl⟩⟩; refine ⟨_, rfl, ?_⟩))
      go_ret2
      exact ⟨_, by first | rfl | (simp [errW_none, errW_some] <;> rfl) | (simp [*, errW_none, errW_some] <;> rfl), by first | exact Kd.R_nil _ _ _ _ _ | exact Kd.N_nil _ _ _ _ _ | exact Kd.V_nil _ _ _ _ _ | exact Kd.Q_nil _ _ _ _ _ | exact Kd.S_nil _ _ _ _ _, by repeat (first | (with_reducible first | exact HB.out | apply below_alloc | apply pw_below_drewN | apply below_drew1) | exact HB.out)⟩
    · rw [if_neg c11] at H
      have c11b0 : (t138 == 0) = false := beq_eq_false_iff_ne.mpr c11
      have c11b1 : (t138 != 0) = true := bne_iff_ne.mpr c11
      by_cases c12 : t138 = (a0.size : Int)
      · rw [if_pos c12] at H
        have c12b0 : (t138 == (a0.size : Int)) = true := beq_iff_eq.mpr c12
        have c12b1 : (t138 != (a0.size : Int)) = false := bne_eq_false_iff_eq.mpr c12
        clear c12
        by_cases c13 : t138 > 1
        · rw [if_pos c13] at H
          have c13b0 : decide (1 < t138) = true := decide_eq_true c13
          clear c13
          by_cases c14 : 0 < (a0.size : Int)
          · rw [if_pos c14] at H
            have c14b0 : decide (0 < (a0.size : Int)) = true := decide_eq_true c14
            have c14b1 : decide (0 < a0.size) = true := decide_eq_true (by omega)
            clear c14
            by_cases c16 : (bt a0 0) = 48
            · rw [if_pos c16] at H
              have c16b0 : ((bt a0 0) == 48) = true := beq_iff_eq.mpr c16
              have c16b1 : ((bt a0 0) != 48) = false := bne_eq_false_iff_eq.mpr c16
              clear c16
              simp only [Option.some.injEq, Prod.mk.injEq] at H
              obtain ⟨rfl, rfl⟩ := H
              go_enter Tryz.func46, Tryz.ntmps46
              go_wp2_with (first | ((with_reducible refine gate_callee (f := 71) rfl ?_); refine goesL_ (some 8) rfl rfl Tryz.func71 (by kernel_rfl) rfl #[.string a0] rfl (by (try simp only [List.map_toArray, List.map_cons, List.map_nil]); first | done | rfl | (simp only [List.length_drop, List.length_take]; rfl)) ?_; (with_reducible refine (spec_numBase.calls k a0 t133 _ A2.out).mono ?_); rintro e w' ⟨rfl, ⟨nd, rfl⟩⟩; refine ⟨_, rfl, ?_⟩) | ((with_reducible refine gate_callee (f := 72) rfl ?_); refine goesL_ (some 28) rfl rfl Tryz.func72 (by kernel_rfl) rfl #[.string a0, .int .i64 0, .int .i64 10] rfl (by (try simp only [List.map_toArray, List.map_cons, List.map_nil]); first | done | rfl | (simp only [List.length_drop, List.length_take]; rfl)) ?_; (with_reducible refine (spec_numRun.calls k a0 0 10 t138 _ A10.out).mono ?_); rintro e w' ⟨rfl, ⟨nd, rfl⟩⟩; refine ⟨_, rfl, ?_⟩; have p15 : 0 ≤ (0 : Int) := (by omega); have q15 : 0 < a0.size := (by have : (0 : Int) < (a0.size : Int) := of_decide_eq_true (by first | (with_reducible assumption) | assumption); omega); have hx15 : ∀ h : 0 < a0.size, ((a0[0]'h).toNat : Int) = bt a0 0 := bt_at a0 0; clear p15; have qi15 : (0 < (a0.size : Int)) = True := eq_true (of_decide_eq_true (by first | (with_reducible assumption) | assumption)); replace q15 := eq_true q15))
              go_ret2
              exact ⟨_, by first | rfl | (simp [errW_none, errW_some] <;> rfl) | (simp [*, errW_none, errW_some] <;> rfl), by first | exact Kd.R_nil _ _ _ _ _ | exact Kd.N_nil _ _ _ _ _ | exact Kd.V_nil _ _ _ _ _ | exact Kd.Q_nil _ _ _ _ _ | exact Kd.S_nil _ _ _ _ _, by repeat (first | (with_reducible first | exact HB.out | apply below_alloc | apply pw_below_drewN | apply below_drew1) | exact HB.out)⟩
            · rw [if_neg c16] at H
              have c16b0 : ((bt a0 0) == 48) = false := beq_eq_false_iff_ne.mpr c16
              have c16b1 : ((bt a0 0) != 48) = true := bne_iff_ne.mpr c16
              replace H := Option.bind_eq_some_iff.mp H
              obtain ⟨t139, A170, H⟩ := H
              replace H : (some (t139, true)) = some (r1, r2) := H
              have A17 := Aside0.mk A170
              clear A170
              simp only [Option.some.injEq, Prod.mk.injEq] at H
              obtain ⟨rfl, rfl⟩ := H
              go_enter Tryz.func46, Tryz.ntmps46
              go_wp2_with (first | ((with_reducible refine gate_callee (f := 71) rfl ?_); refine goesL_ (some 8) rfl rfl Tryz.func71 (by kernel_rfl) rfl #[.string a0] rfl (by (try simp only [List.map_toArray, List.map_cons, List.map_nil]); first | done | rfl | (simp only [List.length_drop, List.length_take]; rfl)) ?_; (with_reducible refine (spec_numBase.calls k a0 t133 _ A2.out).mono ?_); rintro e w' ⟨rfl, ⟨nd, rfl⟩⟩; refine ⟨_, rfl, ?_⟩) | ((with_reducible refine gate_callee (f := 72) rfl ?_); refine goesL_ (some 28) rfl rfl Tryz.func72 (by kernel_rfl) rfl #[.string a0, .int .i64 0, .int .i64 10] rfl (by (try simp only [List.map_toArray, List.map_cons, List.map_nil]); first | done | rfl | (simp only [List.length_drop, List.length_take]; rfl)) ?_; (with_reducible refine (spec_numRun.calls k a0 0 10 t138 _ A10.out).mono ?_); rintro e w' ⟨rfl, ⟨nd, rfl⟩⟩; refine ⟨_, rfl, ?_⟩; have p15 : 0 ≤ (0 : Int) := (by omega); have q15 : 0 < a0.size := (by have : (0 : Int) < (a0.size : Int) := of_decide_eq_true (by first | (with_reducible assumption) | assumption); omega); have hx15 : ∀ h : 0 < a0.size, ((a0[0]'h).toNat : Int) = bt a0 0 := bt_at a0 0; clear p15; have qi15 : (0 < (a0.size : Int)) = True := eq_true (of_decide_eq_true (by first | (with_reducible assumption) | assumption)); replace q15 := eq_true q15) | ((with_reducible refine gate_callee (f := 73) rfl ?_); refine goesL_ (some 47) rfl rfl Tryz.func73 (by kernel_rfl) rfl #[.string a0, .int .i64 10] rfl (by (try simp only [List.map_toArray, List.map_cons, List.map_nil]); first | done | rfl | (simp only [List.length_drop, List.length_take]; rfl)) ?_; (with_reducible refine (spec_Natural.calls k a0 10 t139 _ A17.out).mono ?_); rintro e w18 ⟨v140, rfl, ho0, hb⟩; refine ⟨_, rfl, ?_⟩; have n0_ := Aside0.mk (Kd.R_lower ho0 (below_size (by repeat (first | (with_reducible first | exact HB.out | apply below_alloc | apply pw_below_drewN | apply below_drew1) | exact HB.out)))); have n1_ := Aside0.mk (below_step (by repeat (first | (with_reducible first | exact HB.out | apply below_alloc | apply pw_below_drewN | apply below_drew1) | exact HB.out)) hb); clear HB; have HO141 := n0_; have HB := n1_; clear n0_ n1_; (try clear hb); (try clear hb2); (try clear hk); (try clear hi); (try clear ho0)))
              go_ret2
              exact ⟨_, by first | rfl | (simp [errW_none, errW_some] <;> rfl) | (simp [*, errW_none, errW_some] <;> rfl), by (with_reducible repeat (first | apply Kd.R_alloc | apply Kd.R_drewN | apply Kd.R_drew)); exact HO141.out, by repeat (first | (with_reducible first | exact HB.out | apply below_alloc | apply pw_below_drewN | apply below_drew1) | exact HB.out)⟩
          · rw [if_neg c14] at H
            exact absurd H (by simp)
        · rw [if_neg c13] at H
          have c13b0 : decide (1 < t138) = false := decide_eq_false c13
          clear c13
          replace H := Option.bind_eq_some_iff.mp H
          obtain ⟨t142, A190, H⟩ := H
          replace H : (some (t142, true)) = some (r1, r2) := H
          have A19 := Aside0.mk A190
          clear A190
          simp only [Option.some.injEq, Prod.mk.injEq] at H
          obtain ⟨rfl, rfl⟩ := H
          go_enter Tryz.func46, Tryz.ntmps46
          go_wp2_with (first | ((with_reducible refine gate_callee (f := 71) rfl ?_); refine goesL_ (some 8) rfl rfl Tryz.func71 (by kernel_rfl) rfl #[.string a0] rfl (by (try simp only [List.map_toArray, List.map_cons, List.map_nil]); first | done | rfl | (simp only [List.length_drop, List.length_take]; rfl)) ?_; (with_reducible refine (spec_numBase.calls k a0 t133 _ A2.out).mono ?_); rintro e w' ⟨rfl, ⟨nd, rfl⟩⟩; refine ⟨_, rfl, ?_⟩) | ((with_reducible refine gate_callee (f := 72) rfl ?_); refine goesL_ (some 28) rfl rfl Tryz.func72 (by kernel_rfl) rfl #[.string a0, .int .i64 0, .int .i64 10] rfl (by (try simp only [List.map_toArray, List.map_cons, List.map_nil]); first | done | rfl | (simp only [List.length_drop, List.length_take]; rfl)) ?_; (with_reducible refine (spec_numRun.calls k a0 0 10 t138 _ A10.out).mono ?_); rintro e w' ⟨rfl, ⟨nd, rfl⟩⟩; refine ⟨_, rfl, ?_⟩) | ((with_reducible refine gate_callee (f := 73) rfl ?_); refine goesL_ (some 47) rfl rfl Tryz.func73 (by kernel_rfl) rfl #[.string a0, .int .i64 10] rfl (by (try simp only [List.map_toArray, List.map_cons, List.map_nil]); first | done | rfl | (simp only [List.length_drop, List.length_take]; rfl)) ?_; (with_reducible refine (spec_Natural.calls k a0 10 t142 _ A19.out).mono ?_); rintro e w20 ⟨v143, rfl, ho0, hb⟩; refine ⟨_, rfl, ?_⟩; have n0_ := Aside0.mk (Kd.R_lower ho0 (below_size (by repeat (first | (with_reducible first | exact HB.out | apply below_alloc | apply pw_below_drewN | apply below_drew1) | exact HB.out)))); have n1_ := Aside0.mk (below_step (by repeat (first | (with_reducible first | exact HB.out | apply below_alloc | apply pw_below_drewN | apply below_drew1) | exact HB.out)) hb); clear HB; have HO144 := n0_; have HB := n1_; clear n0_ n1_; (try clear hb); (try clear hb2); (try clear hk); (try clear hi); (try clear ho0)))
          go_ret2
          exact ⟨_, by first | rfl | (simp [errW_none, errW_some] <;> rfl) | (simp [*, errW_none, errW_some] <;> rfl), by (with_reducible repeat (first | apply Kd.R_alloc | apply Kd.R_drewN | apply Kd.R_drew)); exact HO144.out, by repeat (first | (with_reducible first | exact HB.out | apply below_alloc | apply pw_below_drewN | apply below_drew1) | exact HB.out)⟩
      · rw [if_neg c12] at H
        have c12b0 : (t138 == (a0.size : Int)) = false := beq_eq_false_iff_ne.mpr c12
        have c12b1 : (t138 != (a0.size : Int)) = true := bne_iff_ne.mpr c12
        simp only [Option.some.injEq, Prod.mk.injEq] at H
        obtain ⟨rfl, rfl⟩ := H
        go_enter Tryz.func46, Tryz.ntmps46
        go_wp2_with (first | ((with_reducible refine gate_callee (f := 71) rfl ?_); refine goesL_ (some 8) rfl rfl Tryz.func71 (by kernel_rfl) rfl #[.string a0] rfl (by (try simp only [List.map_toArray, List.map_cons, List.map_nil]); first | done | rfl | (simp only [List.length_drop, List.length_take]; rfl)) ?_; (with_reducible refine (spec_numBase.calls k a0 t133 _ A2.out).mono ?_); rintro e w' ⟨rfl, ⟨nd, rfl⟩⟩; refine ⟨_, rfl, ?_⟩) | ((with_reducible refine gate_callee (f := 72) rfl ?_); refine goesL_ (some 28) rfl rfl Tryz.func72 (by kernel_rfl) rfl #[.string a0, .int .i64 0, .int .i64 10] rfl (by (try simp only [List.map_toArray, List.map_cons, List.map_nil]); first | done | rfl | (simp only [List.length_drop, List.length_take]; rfl)) ?_; (with_reducible refine (spec_numRun.calls k a0 0 10 t138 _ A10.out).mono ?_); rintro e w' ⟨rfl, ⟨nd, rfl⟩⟩; refine ⟨_, rfl, ?_⟩))
        go_ret2
        exact ⟨_, by first | rfl | (simp [errW_none, errW_some] <;> rfl) | (simp [*, errW_none, errW_some] <;> rfl), by first | exact Kd.R_nil _ _ _ _ _ | exact Kd.N_nil _ _ _ _ _ | exact Kd.V_nil _ _ _ _ _ | exact Kd.Q_nil _ _ _ _ _ | exact Kd.S_nil _ _ _ _ _, by repeat (first | (with_reducible first | exact HB.out | apply below_alloc | apply pw_below_drewN | apply below_drew1) | exact HB.out)⟩

-- NOT PRINTED: function 47 (spec_unaryFlags)

-- NOT PRINTED: function 49 (spec_Assignable)

-- NOT PRINTED: function 53 (spec_accessed)

-- NOT PRINTED: function 48 (spec_unaryRight)

-- NOT PRINTED: function 51 (spec_inChain)

-- NOT PRINTED: function 50 (spec_chainRight)

-- NOT PRINTED: function 52 (spec_rawPlain)

-- NOT PRINTED: function 27 (spec_proper)

-- NOT PRINTED: function 54 (spec_meanBare)

-- NOT PRINTED: function 28 (spec_listed)

-- NOT PRINTED: function 29 (spec_keyed)

-- NOT PRINTED: function 16 (spec_meanValid)

-- NOT PRINTED: function 7 (spec_Valid)

-- NOT PRINTED: function 8 (laws_leaf)

-- NOT PRINTED: function 30 (impl_nodes)

-- NOT PRINTED: function 55 (impl_Expr_has)

-- NOT PRINTED: function 74 (impl_oneOrNone)

/-! ### impl_ref: function 57 -/
def impl_ref.f (a0 : Int) : Option (Int × Int) := some (0, (a0) % 4294967296)
set_option maxHeartbeats 8000000 in
set_option maxRecDepth 100000 in
theorem impl_ref.calls (a0 : Int) (r1 : Int) (r2 : Int) (w : World) (h : impl_ref.f a0 = some (r1, r2)) :
    Calls Tryz.prog 57 #[.int .i64 a0] w fun e w' => e = .returned (.agg #[.int .u32 r1, .int .u32 r2]) ∧ Below w.heap.size w w' := by
  have hu115 := Tryz.underlying115
  have HB := Aside0.mk (Below.refl w.heap.size w)
  have H : (some (0, (a0) % 4294967296)) = some (r1, r2) := h
  clear h
  simp only [Option.some.injEq, Prod.mk.injEq] at H
  obtain ⟨rfl, rfl⟩ := H
  go_enter Tryz.func57, Tryz.ntmps57
  go_wp2_with (first | ((with_reducible refine gate_dst (N := 2) rfl ?_); refine box_event ?hg (N := 2) ?hd (cs := #[.int .u32 0, .int .u32 0]) (t := 115) ?hr ?_; (case hd => rfl); (case hg => rfl); (case hr => first | (go_simp; done) | (go_simp; rfl)); intro gb146 hg w2 hbox hb; have n0_ := Aside0.mk (below_step (by repeat (first | (with_reducible first | exact HB.out | apply below_alloc | apply pw_below_drewN | apply below_drew1) | exact HB.out)) hb); have n1_ := Aside0.mk (hbox); have n2_ := Aside0.mk ((by rw [hg]; exact (below_size (by repeat (first | (with_reducible first | exact HB.out | apply below_alloc | apply pw_below_drewN | apply below_drew1) | exact HB.out))) : w.heap.size ≤ gb146)); have n3_ := Aside0.mk ((by rw [hg]; exact (below_size (by repeat (first | (with_reducible first | exact HB.out | apply below_alloc | apply pw_below_drewN | apply below_drew1) | exact HB.out))) : w.heap.size ≤ gb146)); clear HB; have HB := n0_; have BK146 := n1_; have GW146 := n2_; have GE146 := n3_; clear n0_ n1_ n2_ n3_; clear hb hbox hg; have hcz3_0 : w2.cell? ⟨gb146, 0, none⟩ = some (.int .u32 0) := (blk_cell BK146.out 0).trans rfl; have hcz3_1 : w2.cell? ⟨gb146, 1, none⟩ = some (.int .u32 0) := (blk_cell BK146.out 1).trans rfl; have hfz3_0 := blk_frozen BK146.out 0; have hfz3_1 := blk_frozen BK146.out 1))
  refine bodyPost_ret (results_cell_row rfl _ _ gb146 115 #[.int .u32 0, .int .u32 ((a0) % 4294967296)] (0, 0) _ rfl (by (with_reducible repeat (first | refine blk_drewN ?_ _ | refine blk_drew ?_ | refine blk_alloc ?_ _)); refine blk_put (cs := #[.int .u32 0, .int .u32 0]) ?_ 1 _ rfl; (with_reducible repeat (first | refine blk_drewN ?_ _ | refine blk_drew ?_ | refine blk_alloc ?_ _)); refine blk_put (cs := #[.int .u32 0, .int .u32 0]) ?_ 0 _ rfl; (with_reducible repeat (first | refine blk_drewN ?_ _ | refine blk_drew ?_ | refine blk_alloc ?_ _)); exact BK146.out) Tryz.underlying115 rfl (by kernel_rfl)) rfl ?_
  exact ⟨by first | rfl | (simp [errW_none, errW_some] <;> rfl) | (simp [*, errW_none, errW_some] <;> rfl), by repeat (first | (with_reducible first | exact HB.out | apply below_alloc | apply pw_below_drewN | apply below_drew1 | refine below_set ?_ GE146.out) | exact HB.out)⟩

-- NOT PRINTED: function 76 (impl_named2)

-- NOT PRINTED: function 93 (impl_simple)

-- NOT PRINTED: function 86 (impl_binding)

-- NOT PRINTED: function 77 (impl_arguments)

-- NOT PRINTED: function 58 (impl_function)

-- NOT PRINTED: function 101 (impl_decls)

-- NOT PRINTED: function 94 (impl_declared)

-- NOT PRINTED: function 102 (impl_gone)

-- NOT PRINTED: function 95 (impl_looped)

-- NOT PRINTED: function 103 (impl_tried)

-- NOT PRINTED: function 96 (impl_nested)

-- NOT PRINTED: function 87 (impl_stmt)

-- NOT PRINTED: function 78 (impl_stmts)

-- NOT PRINTED: function 75 (impl_members)

-- NOT PRINTED: function 56 (impl_class)

-- NOT PRINTED: function 59 (impl_arrow)

-- NOT PRINTED: function 31 (impl_further)

-- NOT PRINTED: function 32 (impl_leaf)

-- NOT PRINTED: function 33 (impl_branch)

-- NOT PRINTED: function 34 (impl_access)

-- NOT PRINTED: function 60 (impl_properties)

-- NOT PRINTED: function 61 (impl_pieces)

-- NOT PRINTED: function 35 (impl_whole)

-- NOT PRINTED: function 17 (impl_node)

-- NOT PRINTED: function 18 (js_ast_IsOptionalChain)

-- NOT PRINTED: function 9 (impl_IsOptionalChain)

-- NOT PRINTED: function 19 (js_ast_IsPropertyAccess)

-- NOT PRINTED: function 10 (impl_IsAccess)

-- NOT PRINTED: function 3 (laws_FnChains)

end Go.Proofs.YtacokmkbikdmmaaGreatDoor.PFnChains
