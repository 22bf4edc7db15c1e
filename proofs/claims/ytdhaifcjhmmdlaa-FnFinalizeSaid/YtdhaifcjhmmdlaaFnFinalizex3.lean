import Derived.Test.YtdhaifcjhmmdlaaPFnFinalizex0
import Derived.Test.YtdhaifcjhmmdlaaPFnFinalizex2
namespace Go.Proofs.Ytdhaifcjhmmdlaa.PFnFinalize
open Go.RowKit Go.Proofs.YtdhaifcjhmmdlaaW.PrintWords Go.Proofs.YtdhaifcjhmmdlaaW.PrintLast Go.Proofs.YtdhaifcjhmmdlaaW.PrintMore
attribute [local go_sem] max2_int min2_int max_two min_two max_three min_three max_four min_four   -- for this text's walks alone
set_option linter.unusedVariables false
set_option linter.unusedSimpArgs false

/-! ### spec_MapsFit: function 4 -/
mutual
def spec_MapsFit.l0 : Nat → List (S27) → List (S27) → Int → Int → Option (Bool)
  | 0, _, _, _, _ => none
  | k + 1, x0, x7, x8, x9 => if x9 < x8 then (if 0 ≤ x9 then (if x9 < (x7.length : Int) then ((some (([(rd_T27 x7 x9).f0, (rd_T27 x7 x9).f1, (rd_T27 x7 x9).f2, (rd_T27 x7 x9).f3, (rd_T27 x7 x9).f4, wrap64 (((rd_T27 x7 x9).f5) + 1)] : List Int) : List Int)).bind fun y111 => (spec_MapsFit.l1 k x0 x7 x8 x9 y111 (y111.length : Int) 0 ((rd_T27 x7 x9).f0) ((rd_T27 x7 x9).f1) ((rd_T27 x7 x9).f2) ((rd_T27 x7 x9).f3) ((rd_T27 x7 x9).f4) ((rd_T27 x7 x9).f5))) else (none)) else (none)) else ((spec_Ordered.f k x0).bind fun t108 => (some t108))
def spec_MapsFit.l1 : Nat → List (S27) → List (S27) → Int → Int → List Int → Int → Int → Int → Int → Int → Int → Int → Int → Option (Bool)
  | 0, _, _, _, _, _, _, _, _, _, _, _, _, _ => none
  | k + 1, x0, x7, x8, x9, x26, x27, x28, x111000, x111001, x111002, x111003, x111004, x111005 => if x28 < x27 then (if 0 ≤ x28 then (if x28 < (x26.length : Int) then (if (rd x26 x28) < 0 then (some false) else (if (rd x26 x28) > 1073741824 then (some false) else (spec_MapsFit.l1 k x0 x7 x8 x9 x26 x27 (wrap64 (x28 + 1)) x111000 x111001 x111002 x111003 x111004 x111005))) else (none)) else (none)) else (if x111000 > 1000 then (some false) else (spec_MapsFit.l0 k x0 x7 x8 (wrap64 (x9 + 1))))
end
def spec_MapsFit.f (k : Nat) (l0 : List (S27)) : Option (Bool) := spec_MapsFit.l0 k l0 l0 (l0.length : Int) 0
theorem spec_MapsFit.mono_l : ∀ k, (∀ y0 y1 y2 y3, LeO (spec_MapsFit.l0 k y0 y1 y2 y3) (spec_MapsFit.l0 (k + 1) y0 y1 y2 y3)) ∧ (∀ y0 y1 y2 y3 y4 y5 y6 y7 y8 y9 y10 y11 y12, LeO (spec_MapsFit.l1 k y0 y1 y2 y3 y4 y5 y6 y7 y8 y9 y10 y11 y12) (spec_MapsFit.l1 (k + 1) y0 y1 y2 y3 y4 y5 y6 y7 y8 y9 y10 y11 y12))
  | 0 => ⟨fun _ _ _ _ r h => by simp [spec_MapsFit.l0] at h, fun _ _ _ _ _ _ _ _ _ _ _ _ _ r h => by simp [spec_MapsFit.l1] at h⟩
  | k + 1 => by
    obtain ⟨ih0, ih1⟩ := spec_MapsFit.mono_l k
    refine ⟨?_, ?_⟩
    · intro y0 y1 y2 y3
      unfold spec_MapsFit.l0
      repeat' first
      | (with_reducible exact ih0 _ _ _ _)
      | (with_reducible exact ih1 _ _ _ _ _ _ _ _ _ _ _ _ _)
      | (with_reducible exact spec_Ordered.mono _ _)
      | (with_reducible exact LeO.refl _)
      | (with_reducible exact LeO.none _)
      | (with_reducible refine LeO.ite ?_ ?_)
      | (with_reducible refine LeO.bind ?_ (fun _ => ?_))
      | exact ih0 _ _ _ _
      | exact ih1 _ _ _ _ _ _ _ _ _ _ _ _ _
      | exact spec_Ordered.mono _ _
      | exact LeO.none _
      | refine LeO.ite ?_ ?_
      | refine LeO.bind ?_ (fun _ => ?_)
    · intro y0 y1 y2 y3 y4 y5 y6 y7 y8 y9 y10 y11 y12
      unfold spec_MapsFit.l1
      repeat' first
      | (with_reducible exact ih0 _ _ _ _)
      | (with_reducible exact ih1 _ _ _ _ _ _ _ _ _ _ _ _ _)
      | (with_reducible exact spec_Ordered.mono _ _)
      | (with_reducible exact LeO.refl _)
      | (with_reducible exact LeO.none _)
      | (with_reducible refine LeO.ite ?_ ?_)
      | (with_reducible refine LeO.bind ?_ (fun _ => ?_))
      | exact ih0 _ _ _ _
      | exact ih1 _ _ _ _ _ _ _ _ _ _ _ _ _
      | exact spec_Ordered.mono _ _
      | exact LeO.none _
      | refine LeO.ite ?_ ?_
      | refine LeO.bind ?_ (fun _ => ?_)
theorem spec_MapsFit.mono : ∀ a0 k, LeO (spec_MapsFit.f k a0) (spec_MapsFit.f (k + 1) a0) := by
  intro a0 k
  obtain ⟨ih0, ih1⟩ := spec_MapsFit.mono_l k
  unfold spec_MapsFit.f
  repeat' first
      | (with_reducible exact ih0 _ _ _ _)
      | (with_reducible exact ih1 _ _ _ _ _ _ _ _ _ _ _ _ _)
      | (with_reducible exact spec_Ordered.mono _ _)
      | (with_reducible exact LeO.refl _)
      | (with_reducible exact LeO.none _)
      | (with_reducible refine LeO.ite ?_ ?_)
      | (with_reducible refine LeO.bind ?_ (fun _ => ?_))
      | exact ih0 _ _ _ _
      | exact ih1 _ _ _ _ _ _ _ _ _ _ _ _ _
      | exact spec_Ordered.mono _ _
      | exact LeO.none _
      | refine LeO.ite ?_ ?_
      | refine LeO.bind ?_ (fun _ => ?_)
set_option maxHeartbeats 8000000 in
set_option maxRecDepth 100000 in
theorem spec_MapsFit.calls (k : Nat) (A0 : Option Addr) (c0 : Nat) (l0 : List (S27)) (r : Bool) (w : World) (hr0 : Kd.C k27 w A0 l0.length l0) (hc0 : l0.length ≤ c0) (h : spec_MapsFit.f k l0 = some r) :
    Calls Try.prog 4 #[.slice A0 l0.length c0] w fun e w' => e = .returned (.bool r) ∧ Below w.heap.size w w' := by
  have hu27 := Try.underlying27
  have HR0 := Aside0.mk hr0
  have HC0 := Aside0.mk hc0
  clear hr0 hc0
  have HB := Aside0.mk (Below.refl w.heap.size w)
  have H : (spec_MapsFit.l0 k l0 l0 (l0.length : Int) 0) = some r := h
  clear h
  have H' := Aside0.mk H
  clear H
  go_enter Try.func4, Try.ntmps4
  go_wp2
  go_loopg [9] k (fun kq v9 w' => ∃ (x9_1 : Int), v9 = .int .i64 x9_1 ∧ Aside0 (spec_MapsFit.l0 kq l0 l0 (l0.length : Int) x9_1 = some r) ∧ Aside0 (kq ≤ k) ∧ Aside0 (Below w.heap.size w w'))
  case atStart => exact ⟨(0), (by first | rfl | (simp; done) | (simp [*]; done)), H', ⟨Nat.le_refl _⟩, ⟨by repeat (first | (with_reducible first | exact HB.out | apply below_alloc | apply pw_below_drewN | apply below_drew1) | exact HB.out)⟩⟩
  case round =>
    clear H'
    obtain ⟨x9_1, rfl, HA, HK1, HB⟩ := hrel
    cases gk with
    | zero => exact absurd HA.out (by simp [spec_MapsFit.l0])
    | succ k1 =>
      have H := HA.out
      clear HA
      simp only [spec_MapsFit.l0] at H
      by_cases c2 : x9_1 < (l0.length : Int)
      · rw [if_pos c2] at H
        have c2b0 : decide (x9_1 < (l0.length : Int)) = true := decide_eq_true c2
        clear c2
        by_cases c3 : 0 ≤ x9_1
        · rw [if_pos c3] at H
          have c3b0 : decide (0 ≤ x9_1) = true := decide_eq_true c3
          clear c3
          by_cases c4 : x9_1 < (l0.length : Int)
          · rw [if_pos c4] at H
            have c4b0 : decide (x9_1 < (l0.length : Int)) = true := decide_eq_true c4
            clear c4
            obtain ⟨y111, hy111⟩ : ∃ y_ : List Int, y_ = (([(rd_T27 l0 x9_1).f0, (rd_T27 l0 x9_1).f1, (rd_T27 l0 x9_1).f2, (rd_T27 l0 x9_1).f3, (rd_T27 l0 x9_1).f4, wrap64 (((rd_T27 l0 x9_1).f5) + 1)] : List Int)) := ⟨_, rfl⟩
            replace H : (spec_MapsFit.l1 k1 l0 l0 (l0.length : Int) x9_1 y111 (y111.length : Int) 0 ((rd_T27 l0 x9_1).f0) ((rd_T27 l0 x9_1).f1) ((rd_T27 l0 x9_1).f2) ((rd_T27 l0 x9_1).f3) ((rd_T27 l0 x9_1).f4) ((rd_T27 l0 x9_1).f5)) = some r := by first | (rw [hy111]; with_reducible exact H) | (have H2_ := (Option.bind_some _ _).symm.trans H; rw [hy111]; with_reducible exact H2_) | (have H2_ := (Option.bind_some _ _).symm.trans H; with_reducible exact H2_) | with_reducible exact H | (rw [hy111]; exact H) | exact H
            have Ny111 := Aside0.mk hy111
            clear hy111
            have H' := Aside0.mk H
            clear H
            have p109 : 0 ≤ (x9_1 : Int) := of_decide_eq_true (by first | (with_reducible assumption) | assumption)
            have q109 : x9_1 < (l0.length : Int) := of_decide_eq_true (by first | (with_reducible assumption) | assumption)
            obtain ⟨ad109, e109, hx109_0, hx109_1, hx109_2, hx109_3, hx109_4, hx109_5⟩ := at_T27 HR0.out x9_1 p109 q109
            cases e109
            replace hx109_0 := (HB.out.cell (World.block_lt_of_cell? w _ hx109_0)).trans hx109_0
            replace hx109_1 := (HB.out.cell (World.block_lt_of_cell? w _ hx109_1)).trans hx109_1
            replace hx109_2 := (HB.out.cell (World.block_lt_of_cell? w _ hx109_2)).trans hx109_2
            replace hx109_3 := (HB.out.cell (World.block_lt_of_cell? w _ hx109_3)).trans hx109_3
            replace hx109_4 := (HB.out.cell (World.block_lt_of_cell? w _ hx109_4)).trans hx109_4
            replace hx109_5 := (HB.out.cell (World.block_lt_of_cell? w _ hx109_5)).trans hx109_5
            replace p109 := eq_true p109
            replace q109 := eq_true q109
            go_wp2_with (first | ((with_reducible refine gate_dst (N := 4) rfl ?_); refine box_event ?hg (N := 4) ?hd (cs := #[.int .i64 0, .int .i64 0, .int .i64 0, .int .i64 0, .int .i64 0, .int .i64 0]) (t := 27) ?hr ?_; (case hd => rfl); (case hg => rfl); (case hr => first | (go_simp; done) | (go_simp; rfl)); intro gb110 hg w5 hbox hb; have n0_ := Aside0.mk (below_step (by repeat (first | (with_reducible first | exact HB.out | apply below_alloc | apply pw_below_drewN | apply below_drew1) | exact HB.out)) hb); have n1_ := Aside0.mk (hbox); have n2_ := Aside0.mk ((by rw [hg]; exact (below_size (by repeat (first | (with_reducible first | exact HB.out | apply below_alloc | apply pw_below_drewN | apply below_drew1) | exact HB.out))) : w.heap.size ≤ gb110)); have n3_ := Aside0.mk ((by rw [hg]; exact (below_size (by repeat (first | (with_reducible first | exact HB.out | apply below_alloc | apply pw_below_drewN | apply below_drew1) | exact HB.out))) : w.heap.size ≤ gb110)); clear HB; have HB := n0_; have BK110 := n1_; have GW110 := n2_; have GE110 := n3_; clear n0_ n1_ n2_ n3_; clear hb hbox hg; have hcz6_0 : w5.cell? ⟨gb110, 0, none⟩ = some (.int .i64 0) := (blk_cell BK110.out 0).trans rfl; have hcz6_1 : w5.cell? ⟨gb110, 1, none⟩ = some (.int .i64 0) := (blk_cell BK110.out 1).trans rfl; have hcz6_2 : w5.cell? ⟨gb110, 2, none⟩ = some (.int .i64 0) := (blk_cell BK110.out 2).trans rfl; have hcz6_3 : w5.cell? ⟨gb110, 3, none⟩ = some (.int .i64 0) := (blk_cell BK110.out 3).trans rfl; have hcz6_4 : w5.cell? ⟨gb110, 4, none⟩ = some (.int .i64 0) := (blk_cell BK110.out 4).trans rfl; have hcz6_5 : w5.cell? ⟨gb110, 5, none⟩ = some (.int .i64 0) := (blk_cell BK110.out 5).trans rfl; have hfz6_0 := blk_frozen BK110.out 0; have hfz6_1 := blk_frozen BK110.out 1; have hfz6_2 := blk_frozen BK110.out 2; have hfz6_3 := blk_frozen BK110.out 3; have hfz6_4 := blk_frozen BK110.out 4; have hfz6_5 := blk_frozen BK110.out 5) | ((with_reducible refine gate_dst (N := 26) rfl ?_); refine Kd.R_lit (Kd.int .i64) _ 3 ?hg (N := 26) ?hd (xs := ([(rd_T27 l0 x9_1).f0, (rd_T27 l0 x9_1).f1, (rd_T27 l0 x9_1).f2, (rd_T27 l0 x9_1).f3, (rd_T27 l0 x9_1).f4, wrap64 (((rd_T27 l0 x9_1).f5) + 1)] : List Int)) (inner := [.int .i64 ((rd_T27 l0 x9_1).f0), .int .i64 ((rd_T27 l0 x9_1).f1), .int .i64 ((rd_T27 l0 x9_1).f2), .int .i64 ((rd_T27 l0 x9_1).f3), .int .i64 ((rd_T27 l0 x9_1).f4), .int .i64 (wrap64 (((rd_T27 l0 x9_1).f5) + 1))]) (ok := fun _ => True) (okp := fun _ => True) ?hr ?hp (fun _ hk => hk) trivial (Below.refl _ _) (Nat.le_refl _) (by simp) ?_; (case hd => rfl); (case hg => rfl); (case hr => first | (go_simp; done) | (go_simp; rfl)); (case hp => exact (Reps.one (show Kd.M (Kd.int .i64) _ _ _ ((rd_T27 l0 x9_1).f0) [.int .i64 ((rd_T27 l0 x9_1).f0)] from rfl) (Reps.one (show Kd.M (Kd.int .i64) _ _ _ ((rd_T27 l0 x9_1).f1) [.int .i64 ((rd_T27 l0 x9_1).f1)] from rfl) (Reps.one (show Kd.M (Kd.int .i64) _ _ _ ((rd_T27 l0 x9_1).f2) [.int .i64 ((rd_T27 l0 x9_1).f2)] from rfl) (Reps.one (show Kd.M (Kd.int .i64) _ _ _ ((rd_T27 l0 x9_1).f3) [.int .i64 ((rd_T27 l0 x9_1).f3)] from rfl) (Reps.one (show Kd.M (Kd.int .i64) _ _ _ ((rd_T27 l0 x9_1).f4) [.int .i64 ((rd_T27 l0 x9_1).f4)] from rfl) (Reps.one (show Kd.M (Kd.int .i64) _ _ _ (wrap64 (((rd_T27 l0 x9_1).f5) + 1)) [.int .i64 (wrap64 (((rd_T27 l0 x9_1).f5) + 1))] from rfl) (Reps.none _ _)))))))); intro v112 w7 ho8 hb hg_ hnew_; clear hg_ hnew_; (first | rw [← Ny111.out] at ho8 | (simp only [Int.reduceToNat] at ho8; rw [← Ny111.out] at ho8)); have n0_ := Aside0.mk (Kd.R_lower ho8 (below_size (by repeat (first | (with_reducible first | exact HB.out | apply below_alloc | apply pw_below_drewN | apply below_drew1 | refine below_set ?_ GE110.out) | exact HB.out)))); have n1_ := Aside0.mk (blk_below (g := gb110) (o := .cells #[.int .i64 ((rd_T27 l0 x9_1).f0), .int .i64 ((rd_T27 l0 x9_1).f1), .int .i64 ((rd_T27 l0 x9_1).f2), .int .i64 ((rd_T27 l0 x9_1).f3), .int .i64 ((rd_T27 l0 x9_1).f4), .int .i64 ((rd_T27 l0 x9_1).f5)] 27 (0, 0)) (by (with_reducible repeat (first | refine blk_drewN ?_ _ | refine blk_drew ?_ | refine blk_alloc ?_ _)); refine blk_put (cs := #[.int .i64 ((rd_T27 l0 x9_1).f0), .int .i64 ((rd_T27 l0 x9_1).f1), .int .i64 ((rd_T27 l0 x9_1).f2), .int .i64 ((rd_T27 l0 x9_1).f3), .int .i64 ((rd_T27 l0 x9_1).f4), .int .i64 0]) ?_ 5 _ rfl; (with_reducible repeat (first | refine blk_drewN ?_ _ | refine blk_drew ?_ | refine blk_alloc ?_ _)); refine blk_put (cs := #[.int .i64 ((rd_T27 l0 x9_1).f0), .int .i64 ((rd_T27 l0 x9_1).f1), .int .i64 ((rd_T27 l0 x9_1).f2), .int .i64 ((rd_T27 l0 x9_1).f3), .int .i64 0, .int .i64 0]) ?_ 4 _ rfl; (with_reducible repeat (first | refine blk_drewN ?_ _ | refine blk_drew ?_ | refine blk_alloc ?_ _)); refine blk_put (cs := #[.int .i64 ((rd_T27 l0 x9_1).f0), .int .i64 ((rd_T27 l0 x9_1).f1), .int .i64 ((rd_T27 l0 x9_1).f2), .int .i64 0, .int .i64 0, .int .i64 0]) ?_ 3 _ rfl; (with_reducible repeat (first | refine blk_drewN ?_ _ | refine blk_drew ?_ | refine blk_alloc ?_ _)); refine blk_put (cs := #[.int .i64 ((rd_T27 l0 x9_1).f0), .int .i64 ((rd_T27 l0 x9_1).f1), .int .i64 0, .int .i64 0, .int .i64 0, .int .i64 0]) ?_ 2 _ rfl; (with_reducible repeat (first | refine blk_drewN ?_ _ | refine blk_drew ?_ | refine blk_alloc ?_ _)); refine blk_put (cs := #[.int .i64 ((rd_T27 l0 x9_1).f0), .int .i64 0, .int .i64 0, .int .i64 0, .int .i64 0, .int .i64 0]) ?_ 1 _ rfl; (with_reducible repeat (first | refine blk_drewN ?_ _ | refine blk_drew ?_ | refine blk_alloc ?_ _)); refine blk_put (cs := #[.int .i64 0, .int .i64 0, .int .i64 0, .int .i64 0, .int .i64 0, .int .i64 0]) ?_ 0 _ rfl; (with_reducible repeat (first | refine blk_drewN ?_ _ | refine blk_drew ?_ | refine blk_alloc ?_ _)); exact BK110.out) hb); have n2_ := Aside0.mk (below_step (by repeat (first | (with_reducible first | exact HB.out | apply below_alloc | apply pw_below_drewN | apply below_drew1 | refine below_set ?_ GE110.out) | exact HB.out)) hb); clear BK110; clear HB; have HO113 := n0_; have BK110 := n1_; have HB := n2_; clear n0_ n1_ n2_; clear hb ho8; obtain ⟨Ao9, co9, eo9⟩ := Kd.R_slice HO113.out; subst eo9))
            go_loopg [28] k1 (fun kq v28 w' => ∃ (x28_2 : Int), v28 = .int .i64 x28_2 ∧ Aside0 (spec_MapsFit.l1 kq l0 l0 (l0.length : Int) x9_1 y111 (y111.length : Int) x28_2 ((rd_T27 l0 x9_1).f0) ((rd_T27 l0 x9_1).f1) ((rd_T27 l0 x9_1).f2) ((rd_T27 l0 x9_1).f3) ((rd_T27 l0 x9_1).f4) ((rd_T27 l0 x9_1).f5) = some r) ∧ Aside0 (kq ≤ k1) ∧ Aside0 (Kd.R (Kd.int .i64) 3 w' w.heap.size (fun _ => True) (.slice Ao9 y111.length co9) y111) ∧ Aside0 (w'.heap[gb110]? = some (.cells #[.int .i64 ((rd_T27 l0 x9_1).f0), .int .i64 ((rd_T27 l0 x9_1).f1), .int .i64 ((rd_T27 l0 x9_1).f2), .int .i64 ((rd_T27 l0 x9_1).f3), .int .i64 ((rd_T27 l0 x9_1).f4), .int .i64 ((rd_T27 l0 x9_1).f5)] 27 (0, 0))) ∧ Aside0 (Below w.heap.size w w'))
            case atStart => exact ⟨(0), (by first | rfl | (simp; done) | (simp [*]; done)), H', ⟨Nat.le_refl _⟩, ⟨by (with_reducible repeat (first | apply Kd.R_alloc | apply Kd.R_drewN | apply Kd.R_drew)); exact HO113.out⟩, ⟨by (with_reducible repeat (first | refine blk_drewN ?_ _ | refine blk_drew ?_ | refine blk_alloc ?_ _)); exact BK110.out⟩, ⟨by repeat (first | (with_reducible first | exact HB.out | apply below_alloc | apply pw_below_drewN | apply below_drew1 | refine below_set ?_ GE110.out) | exact HB.out)⟩⟩
            case round =>
              clear H'
              try clear p1
              try clear q1
              try clear hx1
              try clear c2
              try clear c2b0
              try clear p2
              try clear c3
              try clear c3b0
              try clear c4
              try clear c4b0
              try clear p6
              try clear hcz6_0
              try clear hcz6_1
              try clear hcz6_2
              try clear hcz6_3
              try clear hcz6_4
              try clear hcz6_5
              try clear hfz6_0
              try clear hfz6_1
              try clear hfz6_2
              try clear hfz6_3
              try clear hfz6_4
              try clear hfz6_5
              try clear hx109_0
              try clear hx109_1
              try clear hx109_2
              try clear hx109_3
              try clear hx109_4
              try clear hx109_5
              try clear p109
              try clear q109
              obtain ⟨x28_2, rfl, HA, HK2, HO_26, BK110, HB⟩ := hrel
              cases gk with
              | zero => exact absurd HA.out (by simp [spec_MapsFit.l1])
              | succ k2 =>
                have H := HA.out
                clear HA
                simp only [spec_MapsFit.l1] at H
                by_cases c10 : x28_2 < (y111.length : Int)
                · rw [if_pos c10] at H
                  have c10b0 : decide (x28_2 < (y111.length : Int)) = true := decide_eq_true c10
                  clear c10
                  by_cases c11 : 0 ≤ x28_2
                  · rw [if_pos c11] at H
                    have c11b0 : decide (0 ≤ x28_2) = true := decide_eq_true c11
                    clear c11
                    by_cases c12 : x28_2 < (y111.length : Int)
                    · rw [if_pos c12] at H
                      have c12b0 : decide (x28_2 < (y111.length : Int)) = true := decide_eq_true c12
                      clear c12
                      by_cases c13 : (rd y111 x28_2) < 0
                      · rw [if_pos c13] at H
                        have c13b0 : decide ((rd y111 x28_2) < 0) = true := decide_eq_true c13
                        clear c13
                        obtain rfl := Option.some.inj H
                        have p114 : 0 ≤ (x28_2 : Int) := of_decide_eq_true (by first | (with_reducible assumption) | assumption)
                        have q114 : x28_2 < (y111.length : Int) := of_decide_eq_true (by first | (with_reducible assumption) | assumption)
                        obtain ⟨ad114, e114, hx114_0⟩ := Kd.at_int (Kd.R_reads' HO_26.out).2.2 x28_2 p114 q114
                        cases e114
                        replace p114 := eq_true p114
                        replace q114 := eq_true q114
                        go_wp2
                        go_ret
                        exact ⟨by first | rfl | (simp [errW_none, errW_some] <;> rfl) | (simp [*, errW_none, errW_some] <;> rfl), by repeat (first | (with_reducible first | exact HB.out | apply below_alloc | apply pw_below_drewN | apply below_drew1 | refine below_set ?_ GE110.out) | exact HB.out)⟩
                      · rw [if_neg c13] at H
                        have c13b0 : decide ((rd y111 x28_2) < 0) = false := decide_eq_false c13
                        clear c13
                        by_cases c14 : (rd y111 x28_2) > 1073741824
                        · rw [if_pos c14] at H
                          have c14b0 : decide (1073741824 < (rd y111 x28_2)) = true := decide_eq_true c14
                          clear c14
                          obtain rfl := Option.some.inj H
                          have p114 : 0 ≤ (x28_2 : Int) := of_decide_eq_true (by first | (with_reducible assumption) | assumption)
                          have q114 : x28_2 < (y111.length : Int) := of_decide_eq_true (by first | (with_reducible assumption) | assumption)
                          obtain ⟨ad114, e114, hx114_0⟩ := Kd.at_int (Kd.R_reads' HO_26.out).2.2 x28_2 p114 q114
                          cases e114
                          replace p114 := eq_true p114
                          replace q114 := eq_true q114
                          go_wp2
                          go_ret
                          exact ⟨by first | rfl | (simp [errW_none, errW_some] <;> rfl) | (simp [*, errW_none, errW_some] <;> rfl), by repeat (first | (with_reducible first | exact HB.out | apply below_alloc | apply pw_below_drewN | apply below_drew1 | refine below_set ?_ GE110.out) | exact HB.out)⟩
                        · rw [if_neg c14] at H
                          have c14b0 : decide (1073741824 < (rd y111 x28_2)) = false := decide_eq_false c14
                          clear c14
                          have H' := Aside0.mk H
                          clear H
                          have p114 : 0 ≤ (x28_2 : Int) := of_decide_eq_true (by first | (with_reducible assumption) | assumption)
                          have q114 : x28_2 < (y111.length : Int) := of_decide_eq_true (by first | (with_reducible assumption) | assumption)
                          obtain ⟨ad114, e114, hx114_0⟩ := Kd.at_int (Kd.R_reads' HO_26.out).2.2 x28_2 p114 q114
                          cases e114
                          replace p114 := eq_true p114
                          replace q114 := eq_true q114
                          go_wp2
                          go_roundg k2
                          case measure => have := HK1.out; have := HK2.out; omega
                          case rel => exact ⟨(wrap64 (x28_2 + 1)), (by first | rfl | (simp; done) | (simp [*]; done)), H', ⟨by have := HK1.out; have := HK2.out; omega⟩, ⟨by (with_reducible repeat (first | apply Kd.R_alloc | apply Kd.R_drewN | apply Kd.R_drew)); exact HO_26.out⟩, ⟨by (with_reducible repeat (first | refine blk_drewN ?_ _ | refine blk_drew ?_ | refine blk_alloc ?_ _)); exact BK110.out⟩, ⟨by repeat (first | (with_reducible first | exact HB.out | apply below_alloc | apply pw_below_drewN | apply below_drew1 | refine below_set ?_ GE110.out) | exact HB.out)⟩⟩
                    · rw [if_neg c12] at H
                      exact absurd H (by simp)
                  · rw [if_neg c11] at H
                    exact absurd H (by simp)
                · rw [if_neg c10] at H
                  have c10b0 : decide (x28_2 < (y111.length : Int)) = false := decide_eq_false c10
                  clear c10
                  by_cases c15 : ((rd_T27 l0 x9_1).f0) > 1000
                  · rw [if_pos c15] at H
                    have c15b0 : decide (1000 < ((rd_T27 l0 x9_1).f0)) = true := decide_eq_true c15
                    clear c15
                    obtain rfl := Option.some.inj H
                    have hcz16_0 : wr.cell? ⟨gb110, 0, none⟩ = some (.int .i64 ((rd_T27 l0 x9_1).f0)) := (blk_cell BK110.out 0).trans rfl
                    have hcz16_1 : wr.cell? ⟨gb110, 1, none⟩ = some (.int .i64 ((rd_T27 l0 x9_1).f1)) := (blk_cell BK110.out 1).trans rfl
                    have hcz16_2 : wr.cell? ⟨gb110, 2, none⟩ = some (.int .i64 ((rd_T27 l0 x9_1).f2)) := (blk_cell BK110.out 2).trans rfl
                    have hcz16_3 : wr.cell? ⟨gb110, 3, none⟩ = some (.int .i64 ((rd_T27 l0 x9_1).f3)) := (blk_cell BK110.out 3).trans rfl
                    have hcz16_4 : wr.cell? ⟨gb110, 4, none⟩ = some (.int .i64 ((rd_T27 l0 x9_1).f4)) := (blk_cell BK110.out 4).trans rfl
                    have hcz16_5 : wr.cell? ⟨gb110, 5, none⟩ = some (.int .i64 ((rd_T27 l0 x9_1).f5)) := (blk_cell BK110.out 5).trans rfl
                    have hfz16_0 := blk_frozen BK110.out 0
                    have hfz16_1 := blk_frozen BK110.out 1
                    have hfz16_2 := blk_frozen BK110.out 2
                    have hfz16_3 := blk_frozen BK110.out 3
                    have hfz16_4 := blk_frozen BK110.out 4
                    have hfz16_5 := blk_frozen BK110.out 5
                    go_wp2
                    go_ret
                    exact ⟨by first | rfl | (simp [errW_none, errW_some] <;> rfl) | (simp [*, errW_none, errW_some] <;> rfl), by repeat (first | (with_reducible first | exact HB.out | apply below_alloc | apply pw_below_drewN | apply below_drew1 | refine below_set ?_ GE110.out) | exact HB.out)⟩
                  · rw [if_neg c15] at H
                    have c15b0 : decide (1000 < ((rd_T27 l0 x9_1).f0)) = false := decide_eq_false c15
                    clear c15
                    have H' := Aside0.mk H
                    clear H
                    have hcz17_0 : wr.cell? ⟨gb110, 0, none⟩ = some (.int .i64 ((rd_T27 l0 x9_1).f0)) := (blk_cell BK110.out 0).trans rfl
                    have hcz17_1 : wr.cell? ⟨gb110, 1, none⟩ = some (.int .i64 ((rd_T27 l0 x9_1).f1)) := (blk_cell BK110.out 1).trans rfl
                    have hcz17_2 : wr.cell? ⟨gb110, 2, none⟩ = some (.int .i64 ((rd_T27 l0 x9_1).f2)) := (blk_cell BK110.out 2).trans rfl
                    have hcz17_3 : wr.cell? ⟨gb110, 3, none⟩ = some (.int .i64 ((rd_T27 l0 x9_1).f3)) := (blk_cell BK110.out 3).trans rfl
                    have hcz17_4 : wr.cell? ⟨gb110, 4, none⟩ = some (.int .i64 ((rd_T27 l0 x9_1).f4)) := (blk_cell BK110.out 4).trans rfl
                    have hcz17_5 : wr.cell? ⟨gb110, 5, none⟩ = some (.int .i64 ((rd_T27 l0 x9_1).f5)) := (blk_cell BK110.out 5).trans rfl
                    have hfz17_0 := blk_frozen BK110.out 0
                    have hfz17_1 := blk_frozen BK110.out 1
                    have hfz17_2 := blk_frozen BK110.out 2
                    have hfz17_3 := blk_frozen BK110.out 3
                    have hfz17_4 := blk_frozen BK110.out 4
                    have hfz17_5 := blk_frozen BK110.out 5
                    go_wp2
                    go_roundg k2
                    case measure => have := HK1.out; have := HK2.out; omega
                    case rel => exact ⟨(wrap64 (x9_1 + 1)), (by first | rfl | (simp; done) | (simp [*]; done)), H', ⟨by have := HK1.out; have := HK2.out; omega⟩, ⟨by repeat (first | (with_reducible first | exact HB.out | apply below_alloc | apply pw_below_drewN | apply below_drew1 | refine below_set ?_ GE110.out) | exact HB.out)⟩⟩
          · rw [if_neg c4] at H
            exact absurd H (by simp)
        · rw [if_neg c3] at H
          exact absurd H (by simp)
      · rw [if_neg c2] at H
        have c2b0 : decide (x9_1 < (l0.length : Int)) = false := decide_eq_false c2
        clear c2
        replace H := Option.bind_eq_some_iff.mp H
        obtain ⟨t108, A180, H⟩ := H
        replace H : (some t108) = some r := H
        have A18 := Aside0.mk A180
        clear A180
        obtain rfl := Option.some.inj H
        go_wp2_with (first | ((with_reducible refine gate_callee (f := 10) rfl ?_); refine goesL_ (some 44) rfl rfl Try.func10 (by kernel_rfl) rfl #[.slice A0 l0.length c0] rfl (by (try simp only [List.map_toArray, List.map_cons, List.map_nil]); first | done | rfl | (simp only [List.length_drop, List.length_take]; rfl)) ?_; (with_reducible refine (spec_Ordered.calls k1 _ _ l0 t108 _ ?side1 ?side2 A18.out).mono ?_); (case side1 => repeat (first | exact (Kd.C_below HR0.out HB.out) | (with_reducible refine Kd.C_alloc ?_ _) | (with_reducible refine Kd.C_drewN ?_ _) | (with_reducible refine Kd.C_drew ?_))); (case side2 => exact HC0.out); rintro e w19 ⟨rfl, hb⟩; refine ⟨_, rfl, ?_⟩; have n0_ := Aside0.mk (below_step (by repeat (first | (with_reducible first | exact HB.out | apply below_alloc | apply pw_below_drewN | apply below_drew1) | exact HB.out)) hb); clear HB; have HB := n0_; clear n0_; (try clear hb); (try clear hb2); (try clear hk); (try clear hi)))
        go_ret
        exact ⟨by first | rfl | (simp [errW_none, errW_some] <;> rfl) | (simp [*, errW_none, errW_some] <;> rfl), by repeat (first | (with_reducible first | exact HB.out | apply below_alloc | apply pw_below_drewN | apply below_drew1) | exact HB.out)⟩

-- NOT PRINTED: function 5 (laws_shiftsFit)

-- NOT PRINTED: function 12 (impl_isMappings)

-- NOT PRINTED: function 13 (impl_calm)

-- NOT PRINTED: function 6 (impl_FinalizeMap)

/-! ### spec_VLQText: function 16 -/
mutual
def spec_VLQText.j0 : Nat → Int → Option (ByteArray)
  | 0, _ => none
  | k + 1, x3 => spec_VLQText.l0 k x3 (⟨#[]⟩ : ByteArray)
def spec_VLQText.l0 : Nat → Int → ByteArray → Option (ByteArray)
  | 0, _, _ => none
  | k + 1, x3, x4 => if (x3 / 32) > 0 then (if 0 ≤ (Go.bits .or .i64 (Go.bits .and .i64 x3 31) 32) then (if (Go.bits .or .i64 (Go.bits .and .i64 x3 31) 32) ≤ (wrap64 ((Go.bits .or .i64 (Go.bits .and .i64 x3 31) 32) + 1)) then (if (wrap64 ((Go.bits .or .i64 (Go.bits .and .i64 x3 31) 32) + 1)) ≤ 64 then (if x4.size + ((⟨#[65, 66, 67, 68, 69, 70, 71, 72, 73, 74, 75, 76, 77, 78, 79, 80, 81, 82, 83, 84, 85, 86, 87, 88, 89, 90, 97, 98, 99, 100, 101, 102, 103, 104, 105, 106, 107, 108, 109, 110, 111, 112, 113, 114, 115, 116, 117, 118, 119, 120, 121, 122, 48, 49, 50, 51, 52, 53, 54, 55, 56, 57, 43, 47]⟩ : ByteArray).extract ((Go.bits .or .i64 (Go.bits .and .i64 x3 31) 32) : Int).toNat ((wrap64 ((Go.bits .or .i64 (Go.bits .and .i64 x3 31) 32) + 1)) : Int).toNat).size ≤ 9223372036854775807 then (if (x3 / 32) = 0 then (some (x4 ++ ((⟨#[65, 66, 67, 68, 69, 70, 71, 72, 73, 74, 75, 76, 77, 78, 79, 80, 81, 82, 83, 84, 85, 86, 87, 88, 89, 90, 97, 98, 99, 100, 101, 102, 103, 104, 105, 106, 107, 108, 109, 110, 111, 112, 113, 114, 115, 116, 117, 118, 119, 120, 121, 122, 48, 49, 50, 51, 52, 53, 54, 55, 56, 57, 43, 47]⟩ : ByteArray).extract ((Go.bits .or .i64 (Go.bits .and .i64 x3 31) 32) : Int).toNat ((wrap64 ((Go.bits .or .i64 (Go.bits .and .i64 x3 31) 32) + 1)) : Int).toNat))) else (spec_VLQText.l0 k (x3 / 32) (x4 ++ ((⟨#[65, 66, 67, 68, 69, 70, 71, 72, 73, 74, 75, 76, 77, 78, 79, 80, 81, 82, 83, 84, 85, 86, 87, 88, 89, 90, 97, 98, 99, 100, 101, 102, 103, 104, 105, 106, 107, 108, 109, 110, 111, 112, 113, 114, 115, 116, 117, 118, 119, 120, 121, 122, 48, 49, 50, 51, 52, 53, 54, 55, 56, 57, 43, 47]⟩ : ByteArray).extract ((Go.bits .or .i64 (Go.bits .and .i64 x3 31) 32) : Int).toNat ((wrap64 ((Go.bits .or .i64 (Go.bits .and .i64 x3 31) 32) + 1)) : Int).toNat)))) else (none)) else (none)) else (none)) else (none)) else (if 0 ≤ (Go.bits .and .i64 x3 31) then (if (Go.bits .and .i64 x3 31) ≤ (wrap64 ((Go.bits .and .i64 x3 31) + 1)) then (if (wrap64 ((Go.bits .and .i64 x3 31) + 1)) ≤ 64 then (if x4.size + ((⟨#[65, 66, 67, 68, 69, 70, 71, 72, 73, 74, 75, 76, 77, 78, 79, 80, 81, 82, 83, 84, 85, 86, 87, 88, 89, 90, 97, 98, 99, 100, 101, 102, 103, 104, 105, 106, 107, 108, 109, 110, 111, 112, 113, 114, 115, 116, 117, 118, 119, 120, 121, 122, 48, 49, 50, 51, 52, 53, 54, 55, 56, 57, 43, 47]⟩ : ByteArray).extract ((Go.bits .and .i64 x3 31) : Int).toNat ((wrap64 ((Go.bits .and .i64 x3 31) + 1)) : Int).toNat).size ≤ 9223372036854775807 then (if (x3 / 32) = 0 then (some (x4 ++ ((⟨#[65, 66, 67, 68, 69, 70, 71, 72, 73, 74, 75, 76, 77, 78, 79, 80, 81, 82, 83, 84, 85, 86, 87, 88, 89, 90, 97, 98, 99, 100, 101, 102, 103, 104, 105, 106, 107, 108, 109, 110, 111, 112, 113, 114, 115, 116, 117, 118, 119, 120, 121, 122, 48, 49, 50, 51, 52, 53, 54, 55, 56, 57, 43, 47]⟩ : ByteArray).extract ((Go.bits .and .i64 x3 31) : Int).toNat ((wrap64 ((Go.bits .and .i64 x3 31) + 1)) : Int).toNat))) else (spec_VLQText.l0 k (x3 / 32) (x4 ++ ((⟨#[65, 66, 67, 68, 69, 70, 71, 72, 73, 74, 75, 76, 77, 78, 79, 80, 81, 82, 83, 84, 85, 86, 87, 88, 89, 90, 97, 98, 99, 100, 101, 102, 103, 104, 105, 106, 107, 108, 109, 110, 111, 112, 113, 114, 115, 116, 117, 118, 119, 120, 121, 122, 48, 49, 50, 51, 52, 53, 54, 55, 56, 57, 43, 47]⟩ : ByteArray).extract ((Go.bits .and .i64 x3 31) : Int).toNat ((wrap64 ((Go.bits .and .i64 x3 31) + 1)) : Int).toNat)))) else (none)) else (none)) else (none)) else (none))
end
def spec_VLQText.f (k : Nat) (a0 : Int) : Option (ByteArray) := if a0 < 0 then (spec_VLQText.j0 k (Go.bits .or .i64 (wrap64 ((wrap64 (-a0)) * 2)) 1)) else (spec_VLQText.j0 k (wrap64 (a0 * 2)))
theorem spec_VLQText.mono_l : ∀ k, (∀ y0, LeO (spec_VLQText.j0 k y0) (spec_VLQText.j0 (k + 1) y0)) ∧ (∀ y0 y1, LeO (spec_VLQText.l0 k y0 y1) (spec_VLQText.l0 (k + 1) y0 y1))
  | 0 => ⟨fun _ r h => by simp [spec_VLQText.j0] at h, fun _ _ r h => by simp [spec_VLQText.l0] at h⟩
  | k + 1 => by
    obtain ⟨ih0, ih1⟩ := spec_VLQText.mono_l k
    refine ⟨?_, ?_⟩
    · intro y0
      unfold spec_VLQText.j0
      repeat' first
      | (with_reducible exact ih0 _)
      | (with_reducible exact ih1 _ _)
      | (with_reducible exact LeO.refl _)
      | (with_reducible exact LeO.none _)
      | (with_reducible refine LeO.ite ?_ ?_)
      | (with_reducible refine LeO.bind ?_ (fun _ => ?_))
      | exact ih0 _
      | exact ih1 _ _
      | exact LeO.none _
      | refine LeO.ite ?_ ?_
      | refine LeO.bind ?_ (fun _ => ?_)
    · intro y0 y1
      unfold spec_VLQText.l0
      repeat' first
      | (with_reducible exact ih0 _)
      | (with_reducible exact ih1 _ _)
      | (with_reducible exact LeO.refl _)
      | (with_reducible exact LeO.none _)
      | (with_reducible refine LeO.ite ?_ ?_)
      | (with_reducible refine LeO.bind ?_ (fun _ => ?_))
      | exact ih0 _
      | exact ih1 _ _
      | exact LeO.none _
      | refine LeO.ite ?_ ?_
      | refine LeO.bind ?_ (fun _ => ?_)
theorem spec_VLQText.mono : ∀ a0 k, LeO (spec_VLQText.f k a0) (spec_VLQText.f (k + 1) a0) := by
  intro a0 k
  obtain ⟨ih0, ih1⟩ := spec_VLQText.mono_l k
  unfold spec_VLQText.f
  repeat' first
      | (with_reducible exact ih0 _)
      | (with_reducible exact ih1 _ _)
      | (with_reducible exact LeO.refl _)
      | (with_reducible exact LeO.none _)
      | (with_reducible refine LeO.ite ?_ ?_)
      | (with_reducible refine LeO.bind ?_ (fun _ => ?_))
      | exact ih0 _
      | exact ih1 _ _
      | exact LeO.none _
      | refine LeO.ite ?_ ?_
      | refine LeO.bind ?_ (fun _ => ?_)
set_option maxHeartbeats 8000000 in
set_option maxRecDepth 100000 in
theorem spec_VLQText.calls (k : Nat) (a0 : Int) (r : ByteArray) (w : World) (h : spec_VLQText.f k a0 = some r) :
    Calls Try.prog 16 #[.int .i64 a0] w fun e w' => e = .returned (.string r) ∧ Drawn0 w w' := by
  have H : (if a0 < 0 then (spec_VLQText.j0 k (Go.bits .or .i64 (wrap64 ((wrap64 (-a0)) * 2)) 1)) else (spec_VLQText.j0 k (wrap64 (a0 * 2)))) = some r := h
  clear h
  have HC2 := Aside0.mk H
  clear H
  go_enter Try.func16, Try.ntmps16
  go_upto_if 9 with (fail)
  go_cut [3] (fun v3 wc => ∃ (kq : Nat) (x3_1 : Int), v3 = .int .i64 x3_1 ∧ Aside0 (spec_VLQText.j0 kq x3_1 = some r) ∧ Aside0 (kq ≤ k) ∧ Drawn0 w wc)
  case first =>
    have H := HC2.out
    clear HC2
    by_cases c3 : a0 < 0
    · rw [if_pos c3] at H
      have c3b0 : decide (a0 < 0) = true := decide_eq_true c3
      clear c3
      (first | rw [c3b0] | (simp only [i64_w, i32_w]; rw [c3b0]) | skip)
      have H' := Aside0.mk H
      clear H
      go_wp2
      go_meet
      case rel => exact ⟨_, (Go.bits .or .i64 (wrap64 ((wrap64 (-a0)) * 2)) 1), (by first | rfl | (simp; done) | (simp [*]; done)), H', ⟨by first | omega | exact Nat.le_refl _⟩, by repeat (first | exact Drawn0.refl _ | apply Drawn0.step)⟩
    · rw [if_neg c3] at H
      have c3b0 : decide (a0 < 0) = false := decide_eq_false c3
      clear c3
      (first | rw [c3b0] | (simp only [i64_w, i32_w]; rw [c3b0]) | skip)
      have H' := Aside0.mk H
      clear H
      go_wp2
      go_meet
      case rel => exact ⟨_, (wrap64 (a0 * 2)), (by first | rfl | (simp; done) | (simp [*]; done)), H', ⟨by first | omega | exact Nat.le_refl _⟩, by repeat (first | exact Drawn0.refl _ | apply Drawn0.step)⟩
  case rest =>
    clear HC2
    try clear c1
    try clear p2
    try clear c3
    try clear c3b0
    obtain ⟨kq, x3_1, rfl, HA, HJ1, ⟨mc1, rfl⟩⟩ := hcut
    cases kq with
    | zero => exact absurd HA.out (by simp [spec_VLQText.j0])
    | succ kj1 =>
      have H := HA.out
      clear HA
      simp only [spec_VLQText.j0] at H
      have H' := Aside0.mk H
      clear H
      go_wp2
      go_loopg [3, 4] kj1 (fun kq v3 v4 w' => ∃ (x3_2 : Int) (x4_2 : ByteArray), v3 = .int .i64 x3_2 ∧ v4 = .string x4_2 ∧ Aside0 (spec_VLQText.l0 kq x3_2 x4_2 = some r) ∧ Aside0 (kq ≤ kj1) ∧ Drawn0 w w')
      case atStart => exact ⟨(x3_1), ((⟨#[]⟩ : ByteArray)), (by first | rfl | (simp; done) | (simp [*]; done)), (by first | rfl | (simp; done) | (simp [*]; done)), H', ⟨Nat.le_refl _⟩, by repeat (first | exact Drawn0.refl _ | apply Drawn0.step)⟩
      case round =>
        clear H'
        try clear c1
        try clear p2
        try clear c3
        try clear c3b0
        try clear p2
        obtain ⟨x3_2, x4_2, rfl, rfl, HA, HK2, ⟨m2, rfl⟩⟩ := hrel
        cases gk with
        | zero => exact absurd HA.out (by simp [spec_VLQText.l0])
        | succ k2 =>
          have H := HA.out
          clear HA
          simp only [spec_VLQText.l0] at H
          by_cases c4 : (x3_2 / 32) > 0
          · rw [if_pos c4] at H
            have c4b0 : decide (0 < (x3_2 / 32)) = true := decide_eq_true c4
            clear c4
            by_cases c5 : 0 ≤ (Go.bits .or .i64 (Go.bits .and .i64 x3_2 31) 32)
            · rw [if_pos c5] at H
              have c5b0 := eq_true c5
              have c5b1 : decide (0 ≤ (Go.bits .or .i64 (Go.bits .and .i64 x3_2 31) 32)) = true := decide_eq_true c5
              clear c5
              by_cases c6 : (Go.bits .or .i64 (Go.bits .and .i64 x3_2 31) 32) ≤ (wrap64 ((Go.bits .or .i64 (Go.bits .and .i64 x3_2 31) 32) + 1))
              · rw [if_pos c6] at H
                have c6b0 := eq_true c6
                have c6b1 : decide ((Go.bits .or .i64 (Go.bits .and .i64 x3_2 31) 32) ≤ (wrap64 ((Go.bits .or .i64 (Go.bits .and .i64 x3_2 31) 32) + 1))) = true := decide_eq_true c6
                by_cases c7 : (wrap64 ((Go.bits .or .i64 (Go.bits .and .i64 x3_2 31) 32) + 1)) ≤ 64
                · rw [if_pos c7] at H
                  have c7b0 := eq_true c7
                  have c7b1 : decide ((wrap64 ((Go.bits .or .i64 (Go.bits .and .i64 x3_2 31) 32) + 1)) ≤ 64) = true := decide_eq_true c7
                  by_cases c8 : x4_2.size + ((⟨#[65, 66, 67, 68, 69, 70, 71, 72, 73, 74, 75, 76, 77, 78, 79, 80, 81, 82, 83, 84, 85, 86, 87, 88, 89, 90, 97, 98, 99, 100, 101, 102, 103, 104, 105, 106, 107, 108, 109, 110, 111, 112, 113, 114, 115, 116, 117, 118, 119, 120, 121, 122, 48, 49, 50, 51, 52, 53, 54, 55, 56, 57, 43, 47]⟩ : ByteArray).extract ((Go.bits .or .i64 (Go.bits .and .i64 x3_2 31) 32) : Int).toNat ((wrap64 ((Go.bits .or .i64 (Go.bits .and .i64 x3_2 31) 32) + 1)) : Int).toNat).size ≤ 9223372036854775807
                  · rw [if_pos c8] at H
                    have c8b0 := eq_true c8
                    have c8b1 : decide (x4_2.size + ((⟨#[65, 66, 67, 68, 69, 70, 71, 72, 73, 74, 75, 76, 77, 78, 79, 80, 81, 82, 83, 84, 85, 86, 87, 88, 89, 90, 97, 98, 99, 100, 101, 102, 103, 104, 105, 106, 107, 108, 109, 110, 111, 112, 113, 114, 115, 116, 117, 118, 119, 120, 121, 122, 48, 49, 50, 51, 52, 53, 54, 55, 56, 57, 43, 47]⟩ : ByteArray).extract ((Go.bits .or .i64 (Go.bits .and .i64 x3_2 31) 32) : Int).toNat ((wrap64 ((Go.bits .or .i64 (Go.bits .and .i64 x3_2 31) 32) + 1)) : Int).toNat).size ≤ 9223372036854775807) = true := decide_eq_true c8
                    try have c8b2 : (9223372036854775807 < x4_2.size + ((⟨#[65, 66, 67, 68, 69, 70, 71, 72, 73, 74, 75, 76, 77, 78, 79, 80, 81, 82, 83, 84, 85, 86, 87, 88, 89, 90, 97, 98, 99, 100, 101, 102, 103, 104, 105, 106, 107, 108, 109, 110, 111, 112, 113, 114, 115, 116, 117, 118, 119, 120, 121, 122, 48, 49, 50, 51, 52, 53, 54, 55, 56, 57, 43, 47]⟩ : ByteArray).extract ((Go.bits .or .i64 (Go.bits .and .i64 x3_2 31) 32) : Int).toNat ((wrap64 ((Go.bits .or .i64 (Go.bits .and .i64 x3_2 31) 32) + 1)) : Int).toNat).size) = False := eq_false (Nat.not_lt.2 c8)
                    have c8n : (9223372036854775807 < x4_2.size + ((wrap64 ((Go.bits .or .i64 (Go.bits .and .i64 x3_2 31) 32) + 1)).toNat - (Go.bits .or .i64 (Go.bits .and .i64 x3_2 31) 32).toNat)) = False := eq_false (by
                      have q := c8
                      rw [ByteArray.size_extract, show (⟨#[65, 66, 67, 68, 69, 70, 71, 72, 73, 74, 75, 76, 77, 78, 79, 80, 81, 82, 83, 84, 85, 86, 87, 88, 89, 90, 97, 98, 99, 100, 101, 102, 103, 104, 105, 106, 107, 108, 109, 110, 111, 112, 113, 114, 115, 116, 117, 118, 119, 120, 121, 122, 48, 49, 50, 51, 52, 53, 54, 55, 56, 57, 43, 47]⟩ : ByteArray).size = 64 from rfl] at q
                      omega)
                    by_cases c9 : (x3_2 / 32) = 0
                    · rw [if_pos c9] at H
                      have c9b0 : ((x3_2 / 32) == 0) = true := beq_iff_eq.mpr c9
                      have c9b1 : ((x3_2 / 32) != 0) = false := bne_eq_false_iff_eq.mpr c9
                      clear c9
                      obtain rfl := Option.some.inj H
                      go_wp2
                      go_ret
                      exact ⟨by first | rfl | (simp; done) | (simp [*]; done), by repeat (first | exact Drawn0.refl _ | apply Drawn0.step)⟩
                    · rw [if_neg c9] at H
                      have c9b0 : ((x3_2 / 32) == 0) = false := beq_eq_false_iff_ne.mpr c9
                      have c9b1 : ((x3_2 / 32) != 0) = true := bne_iff_ne.mpr c9
                      have H' := Aside0.mk H
                      clear H
                      go_wp2
                      go_roundg k2
                      case measure => have := HJ1.out; have := HK2.out; omega
                      case rel => exact ⟨(x3_2 / 32), (x4_2 ++ ((⟨#[65, 66, 67, 68, 69, 70, 71, 72, 73, 74, 75, 76, 77, 78, 79, 80, 81, 82, 83, 84, 85, 86, 87, 88, 89, 90, 97, 98, 99, 100, 101, 102, 103, 104, 105, 106, 107, 108, 109, 110, 111, 112, 113, 114, 115, 116, 117, 118, 119, 120, 121, 122, 48, 49, 50, 51, 52, 53, 54, 55, 56, 57, 43, 47]⟩ : ByteArray).extract ((Go.bits .or .i64 (Go.bits .and .i64 x3_2 31) 32) : Int).toNat ((wrap64 ((Go.bits .or .i64 (Go.bits .and .i64 x3_2 31) 32) + 1)) : Int).toNat)), (by first | rfl | (simp; done) | (simp [*]; done)), (by first | rfl | (simp; done) | (simp [*]; done)), H', ⟨by have := HJ1.out; have := HK2.out; omega⟩, by repeat (first | exact Drawn0.refl _ | apply Drawn0.step)⟩
                  · rw [if_neg c8] at H
                    exact absurd H (by simp)
                · rw [if_neg c7] at H
                  exact absurd H (by simp)
              · rw [if_neg c6] at H
                exact absurd H (by simp)
            · rw [if_neg c5] at H
              exact absurd H (by simp)
          · rw [if_neg c4] at H
            have c4b0 : decide (0 < (x3_2 / 32)) = false := decide_eq_false c4
            clear c4
            by_cases c10 : 0 ≤ (Go.bits .and .i64 x3_2 31)
            · rw [if_pos c10] at H
              have c10b0 := eq_true c10
              have c10b1 : decide (0 ≤ (Go.bits .and .i64 x3_2 31)) = true := decide_eq_true c10
              clear c10
              by_cases c11 : (Go.bits .and .i64 x3_2 31) ≤ (wrap64 ((Go.bits .and .i64 x3_2 31) + 1))
              · rw [if_pos c11] at H
                have c11b0 := eq_true c11
                have c11b1 : decide ((Go.bits .and .i64 x3_2 31) ≤ (wrap64 ((Go.bits .and .i64 x3_2 31) + 1))) = true := decide_eq_true c11
                by_cases c12 : (wrap64 ((Go.bits .and .i64 x3_2 31) + 1)) ≤ 64
                · rw [if_pos c12] at H
                  have c12b0 := eq_true c12
                  have c12b1 : decide ((wrap64 ((Go.bits .and .i64 x3_2 31) + 1)) ≤ 64) = true := decide_eq_true c12
                  by_cases c13 : x4_2.size + ((⟨#[65, 66, 67, 68, 69, 70, 71, 72, 73, 74, 75, 76, 77, 78, 79, 80, 81, 82, 83, 84, 85, 86, 87, 88, 89, 90, 97, 98, 99, 100, 101, 102, 103, 104, 105, 106, 107, 108, 109, 110, 111, 112, 113, 114, 115, 116, 117, 118, 119, 120, 121, 122, 48, 49, 50, 51, 52, 53, 54, 55, 56, 57, 43, 47]⟩ : ByteArray).extract ((Go.bits .and .i64 x3_2 31) : Int).toNat ((wrap64 ((Go.bits .and .i64 x3_2 31) + 1)) : Int).toNat).size ≤ 9223372036854775807
                  · rw [if_pos c13] at H
                    have c13b0 := eq_true c13
                    have c13b1 : decide (x4_2.size + ((⟨#[65, 66, 67, 68, 69, 70, 71, 72, 73, 74, 75, 76, 77, 78, 79, 80, 81, 82, 83, 84, 85, 86, 87, 88, 89, 90, 97, 98, 99, 100, 101, 102, 103, 104, 105, 106, 107, 108, 109, 110, 111, 112, 113, 114, 115, 116, 117, 118, 119, 120, 121, 122, 48, 49, 50, 51, 52, 53, 54, 55, 56, 57, 43, 47]⟩ : ByteArray).extract ((Go.bits .and .i64 x3_2 31) : Int).toNat ((wrap64 ((Go.bits .and .i64 x3_2 31) + 1)) : Int).toNat).size ≤ 9223372036854775807) = true := decide_eq_true c13
                    try have c13b2 : (9223372036854775807 < x4_2.size + ((⟨#[65, 66, 67, 68, 69, 70, 71, 72, 73, 74, 75, 76, 77, 78, 79, 80, 81, 82, 83, 84, 85, 86, 87, 88, 89, 90, 97, 98, 99, 100, 101, 102, 103, 104, 105, 106, 107, 108, 109, 110, 111, 112, 113, 114, 115, 116, 117, 118, 119, 120, 121, 122, 48, 49, 50, 51, 52, 53, 54, 55, 56, 57, 43, 47]⟩ : ByteArray).extract ((Go.bits .and .i64 x3_2 31) : Int).toNat ((wrap64 ((Go.bits .and .i64 x3_2 31) + 1)) : Int).toNat).size) = False := eq_false (Nat.not_lt.2 c13)
                    have c13n : (9223372036854775807 < x4_2.size + ((wrap64 ((Go.bits .and .i64 x3_2 31) + 1)).toNat - (Go.bits .and .i64 x3_2 31).toNat)) = False := eq_false (by
                      have q := c13
                      rw [ByteArray.size_extract, show (⟨#[65, 66, 67, 68, 69, 70, 71, 72, 73, 74, 75, 76, 77, 78, 79, 80, 81, 82, 83, 84, 85, 86, 87, 88, 89, 90, 97, 98, 99, 100, 101, 102, 103, 104, 105, 106, 107, 108, 109, 110, 111, 112, 113, 114, 115, 116, 117, 118, 119, 120, 121, 122, 48, 49, 50, 51, 52, 53, 54, 55, 56, 57, 43, 47]⟩ : ByteArray).size = 64 from rfl] at q
                      omega)
                    by_cases c14 : (x3_2 / 32) = 0
                    · rw [if_pos c14] at H
                      have c14b0 : ((x3_2 / 32) == 0) = true := beq_iff_eq.mpr c14
                      have c14b1 : ((x3_2 / 32) != 0) = false := bne_eq_false_iff_eq.mpr c14
                      clear c14
                      obtain rfl := Option.some.inj H
                      go_wp2
                      go_ret
                      exact ⟨by first | rfl | (simp; done) | (simp [*]; done), by repeat (first | exact Drawn0.refl _ | apply Drawn0.step)⟩
                    · rw [if_neg c14] at H
                      have c14b0 : ((x3_2 / 32) == 0) = false := beq_eq_false_iff_ne.mpr c14
                      have c14b1 : ((x3_2 / 32) != 0) = true := bne_iff_ne.mpr c14
                      have H' := Aside0.mk H
                      clear H
                      go_wp2
                      go_roundg k2
                      case measure => have := HJ1.out; have := HK2.out; omega
                      case rel => exact ⟨(x3_2 / 32), (x4_2 ++ ((⟨#[65, 66, 67, 68, 69, 70, 71, 72, 73, 74, 75, 76, 77, 78, 79, 80, 81, 82, 83, 84, 85, 86, 87, 88, 89, 90, 97, 98, 99, 100, 101, 102, 103, 104, 105, 106, 107, 108, 109, 110, 111, 112, 113, 114, 115, 116, 117, 118, 119, 120, 121, 122, 48, 49, 50, 51, 52, 53, 54, 55, 56, 57, 43, 47]⟩ : ByteArray).extract ((Go.bits .and .i64 x3_2 31) : Int).toNat ((wrap64 ((Go.bits .and .i64 x3_2 31) + 1)) : Int).toNat)), (by first | rfl | (simp; done) | (simp [*]; done)), (by first | rfl | (simp; done) | (simp [*]; done)), H', ⟨by have := HJ1.out; have := HK2.out; omega⟩, by repeat (first | exact Drawn0.refl _ | apply Drawn0.step)⟩
                  · rw [if_neg c13] at H
                    exact absurd H (by simp)
                · rw [if_neg c12] at H
                  exact absurd H (by simp)
              · rw [if_neg c11] at H
                exact absurd H (by simp)
            · rw [if_neg c10] at H
              exact absurd H (by simp)

end Go.Proofs.Ytdhaifcjhmmdlaa.PFnFinalize
