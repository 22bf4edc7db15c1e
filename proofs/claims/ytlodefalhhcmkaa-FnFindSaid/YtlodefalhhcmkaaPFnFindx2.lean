-- PRINTED BY print.sh 35421559b90ae4d0a3588c463048766b98c2df88dd9212a6774a882060cdf62d: not written by this session
import Derived.Test.YtlodefalhhcmkaaPFnFindx0
import Derived.Test.YtlodefalhhcmkaaPFnFindx1
namespace Go.Proofs.Ytlodefalhhcmkaa.PFnFind
open Go.RowKit Go.Proofs.YtlodefalhhcmkaaW.PrintWords Go.Proofs.YtlodefalhhcmkaaW.PrintLast Go.Proofs.YtlodefalhhcmkaaW.PrintMore
attribute [local go_sem] max2_int min2_int max_two min_two max_three min_three max_four min_four   -- for this text's walks alone
set_option linter.unusedVariables false
set_option linter.unusedSimpArgs false

/-! ### spec_MapsFit: function 5 -/
mutual
def spec_MapsFit.l0 : Nat → List (S24) → List (S24) → Int → Int → Option (Bool)
  | 0, _, _, _, _ => none
  | k + 1, x0, x7, x8, x9 => if x9 < x8 then (if 0 ≤ x9 then (if x9 < (x7.length : Int) then ((some (([(rd_T24 x7 x9).f0, (rd_T24 x7 x9).f1, (rd_T24 x7 x9).f2, (rd_T24 x7 x9).f3, (rd_T24 x7 x9).f4, wrap64 (((rd_T24 x7 x9).f5) + 1)] : List Int) : List Int)).bind fun y128 => (spec_MapsFit.l1 k x0 x7 x8 x9 y128 (y128.length : Int) 0 ((rd_T24 x7 x9).f0) ((rd_T24 x7 x9).f1) ((rd_T24 x7 x9).f2) ((rd_T24 x7 x9).f3) ((rd_T24 x7 x9).f4) ((rd_T24 x7 x9).f5))) else (none)) else (none)) else ((spec_Ordered.f k x0).bind fun t125 => (some t125))
def spec_MapsFit.l1 : Nat → List (S24) → List (S24) → Int → Int → List Int → Int → Int → Int → Int → Int → Int → Int → Int → Option (Bool)
  | 0, _, _, _, _, _, _, _, _, _, _, _, _, _ => none
  | k + 1, x0, x7, x8, x9, x26, x27, x28, x128000, x128001, x128002, x128003, x128004, x128005 => if x28 < x27 then (if 0 ≤ x28 then (if x28 < (x26.length : Int) then (if (rd x26 x28) < 0 then (some false) else (if (rd x26 x28) > 1073741824 then (some false) else (spec_MapsFit.l1 k x0 x7 x8 x9 x26 x27 (wrap64 (x28 + 1)) x128000 x128001 x128002 x128003 x128004 x128005))) else (none)) else (none)) else (if x128000 > 1000 then (some false) else (spec_MapsFit.l0 k x0 x7 x8 (wrap64 (x9 + 1))))
end
def spec_MapsFit.f (k : Nat) (l0 : List (S24)) : Option (Bool) := spec_MapsFit.l0 k l0 l0 (l0.length : Int) 0
theorem spec_MapsFit.mono_l : ∀ k, (∀ y0 y1 y2 y3, LeO (spec_MapsFit.l0 k y0 y1 y2 y3) (spec_MapsFit.l0 (k + 1) y0 y1 y2 y3)) ∧ (∀ y0 y1 y2 y3 y4 y5 y6 y7 y8 y9 y10 y11 y12, LeO (spec_MapsFit.l1 k y0 y1 y2 y3 y4 y5 y6 y7 y8 y9 y10 y11 y12) (spec_MapsFit.l1 (k + 1) y0 y1 y2 y3 y4 y5 y6 y7 y8 y9 y10 y11 y12))
  | 0 => ⟨fun _ _ _ _ r h => by simp [spec_MapsFit.l0] at h, fun _ _ _ _ _ _ _ _ _ _ _ _ _ r h => by simp [spec_MapsFit.l1] at h⟩
  | k + 1 => by
    obtain ⟨ih0, ih1⟩ := spec_MapsFit.mono_l k
    refine ⟨?_, ?_⟩
    · intro y0 y1 y2 y3
      unfold spec_MapsFit.l0
      repeat' first
      | (with_reducible exact ih0 _ _ _ _)
      | (with_reducible exact ih1 _ _ _ _ _ _ _ _ _ _ _ _ _)
      | (with_reducible exact spec_Ordered.mono _ _)
      | (with_reducible exact LeO.refl _)
      | (with_reducible exact LeO.none _)
      | (with_reducible refine LeO.ite ?_ ?_)
      | (with_reducible refine LeO.bind ?_ (fun _ => ?_))
      | exact ih0 _ _ _ _
      | exact ih1 _ _ _ _ _ _ _ _ _ _ _ _ _
      | exact spec_Ordered.mono _ _
      | exact LeO.none _
      | refine LeO.ite ?_ ?_
      | refine LeO.bind ?_ (fun _ => ?_)
    · intro y0 y1 y2 y3 y4 y5 y6 y7 y8 y9 y10 y11 y12
      unfold spec_MapsFit.l1
      repeat' first
      | (with_reducible exact ih0 _ _ _ _)
      | (with_reducible exact ih1 _ _ _ _ _ _ _ _ _ _ _ _ _)
      | (with_reducible exact spec_Ordered.mono _ _)
      | (with_reducible exact LeO.refl _)
      | (with_reducible exact LeO.none _)
      | (with_reducible refine LeO.ite ?_ ?_)
      | (with_reducible refine LeO.bind ?_ (fun _ => ?_))
      | exact ih0 _ _ _ _
      | exact ih1 _ _ _ _ _ _ _ _ _ _ _ _ _
      | exact spec_Ordered.mono _ _
      | exact LeO.none _
      | refine LeO.ite ?_ ?_
      | refine LeO.bind ?_ (fun _ => ?_)
theorem spec_MapsFit.mono : ∀ a0 k, LeO (spec_MapsFit.f k a0) (spec_MapsFit.f (k + 1) a0) := by
  intro a0 k
  obtain ⟨ih0, ih1⟩ := spec_MapsFit.mono_l k
  unfold spec_MapsFit.f
  repeat' first
      | (with_reducible exact ih0 _ _ _ _)
      | (with_reducible exact ih1 _ _ _ _ _ _ _ _ _ _ _ _ _)
      | (with_reducible exact spec_Ordered.mono _ _)
      | (with_reducible exact LeO.refl _)
      | (with_reducible exact LeO.none _)
      | (with_reducible refine LeO.ite ?_ ?_)
      | (with_reducible refine LeO.bind ?_ (fun _ => ?_))
      | exact ih0 _ _ _ _
      | exact ih1 _ _ _ _ _ _ _ _ _ _ _ _ _
      | exact spec_Ordered.mono _ _
      | exact LeO.none _
      | refine LeO.ite ?_ ?_
      | refine LeO.bind ?_ (fun _ => ?_)
set_option maxHeartbeats 8000000 in
set_option maxRecDepth 100000 in
theorem spec_MapsFit.calls (k : Nat) (A0 : Option Addr) (c0 : Nat) (l0 : List (S24)) (r : Bool) (w : World) (hr0 : Kd.C k24 w A0 l0.length l0) (hc0 : l0.length ≤ c0) (h : spec_MapsFit.f k l0 = some r) :
    Calls Try.prog 5 #[.slice A0 l0.length c0] w fun e w' => e = .returned (.bool r) ∧ Below w.heap.size w w' := by
  have hu24 := Try.underlying24
  have HR0 := Aside0.mk hr0
  have HC0 := Aside0.mk hc0
  clear hr0 hc0
  have HB := Aside0.mk (Below.refl w.heap.size w)
  have H : (spec_MapsFit.l0 k l0 l0 (l0.length : Int) 0) = some r := h
  clear h
  have H' := Aside0.mk H
  clear H
  go_enter Try.func5, Try.ntmps5
  go_wp2
  go_loopg [9] k (fun kq v9 w' => ∃ (x9_1 : Int), v9 = .int .i64 x9_1 ∧ Aside0 (spec_MapsFit.l0 kq l0 l0 (l0.length : Int) x9_1 = some r) ∧ Aside0 (kq ≤ k) ∧ Aside0 (Below w.heap.size w w'))
  case atStart => exact ⟨(0), (by first | rfl | (simp; done) | (simp [*]; done)), H', ⟨Nat.le_refl _⟩, ⟨by repeat (first | (with_reducible first | exact HB.out | apply below_alloc | apply pw_below_drewN | apply below_drew1) | exact HB.out)⟩⟩
  case round =>
    clear H'
    obtain ⟨x9_1, rfl, HA, HK1, HB⟩ := hrel
    cases gk with
    | zero => exact absurd HA.out (by simp [spec_MapsFit.l0])
    | succ k1 =>
      have H := HA.out
      clear HA
      simp only [spec_MapsFit.l0] at H
      by_cases c2 : x9_1 < (l0.length : Int)
      · rw [if_pos c2] at H
        have c2b0 : decide (x9_1 < (l0.length : Int)) = true := decide_eq_true c2
        clear c2
        by_cases c3 : 0 ≤ x9_1
        · rw [if_pos c3] at H
          have c3b0 : decide (0 ≤ x9_1) = true := decide_eq_true c3
          clear c3
          by_cases c4 : x9_1 < (l0.length : Int)
          · rw [if_pos c4] at H
            have c4b0 : decide (x9_1 < (l0.length : Int)) = true := decide_eq_true c4
            clear c4
            obtain ⟨y128, hy128⟩ : ∃ y_ : List Int, y_ = (([(rd_T24 l0 x9_1).f0, (rd_T24 l0 x9_1).f1, (rd_T24 l0 x9_1).f2, (rd_T24 l0 x9_1).f3, (rd_T24 l0 x9_1).f4, wrap64 (((rd_T24 l0 x9_1).f5) + 1)] : List Int)) := ⟨_, rfl⟩
            replace H : (spec_MapsFit.l1 k1 l0 l0 (l0.length : Int) x9_1 y128 (y128.length : Int) 0 ((rd_T24 l0 x9_1).f0) ((rd_T24 l0 x9_1).f1) ((rd_T24 l0 x9_1).f2) ((rd_T24 l0 x9_1).f3) ((rd_T24 l0 x9_1).f4) ((rd_T24 l0 x9_1).f5)) = some r := by first | (rw [hy128]; with_reducible exact H) | (have H2_ := (Option.bind_some _ _).symm.trans H; rw [hy128]; with_reducible exact H2_) | (have H2_ := (Option.bind_some _ _).symm.trans H; with_reducible exact H2_) | with_reducible exact H | (rw [hy128]; exact H) | exact H
            have Ny128 := Aside0.mk hy128
            clear hy128
            have H' := Aside0.mk H
            clear H
            have p126 : 0 ≤ (x9_1 : Int) := of_decide_eq_true (by first | (with_reducible assumption) | assumption)
            have q126 : x9_1 < (l0.length : Int) := of_decide_eq_true (by first | (with_reducible assumption) | assumption)
            obtain ⟨ad126, e126, hx126_0, hx126_1, hx126_2, hx126_3, hx126_4, hx126_5⟩ := at_T24 HR0.out x9_1 p126 q126
            cases e126
            replace hx126_0 := (HB.out.cell (World.block_lt_of_cell? w _ hx126_0)).trans hx126_0
            replace hx126_1 := (HB.out.cell (World.block_lt_of_cell? w _ hx126_1)).trans hx126_1
            replace hx126_2 := (HB.out.cell (World.block_lt_of_cell? w _ hx126_2)).trans hx126_2
            replace hx126_3 := (HB.out.cell (World.block_lt_of_cell? w _ hx126_3)).trans hx126_3
            replace hx126_4 := (HB.out.cell (World.block_lt_of_cell? w _ hx126_4)).trans hx126_4
            replace hx126_5 := (HB.out.cell (World.block_lt_of_cell? w _ hx126_5)).trans hx126_5
            replace p126 := eq_true p126
            replace q126 := eq_true q126
            go_wp2_with (first | ((with_reducible refine gate_dst (N := 4) rfl ?_); refine box_event ?hg (N := 4) ?hd (cs := #[.int .i64 0, .int .i64 0, .int .i64 0, .int .i64 0, .int .i64 0, .int .i64 0]) (t := 24) ?hr ?_; (case hd => rfl); (case hg => rfl); (case hr => first | (go_simp; done) | (go_simp; rfl)); intro gb127 hg w5 hbox hb; have n0_ := Aside0.mk (below_step (by repeat (first | (with_reducible first | exact HB.out | apply below_alloc | apply pw_below_drewN | apply below_drew1) | exact HB.out)) hb); have n1_ := Aside0.mk (hbox); have n2_ := Aside0.mk ((by rw [hg]; exact (below_size (by repeat (first | (with_reducible first | exact HB.out | apply below_alloc | apply pw_below_drewN | apply below_drew1) | exact HB.out))) : w.heap.size ≤ gb127)); have n3_ := Aside0.mk ((by rw [hg]; exact (below_size (by repeat (first | (with_reducible first | exact HB.out | apply below_alloc | apply pw_below_drewN | apply below_drew1) | exact HB.out))) : w.heap.size ≤ gb127)); clear HB; have HB := n0_; have BK127 := n1_; have GW127 := n2_; have GE127 := n3_; clear n0_ n1_ n2_ n3_; clear hb hbox hg; have hcz6_0 : w5.cell? ⟨gb127, 0, none⟩ = some (.int .i64 0) := (blk_cell BK127.out 0).trans rfl; have hcz6_1 : w5.cell? ⟨gb127, 1, none⟩ = some (.int .i64 0) := (blk_cell BK127.out 1).trans rfl; have hcz6_2 : w5.cell? ⟨gb127, 2, none⟩ = some (.int .i64 0) := (blk_cell BK127.out 2).trans rfl; have hcz6_3 : w5.cell? ⟨gb127, 3, none⟩ = some (.int .i64 0) := (blk_cell BK127.out 3).trans rfl; have hcz6_4 : w5.cell? ⟨gb127, 4, none⟩ = some (.int .i64 0) := (blk_cell BK127.out 4).trans rfl; have hcz6_5 : w5.cell? ⟨gb127, 5, none⟩ = some (.int .i64 0) := (blk_cell BK127.out 5).trans rfl; have hfz6_0 := blk_frozen BK127.out 0; have hfz6_1 := blk_frozen BK127.out 1; have hfz6_2 := blk_frozen BK127.out 2; have hfz6_3 := blk_frozen BK127.out 3; have hfz6_4 := blk_frozen BK127.out 4; have hfz6_5 := blk_frozen BK127.out 5) | ((with_reducible refine gate_dst (N := 26) rfl ?_); refine Kd.R_lit (Kd.int .i64) _ 3 ?hg (N := 26) ?hd (xs := ([(rd_T24 l0 x9_1).f0, (rd_T24 l0 x9_1).f1, (rd_T24 l0 x9_1).f2, (rd_T24 l0 x9_1).f3, (rd_T24 l0 x9_1).f4, wrap64 (((rd_T24 l0 x9_1).f5) + 1)] : List Int)) (inner := [.int .i64 ((rd_T24 l0 x9_1).f0), .int .i64 ((rd_T24 l0 x9_1).f1), .int .i64 ((rd_T24 l0 x9_1).f2), .int .i64 ((rd_T24 l0 x9_1).f3), .int .i64 ((rd_T24 l0 x9_1).f4), .int .i64 (wrap64 (((rd_T24 l0 x9_1).f5) + 1))]) (ok := fun _ => True) (okp := fun _ => True) ?hr ?hp (fun _ hk => hk) trivial (Below.refl _ _) (Nat.le_refl _) (by simp) ?_; (case hd => rfl); (case hg => rfl); (case hr => first | (go_simp; done) | (go_simp; rfl)); (case hp => exact (Reps.one (show Kd.M (Kd.int .i64) _ _ _ ((rd_T24 l0 x9_1).f0) [.int .i64 ((rd_T24 l0 x9_1).f0)] from rfl) (Reps.one (show Kd.M (Kd.int .i64) _ _ _ ((rd_T24 l0 x9_1).f1) [.int .i64 ((rd_T24 l0 x9_1).f1)] from rfl) (Reps.one (show Kd.M (Kd.int .i64) _ _ _ ((rd_T24 l0 x9_1).f2) [.int .i64 ((rd_T24 l0 x9_1).f2)] from rfl) (Reps.one (show Kd.M (Kd.int .i64) _ _ _ ((rd_T24 l0 x9_1).f3) [.int .i64 ((rd_T24 l0 x9_1).f3)] from rfl) (Reps.one (show Kd.M (Kd.int .i64) _ _ _ ((rd_T24 l0 x9_1).f4) [.int .i64 ((rd_T24 l0 x9_1).f4)] from rfl) (Reps.one (show Kd.M (Kd.int .i64) _ _ _ (wrap64 (((rd_T24 l0 x9_1).f5) + 1)) [.int .i64 (wrap64 (((rd_T24 l0 x9_1).f5) + 1))] from rfl) (Reps.none _ _)))))))); intro v129 w7 ho8 hb hg_ hnew_; clear hg_ hnew_; (first | rw [← Ny128.out] at ho8 | (simp only [Int.reduceToNat] at ho8; rw [← Ny128.out] at ho8)); have n0_ := Aside0.mk (Kd.R_lower ho8 (below_size (by repeat (first | (with_reducible first | exact HB.out | apply below_alloc | apply pw_below_drewN | apply below_drew1 | refine below_set ?_ GE127.out) | exact HB.out)))); have n1_ := Aside0.mk (blk_below (g := gb127) (o := .cells #[.int .i64 ((rd_T24 l0 x9_1).f0), .int .i64 ((rd_T24 l0 x9_1).f1), .int .i64 ((rd_T24 l0 x9_1).f2), .int .i64 ((rd_T24 l0 x9_1).f3), .int .i64 ((rd_T24 l0 x9_1).f4), .int .i64 ((rd_T24 l0 x9_1).f5)] 24 (0, 0)) (by (with_reducible repeat (first | refine blk_drewN ?_ _ | refine blk_drew ?_ | refine blk_alloc ?_ _)); refine blk_put (cs := #[.int .i64 ((rd_T24 l0 x9_1).f0), .int .i64 ((rd_T24 l0 x9_1).f1), .int .i64 ((rd_T24 l0 x9_1).f2), .int .i64 ((rd_T24 l0 x9_1).f3), .int .i64 ((rd_T24 l0 x9_1).f4), .int .i64 0]) ?_ 5 _ rfl; (with_reducible repeat (first | refine blk_drewN ?_ _ | refine blk_drew ?_ | refine blk_alloc ?_ _)); refine blk_put (cs := #[.int .i64 ((rd_T24 l0 x9_1).f0), .int .i64 ((rd_T24 l0 x9_1).f1), .int .i64 ((rd_T24 l0 x9_1).f2), .int .i64 ((rd_T24 l0 x9_1).f3), .int .i64 0, .int .i64 0]) ?_ 4 _ rfl; (with_reducible repeat (first | refine blk_drewN ?_ _ | refine blk_drew ?_ | refine blk_alloc ?_ _)); refine blk_put (cs := #[.int .i64 ((rd_T24 l0 x9_1).f0), .int .i64 ((rd_T24 l0 x9_1).f1), .int .i64 ((rd_T24 l0 x9_1).f2), .int .i64 0, .int .i64 0, .int .i64 0]) ?_ 3 _ rfl; (with_reducible repeat (first | refine blk_drewN ?_ _ | refine blk_drew ?_ | refine blk_alloc ?_ _)); refine blk_put (cs := #[.int .i64 ((rd_T24 l0 x9_1).f0), .int .i64 ((rd_T24 l0 x9_1).f1), .int .i64 0, .int .i64 0, .int .i64 0, .int .i64 0]) ?_ 2 _ rfl; (with_reducible repeat (first | refine blk_drewN ?_ _ | refine blk_drew ?_ | refine blk_alloc ?_ _)); refine blk_put (cs := #[.int .i64 ((rd_T24 l0 x9_1).f0), .int .i64 0, .int .i64 0, .int .i64 0, .int .i64 0, .int .i64 0]) ?_ 1 _ rfl; (with_reducible repeat (first | refine blk_drewN ?_ _ | refine blk_drew ?_ | refine blk_alloc ?_ _)); refine blk_put (cs := #[.int .i64 0, .int .i64 0, .int .i64 0, .int .i64 0, .int .i64 0, .int .i64 0]) ?_ 0 _ rfl; (with_reducible repeat (first | refine blk_drewN ?_ _ | refine blk_drew ?_ | refine blk_alloc ?_ _)); exact BK127.out) hb); have n2_ := Aside0.mk (below_step (by repeat (first | (with_reducible first | exact HB.out | apply below_alloc | apply pw_below_drewN | apply below_drew1 | refine below_set ?_ GE127.out) | exact HB.out)) hb); clear BK127; clear HB; have HO130 := n0_; have BK127 := n1_; have HB := n2_; clear n0_ n1_ n2_; clear hb ho8; obtain ⟨Ao9, co9, eo9⟩ := Kd.R_slice HO130.out; subst eo9))
            go_loopg [28] k1 (fun kq v28 w' => ∃ (x28_2 : Int), v28 = .int .i64 x28_2 ∧ Aside0 (spec_MapsFit.l1 kq l0 l0 (l0.length : Int) x9_1 y128 (y128.length : Int) x28_2 ((rd_T24 l0 x9_1).f0) ((rd_T24 l0 x9_1).f1) ((rd_T24 l0 x9_1).f2) ((rd_T24 l0 x9_1).f3) ((rd_T24 l0 x9_1).f4) ((rd_T24 l0 x9_1).f5) = some r) ∧ Aside0 (kq ≤ k1) ∧ Aside0 (Kd.R (Kd.int .i64) 3 w' w.heap.size (fun _ => True) (.slice Ao9 y128.length co9) y128) ∧ Aside0 (w'.heap[gb127]? = some (.cells #[.int .i64 ((rd_T24 l0 x9_1).f0), .int .i64 ((rd_T24 l0 x9_1).f1), .int .i64 ((rd_T24 l0 x9_1).f2), .int .i64 ((rd_T24 l0 x9_1).f3), .int .i64 ((rd_T24 l0 x9_1).f4), .int .i64 ((rd_T24 l0 x9_1).f5)] 24 (0, 0))) ∧ Aside0 (Below w.heap.size w w'))
            case atStart => exact ⟨(0), (by first | rfl | (simp; done) | (simp [*]; done)), H', ⟨Nat.le_refl _⟩, ⟨by (with_reducible repeat (first | apply Kd.R_alloc | apply Kd.R_drewN | apply Kd.R_drew)); exact HO130.out⟩, ⟨by (with_reducible repeat (first | refine blk_drewN ?_ _ | refine blk_drew ?_ | refine blk_alloc ?_ _)); exact BK127.out⟩, ⟨by repeat (first | (with_reducible first | exact HB.out | apply below_alloc | apply pw_below_drewN | apply below_drew1 | refine below_set ?_ GE127.out) | exact HB.out)⟩⟩
            case round =>
              clear H'
              try clear p1
              try clear q1
              try clear hx1
              try clear c2
              try clear c2b0
              try clear p2
              try clear c3
              try clear c3b0
              try clear c4
              try clear c4b0
              try clear c5
              try clear p6
              try clear hcz6_0
              try clear hcz6_1
              try clear hcz6_2
              try clear hcz6_3
              try clear hcz6_4
              try clear hcz6_5
              try clear hfz6_0
              try clear hfz6_1
              try clear hfz6_2
              try clear hfz6_3
              try clear hfz6_4
              try clear hfz6_5
              try clear hx126_0
              try clear hx126_1
              try clear hx126_2
              try clear hx126_3
              try clear hx126_4
              try clear hx126_5
              try clear p126
              try clear q126
              obtain ⟨x28_2, rfl, HA, HK2, HO_26, BK127, HB⟩ := hrel
              cases gk with
              | zero => exact absurd HA.out (by simp [spec_MapsFit.l1])
              | succ k2 =>
                have H := HA.out
                clear HA
                simp only [spec_MapsFit.l1] at H
                by_cases c10 : x28_2 < (y128.length : Int)
                · rw [if_pos c10] at H
                  have c10b0 : decide (x28_2 < (y128.length : Int)) = true := decide_eq_true c10
                  clear c10
                  by_cases c11 : 0 ≤ x28_2
                  · rw [if_pos c11] at H
                    have c11b0 : decide (0 ≤ x28_2) = true := decide_eq_true c11
                    clear c11
                    by_cases c12 : x28_2 < (y128.length : Int)
                    · rw [if_pos c12] at H
                      have c12b0 : decide (x28_2 < (y128.length : Int)) = true := decide_eq_true c12
                      clear c12
                      by_cases c13 : (rd y128 x28_2) < 0
                      · rw [if_pos c13] at H
                        have c13b0 : decide ((rd y128 x28_2) < 0) = true := decide_eq_true c13
                        clear c13
                        obtain rfl := Option.some.inj H
                        have p131 : 0 ≤ (x28_2 : Int) := of_decide_eq_true (by first | (with_reducible assumption) | assumption)
                        have q131 : x28_2 < (y128.length : Int) := of_decide_eq_true (by first | (with_reducible assumption) | assumption)
                        obtain ⟨ad131, e131, hx131_0⟩ := Kd.at_int (Kd.R_reads' HO_26.out).2.2 x28_2 p131 q131
                        cases e131
                        replace p131 := eq_true p131
                        replace q131 := eq_true q131
                        go_wp2
                        go_ret
                        exact ⟨by first | rfl | (simp [errW_none, errW_some] <;> rfl) | (simp [*, errW_none, errW_some] <;> rfl), by repeat (first | (with_reducible first | exact HB.out | apply below_alloc | apply pw_below_drewN | apply below_drew1 | refine below_set ?_ GE127.out) | exact HB.out)⟩
                      · rw [if_neg c13] at H
                        have c13b0 : decide ((rd y128 x28_2) < 0) = false := decide_eq_false c13
                        clear c13
                        by_cases c14 : (rd y128 x28_2) > 1073741824
                        · rw [if_pos c14] at H
                          have c14b0 : decide (1073741824 < (rd y128 x28_2)) = true := decide_eq_true c14
                          clear c14
                          obtain rfl := Option.some.inj H
                          have p131 : 0 ≤ (x28_2 : Int) := of_decide_eq_true (by first | (with_reducible assumption) | assumption)
                          have q131 : x28_2 < (y128.length : Int) := of_decide_eq_true (by first | (with_reducible assumption) | assumption)
                          obtain ⟨ad131, e131, hx131_0⟩ := Kd.at_int (Kd.R_reads' HO_26.out).2.2 x28_2 p131 q131
                          cases e131
                          replace p131 := eq_true p131
                          replace q131 := eq_true q131
                          go_wp2
                          go_ret
                          exact ⟨by first | rfl | (simp [errW_none, errW_some] <;> rfl) | (simp [*, errW_none, errW_some] <;> rfl), by repeat (first | (with_reducible first | exact HB.out | apply below_alloc | apply pw_below_drewN | apply below_drew1 | refine below_set ?_ GE127.out) | exact HB.out)⟩
                        · rw [if_neg c14] at H
                          have c14b0 : decide (1073741824 < (rd y128 x28_2)) = false := decide_eq_false c14
                          clear c14
                          have H' := Aside0.mk H
                          clear H
                          have p131 : 0 ≤ (x28_2 : Int) := of_decide_eq_true (by first | (with_reducible assumption) | assumption)
                          have q131 : x28_2 < (y128.length : Int) := of_decide_eq_true (by first | (with_reducible assumption) | assumption)
                          obtain ⟨ad131, e131, hx131_0⟩ := Kd.at_int (Kd.R_reads' HO_26.out).2.2 x28_2 p131 q131
                          cases e131
                          replace p131 := eq_true p131
                          replace q131 := eq_true q131
                          go_wp2
                          go_roundg k2
                          case measure => have := HK1.out; have := HK2.out; omega
                          case rel => exact ⟨(wrap64 (x28_2 + 1)), (by first | rfl | (simp; done) | (simp [*]; done)), H', ⟨by have := HK1.out; have := HK2.out; omega⟩, ⟨by (with_reducible repeat (first | apply Kd.R_alloc | apply Kd.R_drewN | apply Kd.R_drew)); exact HO_26.out⟩, ⟨by (with_reducible repeat (first | refine blk_drewN ?_ _ | refine blk_drew ?_ | refine blk_alloc ?_ _)); exact BK127.out⟩, ⟨by repeat (first | (with_reducible first | exact HB.out | apply below_alloc | apply pw_below_drewN | apply below_drew1 | refine below_set ?_ GE127.out) | exact HB.out)⟩⟩
                    · rw [if_neg c12] at H
                      exact absurd H (by simp)
                  · rw [if_neg c11] at H
                    exact absurd H (by simp)
                · rw [if_neg c10] at H
                  have c10b0 : decide (x28_2 < (y128.length : Int)) = false := decide_eq_false c10
                  clear c10
                  by_cases c15 : ((rd_T24 l0 x9_1).f0) > 1000
                  · rw [if_pos c15] at H
                    have c15b0 : decide (1000 < ((rd_T24 l0 x9_1).f0)) = true := decide_eq_true c15
                    clear c15
                    obtain rfl := Option.some.inj H
                    have hcz16_0 : wr.cell? ⟨gb127, 0, none⟩ = some (.int .i64 ((rd_T24 l0 x9_1).f0)) := (blk_cell BK127.out 0).trans rfl
                    have hcz16_1 : wr.cell? ⟨gb127, 1, none⟩ = some (.int .i64 ((rd_T24 l0 x9_1).f1)) := (blk_cell BK127.out 1).trans rfl
                    have hcz16_2 : wr.cell? ⟨gb127, 2, none⟩ = some (.int .i64 ((rd_T24 l0 x9_1).f2)) := (blk_cell BK127.out 2).trans rfl
                    have hcz16_3 : wr.cell? ⟨gb127, 3, none⟩ = some (.int .i64 ((rd_T24 l0 x9_1).f3)) := (blk_cell BK127.out 3).trans rfl
                    have hcz16_4 : wr.cell? ⟨gb127, 4, none⟩ = some (.int .i64 ((rd_T24 l0 x9_1).f4)) := (blk_cell BK127.out 4).trans rfl
                    have hcz16_5 : wr.cell? ⟨gb127, 5, none⟩ = some (.int .i64 ((rd_T24 l0 x9_1).f5)) := (blk_cell BK127.out 5).trans rfl
                    have hfz16_0 := blk_frozen BK127.out 0
                    have hfz16_1 := blk_frozen BK127.out 1
                    have hfz16_2 := blk_frozen BK127.out 2
                    have hfz16_3 := blk_frozen BK127.out 3
                    have hfz16_4 := blk_frozen BK127.out 4
                    have hfz16_5 := blk_frozen BK127.out 5
                    go_wp2
                    go_ret
                    exact ⟨by first | rfl | (simp [errW_none, errW_some] <;> rfl) | (simp [*, errW_none, errW_some] <;> rfl), by repeat (first | (with_reducible first | exact HB.out | apply below_alloc | apply pw_below_drewN | apply below_drew1 | refine below_set ?_ GE127.out) | exact HB.out)⟩
                  · rw [if_neg c15] at H
                    have c15b0 : decide (1000 < ((rd_T24 l0 x9_1).f0)) = false := decide_eq_false c15
                    clear c15
                    have H' := Aside0.mk H
                    clear H
                    have hcz17_0 : wr.cell? ⟨gb127, 0, none⟩ = some (.int .i64 ((rd_T24 l0 x9_1).f0)) := (blk_cell BK127.out 0).trans rfl
                    have hcz17_1 : wr.cell? ⟨gb127, 1, none⟩ = some (.int .i64 ((rd_T24 l0 x9_1).f1)) := (blk_cell BK127.out 1).trans rfl
                    have hcz17_2 : wr.cell? ⟨gb127, 2, none⟩ = some (.int .i64 ((rd_T24 l0 x9_1).f2)) := (blk_cell BK127.out 2).trans rfl
                    have hcz17_3 : wr.cell? ⟨gb127, 3, none⟩ = some (.int .i64 ((rd_T24 l0 x9_1).f3)) := (blk_cell BK127.out 3).trans rfl
                    have hcz17_4 : wr.cell? ⟨gb127, 4, none⟩ = some (.int .i64 ((rd_T24 l0 x9_1).f4)) := (blk_cell BK127.out 4).trans rfl
                    have hcz17_5 : wr.cell? ⟨gb127, 5, none⟩ = some (.int .i64 ((rd_T24 l0 x9_1).f5)) := (blk_cell BK127.out 5).trans rfl
                    have hfz17_0 := blk_frozen BK127.out 0
                    have hfz17_1 := blk_frozen BK127.out 1
                    have hfz17_2 := blk_frozen BK127.out 2
                    have hfz17_3 := blk_frozen BK127.out 3
                    have hfz17_4 := blk_frozen BK127.out 4
                    have hfz17_5 := blk_frozen BK127.out 5
                    go_wp2
                    go_roundg k2
                    case measure => have := HK1.out; have := HK2.out; omega
                    case rel => exact ⟨(wrap64 (x9_1 + 1)), (by first | rfl | (simp; done) | (simp [*]; done)), H', ⟨by have := HK1.out; have := HK2.out; omega⟩, ⟨by repeat (first | (with_reducible first | exact HB.out | apply below_alloc | apply pw_below_drewN | apply below_drew1 | refine below_set ?_ GE127.out) | exact HB.out)⟩⟩
          · rw [if_neg c4] at H
            exact absurd H (by simp)
        · rw [if_neg c3] at H
          exact absurd H (by simp)
      · rw [if_neg c2] at H
        have c2b0 : decide (x9_1 < (l0.length : Int)) = false := decide_eq_false c2
        clear c2
        replace H := Option.bind_eq_some_iff.mp H
        obtain ⟨t125, A180, H⟩ := H
        replace H : (some t125) = some r := H
        have A18 := Aside0.mk A180
        clear A180
        obtain rfl := Option.some.inj H
        go_wp2_with (first | ((with_reducible refine gate_callee (f := 11) rfl ?_); refine goesL_ (some 44) rfl rfl Try.func11 (by kernel_rfl) rfl #[.slice A0 l0.length c0] rfl (by (try simp only [List.map_toArray, List.map_cons, List.map_nil]); first | done | rfl | (simp only [List.length_drop, List.length_take]; rfl)) ?_; (with_reducible refine (spec_Ordered.calls k1 _ _ l0 t125 _ ?side1 ?side2 A18.out).mono ?_); (case side1 => repeat (first | exact (Kd.C_below HR0.out HB.out) | (with_reducible refine Kd.C_alloc ?_ _) | (with_reducible refine Kd.C_drewN ?_ _) | (with_reducible refine Kd.C_drew ?_))); (case side2 => exact HC0.out); rintro e w19 ⟨rfl, hb⟩; refine ⟨_, rfl, ?_⟩; have n0_ := Aside0.mk (below_step (by repeat (first | (with_reducible first | exact HB.out | apply below_alloc | apply pw_below_drewN | apply below_drew1) | exact HB.out)) hb); clear HB; have HB := n0_; clear n0_; (try clear hb); (try clear hb2); (try clear hk); (try clear hi)))
        go_ret
        exact ⟨by first | rfl | (simp [errW_none, errW_some] <;> rfl) | (simp [*, errW_none, errW_some] <;> rfl), by repeat (first | (with_reducible first | exact HB.out | apply below_alloc | apply pw_below_drewN | apply below_drew1) | exact HB.out)⟩

/-! ### spec_MapFind: function 6 -/
def spec_MapFind.l0 : Nat → List (S24) → Int → Int → Int → Int → Int → Option (Int)
  | 0, _, _, _, _, _, _ => none
  | k + 1, x0, x1, x2, x7, x10, x11 => if x11 < x10 then (if 0 ≤ x11 then (if x11 < (x0.length : Int) then (if ((rd_T24 x0 x11).f0) = x1 then (if ((rd_T24 x0 x11).f1) ≤ x2 then (spec_MapFind.l0 k x0 x1 x2 x11 x10 (wrap64 (x11 + 1))) else (spec_MapFind.l0 k x0 x1 x2 x7 x10 (wrap64 (x11 + 1)))) else (spec_MapFind.l0 k x0 x1 x2 x7 x10 (wrap64 (x11 + 1)))) else (none)) else (none)) else (some x7)
def spec_MapFind.f (k : Nat) (l0 : List (S24)) (a1 : Int) (a2 : Int) : Option (Int) := spec_MapFind.l0 k l0 a1 a2 (-1) (l0.length : Int) 0
theorem spec_MapFind.mono_l : ∀ k, (∀ y0 y1 y2 y3 y4 y5, LeO (spec_MapFind.l0 k y0 y1 y2 y3 y4 y5) (spec_MapFind.l0 (k + 1) y0 y1 y2 y3 y4 y5))
  | 0 => fun _ _ _ _ _ _ r h => by simp [spec_MapFind.l0] at h
  | k + 1 => by
    have ih0 := spec_MapFind.mono_l k
    · intro y0 y1 y2 y3 y4 y5
      unfold spec_MapFind.l0
      repeat' first
      | (with_reducible exact ih0 _ _ _ _ _ _)
      | (with_reducible exact LeO.refl _)
      | (with_reducible exact LeO.none _)
      | (with_reducible refine LeO.ite ?_ ?_)
      | (with_reducible refine LeO.bind ?_ (fun _ => ?_))
      | exact ih0 _ _ _ _ _ _
      | exact LeO.none _
      | refine LeO.ite ?_ ?_
      | refine LeO.bind ?_ (fun _ => ?_)
theorem spec_MapFind.mono : ∀ a0 a1 a2 k, LeO (spec_MapFind.f k a0 a1 a2) (spec_MapFind.f (k + 1) a0 a1 a2) := by
  intro a0 a1 a2 k
  have ih0 := spec_MapFind.mono_l k
  unfold spec_MapFind.f
  repeat' first
      | (with_reducible exact ih0 _ _ _ _ _ _)
      | (with_reducible exact LeO.refl _)
      | (with_reducible exact LeO.none _)
      | (with_reducible refine LeO.ite ?_ ?_)
      | (with_reducible refine LeO.bind ?_ (fun _ => ?_))
      | exact ih0 _ _ _ _ _ _
      | exact LeO.none _
      | refine LeO.ite ?_ ?_
      | refine LeO.bind ?_ (fun _ => ?_)
set_option maxHeartbeats 8000000 in
set_option maxRecDepth 100000 in
theorem spec_MapFind.calls (k : Nat) (A0 : Option Addr) (c0 : Nat) (l0 : List (S24)) (a1 : Int) (a2 : Int) (r : Int) (w : World) (hr0 : Kd.C k24 w A0 l0.length l0) (hc0 : l0.length ≤ c0) (h : spec_MapFind.f k l0 a1 a2 = some r) :
    Calls Try.prog 6 #[.slice A0 l0.length c0, .int .i64 a1, .int .i64 a2] w fun e w' => e = .returned (.int .i64 r) ∧ Drawn0 w w' := by
  have HR0 := Aside0.mk hr0
  have HC0 := Aside0.mk hc0
  clear hr0 hc0
  have H : (spec_MapFind.l0 k l0 a1 a2 (-1) (l0.length : Int) 0) = some r := h
  clear h
  have H' := Aside0.mk H
  clear H
  go_enter Try.func6, Try.ntmps6
  go_wp2
  go_loopg [7, 11] k (fun kq v7 v11 w' => ∃ (x7_1 : Int) (x11_1 : Int), v7 = .int .i64 x7_1 ∧ v11 = .int .i64 x11_1 ∧ Aside0 (spec_MapFind.l0 kq l0 a1 a2 x7_1 (l0.length : Int) x11_1 = some r) ∧ Aside0 (kq ≤ k) ∧ Drawn0 w w')
  case atStart => exact ⟨((-1)), (0), (by first | rfl | (simp; done) | (simp [*]; done)), (by first | rfl | (simp; done) | (simp [*]; done)), H', ⟨Nat.le_refl _⟩, by repeat (first | exact Drawn0.refl _ | apply Drawn0.step)⟩
  case round =>
    clear H'
    try clear p2
    obtain ⟨x7_1, x11_1, rfl, rfl, HA, HK1, ⟨m1, rfl⟩⟩ := hrel
    cases gk with
    | zero => exact absurd HA.out (by simp [spec_MapFind.l0])
    | succ k1 =>
      have H := HA.out
      clear HA
      simp only [spec_MapFind.l0] at H
      by_cases c4 : x11_1 < (l0.length : Int)
      · rw [if_pos c4] at H
        have c4b0 : decide (x11_1 < (l0.length : Int)) = true := decide_eq_true c4
        clear c4
        by_cases c5 : 0 ≤ x11_1
        · rw [if_pos c5] at H
          have c5b0 : decide (0 ≤ x11_1) = true := decide_eq_true c5
          clear c5
          by_cases c6 : x11_1 < (l0.length : Int)
          · rw [if_pos c6] at H
            have c6b0 : decide (x11_1 < (l0.length : Int)) = true := decide_eq_true c6
            clear c6
            by_cases c7 : ((rd_T24 l0 x11_1).f0) = a1
            · rw [if_pos c7] at H
              have c7b0 : (((rd_T24 l0 x11_1).f0) == a1) = true := beq_iff_eq.mpr c7
              have c7b1 : (((rd_T24 l0 x11_1).f0) != a1) = false := bne_eq_false_iff_eq.mpr c7
              clear c7
              by_cases c8 : ((rd_T24 l0 x11_1).f1) ≤ a2
              · rw [if_pos c8] at H
                have c8b0 : decide (((rd_T24 l0 x11_1).f1) ≤ a2) = true := decide_eq_true c8
                clear c8
                have H' := Aside0.mk H
                clear H
                have p132 : 0 ≤ (x11_1 : Int) := of_decide_eq_true (by first | (with_reducible assumption) | assumption)
                have q132 : x11_1 < (l0.length : Int) := of_decide_eq_true (by first | (with_reducible assumption) | assumption)
                obtain ⟨ad132, e132, hx132_0, hx132_1, hx132_2, hx132_3, hx132_4, hx132_5⟩ := at_T24 HR0.out x11_1 p132 q132
                cases e132
                replace p132 := eq_true p132
                replace q132 := eq_true q132
                have p133 : 0 ≤ (x11_1 : Int) := of_decide_eq_true (by first | (with_reducible assumption) | assumption)
                have q133 : x11_1 < (l0.length : Int) := of_decide_eq_true (by first | (with_reducible assumption) | assumption)
                obtain ⟨ad133, e133, hx133_0, hx133_1, hx133_2, hx133_3, hx133_4, hx133_5⟩ := at_T24 HR0.out x11_1 p133 q133
                obtain rfl : ad132 = ad133 := (by injection e133)
                replace p133 := eq_true p133
                replace q133 := eq_true q133
                go_wp2
                go_roundg k1
                case measure => have := HK1.out; omega
                case rel => exact ⟨(x11_1), (wrap64 (x11_1 + 1)), (by first | rfl | (simp; done) | (simp [*]; done)), (by first | rfl | (simp; done) | (simp [*]; done)), H', ⟨by have := HK1.out; omega⟩, by repeat (first | exact Drawn0.refl _ | apply Drawn0.step)⟩
              · rw [if_neg c8] at H
                have c8b0 : decide (((rd_T24 l0 x11_1).f1) ≤ a2) = false := decide_eq_false c8
                clear c8
                have H' := Aside0.mk H
                clear H
                have p132 : 0 ≤ (x11_1 : Int) := of_decide_eq_true (by first | (with_reducible assumption) | assumption)
                have q132 : x11_1 < (l0.length : Int) := of_decide_eq_true (by first | (with_reducible assumption) | assumption)
                obtain ⟨ad132, e132, hx132_0, hx132_1, hx132_2, hx132_3, hx132_4, hx132_5⟩ := at_T24 HR0.out x11_1 p132 q132
                cases e132
                replace p132 := eq_true p132
                replace q132 := eq_true q132
                have p133 : 0 ≤ (x11_1 : Int) := of_decide_eq_true (by first | (with_reducible assumption) | assumption)
                have q133 : x11_1 < (l0.length : Int) := of_decide_eq_true (by first | (with_reducible assumption) | assumption)
                obtain ⟨ad133, e133, hx133_0, hx133_1, hx133_2, hx133_3, hx133_4, hx133_5⟩ := at_T24 HR0.out x11_1 p133 q133
                obtain rfl : ad132 = ad133 := (by injection e133)
                replace p133 := eq_true p133
                replace q133 := eq_true q133
                go_wp2
                go_roundg k1
                case measure => have := HK1.out; omega
                case rel => exact ⟨(x7_1), (wrap64 (x11_1 + 1)), (by first | rfl | (simp; done) | (simp [*]; done)), (by first | rfl | (simp; done) | (simp [*]; done)), H', ⟨by have := HK1.out; omega⟩, by repeat (first | exact Drawn0.refl _ | apply Drawn0.step)⟩
            · rw [if_neg c7] at H
              have c7b0 : (((rd_T24 l0 x11_1).f0) == a1) = false := beq_eq_false_iff_ne.mpr c7
              have c7b1 : (((rd_T24 l0 x11_1).f0) != a1) = true := bne_iff_ne.mpr c7
              have H' := Aside0.mk H
              clear H
              have p132 : 0 ≤ (x11_1 : Int) := of_decide_eq_true (by first | (with_reducible assumption) | assumption)
              have q132 : x11_1 < (l0.length : Int) := of_decide_eq_true (by first | (with_reducible assumption) | assumption)
              obtain ⟨ad132, e132, hx132_0, hx132_1, hx132_2, hx132_3, hx132_4, hx132_5⟩ := at_T24 HR0.out x11_1 p132 q132
              cases e132
              replace p132 := eq_true p132
              replace q132 := eq_true q132
              go_wp2
              go_roundg k1
              case measure => have := HK1.out; omega
              case rel => exact ⟨(x7_1), (wrap64 (x11_1 + 1)), (by first | rfl | (simp; done) | (simp [*]; done)), (by first | rfl | (simp; done) | (simp [*]; done)), H', ⟨by have := HK1.out; omega⟩, by repeat (first | exact Drawn0.refl _ | apply Drawn0.step)⟩
          · rw [if_neg c6] at H
            exact absurd H (by simp)
        · rw [if_neg c5] at H
          exact absurd H (by simp)
      · rw [if_neg c4] at H
        have c4b0 : decide (x11_1 < (l0.length : Int)) = false := decide_eq_false c4
        clear c4
        obtain rfl := Option.some.inj H
        go_wp2
        go_ret
        exact ⟨by first | rfl | (simp; done) | (simp [*]; done), by repeat (first | exact Drawn0.refl _ | apply Drawn0.step)⟩

-- NOT PRINTED: function 3 (laws_FnFind)

end Go.Proofs.Ytlodefalhhcmkaa.PFnFind
