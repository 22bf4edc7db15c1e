-- PRINTED BY print.sh 35421559b90ae4d0a3588c463048766b98c2df88dd9212a6774a882060cdf62d: not written by this session
import Derived.Test.YtdhaifcjhmmdlaaPFnFinalizex0
namespace Go.Proofs.Ytdhaifcjhmmdlaa.PFnFinalize
open Go.RowKit Go.Proofs.YtdhaifcjhmmdlaaW.PrintWords Go.Proofs.YtdhaifcjhmmdlaaW.PrintLast Go.Proofs.YtdhaifcjhmmdlaaW.PrintMore
attribute [local go_sem] max2_int min2_int max_two min_two max_three min_three max_four min_four   -- for this text's walks alone
set_option linter.unusedVariables false
set_option linter.unusedSimpArgs false

/-! ### spec_Before: function 11 -/
def spec_Before.f (a0_0 : Int) (a0_1 : Int) (a1_0 : Int) (a1_1 : Int) : Option (Bool) := if a0_0 < a1_0 then (some true) else (if a0_0 = a1_0 then (some (decide (a0_1 < a1_1))) else (some false))
set_option maxHeartbeats 8000000 in
set_option maxRecDepth 100000 in
theorem spec_Before.calls (a0_0 : Int) (a0_1 : Int) (a1_0 : Int) (a1_1 : Int) (r : Bool) (w : World) (h : spec_Before.f a0_0 a0_1 a1_0 a1_1 = some r) :
    Calls Try.prog 11 #[.agg #[.int .i64 a0_0, .int .i64 a0_1], .agg #[.int .i64 a1_0, .int .i64 a1_1]] w fun e w' => e = .returned (.bool r) ∧ Below w.heap.size w w' := by
  have hu40 := Try.underlying40
  have HB := Aside0.mk (Below.refl w.heap.size w)
  have H : (if a0_0 < a1_0 then (some true) else (if a0_0 = a1_0 then (some (decide (a0_1 < a1_1))) else (some false))) = some r := h
  clear h
  by_cases c3 : a0_0 < a1_0
  · rw [if_pos c3] at H
    have c3b0 : decide (a0_0 < a1_0) = true := decide_eq_true c3
    clear c3
    obtain rfl := Option.some.inj H
    go_enter Try.func11, Try.ntmps11
    go_wp2_with (first | ((with_reducible refine gate_dst (N := 2) rfl ?_); refine box_event ?hg (N := 2) ?hd (cs := #[.int .i64 a0_0, .int .i64 a0_1]) (t := 40) ?hr ?_; (case hd => rfl); (case hg => rfl); (case hr => first | (go_simp; done) | (go_simp; rfl)); intro gb101 hg w4 hbox hb; have n0_ := Aside0.mk (below_step (by repeat (first | (with_reducible first | exact HB.out | apply below_alloc | apply pw_below_drewN | apply below_drew1) | exact HB.out)) hb); have n1_ := Aside0.mk (hbox); have n2_ := Aside0.mk ((by rw [hg]; exact (below_size (by repeat (first | (with_reducible first | exact HB.out | apply below_alloc | apply pw_below_drewN | apply below_drew1) | exact HB.out))) : w.heap.size ≤ gb101)); have n3_ := Aside0.mk ((by rw [hg]; exact (below_size (by repeat (first | (with_reducible first | exact HB.out | apply below_alloc | apply pw_below_drewN | apply below_drew1) | exact HB.out))) : w.heap.size ≤ gb101)); clear HB; have HB := n0_; have BK101 := n1_; have GW101 := n2_; have GE101 := n3_; clear n0_ n1_ n2_ n3_; clear hb hbox hg) | ((with_reducible refine gate_dst (N := 3) rfl ?_); refine box_event ?hg (N := 3) ?hd (cs := #[.int .i64 a1_0, .int .i64 a1_1]) (t := 40) ?hr ?_; (case hd => rfl); (case hg => rfl); (case hr => first | (go_simp; done) | (go_simp; rfl)); intro gb102 hg w5 hbox hb; have n0_ := Aside0.mk (blk_below (g := gb101) (o := .cells #[.int .i64 a0_0, .int .i64 a0_1] 40 (0, 0)) (by (with_reducible repeat (first | refine blk_drewN ?_ _ | refine blk_drew ?_ | refine blk_alloc ?_ _)); exact BK101.out) hb); have n1_ := Aside0.mk (below_step (by repeat (first | (with_reducible first | exact HB.out | apply below_alloc | apply pw_below_drewN | apply below_drew1 | refine below_set ?_ GE101.out) | exact HB.out)) hb); have n2_ := Aside0.mk (hbox); have n3_ := Aside0.mk ((by rw [hg]; exact (below_size (by repeat (first | (with_reducible first | exact HB.out | apply below_alloc | apply pw_below_drewN | apply below_drew1 | refine below_set ?_ GE101.out) | exact HB.out))) : w.heap.size ≤ gb102)); have n4_ := Aside0.mk ((by rw [hg]; exact (below_size (by repeat (first | (with_reducible first | exact HB.out | apply below_alloc | apply pw_below_drewN | apply below_drew1 | refine below_set ?_ GE101.out) | exact HB.out))) : w.heap.size ≤ gb102)); have n5_ := Aside0.mk ((by rw [hg]; exact Nat.ne_of_lt (blk_lt (g := gb101) (o := .cells #[.int .i64 a0_0, .int .i64 a0_1] 40 (0, 0)) (by (with_reducible repeat (first | refine blk_drewN ?_ _ | refine blk_drew ?_ | refine blk_alloc ?_ _)); exact BK101.out)) : gb101 ≠ gb102)); have n6_ := Aside0.mk ((by rw [hg]; exact Nat.ne_of_gt (blk_lt (g := gb101) (o := .cells #[.int .i64 a0_0, .int .i64 a0_1] 40 (0, 0)) (by (with_reducible repeat (first | refine blk_drewN ?_ _ | refine blk_drew ?_ | refine blk_alloc ?_ _)); exact BK101.out)) : gb102 ≠ gb101)); clear BK101; clear HB; have BK101 := n0_; have HB := n1_; have BK102 := n2_; have GW102 := n3_; have GE102 := n4_; have NB101_102 := n5_; have NB102_101 := n6_; clear n0_ n1_ n2_ n3_ n4_ n5_ n6_; clear hb hbox hg; have hnb6 := NB101_102.out; have hnc6 := NB102_101.out; have hcz7_0 : w5.cell? ⟨gb101, 0, none⟩ = some (.int .i64 a0_0) := (blk_cell BK101.out 0).trans rfl; have hcz7_1 : w5.cell? ⟨gb101, 1, none⟩ = some (.int .i64 a0_1) := (blk_cell BK101.out 1).trans rfl; have hfz7_0 := blk_frozen BK101.out 0; have hfz7_1 := blk_frozen BK101.out 1; have hcz8_0 : w5.cell? ⟨gb102, 0, none⟩ = some (.int .i64 a1_0) := (blk_cell BK102.out 0).trans rfl; have hcz8_1 : w5.cell? ⟨gb102, 1, none⟩ = some (.int .i64 a1_1) := (blk_cell BK102.out 1).trans rfl; have hfz8_0 := blk_frozen BK102.out 0; have hfz8_1 := blk_frozen BK102.out 1))
    go_ret
    exact ⟨by first | rfl | (simp [errW_none, errW_some] <;> rfl) | (simp [*, errW_none, errW_some] <;> rfl), by repeat (first | (with_reducible first | exact HB.out | apply below_alloc | apply pw_below_drewN | apply below_drew1 | refine below_set ?_ GE101.out | refine below_set ?_ GE102.out) | exact HB.out)⟩
  · rw [if_neg c3] at H
    have c3b0 : decide (a0_0 < a1_0) = false := decide_eq_false c3
    clear c3
    by_cases c9 : a0_0 = a1_0
    · rw [if_pos c9] at H
      have c9b0 : (a0_0 == a1_0) = true := beq_iff_eq.mpr c9
      have c9b1 : (a0_0 != a1_0) = false := bne_eq_false_iff_eq.mpr c9
      clear c9
      obtain rfl := Option.some.inj H
      go_enter Try.func11, Try.ntmps11
      go_wp2_with (first | ((with_reducible refine gate_dst (N := 2) rfl ?_); refine box_event ?hg (N := 2) ?hd (cs := #[.int .i64 a0_0, .int .i64 a0_1]) (t := 40) ?hr ?_; (case hd => rfl); (case hg => rfl); (case hr => first | (go_simp; done) | (go_simp; rfl)); intro gb101 hg w10 hbox hb; have n0_ := Aside0.mk (below_step (by repeat (first | (with_reducible first | exact HB.out | apply below_alloc | apply pw_below_drewN | apply below_drew1) | exact HB.out)) hb); have n1_ := Aside0.mk (hbox); have n2_ := Aside0.mk ((by rw [hg]; exact (below_size (by repeat (first | (with_reducible first | exact HB.out | apply below_alloc | apply pw_below_drewN | apply below_drew1) | exact HB.out))) : w.heap.size ≤ gb101)); have n3_ := Aside0.mk ((by rw [hg]; exact (below_size (by repeat (first | (with_reducible first | exact HB.out | apply below_alloc | apply pw_below_drewN | apply below_drew1) | exact HB.out))) : w.heap.size ≤ gb101)); clear HB; have HB := n0_; have BK101 := n1_; have GW101 := n2_; have GE101 := n3_; clear n0_ n1_ n2_ n3_; clear hb hbox hg) | ((with_reducible refine gate_dst (N := 3) rfl ?_); refine box_event ?hg (N := 3) ?hd (cs := #[.int .i64 a1_0, .int .i64 a1_1]) (t := 40) ?hr ?_; (case hd => rfl); (case hg => rfl); (case hr => first | (go_simp; done) | (go_simp; rfl)); intro gb102 hg w11 hbox hb; have n0_ := Aside0.mk (blk_below (g := gb101) (o := .cells #[.int .i64 a0_0, .int .i64 a0_1] 40 (0, 0)) (by (with_reducible repeat (first | refine blk_drewN ?_ _ | refine blk_drew ?_ | refine blk_alloc ?_ _)); exact BK101.out) hb); have n1_ := Aside0.mk (below_step (by repeat (first | (with_reducible first | exact HB.out | apply below_alloc | apply pw_below_drewN | apply below_drew1 | refine below_set ?_ GE101.out) | exact HB.out)) hb); have n2_ := Aside0.mk (hbox); have n3_ := Aside0.mk ((by rw [hg]; exact (below_size (by repeat (first | (with_reducible first | exact HB.out | apply below_alloc | apply pw_below_drewN | apply below_drew1 | refine below_set ?_ GE101.out) | exact HB.out))) : w.heap.size ≤ gb102)); have n4_ := Aside0.mk ((by rw [hg]; exact (below_size (by repeat (first | (with_reducible first | exact HB.out | apply below_alloc | apply pw_below_drewN | apply below_drew1 | refine below_set ?_ GE101.out) | exact HB.out))) : w.heap.size ≤ gb102)); have n5_ := Aside0.mk ((by rw [hg]; exact Nat.ne_of_lt (blk_lt (g := gb101) (o := .cells #[.int .i64 a0_0, .int .i64 a0_1] 40 (0, 0)) (by (with_reducible repeat (first | refine blk_drewN ?_ _ | refine blk_drew ?_ | refine blk_alloc ?_ _)); exact BK101.out)) : gb101 ≠ gb102)); have n6_ := Aside0.mk ((by rw [hg]; exact Nat.ne_of_gt (blk_lt (g := gb101) (o := .cells #[.int .i64 a0_0, .int .i64 a0_1] 40 (0, 0)) (by (with_reducible repeat (first | refine blk_drewN ?_ _ | refine blk_drew ?_ | refine blk_alloc ?_ _)); exact BK101.out)) : gb102 ≠ gb101)); clear BK101; clear HB; have BK101 := n0_; have HB := n1_; have BK102 := n2_; have GW102 := n3_; have GE102 := n4_; have NB101_102 := n5_; have NB102_101 := n6_; clear n0_ n1_ n2_ n3_ n4_ n5_ n6_; clear hb hbox hg; have hnb12 := NB101_102.out; have hnc12 := NB102_101.out; have hcz13_0 : w11.cell? ⟨gb101, 0, none⟩ = some (.int .i64 a0_0) := (blk_cell BK101.out 0).trans rfl; have hcz13_1 : w11.cell? ⟨gb101, 1, none⟩ = some (.int .i64 a0_1) := (blk_cell BK101.out 1).trans rfl; have hfz13_0 := blk_frozen BK101.out 0; have hfz13_1 := blk_frozen BK101.out 1; have hcz14_0 : w11.cell? ⟨gb102, 0, none⟩ = some (.int .i64 a1_0) := (blk_cell BK102.out 0).trans rfl; have hcz14_1 : w11.cell? ⟨gb102, 1, none⟩ = some (.int .i64 a1_1) := (blk_cell BK102.out 1).trans rfl; have hfz14_0 := blk_frozen BK102.out 0; have hfz14_1 := blk_frozen BK102.out 1))
      go_ret
      exact ⟨by first | rfl | (simp [errW_none, errW_some] <;> rfl) | (simp [*, errW_none, errW_some] <;> rfl), by repeat (first | (with_reducible first | exact HB.out | apply below_alloc | apply pw_below_drewN | apply below_drew1 | refine below_set ?_ GE101.out | refine below_set ?_ GE102.out) | exact HB.out)⟩
    · rw [if_neg c9] at H
      have c9b0 : (a0_0 == a1_0) = false := beq_eq_false_iff_ne.mpr c9
      have c9b1 : (a0_0 != a1_0) = true := bne_iff_ne.mpr c9
      obtain rfl := Option.some.inj H
      go_enter Try.func11, Try.ntmps11
      go_wp2_with (first | ((with_reducible refine gate_dst (N := 2) rfl ?_); refine box_event ?hg (N := 2) ?hd (cs := #[.int .i64 a0_0, .int .i64 a0_1]) (t := 40) ?hr ?_; (case hd => rfl); (case hg => rfl); (case hr => first | (go_simp; done) | (go_simp; rfl)); intro gb101 hg w15 hbox hb; have n0_ := Aside0.mk (below_step (by repeat (first | (with_reducible first | exact HB.out | apply below_alloc | apply pw_below_drewN | apply below_drew1) | exact HB.out)) hb); have n1_ := Aside0.mk (hbox); have n2_ := Aside0.mk ((by rw [hg]; exact (below_size (by repeat (first | (with_reducible first | exact HB.out | apply below_alloc | apply pw_below_drewN | apply below_drew1) | exact HB.out))) : w.heap.size ≤ gb101)); have n3_ := Aside0.mk ((by rw [hg]; exact (below_size (by repeat (first | (with_reducible first | exact HB.out | apply below_alloc | apply pw_below_drewN | apply below_drew1) | exact HB.out))) : w.heap.size ≤ gb101)); clear HB; have HB := n0_; have BK101 := n1_; have GW101 := n2_; have GE101 := n3_; clear n0_ n1_ n2_ n3_; clear hb hbox hg) | ((with_reducible refine gate_dst (N := 3) rfl ?_); refine box_event ?hg (N := 3) ?hd (cs := #[.int .i64 a1_0, .int .i64 a1_1]) (t := 40) ?hr ?_; (case hd => rfl); (case hg => rfl); (case hr => first | (go_simp; done) | (go_simp; rfl)); intro gb102 hg w16 hbox hb; have n0_ := Aside0.mk (blk_below (g := gb101) (o := .cells #[.int .i64 a0_0, .int .i64 a0_1] 40 (0, 0)) (by (with_reducible repeat (first | refine blk_drewN ?_ _ | refine blk_drew ?_ | refine blk_alloc ?_ _)); exact BK101.out) hb); have n1_ := Aside0.mk (below_step (by repeat (first | (with_reducible first | exact HB.out | apply below_alloc | apply pw_below_drewN | apply below_drew1 | refine below_set ?_ GE101.out) | exact HB.out)) hb); have n2_ := Aside0.mk (hbox); have n3_ := Aside0.mk ((by rw [hg]; exact (below_size (by repeat (first | (with_reducible first | exact HB.out | apply below_alloc | apply pw_below_drewN | apply below_drew1 | refine below_set ?_ GE101.out) | exact HB.out))) : w.heap.size ≤ gb102)); have n4_ := Aside0.mk ((by rw [hg]; exact (below_size (by repeat (first | (with_reducible first | exact HB.out | apply below_alloc | apply pw_below_drewN | apply below_drew1 | refine below_set ?_ GE101.out) | exact HB.out))) : w.heap.size ≤ gb102)); have n5_ := Aside0.mk ((by rw [hg]; exact Nat.ne_of_lt (blk_lt (g := gb101) (o := .cells #[.int .i64 a0_0, .int .i64 a0_1] 40 (0, 0)) (by (with_reducible repeat (first | refine blk_drewN ?_ _ | refine blk_drew ?_ | refine blk_alloc ?_ _)); exact BK101.out)) : gb101 ≠ gb102)); have n6_ := Aside0.mk ((by rw [hg]; exact Nat.ne_of_gt (blk_lt (g := gb101) (o := .cells #[.int .i64 a0_0, .int .i64 a0_1] 40 (0, 0)) (by (with_reducible repeat (first | refine blk_drewN ?_ _ | refine blk_drew ?_ | refine blk_alloc ?_ _)); exact BK101.out)) : gb102 ≠ gb101)); clear BK101; clear HB; have BK101 := n0_; have HB := n1_; have BK102 := n2_; have GW102 := n3_; have GE102 := n4_; have NB101_102 := n5_; have NB102_101 := n6_; clear n0_ n1_ n2_ n3_ n4_ n5_ n6_; clear hb hbox hg; have hnb17 := NB101_102.out; have hnc17 := NB102_101.out; have hcz18_0 : w16.cell? ⟨gb101, 0, none⟩ = some (.int .i64 a0_0) := (blk_cell BK101.out 0).trans rfl; have hcz18_1 : w16.cell? ⟨gb101, 1, none⟩ = some (.int .i64 a0_1) := (blk_cell BK101.out 1).trans rfl; have hfz18_0 := blk_frozen BK101.out 0; have hfz18_1 := blk_frozen BK101.out 1; have hcz19_0 : w16.cell? ⟨gb102, 0, none⟩ = some (.int .i64 a1_0) := (blk_cell BK102.out 0).trans rfl; have hcz19_1 : w16.cell? ⟨gb102, 1, none⟩ = some (.int .i64 a1_1) := (blk_cell BK102.out 1).trans rfl; have hfz19_0 := blk_frozen BK102.out 0; have hfz19_1 := blk_frozen BK102.out 1))
      go_ret
      exact ⟨by first | rfl | (simp [errW_none, errW_some] <;> rfl) | (simp [*, errW_none, errW_some] <;> rfl), by repeat (first | (with_reducible first | exact HB.out | apply below_alloc | apply pw_below_drewN | apply below_drew1 | refine below_set ?_ GE101.out | refine below_set ?_ GE102.out) | exact HB.out)⟩

/-! ### spec_Ordered: function 10 -/
def spec_Ordered.l0 : Nat → List (S27) → Int → Option (Bool)
  | 0, _, _ => none
  | k + 1, x0, x3 => if x3 < (x0.length : Int) then (if 0 ≤ x3 then (if 0 ≤ (wrap64 (x3 - 1)) then (if (wrap64 (x3 - 1)) < (x0.length : Int) then ((spec_Before.f ((rd_T27 x0 x3).f0) ((rd_T27 x0 x3).f1) ((rd_T27 x0 (wrap64 (x3 - 1))).f0) ((rd_T27 x0 (wrap64 (x3 - 1))).f1)).bind fun t107 => (if t107 = true then (some false) else (spec_Ordered.l0 k x0 (wrap64 (x3 + 1))))) else (none)) else (none)) else (none)) else (some true)
def spec_Ordered.f (k : Nat) (l0 : List (S27)) : Option (Bool) := spec_Ordered.l0 k l0 1
theorem spec_Ordered.mono_l : ∀ k, (∀ y0 y1, LeO (spec_Ordered.l0 k y0 y1) (spec_Ordered.l0 (k + 1) y0 y1))
  | 0 => fun _ _ r h => by simp [spec_Ordered.l0] at h
  | k + 1 => by
    have ih0 := spec_Ordered.mono_l k
    · intro y0 y1
      unfold spec_Ordered.l0
      repeat' first
      | (with_reducible exact ih0 _ _)
      | (with_reducible exact LeO.refl _)
      | (with_reducible exact LeO.none _)
      | (with_reducible refine LeO.ite ?_ ?_)
      | (with_reducible refine LeO.bind ?_ (fun _ => ?_))
      | exact ih0 _ _
      | exact LeO.none _
      | refine LeO.ite ?_ ?_
      | refine LeO.bind ?_ (fun _ => ?_)
theorem spec_Ordered.mono : ∀ a0 k, LeO (spec_Ordered.f k a0) (spec_Ordered.f (k + 1) a0) := by
  intro a0 k
  have ih0 := spec_Ordered.mono_l k
  unfold spec_Ordered.f
  repeat' first
      | (with_reducible exact ih0 _ _)
      | (with_reducible exact LeO.refl _)
      | (with_reducible exact LeO.none _)
      | (with_reducible refine LeO.ite ?_ ?_)
      | (with_reducible refine LeO.bind ?_ (fun _ => ?_))
      | exact ih0 _ _
      | exact LeO.none _
      | refine LeO.ite ?_ ?_
      | refine LeO.bind ?_ (fun _ => ?_)
def spec_Ordered.T4 : Bool × List (List Nat × List Nat) := (true, [([], []), ([], []), ([0, 1], [0, 1]), ([2], [2]), ([3], [3]), ([], []), ([], []), ([5, 6], [5, 6]), ([7], [7]), ([8], [8]), ([4, 9], [4, 9]), ([], []), ([], []), ([12], [12]), ([11, 13], [11, 13]), ([14], [14]), ([15], [15]), ([], []), ([], []), ([18], [18]), ([17, 19], [17, 19]), ([20], [20]), ([21], [21]), ([16, 22], [16, 22]), ([10, 23], [10, 23])])
def spec_Ordered.B4 : List Nat := [0, 0, 3, 7, 15, 0, 0, 96, 224, 480, 1023, 0, 0, 4096, 14336, 30720, 63488, 0, 0, 262144, 917504, 1966080, 4063232, 8386560, 16777215]
theorem spec_Ordered.tab4 : rtab .any (opsOf Try.f10 4) = spec_Ordered.T4 := by kernel_rfl
theorem spec_Ordered.bits4 : waitsOk spec_Ordered.T4.2 spec_Ordered.B4 = true := by kernel_rfl
set_option maxHeartbeats 8000000 in
set_option maxRecDepth 100000 in
theorem spec_Ordered.calls (k : Nat) (A0 : Option Addr) (c0 : Nat) (l0 : List (S27)) (r : Bool) (w : World) (hr0 : Kd.C k27 w A0 l0.length l0) (hc0 : l0.length ≤ c0) (h : spec_Ordered.f k l0 = some r) :
    Calls Try.prog 10 #[.slice A0 l0.length c0] w fun e w' => e = .returned (.bool r) ∧ Below w.heap.size w w' := by
  have hu40 := Try.underlying40
  have HR0 := Aside0.mk hr0
  have HC0 := Aside0.mk hc0
  clear hr0 hc0
  have HB := Aside0.mk (Below.refl w.heap.size w)
  have H : (spec_Ordered.l0 k l0 1) = some r := h
  clear h
  have H' := Aside0.mk H
  clear H
  go_enter Try.func10, Try.ntmps10
  go_wp2
  go_loopg [3] k (fun kq v3 w' => ∃ (x3_1 : Int), v3 = .int .i64 x3_1 ∧ Aside0 (spec_Ordered.l0 kq l0 x3_1 = some r) ∧ Aside0 (kq ≤ k) ∧ Aside0 (Below w.heap.size w w'))
  case atStart => exact ⟨(1), (by first | rfl | (simp; done) | (simp [*]; done)), H', ⟨Nat.le_refl _⟩, ⟨by repeat (first | (with_reducible first | exact HB.out | apply below_alloc | apply pw_below_drewN | apply below_drew1) | exact HB.out)⟩⟩
  case round =>
    clear H'
    try clear c1
    obtain ⟨x3_1, rfl, HA, HK1, HB⟩ := hrel
    cases gk with
    | zero => exact absurd HA.out (by simp [spec_Ordered.l0])
    | succ k1 =>
      have H := HA.out
      clear HA
      simp only [spec_Ordered.l0] at H
      by_cases c2 : x3_1 < (l0.length : Int)
      · rw [if_pos c2] at H
        have c2b0 : decide (x3_1 < (l0.length : Int)) = true := decide_eq_true c2
        clear c2
        by_cases c3 : 0 ≤ x3_1
        · rw [if_pos c3] at H
          have c3b0 : decide (0 ≤ x3_1) = true := decide_eq_true c3
          clear c3
          obtain ⟨ji4, hji4⟩ : ∃ j_ : Int, (wrap64 (x3_1 - 1)) = j_ := ⟨_, rfl⟩
          replace H : (if 0 ≤ (ji4) then (if (ji4) < (l0.length : Int) then ((spec_Before.f ((rd_T27 l0 x3_1).f0) ((rd_T27 l0 x3_1).f1) ((rd_T27 l0 (ji4)).f0) ((rd_T27 l0 (ji4)).f1)).bind fun t107 => (if t107 = true then (some false) else (spec_Ordered.l0 k1 l0 (wrap64 (x3_1 + 1))))) else (none)) else (none)) = some r := by first | (rw [hji4] at H; exact H) | (simp only [hji4] at H ⊢; exact H)
          have hji4w : (IntKind.i64.wrap (x3_1 - 1)) = ji4 := (i64_w _).trans hji4
          by_cases c5 : 0 ≤ (ji4)
          · rw [if_pos c5] at H
            have c5b0 : decide (0 ≤ (ji4)) = true := decide_eq_true c5
            clear c5
            by_cases c6 : (ji4) < (l0.length : Int)
            · rw [if_pos c6] at H
              have c6b0 : decide ((ji4) < (l0.length : Int)) = true := decide_eq_true c6
              clear c6
              replace H := Option.bind_eq_some_iff.mp H
              obtain ⟨t107, A70, H⟩ := H
              replace H : (if t107 = true then (some false) else (spec_Ordered.l0 k1 l0 (wrap64 (x3_1 + 1)))) = some r := H
              have A7 := Aside0.mk A70
              clear A70
              by_cases c8 : t107 = true
              · subst c8
                have H1 : (some false) = some r := by rw [if_pos rfl] at H; exact H
                clear H
                have H := H1
                clear H1
                obtain rfl := Option.some.inj H
                try go_wp2
                have n0_ := Aside0.mk (below_drew1 HB.out)
                clear HB
                have HB := n0_
                clear n0_
                have p103 : 0 ≤ (x3_1 : Int) := of_decide_eq_true (by first | (with_reducible assumption) | assumption)
                have q103 : x3_1 < (l0.length : Int) := of_decide_eq_true (by first | (with_reducible assumption) | assumption)
                obtain ⟨ad103, e103, hx103_0, hx103_1, hx103_2, hx103_3, hx103_4, hx103_5⟩ := at_T27 HR0.out x3_1 p103 q103
                have hw103_5 := hx103_5
                have hw103_4 := hx103_4
                have hw103_3 := hx103_3
                have hw103_2 := hx103_2
                have hw103_1 := hx103_1
                have hw103_0 := hx103_0
                cases e103
                replace hx103_0 := (HB.out.cell (World.block_lt_of_cell? w _ hx103_0)).trans hx103_0
                replace hx103_1 := (HB.out.cell (World.block_lt_of_cell? w _ hx103_1)).trans hx103_1
                replace hx103_2 := (HB.out.cell (World.block_lt_of_cell? w _ hx103_2)).trans hx103_2
                replace hx103_3 := (HB.out.cell (World.block_lt_of_cell? w _ hx103_3)).trans hx103_3
                replace hx103_4 := (HB.out.cell (World.block_lt_of_cell? w _ hx103_4)).trans hx103_4
                replace hx103_5 := (HB.out.cell (World.block_lt_of_cell? w _ hx103_5)).trans hx103_5
                replace p103 := eq_true p103
                replace q103 := eq_true q103
                have p104 : 0 ≤ (x3_1 : Int) := of_decide_eq_true (by first | (with_reducible assumption) | assumption)
                have q104 : x3_1 < (l0.length : Int) := of_decide_eq_true (by first | (with_reducible assumption) | assumption)
                obtain ⟨ad104, e104, hx104_0, hx104_1, hx104_2, hx104_3, hx104_4, hx104_5⟩ := at_T27 HR0.out x3_1 p104 q104
                have hw104_5 := hx104_5
                have hw104_4 := hx104_4
                have hw104_3 := hx104_3
                have hw104_2 := hx104_2
                have hw104_1 := hx104_1
                have hw104_0 := hx104_0
                obtain rfl : ad103 = ad104 := (by injection e104)
                replace hx104_0 := (HB.out.cell (World.block_lt_of_cell? w _ hx104_0)).trans hx104_0
                replace hx104_1 := (HB.out.cell (World.block_lt_of_cell? w _ hx104_1)).trans hx104_1
                replace hx104_2 := (HB.out.cell (World.block_lt_of_cell? w _ hx104_2)).trans hx104_2
                replace hx104_3 := (HB.out.cell (World.block_lt_of_cell? w _ hx104_3)).trans hx104_3
                replace hx104_4 := (HB.out.cell (World.block_lt_of_cell? w _ hx104_4)).trans hx104_4
                replace hx104_5 := (HB.out.cell (World.block_lt_of_cell? w _ hx104_5)).trans hx104_5
                replace p104 := eq_true p104
                replace q104 := eq_true q104
                have p105 : 0 ≤ ((ji4) : Int) := of_decide_eq_true (by first | (with_reducible assumption) | assumption)
                have q105 : (ji4) < (l0.length : Int) := of_decide_eq_true (by first | (with_reducible assumption) | assumption)
                obtain ⟨ad105, e105, hx105_0, hx105_1, hx105_2, hx105_3, hx105_4, hx105_5⟩ := at_T27 HR0.out (ji4) p105 q105
                have hw105_5 := hx105_5
                have hw105_4 := hx105_4
                have hw105_3 := hx105_3
                have hw105_2 := hx105_2
                have hw105_1 := hx105_1
                have hw105_0 := hx105_0
                obtain rfl : ad103 = ad105 := (by injection e105)
                replace hx105_0 := (HB.out.cell (World.block_lt_of_cell? w _ hx105_0)).trans hx105_0
                replace hx105_1 := (HB.out.cell (World.block_lt_of_cell? w _ hx105_1)).trans hx105_1
                replace hx105_2 := (HB.out.cell (World.block_lt_of_cell? w _ hx105_2)).trans hx105_2
                replace hx105_3 := (HB.out.cell (World.block_lt_of_cell? w _ hx105_3)).trans hx105_3
                replace hx105_4 := (HB.out.cell (World.block_lt_of_cell? w _ hx105_4)).trans hx105_4
                replace hx105_5 := (HB.out.cell (World.block_lt_of_cell? w _ hx105_5)).trans hx105_5
                replace p105 := eq_true p105
                replace q105 := eq_true q105
                have p106 : 0 ≤ ((ji4) : Int) := of_decide_eq_true (by first | (with_reducible assumption) | assumption)
                have q106 : (ji4) < (l0.length : Int) := of_decide_eq_true (by first | (with_reducible assumption) | assumption)
                obtain ⟨ad106, e106, hx106_0, hx106_1, hx106_2, hx106_3, hx106_4, hx106_5⟩ := at_T27 HR0.out (ji4) p106 q106
                have hw106_5 := hx106_5
                have hw106_4 := hx106_4
                have hw106_3 := hx106_3
                have hw106_2 := hx106_2
                have hw106_1 := hx106_1
                have hw106_0 := hx106_0
                obtain rfl : ad103 = ad106 := (by injection e106)
                replace hx106_0 := (HB.out.cell (World.block_lt_of_cell? w _ hx106_0)).trans hx106_0
                replace hx106_1 := (HB.out.cell (World.block_lt_of_cell? w _ hx106_1)).trans hx106_1
                replace hx106_2 := (HB.out.cell (World.block_lt_of_cell? w _ hx106_2)).trans hx106_2
                replace hx106_3 := (HB.out.cell (World.block_lt_of_cell? w _ hx106_3)).trans hx106_3
                replace hx106_4 := (HB.out.cell (World.block_lt_of_cell? w _ hx106_4)).trans hx106_4
                replace hx106_5 := (HB.out.cell (World.block_lt_of_cell? w _ hx106_5)).trans hx106_5
                replace p106 := eq_true p106
                replace q106 := eq_true q106
                refine start_ (n := 25) (S := fun w' => w'.cell? (ad103.add ((x3_1).toNat * 6)) = some (.int .i64 ((rd_T27 l0 x3_1).f0)) ∧ w'.cell? ⟨(ad103.add ((x3_1).toNat * 6)).block, (ad103.add ((x3_1).toNat * 6)).off + 1, none⟩ = some (.int .i64 ((rd_T27 l0 x3_1).f1)) ∧ w'.cell? ⟨(ad103.add ((x3_1).toNat * 6)).block, (ad103.add ((x3_1).toNat * 6)).off + 2, none⟩ = some (.int .i64 ((rd_T27 l0 x3_1).f2)) ∧ w'.cell? ⟨(ad103.add ((x3_1).toNat * 6)).block, (ad103.add ((x3_1).toNat * 6)).off + 3, none⟩ = some (.int .i64 ((rd_T27 l0 x3_1).f3)) ∧ w'.cell? ⟨(ad103.add ((x3_1).toNat * 6)).block, (ad103.add ((x3_1).toNat * 6)).off + 4, none⟩ = some (.int .i64 ((rd_T27 l0 x3_1).f4)) ∧ w'.cell? ⟨(ad103.add ((x3_1).toNat * 6)).block, (ad103.add ((x3_1).toNat * 6)).off + 5, none⟩ = some (.int .i64 ((rd_T27 l0 x3_1).f5)) ∧ w'.cell? (ad103.add ((x3_1).toNat * 6)) = some (.int .i64 ((rd_T27 l0 x3_1).f0)) ∧ w'.cell? ⟨(ad103.add ((x3_1).toNat * 6)).block, (ad103.add ((x3_1).toNat * 6)).off + 1, none⟩ = some (.int .i64 ((rd_T27 l0 x3_1).f1)) ∧ w'.cell? ⟨(ad103.add ((x3_1).toNat * 6)).block, (ad103.add ((x3_1).toNat * 6)).off + 2, none⟩ = some (.int .i64 ((rd_T27 l0 x3_1).f2)) ∧ w'.cell? ⟨(ad103.add ((x3_1).toNat * 6)).block, (ad103.add ((x3_1).toNat * 6)).off + 3, none⟩ = some (.int .i64 ((rd_T27 l0 x3_1).f3)) ∧ w'.cell? ⟨(ad103.add ((x3_1).toNat * 6)).block, (ad103.add ((x3_1).toNat * 6)).off + 4, none⟩ = some (.int .i64 ((rd_T27 l0 x3_1).f4)) ∧ w'.cell? ⟨(ad103.add ((x3_1).toNat * 6)).block, (ad103.add ((x3_1).toNat * 6)).off + 5, none⟩ = some (.int .i64 ((rd_T27 l0 x3_1).f5)) ∧ w'.cell? (ad103.add (((ji4)).toNat * 6)) = some (.int .i64 ((rd_T27 l0 (ji4)).f0)) ∧ w'.cell? ⟨(ad103.add (((ji4)).toNat * 6)).block, (ad103.add (((ji4)).toNat * 6)).off + 1, none⟩ = some (.int .i64 ((rd_T27 l0 (ji4)).f1)) ∧ w'.cell? ⟨(ad103.add (((ji4)).toNat * 6)).block, (ad103.add (((ji4)).toNat * 6)).off + 2, none⟩ = some (.int .i64 ((rd_T27 l0 (ji4)).f2)) ∧ w'.cell? ⟨(ad103.add (((ji4)).toNat * 6)).block, (ad103.add (((ji4)).toNat * 6)).off + 3, none⟩ = some (.int .i64 ((rd_T27 l0 (ji4)).f3)) ∧ w'.cell? ⟨(ad103.add (((ji4)).toNat * 6)).block, (ad103.add (((ji4)).toNat * 6)).off + 4, none⟩ = some (.int .i64 ((rd_T27 l0 (ji4)).f4)) ∧ w'.cell? ⟨(ad103.add (((ji4)).toNat * 6)).block, (ad103.add (((ji4)).toNat * 6)).off + 5, none⟩ = some (.int .i64 ((rd_T27 l0 (ji4)).f5)) ∧ w'.cell? (ad103.add (((ji4)).toNat * 6)) = some (.int .i64 ((rd_T27 l0 (ji4)).f0)) ∧ w'.cell? ⟨(ad103.add (((ji4)).toNat * 6)).block, (ad103.add (((ji4)).toNat * 6)).off + 1, none⟩ = some (.int .i64 ((rd_T27 l0 (ji4)).f1)) ∧ w'.cell? ⟨(ad103.add (((ji4)).toNat * 6)).block, (ad103.add (((ji4)).toNat * 6)).off + 2, none⟩ = some (.int .i64 ((rd_T27 l0 (ji4)).f2)) ∧ w'.cell? ⟨(ad103.add (((ji4)).toNat * 6)).block, (ad103.add (((ji4)).toNat * 6)).off + 3, none⟩ = some (.int .i64 ((rd_T27 l0 (ji4)).f3)) ∧ w'.cell? ⟨(ad103.add (((ji4)).toNat * 6)).block, (ad103.add (((ji4)).toNat * 6)).off + 4, none⟩ = some (.int .i64 ((rd_T27 l0 (ji4)).f4)) ∧ w'.cell? ⟨(ad103.add (((ji4)).toNat * 6)).block, (ad103.add (((ji4)).toNat * 6)).off + 5, none⟩ = some (.int .i64 ((rd_T27 l0 (ji4)).f5))) (ds := []) #[false, false, false, false, false, false, false, false, false, false, false, false, false, false, false, false, false, false, false, false, false, false, false, false, false] (by kernel_rfl) rfl rfl ⟨((HB.out.cell (World.block_lt_of_cell? w _ hw103_0)).trans hw103_0), ((HB.out.cell (World.block_lt_of_cell? w _ hw103_1)).trans hw103_1), ((HB.out.cell (World.block_lt_of_cell? w _ hw103_2)).trans hw103_2), ((HB.out.cell (World.block_lt_of_cell? w _ hw103_3)).trans hw103_3), ((HB.out.cell (World.block_lt_of_cell? w _ hw103_4)).trans hw103_4), ((HB.out.cell (World.block_lt_of_cell? w _ hw103_5)).trans hw103_5), ((HB.out.cell (World.block_lt_of_cell? w _ hw104_0)).trans hw104_0), ((HB.out.cell (World.block_lt_of_cell? w _ hw104_1)).trans hw104_1), ((HB.out.cell (World.block_lt_of_cell? w _ hw104_2)).trans hw104_2), ((HB.out.cell (World.block_lt_of_cell? w _ hw104_3)).trans hw104_3), ((HB.out.cell (World.block_lt_of_cell? w _ hw104_4)).trans hw104_4), ((HB.out.cell (World.block_lt_of_cell? w _ hw104_5)).trans hw104_5), ((HB.out.cell (World.block_lt_of_cell? w _ hw105_0)).trans hw105_0), ((HB.out.cell (World.block_lt_of_cell? w _ hw105_1)).trans hw105_1), ((HB.out.cell (World.block_lt_of_cell? w _ hw105_2)).trans hw105_2), ((HB.out.cell (World.block_lt_of_cell? w _ hw105_3)).trans hw105_3), ((HB.out.cell (World.block_lt_of_cell? w _ hw105_4)).trans hw105_4), ((HB.out.cell (World.block_lt_of_cell? w _ hw105_5)).trans hw105_5), ((HB.out.cell (World.block_lt_of_cell? w _ hw106_0)).trans hw106_0), ((HB.out.cell (World.block_lt_of_cell? w _ hw106_1)).trans hw106_1), ((HB.out.cell (World.block_lt_of_cell? w _ hw106_2)).trans hw106_2), ((HB.out.cell (World.block_lt_of_cell? w _ hw106_3)).trans hw106_3), ((HB.out.cell (World.block_lt_of_cell? w _ hw106_4)).trans hw106_4), ((HB.out.cell (World.block_lt_of_cell? w _ hw106_5)).trans hw106_5)⟩ (fun hHeld => ?_); refine with_tabW spec_Ordered.tab4 spec_Ordered.bits4 (fun HT_ HW_ => ?_)
                generalize wr.drew = w9 at HB hx103_0 hx103_1 hx103_2 hx103_3 hx103_4 hx103_5 hx104_0 hx104_1 hx104_2 hx104_3 hx104_4 hx104_5 hx105_0 hx105_1 hx105_2 hx105_3 hx105_4 hx105_5 hx106_0 hx106_1 hx106_2 hx106_3 hx106_4 hx106_5 hHeld ⊢
                refine pure_ (i := 0) (N := some 10) (v := ?_) (a' := ?_) #[true, false, false, false, false, false, false, false, false, false, false, false, false, false, false, false, false, false, false, false, false, false, false, false, false] rfl rfl (any_of HT_.out (by kernel_rfl)) (fun _ _ _ h => h) (Or.inl ⟨by rfl, ?_⟩) ?_ ?_
                rotate_left
                · intro w'
                  go_simp
                  with_reducible rfl
                rotate_left
                · simp only [Act.put, List.setIfInBounds_toArray, List.set_cons_zero, List.set_cons_succ, i64_w, i32_w]
                  rfl
                refine pure_ (i := 1) (N := some 11) (v := ?_) (a' := ?_) #[true, true, false, false, false, false, false, false, false, false, false, false, false, false, false, false, false, false, false, false, false, false, false, false, false] rfl rfl (any_of HT_.out (by kernel_rfl)) (fun _ _ _ h => h) (Or.inl ⟨by rfl, ?_⟩) ?_ ?_
                rotate_left
                · intro w'
                  go_simp
                  with_reducible rfl
                rotate_left
                · simp only [Act.put, List.setIfInBounds_toArray, List.set_cons_zero, List.set_cons_succ, i64_w, i32_w]
                  rfl
                refine pure_ (i := 2) (N := some 12) (v := ?_) (a' := ?_) #[true, true, true, false, false, false, false, false, false, false, false, false, false, false, false, false, false, false, false, false, false, false, false, false, false] rfl rfl (any_of HT_.out (by kernel_rfl)) (fun _ _ _ h => h) (Or.inl ⟨by rfl, ?_⟩) ?_ ?_
                rotate_left
                · intro w'
                  go_simp
                  with_reducible rfl
                rotate_left
                · simp only [Act.put, List.setIfInBounds_toArray, List.set_cons_zero, List.set_cons_succ, i64_w, i32_w]
                  rfl
                refine pure_ (i := 3) (N := some 13) (v := ?_) (a' := ?_) #[true, true, true, true, false, false, false, false, false, false, false, false, false, false, false, false, false, false, false, false, false, false, false, false, false] rfl rfl (any_of HT_.out (by kernel_rfl)) (fun _ _ _ h => h) (Or.inl ⟨by rfl, ?_⟩) ?_ ?_
                rotate_left
                · intro w'
                  go_simp
                  with_reducible rfl
                rotate_left
                · simp only [Act.put, List.setIfInBounds_toArray, List.set_cons_zero, List.set_cons_succ, i64_w, i32_w]
                  rfl
                refine pure_ (i := 5) (N := some 15) (v := ?_) (a' := ?_) #[true, true, true, true, false, true, false, false, false, false, false, false, false, false, false, false, false, false, false, false, false, false, false, false, false] rfl rfl (any_of HT_.out (by kernel_rfl)) (fun _ _ _ h => h) (Or.inl ⟨by rfl, ?_⟩) ?_ ?_
                rotate_left
                · intro w'
                  go_simp
                  with_reducible rfl
                rotate_left
                · simp only [Act.put, List.setIfInBounds_toArray, List.set_cons_zero, List.set_cons_succ, i64_w, i32_w]
                  rfl
                refine pure_ (i := 6) (N := some 16) (v := ?_) (a' := ?_) #[true, true, true, true, false, true, true, false, false, false, false, false, false, false, false, false, false, false, false, false, false, false, false, false, false] rfl rfl (any_of HT_.out (by kernel_rfl)) (fun _ _ _ h => h) (Or.inl ⟨by rfl, ?_⟩) ?_ ?_
                rotate_left
                · intro w'
                  go_simp
                  with_reducible rfl
                rotate_left
                · simp only [Act.put, List.setIfInBounds_toArray, List.set_cons_zero, List.set_cons_succ, i64_w, i32_w]
                  rfl
                refine pure_ (i := 7) (N := some 17) (v := ?_) (a' := ?_) #[true, true, true, true, false, true, true, true, false, false, false, false, false, false, false, false, false, false, false, false, false, false, false, false, false] rfl rfl (any_of HT_.out (by kernel_rfl)) (fun _ _ _ h => h) (Or.inl ⟨by rfl, ?_⟩) ?_ ?_
                rotate_left
                · intro w'
                  go_simp
                  with_reducible rfl
                rotate_left
                · simp only [Act.put, List.setIfInBounds_toArray, List.set_cons_zero, List.set_cons_succ, i64_w, i32_w]
                  rfl
                refine pure_ (i := 8) (N := some 18) (v := ?_) (a' := ?_) #[true, true, true, true, false, true, true, true, true, false, false, false, false, false, false, false, false, false, false, false, false, false, false, false, false] rfl rfl (any_of HT_.out (by kernel_rfl)) (fun _ _ _ h => h) (Or.inl ⟨by rfl, ?_⟩) ?_ ?_
                rotate_left
                · intro w'
                  go_simp
                  with_reducible rfl
                rotate_left
                · simp only [Act.put, List.setIfInBounds_toArray, List.set_cons_zero, List.set_cons_succ, i64_w, i32_w]
                  rfl
                refine pure_ (i := 11) (N := some 21) (v := ?_) (a' := ?_) #[true, true, true, true, false, true, true, true, true, false, false, true, false, false, false, false, false, false, false, false, false, false, false, false, false] rfl rfl (any_of HT_.out (by kernel_rfl)) (fun _ _ _ h => h) (Or.inl ⟨by rfl, ?_⟩) ?_ ?_
                rotate_left
                · intro w'
                  go_simp
                  with_reducible rfl
                rotate_left
                · simp only [Act.put, List.setIfInBounds_toArray, List.set_cons_zero, List.set_cons_succ, i64_w, i32_w]
                  rfl
                refine pure_ (i := 12) (N := some 22) (v := ?_) (a' := ?_) #[true, true, true, true, false, true, true, true, true, false, false, true, true, false, false, false, false, false, false, false, false, false, false, false, false] rfl rfl (any_of HT_.out (by kernel_rfl)) (fun _ _ _ h => h) (Or.inl ⟨by rfl, ?_⟩) ?_ ?_
                rotate_left
                · intro w'
                  go_simp
                  with_reducible rfl
                rotate_left
                · simp only [Act.put, List.setIfInBounds_toArray, List.set_cons_zero, List.set_cons_succ, i64_w, i32_w]
                  rfl
                refine pure_ (i := 13) (N := some 23) (v := ?_) (a' := ?_) #[true, true, true, true, false, true, true, true, true, false, false, true, true, true, false, false, false, false, false, false, false, false, false, false, false] rfl rfl (any_of HT_.out (by kernel_rfl)) (fun _ _ _ h => h) (Or.inl ⟨by rfl, ?_⟩) ?_ ?_
                rotate_left
                · intro w'
                  go_simp
                  with_reducible rfl
                rotate_left
                · simp only [Act.put, List.setIfInBounds_toArray, List.set_cons_zero, List.set_cons_succ, i64_w, i32_w]
                  rfl
                refine pure_ (i := 14) (N := some 24) (v := ?_) (a' := ?_) #[true, true, true, true, false, true, true, true, true, false, false, true, true, true, true, false, false, false, false, false, false, false, false, false, false] rfl rfl (any_of HT_.out (by kernel_rfl)) (fun _ _ _ h => h) (Or.inl ⟨by rfl, ?_⟩) ?_ ?_
                rotate_left
                · intro w'
                  go_simp
                  with_reducible rfl
                rotate_left
                · simp only [Act.put, List.setIfInBounds_toArray, List.set_cons_zero, List.set_cons_succ, i64_w, i32_w]
                  rfl
                refine pure_ (i := 15) (N := some 25) (v := ?_) (a' := ?_) #[true, true, true, true, false, true, true, true, true, false, false, true, true, true, true, true, false, false, false, false, false, false, false, false, false] rfl rfl (any_of HT_.out (by kernel_rfl)) (fun _ _ _ h => h) (Or.inl ⟨by rfl, ?_⟩) ?_ ?_
                rotate_left
                · intro w'
                  go_simp
                  with_reducible rfl
                rotate_left
                · simp only [Act.put, List.setIfInBounds_toArray, List.set_cons_zero, List.set_cons_succ, i64_w, i32_w]
                  rfl
                refine pure_ (i := 17) (N := some 27) (v := ?_) (a' := ?_) #[true, true, true, true, false, true, true, true, true, false, false, true, true, true, true, true, false, true, false, false, false, false, false, false, false] rfl rfl (any_of HT_.out (by kernel_rfl)) (fun _ _ _ h => h) (Or.inl ⟨by rfl, ?_⟩) ?_ ?_
                rotate_left
                · intro w'
                  go_simp
                  with_reducible rfl
                rotate_left
                · simp only [Act.put, List.setIfInBounds_toArray, List.set_cons_zero, List.set_cons_succ, i64_w, i32_w]
                  rfl
                refine pure_ (i := 18) (N := some 28) (v := ?_) (a' := ?_) #[true, true, true, true, false, true, true, true, true, false, false, true, true, true, true, true, false, true, true, false, false, false, false, false, false] rfl rfl (any_of HT_.out (by kernel_rfl)) (fun _ _ _ h => h) (Or.inl ⟨by rfl, ?_⟩) ?_ ?_
                rotate_left
                · intro w'
                  go_simp
                  with_reducible rfl
                rotate_left
                · simp only [Act.put, List.setIfInBounds_toArray, List.set_cons_zero, List.set_cons_succ, i64_w, i32_w]
                  rfl
                refine pure_ (i := 19) (N := some 29) (v := ?_) (a' := ?_) #[true, true, true, true, false, true, true, true, true, false, false, true, true, true, true, true, false, true, true, true, false, false, false, false, false] rfl rfl (any_of HT_.out (by kernel_rfl)) (fun _ _ _ h => h) (Or.inl ⟨by rfl, ?_⟩) ?_ ?_
                rotate_left
                · intro w'
                  go_simp
                  with_reducible rfl
                rotate_left
                · simp only [Act.put, List.setIfInBounds_toArray, List.set_cons_zero, List.set_cons_succ, i64_w, i32_w]
                  rfl
                refine pure_ (i := 20) (N := some 30) (v := ?_) (a' := ?_) #[true, true, true, true, false, true, true, true, true, false, false, true, true, true, true, true, false, true, true, true, true, false, false, false, false] rfl rfl (any_of HT_.out (by kernel_rfl)) (fun _ _ _ h => h) (Or.inl ⟨by rfl, ?_⟩) ?_ ?_
                rotate_left
                · intro w'
                  go_simp
                  with_reducible rfl
                rotate_left
                · simp only [Act.put, List.setIfInBounds_toArray, List.set_cons_zero, List.set_cons_succ, i64_w, i32_w]
                  rfl
                refine pure_ (i := 21) (N := some 31) (v := ?_) (a' := ?_) #[true, true, true, true, false, true, true, true, true, false, false, true, true, true, true, true, false, true, true, true, true, true, false, false, false] rfl rfl (any_of HT_.out (by kernel_rfl)) (fun _ _ _ h => h) (Or.inl ⟨by rfl, ?_⟩) ?_ ?_
                rotate_left
                · intro w'
                  go_simp
                  with_reducible rfl
                rotate_left
                · simp only [Act.put, List.setIfInBounds_toArray, List.set_cons_zero, List.set_cons_succ, i64_w, i32_w]
                  rfl
                refine take_ (i := 4) (N := some 14) (v := ?_) (a' := ?_) #[true, true, true, true, true, true, true, true, true, false, false, true, true, true, true, true, false, true, true, true, true, true, false, false, false] rfl rfl (take_ofW HT_.out HW_.out (by kernel_rfl)) (fun _ _ _ h => h) (Or.inl ⟨by rfl, ?_⟩) hHeld ?_ ?_
                rotate_left
                · rintro w' ⟨s0, s1, s2, s3, s4, s5, s6, s7, s8, s9, s10, s11, s12, s13, s14, s15, s16, s17, s18, s19, s20, s21, s22, s23⟩
                  go_simp
                  with_reducible rfl
                rotate_left
                · simp only [Act.put, List.setIfInBounds_toArray, List.set_cons_zero, List.set_cons_succ, i64_w, i32_w]
                  rfl
                refine take_ (i := 9) (N := some 19) (v := ?_) (a' := ?_) #[true, true, true, true, true, true, true, true, true, true, false, true, true, true, true, true, false, true, true, true, true, true, false, false, false] rfl rfl (take_ofW HT_.out HW_.out (by kernel_rfl)) (fun _ _ _ h => h) (Or.inl ⟨by rfl, ?_⟩) hHeld ?_ ?_
                rotate_left
                · rintro w' ⟨s0, s1, s2, s3, s4, s5, s6, s7, s8, s9, s10, s11, s12, s13, s14, s15, s16, s17, s18, s19, s20, s21, s22, s23⟩
                  go_simp
                  with_reducible rfl
                rotate_left
                · simp only [Act.put, List.setIfInBounds_toArray, List.set_cons_zero, List.set_cons_succ, i64_w, i32_w]
                  rfl
                refine pure_ (i := 10) (N := some 20) (v := ?_) (a' := ?_) #[true, true, true, true, true, true, true, true, true, true, true, true, true, true, true, true, false, true, true, true, true, true, false, false, false] rfl rfl (any_of HT_.out (by kernel_rfl)) (fun _ _ _ h => h) (Or.inl ⟨by rfl, ?_⟩) ?_ ?_
                rotate_left
                · intro w'
                  go_simp
                  with_reducible rfl
                rotate_left
                · simp only [Act.put, List.setIfInBounds_toArray, List.set_cons_zero, List.set_cons_succ, i64_w, i32_w]
                  rfl
                refine take_ (i := 16) (N := some 26) (v := ?_) (a' := ?_) #[true, true, true, true, true, true, true, true, true, true, true, true, true, true, true, true, true, true, true, true, true, true, false, false, false] rfl rfl (take_ofW HT_.out HW_.out (by kernel_rfl)) (fun _ _ _ h => h) (Or.inl ⟨by rfl, ?_⟩) hHeld ?_ ?_
                rotate_left
                · rintro w' ⟨s0, s1, s2, s3, s4, s5, s6, s7, s8, s9, s10, s11, s12, s13, s14, s15, s16, s17, s18, s19, s20, s21, s22, s23⟩
                  go_simp
                  with_reducible rfl
                rotate_left
                · simp only [Act.put, List.setIfInBounds_toArray, List.set_cons_zero, List.set_cons_succ, i64_w, i32_w]
                  rfl
                refine take_ (i := 22) (N := some 32) (v := ?_) (a' := ?_) #[true, true, true, true, true, true, true, true, true, true, true, true, true, true, true, true, true, true, true, true, true, true, true, false, false] rfl rfl (take_ofW HT_.out HW_.out (by kernel_rfl)) (fun _ _ _ h => h) (Or.inl ⟨by rfl, ?_⟩) hHeld ?_ ?_
                rotate_left
                · rintro w' ⟨s0, s1, s2, s3, s4, s5, s6, s7, s8, s9, s10, s11, s12, s13, s14, s15, s16, s17, s18, s19, s20, s21, s22, s23⟩
                  go_simp
                  with_reducible rfl
                rotate_left
                · simp only [Act.put, List.setIfInBounds_toArray, List.set_cons_zero, List.set_cons_succ, i64_w, i32_w]
                  rfl
                refine pure_ (i := 23) (N := some 33) (v := ?_) (a' := ?_) #[true, true, true, true, true, true, true, true, true, true, true, true, true, true, true, true, true, true, true, true, true, true, true, true, false] rfl rfl (any_of HT_.out (by kernel_rfl)) (fun _ _ _ h => h) (Or.inl ⟨by rfl, ?_⟩) ?_ ?_
                rotate_left
                · intro w'
                  go_simp
                  with_reducible rfl
                rotate_left
                · simp only [Act.put, List.setIfInBounds_toArray, List.set_cons_zero, List.set_cons_succ, i64_w, i32_w]
                  rfl
                refine one_ (i := 24) (N := some 34) #[true, true, true, true, true, true, true, true, true, true, true, true, true, true, true, true, true, true, true, true, true, true, true, true, true] rfl rfl (one_of HT_.out (by kernel_rfl)) (by decide) (fun K hK => ?_)
                refine goes_ Try.func11 (by kernel_rfl) rfl #[.agg #[.int .i64 ((rd_T27 l0 x3_1).f0), .int .i64 ((rd_T27 l0 x3_1).f1)], .agg #[.int .i64 ((rd_T27 l0 (ji4)).f0), .int .i64 ((rd_T27 l0 (ji4)).f1)]] (by rfl) rfl rfl (by (try simp only [List.map_toArray, List.map_cons, List.map_nil]); first | done | (simp only [hji4]; rfl) | rfl | (simp only [List.length_drop, List.length_take]; rfl)) ?_
                with_reducible refine (spec_Before.calls ((rd_T27 l0 x3_1).f0) ((rd_T27 l0 x3_1).f1) ((rd_T27 l0 (ji4)).f0) ((rd_T27 l0 (ji4)).f1) true _ A7.out).mono ?_
                rintro e w10 ⟨rfl, hb⟩
                refine ⟨_, rfl, ?_⟩
                have n0_ := Aside0.mk (below_step (by repeat (first | (with_reducible first | exact HB.out | apply below_alloc | apply pw_below_drewN | apply below_drew1) | exact HB.out)) hb)
                clear HB
                have HB := n0_
                clear n0_
                (try clear hb)
                (try clear hb2)
                (try clear hk)
                (try clear hi)
                refine hK.out _ _ ⟨((HB.out.cell (World.block_lt_of_cell? w _ hw103_0)).trans hw103_0), ((HB.out.cell (World.block_lt_of_cell? w _ hw103_1)).trans hw103_1), ((HB.out.cell (World.block_lt_of_cell? w _ hw103_2)).trans hw103_2), ((HB.out.cell (World.block_lt_of_cell? w _ hw103_3)).trans hw103_3), ((HB.out.cell (World.block_lt_of_cell? w _ hw103_4)).trans hw103_4), ((HB.out.cell (World.block_lt_of_cell? w _ hw103_5)).trans hw103_5), ((HB.out.cell (World.block_lt_of_cell? w _ hw104_0)).trans hw104_0), ((HB.out.cell (World.block_lt_of_cell? w _ hw104_1)).trans hw104_1), ((HB.out.cell (World.block_lt_of_cell? w _ hw104_2)).trans hw104_2), ((HB.out.cell (World.block_lt_of_cell? w _ hw104_3)).trans hw104_3), ((HB.out.cell (World.block_lt_of_cell? w _ hw104_4)).trans hw104_4), ((HB.out.cell (World.block_lt_of_cell? w _ hw104_5)).trans hw104_5), ((HB.out.cell (World.block_lt_of_cell? w _ hw105_0)).trans hw105_0), ((HB.out.cell (World.block_lt_of_cell? w _ hw105_1)).trans hw105_1), ((HB.out.cell (World.block_lt_of_cell? w _ hw105_2)).trans hw105_2), ((HB.out.cell (World.block_lt_of_cell? w _ hw105_3)).trans hw105_3), ((HB.out.cell (World.block_lt_of_cell? w _ hw105_4)).trans hw105_4), ((HB.out.cell (World.block_lt_of_cell? w _ hw105_5)).trans hw105_5), ((HB.out.cell (World.block_lt_of_cell? w _ hw106_0)).trans hw106_0), ((HB.out.cell (World.block_lt_of_cell? w _ hw106_1)).trans hw106_1), ((HB.out.cell (World.block_lt_of_cell? w _ hw106_2)).trans hw106_2), ((HB.out.cell (World.block_lt_of_cell? w _ hw106_3)).trans hw106_3), ((HB.out.cell (World.block_lt_of_cell? w _ hw106_4)).trans hw106_4), ((HB.out.cell (World.block_lt_of_cell? w _ hw106_5)).trans hw106_5)⟩ (fun hHeld => ?_)
                clear hK K
                refine norm_ (a' := ?_) ?_ ?_
                rotate_left
                · show Act.put _ (some 34) _ = _
                  simp only [Act.put, List.setIfInBounds_toArray, List.set_cons_zero, List.set_cons_succ, i64_w, i32_w]
                  rfl
                refine done_ (done_of HT_.out (by kernel_rfl)) ?_
                try go_wp2
                go_ret
                exact ⟨by first | rfl | (simp [errW_none, errW_some] <;> rfl) | (simp only [← hji4]; first | rfl | (simp [errW_none, errW_some] <;> rfl)) | (simp [*, errW_none, errW_some] <;> rfl), by repeat (first | (with_reducible first | exact HB.out | apply below_alloc | apply pw_below_drewN | apply below_drew1) | exact HB.out)⟩
              · replace c8 := Bool.eq_false_iff.mpr c8
                subst c8
                have H1 : (spec_Ordered.l0 k1 l0 (wrap64 (x3_1 + 1))) = some r := by rw [if_neg (show ¬ (false = true) by decide)] at H; exact H
                clear H
                have H := H1
                clear H1
                have H' := Aside0.mk H
                clear H
                try go_wp2
                have n0_ := Aside0.mk (below_drew1 HB.out)
                clear HB
                have HB := n0_
                clear n0_
                have p103 : 0 ≤ (x3_1 : Int) := of_decide_eq_true (by first | (with_reducible assumption) | assumption)
                have q103 : x3_1 < (l0.length : Int) := of_decide_eq_true (by first | (with_reducible assumption) | assumption)
                obtain ⟨ad103, e103, hx103_0, hx103_1, hx103_2, hx103_3, hx103_4, hx103_5⟩ := at_T27 HR0.out x3_1 p103 q103
                have hw103_5 := hx103_5
                have hw103_4 := hx103_4
                have hw103_3 := hx103_3
                have hw103_2 := hx103_2
                have hw103_1 := hx103_1
                have hw103_0 := hx103_0
                cases e103
                replace hx103_0 := (HB.out.cell (World.block_lt_of_cell? w _ hx103_0)).trans hx103_0
                replace hx103_1 := (HB.out.cell (World.block_lt_of_cell? w _ hx103_1)).trans hx103_1
                replace hx103_2 := (HB.out.cell (World.block_lt_of_cell? w _ hx103_2)).trans hx103_2
                replace hx103_3 := (HB.out.cell (World.block_lt_of_cell? w _ hx103_3)).trans hx103_3
                replace hx103_4 := (HB.out.cell (World.block_lt_of_cell? w _ hx103_4)).trans hx103_4
                replace hx103_5 := (HB.out.cell (World.block_lt_of_cell? w _ hx103_5)).trans hx103_5
                replace p103 := eq_true p103
                replace q103 := eq_true q103
                have p104 : 0 ≤ (x3_1 : Int) := of_decide_eq_true (by first | (with_reducible assumption) | assumption)
                have q104 : x3_1 < (l0.length : Int) := of_decide_eq_true (by first | (with_reducible assumption) | assumption)
                obtain ⟨ad104, e104, hx104_0, hx104_1, hx104_2, hx104_3, hx104_4, hx104_5⟩ := at_T27 HR0.out x3_1 p104 q104
                have hw104_5 := hx104_5
                have hw104_4 := hx104_4
                have hw104_3 := hx104_3
                have hw104_2 := hx104_2
                have hw104_1 := hx104_1
                have hw104_0 := hx104_0
                obtain rfl : ad103 = ad104 := (by injection e104)
                replace hx104_0 := (HB.out.cell (World.block_lt_of_cell? w _ hx104_0)).trans hx104_0
                replace hx104_1 := (HB.out.cell (World.block_lt_of_cell? w _ hx104_1)).trans hx104_1
                replace hx104_2 := (HB.out.cell (World.block_lt_of_cell? w _ hx104_2)).trans hx104_2
                replace hx104_3 := (HB.out.cell (World.block_lt_of_cell? w _ hx104_3)).trans hx104_3
                replace hx104_4 := (HB.out.cell (World.block_lt_of_cell? w _ hx104_4)).trans hx104_4
                replace hx104_5 := (HB.out.cell (World.block_lt_of_cell? w _ hx104_5)).trans hx104_5
                replace p104 := eq_true p104
                replace q104 := eq_true q104
                have p105 : 0 ≤ ((ji4) : Int) := of_decide_eq_true (by first | (with_reducible assumption) | assumption)
                have q105 : (ji4) < (l0.length : Int) := of_decide_eq_true (by first | (with_reducible assumption) | assumption)
                obtain ⟨ad105, e105, hx105_0, hx105_1, hx105_2, hx105_3, hx105_4, hx105_5⟩ := at_T27 HR0.out (ji4) p105 q105
                have hw105_5 := hx105_5
                have hw105_4 := hx105_4
                have hw105_3 := hx105_3
                have hw105_2 := hx105_2
                have hw105_1 := hx105_1
                have hw105_0 := hx105_0
                obtain rfl : ad103 = ad105 := (by injection e105)
                replace hx105_0 := (HB.out.cell (World.block_lt_of_cell? w _ hx105_0)).trans hx105_0
                replace hx105_1 := (HB.out.cell (World.block_lt_of_cell? w _ hx105_1)).trans hx105_1
                replace hx105_2 := (HB.out.cell (World.block_lt_of_cell? w _ hx105_2)).trans hx105_2
                replace hx105_3 := (HB.out.cell (World.block_lt_of_cell? w _ hx105_3)).trans hx105_3
                replace hx105_4 := (HB.out.cell (World.block_lt_of_cell? w _ hx105_4)).trans hx105_4
                replace hx105_5 := (HB.out.cell (World.block_lt_of_cell? w _ hx105_5)).trans hx105_5
                replace p105 := eq_true p105
                replace q105 := eq_true q105
                have p106 : 0 ≤ ((ji4) : Int) := of_decide_eq_true (by first | (with_reducible assumption) | assumption)
                have q106 : (ji4) < (l0.length : Int) := of_decide_eq_true (by first | (with_reducible assumption) | assumption)
                obtain ⟨ad106, e106, hx106_0, hx106_1, hx106_2, hx106_3, hx106_4, hx106_5⟩ := at_T27 HR0.out (ji4) p106 q106
                have hw106_5 := hx106_5
                have hw106_4 := hx106_4
                have hw106_3 := hx106_3
                have hw106_2 := hx106_2
                have hw106_1 := hx106_1
                have hw106_0 := hx106_0
                obtain rfl : ad103 = ad106 := (by injection e106)
                replace hx106_0 := (HB.out.cell (World.block_lt_of_cell? w _ hx106_0)).trans hx106_0
                replace hx106_1 := (HB.out.cell (World.block_lt_of_cell? w _ hx106_1)).trans hx106_1
                replace hx106_2 := (HB.out.cell (World.block_lt_of_cell? w _ hx106_2)).trans hx106_2
                replace hx106_3 := (HB.out.cell (World.block_lt_of_cell? w _ hx106_3)).trans hx106_3
                replace hx106_4 := (HB.out.cell (World.block_lt_of_cell? w _ hx106_4)).trans hx106_4
                replace hx106_5 := (HB.out.cell (World.block_lt_of_cell? w _ hx106_5)).trans hx106_5
                replace p106 := eq_true p106
                replace q106 := eq_true q106
                refine start_ (n := 25) (S := fun w' => w'.cell? (ad103.add ((x3_1).toNat * 6)) = some (.int .i64 ((rd_T27 l0 x3_1).f0)) ∧ w'.cell? ⟨(ad103.add ((x3_1).toNat * 6)).block, (ad103.add ((x3_1).toNat * 6)).off + 1, none⟩ = some (.int .i64 ((rd_T27 l0 x3_1).f1)) ∧ w'.cell? ⟨(ad103.add ((x3_1).toNat * 6)).block, (ad103.add ((x3_1).toNat * 6)).off + 2, none⟩ = some (.int .i64 ((rd_T27 l0 x3_1).f2)) ∧ w'.cell? ⟨(ad103.add ((x3_1).toNat * 6)).block, (ad103.add ((x3_1).toNat * 6)).off + 3, none⟩ = some (.int .i64 ((rd_T27 l0 x3_1).f3)) ∧ w'.cell? ⟨(ad103.add ((x3_1).toNat * 6)).block, (ad103.add ((x3_1).toNat * 6)).off + 4, none⟩ = some (.int .i64 ((rd_T27 l0 x3_1).f4)) ∧ w'.cell? ⟨(ad103.add ((x3_1).toNat * 6)).block, (ad103.add ((x3_1).toNat * 6)).off + 5, none⟩ = some (.int .i64 ((rd_T27 l0 x3_1).f5)) ∧ w'.cell? (ad103.add ((x3_1).toNat * 6)) = some (.int .i64 ((rd_T27 l0 x3_1).f0)) ∧ w'.cell? ⟨(ad103.add ((x3_1).toNat * 6)).block, (ad103.add ((x3_1).toNat * 6)).off + 1, none⟩ = some (.int .i64 ((rd_T27 l0 x3_1).f1)) ∧ w'.cell? ⟨(ad103.add ((x3_1).toNat * 6)).block, (ad103.add ((x3_1).toNat * 6)).off + 2, none⟩ = some (.int .i64 ((rd_T27 l0 x3_1).f2)) ∧ w'.cell? ⟨(ad103.add ((x3_1).toNat * 6)).block, (ad103.add ((x3_1).toNat * 6)).off + 3, none⟩ = some (.int .i64 ((rd_T27 l0 x3_1).f3)) ∧ w'.cell? ⟨(ad103.add ((x3_1).toNat * 6)).block, (ad103.add ((x3_1).toNat * 6)).off + 4, none⟩ = some (.int .i64 ((rd_T27 l0 x3_1).f4)) ∧ w'.cell? ⟨(ad103.add ((x3_1).toNat * 6)).block, (ad103.add ((x3_1).toNat * 6)).off + 5, none⟩ = some (.int .i64 ((rd_T27 l0 x3_1).f5)) ∧ w'.cell? (ad103.add (((ji4)).toNat * 6)) = some (.int .i64 ((rd_T27 l0 (ji4)).f0)) ∧ w'.cell? ⟨(ad103.add (((ji4)).toNat * 6)).block, (ad103.add (((ji4)).toNat * 6)).off + 1, none⟩ = some (.int .i64 ((rd_T27 l0 (ji4)).f1)) ∧ w'.cell? ⟨(ad103.add (((ji4)).toNat * 6)).block, (ad103.add (((ji4)).toNat * 6)).off + 2, none⟩ = some (.int .i64 ((rd_T27 l0 (ji4)).f2)) ∧ w'.cell? ⟨(ad103.add (((ji4)).toNat * 6)).block, (ad103.add (((ji4)).toNat * 6)).off + 3, none⟩ = some (.int .i64 ((rd_T27 l0 (ji4)).f3)) ∧ w'.cell? ⟨(ad103.add (((ji4)).toNat * 6)).block, (ad103.add (((ji4)).toNat * 6)).off + 4, none⟩ = some (.int .i64 ((rd_T27 l0 (ji4)).f4)) ∧ w'.cell? ⟨(ad103.add (((ji4)).toNat * 6)).block, (ad103.add (((ji4)).toNat * 6)).off + 5, none⟩ = some (.int .i64 ((rd_T27 l0 (ji4)).f5)) ∧ w'.cell? (ad103.add (((ji4)).toNat * 6)) = some (.int .i64 ((rd_T27 l0 (ji4)).f0)) ∧ w'.cell? ⟨(ad103.add (((ji4)).toNat * 6)).block, (ad103.add (((ji4)).toNat * 6)).off + 1, none⟩ = some (.int .i64 ((rd_T27 l0 (ji4)).f1)) ∧ w'.cell? ⟨(ad103.add (((ji4)).toNat * 6)).block, (ad103.add (((ji4)).toNat * 6)).off + 2, none⟩ = some (.int .i64 ((rd_T27 l0 (ji4)).f2)) ∧ w'.cell? ⟨(ad103.add (((ji4)).toNat * 6)).block, (ad103.add (((ji4)).toNat * 6)).off + 3, none⟩ = some (.int .i64 ((rd_T27 l0 (ji4)).f3)) ∧ w'.cell? ⟨(ad103.add (((ji4)).toNat * 6)).block, (ad103.add (((ji4)).toNat * 6)).off + 4, none⟩ = some (.int .i64 ((rd_T27 l0 (ji4)).f4)) ∧ w'.cell? ⟨(ad103.add (((ji4)).toNat * 6)).block, (ad103.add (((ji4)).toNat * 6)).off + 5, none⟩ = some (.int .i64 ((rd_T27 l0 (ji4)).f5))) (ds := []) #[false, false, false, false, false, false, false, false, false, false, false, false, false, false, false, false, false, false, false, false, false, false, false, false, false] (by kernel_rfl) rfl rfl ⟨((HB.out.cell (World.block_lt_of_cell? w _ hw103_0)).trans hw103_0), ((HB.out.cell (World.block_lt_of_cell? w _ hw103_1)).trans hw103_1), ((HB.out.cell (World.block_lt_of_cell? w _ hw103_2)).trans hw103_2), ((HB.out.cell (World.block_lt_of_cell? w _ hw103_3)).trans hw103_3), ((HB.out.cell (World.block_lt_of_cell? w _ hw103_4)).trans hw103_4), ((HB.out.cell (World.block_lt_of_cell? w _ hw103_5)).trans hw103_5), ((HB.out.cell (World.block_lt_of_cell? w _ hw104_0)).trans hw104_0), ((HB.out.cell (World.block_lt_of_cell? w _ hw104_1)).trans hw104_1), ((HB.out.cell (World.block_lt_of_cell? w _ hw104_2)).trans hw104_2), ((HB.out.cell (World.block_lt_of_cell? w _ hw104_3)).trans hw104_3), ((HB.out.cell (World.block_lt_of_cell? w _ hw104_4)).trans hw104_4), ((HB.out.cell (World.block_lt_of_cell? w _ hw104_5)).trans hw104_5), ((HB.out.cell (World.block_lt_of_cell? w _ hw105_0)).trans hw105_0), ((HB.out.cell (World.block_lt_of_cell? w _ hw105_1)).trans hw105_1), ((HB.out.cell (World.block_lt_of_cell? w _ hw105_2)).trans hw105_2), ((HB.out.cell (World.block_lt_of_cell? w _ hw105_3)).trans hw105_3), ((HB.out.cell (World.block_lt_of_cell? w _ hw105_4)).trans hw105_4), ((HB.out.cell (World.block_lt_of_cell? w _ hw105_5)).trans hw105_5), ((HB.out.cell (World.block_lt_of_cell? w _ hw106_0)).trans hw106_0), ((HB.out.cell (World.block_lt_of_cell? w _ hw106_1)).trans hw106_1), ((HB.out.cell (World.block_lt_of_cell? w _ hw106_2)).trans hw106_2), ((HB.out.cell (World.block_lt_of_cell? w _ hw106_3)).trans hw106_3), ((HB.out.cell (World.block_lt_of_cell? w _ hw106_4)).trans hw106_4), ((HB.out.cell (World.block_lt_of_cell? w _ hw106_5)).trans hw106_5)⟩ (fun hHeld => ?_); refine with_tabW spec_Ordered.tab4 spec_Ordered.bits4 (fun HT_ HW_ => ?_)
                generalize wr.drew = w11 at HB hx103_0 hx103_1 hx103_2 hx103_3 hx103_4 hx103_5 hx104_0 hx104_1 hx104_2 hx104_3 hx104_4 hx104_5 hx105_0 hx105_1 hx105_2 hx105_3 hx105_4 hx105_5 hx106_0 hx106_1 hx106_2 hx106_3 hx106_4 hx106_5 hHeld ⊢
                refine pure_ (i := 0) (N := some 10) (v := ?_) (a' := ?_) #[true, false, false, false, false, false, false, false, false, false, false, false, false, false, false, false, false, false, false, false, false, false, false, false, false] rfl rfl (any_of HT_.out (by kernel_rfl)) (fun _ _ _ h => h) (Or.inl ⟨by rfl, ?_⟩) ?_ ?_
                rotate_left
                · intro w'
                  go_simp
                  with_reducible rfl
                rotate_left
                · simp only [Act.put, List.setIfInBounds_toArray, List.set_cons_zero, List.set_cons_succ, i64_w, i32_w]
                  rfl
                refine pure_ (i := 1) (N := some 11) (v := ?_) (a' := ?_) #[true, true, false, false, false, false, false, false, false, false, false, false, false, false, false, false, false, false, false, false, false, false, false, false, false] rfl rfl (any_of HT_.out (by kernel_rfl)) (fun _ _ _ h => h) (Or.inl ⟨by rfl, ?_⟩) ?_ ?_
                rotate_left
                · intro w'
                  go_simp
                  with_reducible rfl
                rotate_left
                · simp only [Act.put, List.setIfInBounds_toArray, List.set_cons_zero, List.set_cons_succ, i64_w, i32_w]
                  rfl
                refine pure_ (i := 2) (N := some 12) (v := ?_) (a' := ?_) #[true, true, true, false, false, false, false, false, false, false, false, false, false, false, false, false, false, false, false, false, false, false, false, false, false] rfl rfl (any_of HT_.out (by kernel_rfl)) (fun _ _ _ h => h) (Or.inl ⟨by rfl, ?_⟩) ?_ ?_
                rotate_left
                · intro w'
                  go_simp
                  with_reducible rfl
                rotate_left
                · simp only [Act.put, List.setIfInBounds_toArray, List.set_cons_zero, List.set_cons_succ, i64_w, i32_w]
                  rfl
                refine pure_ (i := 3) (N := some 13) (v := ?_) (a' := ?_) #[true, true, true, true, false, false, false, false, false, false, false, false, false, false, false, false, false, false, false, false, false, false, false, false, false] rfl rfl (any_of HT_.out (by kernel_rfl)) (fun _ _ _ h => h) (Or.inl ⟨by rfl, ?_⟩) ?_ ?_
                rotate_left
                · intro w'
                  go_simp
                  with_reducible rfl
                rotate_left
                · simp only [Act.put, List.setIfInBounds_toArray, List.set_cons_zero, List.set_cons_succ, i64_w, i32_w]
                  rfl
                refine pure_ (i := 5) (N := some 15) (v := ?_) (a' := ?_) #[true, true, true, true, false, true, false, false, false, false, false, false, false, false, false, false, false, false, false, false, false, false, false, false, false] rfl rfl (any_of HT_.out (by kernel_rfl)) (fun _ _ _ h => h) (Or.inl ⟨by rfl, ?_⟩) ?_ ?_
                rotate_left
                · intro w'
                  go_simp
                  with_reducible rfl
                rotate_left
                · simp only [Act.put, List.setIfInBounds_toArray, List.set_cons_zero, List.set_cons_succ, i64_w, i32_w]
                  rfl
                refine pure_ (i := 6) (N := some 16) (v := ?_) (a' := ?_) #[true, true, true, true, false, true, true, false, false, false, false, false, false, false, false, false, false, false, false, false, false, false, false, false, false] rfl rfl (any_of HT_.out (by kernel_rfl)) (fun _ _ _ h => h) (Or.inl ⟨by rfl, ?_⟩) ?_ ?_
                rotate_left
                · intro w'
                  go_simp
                  with_reducible rfl
                rotate_left
                · simp only [Act.put, List.setIfInBounds_toArray, List.set_cons_zero, List.set_cons_succ, i64_w, i32_w]
                  rfl
                refine pure_ (i := 7) (N := some 17) (v := ?_) (a' := ?_) #[true, true, true, true, false, true, true, true, false, false, false, false, false, false, false, false, false, false, false, false, false, false, false, false, false] rfl rfl (any_of HT_.out (by kernel_rfl)) (fun _ _ _ h => h) (Or.inl ⟨by rfl, ?_⟩) ?_ ?_
                rotate_left
                · intro w'
                  go_simp
                  with_reducible rfl
                rotate_left
                · simp only [Act.put, List.setIfInBounds_toArray, List.set_cons_zero, List.set_cons_succ, i64_w, i32_w]
                  rfl
                refine pure_ (i := 8) (N := some 18) (v := ?_) (a' := ?_) #[true, true, true, true, false, true, true, true, true, false, false, false, false, false, false, false, false, false, false, false, false, false, false, false, false] rfl rfl (any_of HT_.out (by kernel_rfl)) (fun _ _ _ h => h) (Or.inl ⟨by rfl, ?_⟩) ?_ ?_
                rotate_left
                · intro w'
                  go_simp
                  with_reducible rfl
                rotate_left
                · simp only [Act.put, List.setIfInBounds_toArray, List.set_cons_zero, List.set_cons_succ, i64_w, i32_w]
                  rfl
                refine pure_ (i := 11) (N := some 21) (v := ?_) (a' := ?_) #[true, true, true, true, false, true, true, true, true, false, false, true, false, false, false, false, false, false, false, false, false, false, false, false, false] rfl rfl (any_of HT_.out (by kernel_rfl)) (fun _ _ _ h => h) (Or.inl ⟨by rfl, ?_⟩) ?_ ?_
                rotate_left
                · intro w'
                  go_simp
                  with_reducible rfl
                rotate_left
                · simp only [Act.put, List.setIfInBounds_toArray, List.set_cons_zero, List.set_cons_succ, i64_w, i32_w]
                  rfl
                refine pure_ (i := 12) (N := some 22) (v := ?_) (a' := ?_) #[true, true, true, true, false, true, true, true, true, false, false, true, true, false, false, false, false, false, false, false, false, false, false, false, false] rfl rfl (any_of HT_.out (by kernel_rfl)) (fun _ _ _ h => h) (Or.inl ⟨by rfl, ?_⟩) ?_ ?_
                rotate_left
                · intro w'
                  go_simp
                  with_reducible rfl
                rotate_left
                · simp only [Act.put, List.setIfInBounds_toArray, List.set_cons_zero, List.set_cons_succ, i64_w, i32_w]
                  rfl
                refine pure_ (i := 13) (N := some 23) (v := ?_) (a' := ?_) #[true, true, true, true, false, true, true, true, true, false, false, true, true, true, false, false, false, false, false, false, false, false, false, false, false] rfl rfl (any_of HT_.out (by kernel_rfl)) (fun _ _ _ h => h) (Or.inl ⟨by rfl, ?_⟩) ?_ ?_
                rotate_left
                · intro w'
                  go_simp
                  with_reducible rfl
                rotate_left
                · simp only [Act.put, List.setIfInBounds_toArray, List.set_cons_zero, List.set_cons_succ, i64_w, i32_w]
                  rfl
                refine pure_ (i := 14) (N := some 24) (v := ?_) (a' := ?_) #[true, true, true, true, false, true, true, true, true, false, false, true, true, true, true, false, false, false, false, false, false, false, false, false, false] rfl rfl (any_of HT_.out (by kernel_rfl)) (fun _ _ _ h => h) (Or.inl ⟨by rfl, ?_⟩) ?_ ?_
                rotate_left
                · intro w'
                  go_simp
                  with_reducible rfl
                rotate_left
                · simp only [Act.put, List.setIfInBounds_toArray, List.set_cons_zero, List.set_cons_succ, i64_w, i32_w]
                  rfl
                refine pure_ (i := 15) (N := some 25) (v := ?_) (a' := ?_) #[true, true, true, true, false, true, true, true, true, false, false, true, true, true, true, true, false, false, false, false, false, false, false, false, false] rfl rfl (any_of HT_.out (by kernel_rfl)) (fun _ _ _ h => h) (Or.inl ⟨by rfl, ?_⟩) ?_ ?_
                rotate_left
                · intro w'
                  go_simp
                  with_reducible rfl
                rotate_left
                · simp only [Act.put, List.setIfInBounds_toArray, List.set_cons_zero, List.set_cons_succ, i64_w, i32_w]
                  rfl
                refine pure_ (i := 17) (N := some 27) (v := ?_) (a' := ?_) #[true, true, true, true, false, true, true, true, true, false, false, true, true, true, true, true, false, true, false, false, false, false, false, false, false] rfl rfl (any_of HT_.out (by kernel_rfl)) (fun _ _ _ h => h) (Or.inl ⟨by rfl, ?_⟩) ?_ ?_
                rotate_left
                · intro w'
                  go_simp
                  with_reducible rfl
                rotate_left
                · simp only [Act.put, List.setIfInBounds_toArray, List.set_cons_zero, List.set_cons_succ, i64_w, i32_w]
                  rfl
                refine pure_ (i := 18) (N := some 28) (v := ?_) (a' := ?_) #[true, true, true, true, false, true, true, true, true, false, false, true, true, true, true, true, false, true, true, false, false, false, false, false, false] rfl rfl (any_of HT_.out (by kernel_rfl)) (fun _ _ _ h => h) (Or.inl ⟨by rfl, ?_⟩) ?_ ?_
                rotate_left
                · intro w'
                  go_simp
                  with_reducible rfl
                rotate_left
                · simp only [Act.put, List.setIfInBounds_toArray, List.set_cons_zero, List.set_cons_succ, i64_w, i32_w]
                  rfl
                refine pure_ (i := 19) (N := some 29) (v := ?_) (a' := ?_) #[true, true, true, true, false, true, true, true, true, false, false, true, true, true, true, true, false, true, true, true, false, false, false, false, false] rfl rfl (any_of HT_.out (by kernel_rfl)) (fun _ _ _ h => h) (Or.inl ⟨by rfl, ?_⟩) ?_ ?_
                rotate_left
                · intro w'
                  go_simp
                  with_reducible rfl
                rotate_left
                · simp only [Act.put, List.setIfInBounds_toArray, List.set_cons_zero, List.set_cons_succ, i64_w, i32_w]
                  rfl
                refine pure_ (i := 20) (N := some 30) (v := ?_) (a' := ?_) #[true, true, true, true, false, true, true, true, true, false, false, true, true, true, true, true, false, true, true, true, true, false, false, false, false] rfl rfl (any_of HT_.out (by kernel_rfl)) (fun _ _ _ h => h) (Or.inl ⟨by rfl, ?_⟩) ?_ ?_
                rotate_left
                · intro w'
                  go_simp
                  with_reducible rfl
                rotate_left
                · simp only [Act.put, List.setIfInBounds_toArray, List.set_cons_zero, List.set_cons_succ, i64_w, i32_w]
                  rfl
                refine pure_ (i := 21) (N := some 31) (v := ?_) (a' := ?_) #[true, true, true, true, false, true, true, true, true, false, false, true, true, true, true, true, false, true, true, true, true, true, false, false, false] rfl rfl (any_of HT_.out (by kernel_rfl)) (fun _ _ _ h => h) (Or.inl ⟨by rfl, ?_⟩) ?_ ?_
                rotate_left
                · intro w'
                  go_simp
                  with_reducible rfl
                rotate_left
                · simp only [Act.put, List.setIfInBounds_toArray, List.set_cons_zero, List.set_cons_succ, i64_w, i32_w]
                  rfl
                refine take_ (i := 4) (N := some 14) (v := ?_) (a' := ?_) #[true, true, true, true, true, true, true, true, true, false, false, true, true, true, true, true, false, true, true, true, true, true, false, false, false] rfl rfl (take_ofW HT_.out HW_.out (by kernel_rfl)) (fun _ _ _ h => h) (Or.inl ⟨by rfl, ?_⟩) hHeld ?_ ?_
                rotate_left
                · rintro w' ⟨s0, s1, s2, s3, s4, s5, s6, s7, s8, s9, s10, s11, s12, s13, s14, s15, s16, s17, s18, s19, s20, s21, s22, s23⟩
                  go_simp
                  with_reducible rfl
                rotate_left
                · simp only [Act.put, List.setIfInBounds_toArray, List.set_cons_zero, List.set_cons_succ, i64_w, i32_w]
                  rfl
                refine take_ (i := 9) (N := some 19) (v := ?_) (a' := ?_) #[true, true, true, true, true, true, true, true, true, true, false, true, true, true, true, true, false, true, true, true, true, true, false, false, false] rfl rfl (take_ofW HT_.out HW_.out (by kernel_rfl)) (fun _ _ _ h => h) (Or.inl ⟨by rfl, ?_⟩) hHeld ?_ ?_
                rotate_left
                · rintro w' ⟨s0, s1, s2, s3, s4, s5, s6, s7, s8, s9, s10, s11, s12, s13, s14, s15, s16, s17, s18, s19, s20, s21, s22, s23⟩
                  go_simp
                  with_reducible rfl
                rotate_left
                · simp only [Act.put, List.setIfInBounds_toArray, List.set_cons_zero, List.set_cons_succ, i64_w, i32_w]
                  rfl
                refine pure_ (i := 10) (N := some 20) (v := ?_) (a' := ?_) #[true, true, true, true, true, true, true, true, true, true, true, true, true, true, true, true, false, true, true, true, true, true, false, false, false] rfl rfl (any_of HT_.out (by kernel_rfl)) (fun _ _ _ h => h) (Or.inl ⟨by rfl, ?_⟩) ?_ ?_
                rotate_left
                · intro w'
                  go_simp
                  with_reducible rfl
                rotate_left
                · simp only [Act.put, List.setIfInBounds_toArray, List.set_cons_zero, List.set_cons_succ, i64_w, i32_w]
                  rfl
                refine take_ (i := 16) (N := some 26) (v := ?_) (a' := ?_) #[true, true, true, true, true, true, true, true, true, true, true, true, true, true, true, true, true, true, true, true, true, true, false, false, false] rfl rfl (take_ofW HT_.out HW_.out (by kernel_rfl)) (fun _ _ _ h => h) (Or.inl ⟨by rfl, ?_⟩) hHeld ?_ ?_
                rotate_left
                · rintro w' ⟨s0, s1, s2, s3, s4, s5, s6, s7, s8, s9, s10, s11, s12, s13, s14, s15, s16, s17, s18, s19, s20, s21, s22, s23⟩
                  go_simp
                  with_reducible rfl
                rotate_left
                · simp only [Act.put, List.setIfInBounds_toArray, List.set_cons_zero, List.set_cons_succ, i64_w, i32_w]
                  rfl
                refine take_ (i := 22) (N := some 32) (v := ?_) (a' := ?_) #[true, true, true, true, true, true, true, true, true, true, true, true, true, true, true, true, true, true, true, true, true, true, true, false, false] rfl rfl (take_ofW HT_.out HW_.out (by kernel_rfl)) (fun _ _ _ h => h) (Or.inl ⟨by rfl, ?_⟩) hHeld ?_ ?_
                rotate_left
                · rintro w' ⟨s0, s1, s2, s3, s4, s5, s6, s7, s8, s9, s10, s11, s12, s13, s14, s15, s16, s17, s18, s19, s20, s21, s22, s23⟩
                  go_simp
                  with_reducible rfl
                rotate_left
                · simp only [Act.put, List.setIfInBounds_toArray, List.set_cons_zero, List.set_cons_succ, i64_w, i32_w]
                  rfl
                refine pure_ (i := 23) (N := some 33) (v := ?_) (a' := ?_) #[true, true, true, true, true, true, true, true, true, true, true, true, true, true, true, true, true, true, true, true, true, true, true, true, false] rfl rfl (any_of HT_.out (by kernel_rfl)) (fun _ _ _ h => h) (Or.inl ⟨by rfl, ?_⟩) ?_ ?_
                rotate_left
                · intro w'
                  go_simp
                  with_reducible rfl
                rotate_left
                · simp only [Act.put, List.setIfInBounds_toArray, List.set_cons_zero, List.set_cons_succ, i64_w, i32_w]
                  rfl
                refine one_ (i := 24) (N := some 34) #[true, true, true, true, true, true, true, true, true, true, true, true, true, true, true, true, true, true, true, true, true, true, true, true, true] rfl rfl (one_of HT_.out (by kernel_rfl)) (by decide) (fun K hK => ?_)
                refine goes_ Try.func11 (by kernel_rfl) rfl #[.agg #[.int .i64 ((rd_T27 l0 x3_1).f0), .int .i64 ((rd_T27 l0 x3_1).f1)], .agg #[.int .i64 ((rd_T27 l0 (ji4)).f0), .int .i64 ((rd_T27 l0 (ji4)).f1)]] (by rfl) rfl rfl (by (try simp only [List.map_toArray, List.map_cons, List.map_nil]); first | done | (simp only [hji4]; rfl) | rfl | (simp only [List.length_drop, List.length_take]; rfl)) ?_
                with_reducible refine (spec_Before.calls ((rd_T27 l0 x3_1).f0) ((rd_T27 l0 x3_1).f1) ((rd_T27 l0 (ji4)).f0) ((rd_T27 l0 (ji4)).f1) false _ A7.out).mono ?_
                rintro e w12 ⟨rfl, hb⟩
                refine ⟨_, rfl, ?_⟩
                have n0_ := Aside0.mk (below_step (by repeat (first | (with_reducible first | exact HB.out | apply below_alloc | apply pw_below_drewN | apply below_drew1) | exact HB.out)) hb)
                clear HB
                have HB := n0_
                clear n0_
                (try clear hb)
                (try clear hb2)
                (try clear hk)
                (try clear hi)
                refine hK.out _ _ ⟨((HB.out.cell (World.block_lt_of_cell? w _ hw103_0)).trans hw103_0), ((HB.out.cell (World.block_lt_of_cell? w _ hw103_1)).trans hw103_1), ((HB.out.cell (World.block_lt_of_cell? w _ hw103_2)).trans hw103_2), ((HB.out.cell (World.block_lt_of_cell? w _ hw103_3)).trans hw103_3), ((HB.out.cell (World.block_lt_of_cell? w _ hw103_4)).trans hw103_4), ((HB.out.cell (World.block_lt_of_cell? w _ hw103_5)).trans hw103_5), ((HB.out.cell (World.block_lt_of_cell? w _ hw104_0)).trans hw104_0), ((HB.out.cell (World.block_lt_of_cell? w _ hw104_1)).trans hw104_1), ((HB.out.cell (World.block_lt_of_cell? w _ hw104_2)).trans hw104_2), ((HB.out.cell (World.block_lt_of_cell? w _ hw104_3)).trans hw104_3), ((HB.out.cell (World.block_lt_of_cell? w _ hw104_4)).trans hw104_4), ((HB.out.cell (World.block_lt_of_cell? w _ hw104_5)).trans hw104_5), ((HB.out.cell (World.block_lt_of_cell? w _ hw105_0)).trans hw105_0), ((HB.out.cell (World.block_lt_of_cell? w _ hw105_1)).trans hw105_1), ((HB.out.cell (World.block_lt_of_cell? w _ hw105_2)).trans hw105_2), ((HB.out.cell (World.block_lt_of_cell? w _ hw105_3)).trans hw105_3), ((HB.out.cell (World.block_lt_of_cell? w _ hw105_4)).trans hw105_4), ((HB.out.cell (World.block_lt_of_cell? w _ hw105_5)).trans hw105_5), ((HB.out.cell (World.block_lt_of_cell? w _ hw106_0)).trans hw106_0), ((HB.out.cell (World.block_lt_of_cell? w _ hw106_1)).trans hw106_1), ((HB.out.cell (World.block_lt_of_cell? w _ hw106_2)).trans hw106_2), ((HB.out.cell (World.block_lt_of_cell? w _ hw106_3)).trans hw106_3), ((HB.out.cell (World.block_lt_of_cell? w _ hw106_4)).trans hw106_4), ((HB.out.cell (World.block_lt_of_cell? w _ hw106_5)).trans hw106_5)⟩ (fun hHeld => ?_)
                clear hK K
                refine norm_ (a' := ?_) ?_ ?_
                rotate_left
                · show Act.put _ (some 34) _ = _
                  simp only [Act.put, List.setIfInBounds_toArray, List.set_cons_zero, List.set_cons_succ, i64_w, i32_w]
                  rfl
                refine done_ (done_of HT_.out (by kernel_rfl)) ?_
                try go_wp2
                go_roundg k1
                case measure => have := HK1.out; omega
                case rel => exact ⟨(wrap64 (x3_1 + 1)), (by first | rfl | (simp; done) | (simp [*]; done)), H', ⟨by have := HK1.out; omega⟩, ⟨by repeat (first | (with_reducible first | exact HB.out | apply below_alloc | apply pw_below_drewN | apply below_drew1) | exact HB.out)⟩⟩
            · rw [if_neg c6] at H
              exact absurd H (by simp)
          · rw [if_neg c5] at H
            exact absurd H (by simp)
        · rw [if_neg c3] at H
          exact absurd H (by simp)
      · rw [if_neg c2] at H
        have c2b0 : decide (x3_1 < (l0.length : Int)) = false := decide_eq_false c2
        clear c2
        obtain rfl := Option.some.inj H
        go_wp2
        go_ret
        exact ⟨by first | rfl | (simp [errW_none, errW_some] <;> rfl) | (simp [*, errW_none, errW_some] <;> rfl), by repeat (first | (with_reducible first | exact HB.out | apply below_alloc | apply pw_below_drewN | apply below_drew1) | exact HB.out)⟩

end Go.Proofs.Ytdhaifcjhmmdlaa.PFnFinalize
