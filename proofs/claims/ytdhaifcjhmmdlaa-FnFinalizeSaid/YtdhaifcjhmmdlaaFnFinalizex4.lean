/-
  FnFinalize: the printed contract of spec.MappingsText, its sizes of sums mended.
  Conditions: none.
-/
import Derived.Test.YtdhaifcjhmmdlaaPFnFinalizex0
import Derived.Test.YtdhaifcjhmmdlaaFnFinalizex3
namespace Go.Proofs.Ytdhaifcjhmmdlaa.PFnFinalize
open Go.RowKit Go.Proofs.YtdhaifcjhmmdlaaW.PrintWords Go.Proofs.YtdhaifcjhmmdlaaW.PrintLast Go.Proofs.YtdhaifcjhmmdlaaW.PrintMore
attribute [local go_sem] max2_int min2_int max_two min_two max_three min_three max_four min_four   -- for this text's walks alone
set_option linter.unusedVariables false
set_option linter.unusedSimpArgs false

theorem gen4 {F : Exit → Act → World → Prop} {e : Exit} {a : Act} {w : World} {n1 n2 n3 n4 : Nat} (h : ∀ w1 : World, w1.heap = w.heap → w1.os = w.os → w1.tape = w.tape → w1.output = w.output → F e a w1) : F e a ((((w.drewN n1).drewN n2).drewN n3).drewN n4) := h _ rfl rfl rfl rfl
/-! ### spec_MappingsText: function 7 -/
mutual
def spec_MappingsText.l0 : Nat → List (S27) → ByteArray → Int → Int → Int → Int → Int → Int → Int → Int → Option (ByteArray)
  | 0, _, _, _, _, _, _, _, _, _, _ => none
  | k + 1, x0, x3, x9, x10, x116000, x116001, x116002, x116003, x116004, x116005 => if x10 < x9 then (if 0 ≤ x10 then (if x10 < (x0.length : Int) then (spec_MappingsText.l1 k x0 x3 x10 x9 x10 x116000 x116001 x116002 x116003 x116004 x116005 ((rd_T27 x0 x10).f0) ((rd_T27 x0 x10).f1) ((rd_T27 x0 x10).f2) ((rd_T27 x0 x10).f3) ((rd_T27 x0 x10).f4) ((rd_T27 x0 x10).f5)) else (none)) else (none)) else (some x3)
def spec_MappingsText.l1 : Nat → List (S27) → ByteArray → Int → Int → Int → Int → Int → Int → Int → Int → Int → Int → Int → Int → Int → Int → Int → Option (ByteArray)
  | 0, _, _, _, _, _, _, _, _, _, _, _, _, _, _, _, _, _ => none
  | k + 1, x0, x3, x5, x9, x10, x116000, x116001, x116002, x116003, x116004, x116005, x118000, x118001, x118002, x118003, x118004, x118005 => if x116000 < x118000 then (if x3.size + 1 ≤ 9223372036854775807 then (spec_MappingsText.l1 k x0 (x3 ++ (⟨#[59]⟩ : ByteArray)) x5 x9 x10 (wrap64 (x116000 + 1)) 0 x116002 x116003 x116004 x116005 x118000 x118001 x118002 x118003 x118004 x118005) else (none)) else (if x5 > 0 then (if 0 ≤ (wrap64 (x5 - 1)) then (if (wrap64 (x5 - 1)) < (x0.length : Int) then (spec_MappingsText.j2 k x0 x3 x9 x10 (((rd_T27 x0 (wrap64 (x5 - 1))).f0) == x118000) x116000 x116001 x116002 x116003 x116004 x116005 x118000 x118001 x118002 x118003 x118004 x118005) else (none)) else (none)) else (spec_MappingsText.j2 k x0 x3 x9 x10 false x116000 x116001 x116002 x116003 x116004 x116005 x118000 x118001 x118002 x118003 x118004 x118005))
def spec_MappingsText.j2 : Nat → List (S27) → ByteArray → Int → Int → Bool → Int → Int → Int → Int → Int → Int → Int → Int → Int → Int → Int → Int → Option (ByteArray)
  | 0, _, _, _, _, _, _, _, _, _, _, _, _, _, _, _, _, _ => none
  | k + 1, x0, x3, x9, x10, x41, x116000, x116001, x116002, x116003, x116004, x116005, x118000, x118001, x118002, x118003, x118004, x118005 => if x41 = true then (if x3.size + 1 ≤ 9223372036854775807 then (spec_MappingsText.j3 k x0 (x3 ++ (⟨#[44]⟩ : ByteArray)) x9 x10 x116000 x116001 x116002 x116003 x116004 x116005 x118000 x118001 x118002 x118003 x118004 x118005) else (none)) else (spec_MappingsText.j3 k x0 x3 x9 x10 x116000 x116001 x116002 x116003 x116004 x116005 x118000 x118001 x118002 x118003 x118004 x118005)
def spec_MappingsText.j3 : Nat → List (S27) → ByteArray → Int → Int → Int → Int → Int → Int → Int → Int → Int → Int → Int → Int → Int → Int → Option (ByteArray)
  | 0, _, _, _, _, _, _, _, _, _, _, _, _, _, _, _, _ => none
  | k + 1, x0, x3, x9, x10, x116000, x116001, x116002, x116003, x116004, x116005, x118000, x118001, x118002, x118003, x118004, x118005 => (spec_VLQText.f k (wrap64 (x118001 - x116001))).bind fun t119 => ((spec_VLQText.f k (wrap64 (x118002 - x116002))).bind fun t120 => (if t119.size + t120.size ≤ 9223372036854775807 then ((spec_VLQText.f k (wrap64 (x118003 - x116003))).bind fun t121 => (if (t119 ++ t120).size + t121.size ≤ 9223372036854775807 then ((spec_VLQText.f k (wrap64 (x118004 - x116004))).bind fun t122 => (if ((t119 ++ t120) ++ t121).size + t122.size ≤ 9223372036854775807 then (if x3.size + (((t119 ++ t120) ++ t121) ++ t122).size ≤ 9223372036854775807 then (if x118005 ≥ 0 then ((spec_VLQText.f k (wrap64 (x118005 - x116005))).bind fun t123 => (if (x3 ++ (((t119 ++ t120) ++ t121) ++ t122)).size + t123.size ≤ 9223372036854775807 then (spec_MappingsText.l0 k x0 ((x3 ++ (((t119 ++ t120) ++ t121) ++ t122)) ++ t123) x9 (wrap64 (x10 + 1)) x116000 x118001 x118002 x118003 x118004 x118005) else (none))) else (spec_MappingsText.l0 k x0 (x3 ++ (((t119 ++ t120) ++ t121) ++ t122)) x9 (wrap64 (x10 + 1)) x116000 x118001 x118002 x118003 x118004 x116005)) else (none)) else (none))) else (none))) else (none)))
end
def spec_MappingsText.f (k : Nat) (l0 : List (S27)) : Option (ByteArray) := spec_MappingsText.l0 k l0 (⟨#[]⟩ : ByteArray) (l0.length : Int) 0 0 0 0 0 0 0
theorem spec_MappingsText.mono_l : ∀ k, (∀ y0 y1 y2 y3 y4 y5 y6 y7 y8 y9, LeO (spec_MappingsText.l0 k y0 y1 y2 y3 y4 y5 y6 y7 y8 y9) (spec_MappingsText.l0 (k + 1) y0 y1 y2 y3 y4 y5 y6 y7 y8 y9)) ∧ (∀ y0 y1 y2 y3 y4 y5 y6 y7 y8 y9 y10 y11 y12 y13 y14 y15 y16, LeO (spec_MappingsText.l1 k y0 y1 y2 y3 y4 y5 y6 y7 y8 y9 y10 y11 y12 y13 y14 y15 y16) (spec_MappingsText.l1 (k + 1) y0 y1 y2 y3 y4 y5 y6 y7 y8 y9 y10 y11 y12 y13 y14 y15 y16)) ∧ (∀ y0 y1 y2 y3 y4 y5 y6 y7 y8 y9 y10 y11 y12 y13 y14 y15 y16, LeO (spec_MappingsText.j2 k y0 y1 y2 y3 y4 y5 y6 y7 y8 y9 y10 y11 y12 y13 y14 y15 y16) (spec_MappingsText.j2 (k + 1) y0 y1 y2 y3 y4 y5 y6 y7 y8 y9 y10 y11 y12 y13 y14 y15 y16)) ∧ (∀ y0 y1 y2 y3 y4 y5 y6 y7 y8 y9 y10 y11 y12 y13 y14 y15, LeO (spec_MappingsText.j3 k y0 y1 y2 y3 y4 y5 y6 y7 y8 y9 y10 y11 y12 y13 y14 y15) (spec_MappingsText.j3 (k + 1) y0 y1 y2 y3 y4 y5 y6 y7 y8 y9 y10 y11 y12 y13 y14 y15))
  | 0 => ⟨fun _ _ _ _ _ _ _ _ _ _ r h => by simp [spec_MappingsText.l0] at h, fun _ _ _ _ _ _ _ _ _ _ _ _ _ _ _ _ _ r h => by simp [spec_MappingsText.l1] at h, fun _ _ _ _ _ _ _ _ _ _ _ _ _ _ _ _ _ r h => by simp [spec_MappingsText.j2] at h, fun _ _ _ _ _ _ _ _ _ _ _ _ _ _ _ _ r h => by simp [spec_MappingsText.j3] at h⟩
  | k + 1 => by
    obtain ⟨ih0, ih1, ih2, ih3⟩ := spec_MappingsText.mono_l k
    refine ⟨?_, ?_, ?_, ?_⟩
    · intro y0 y1 y2 y3 y4 y5 y6 y7 y8 y9
      unfold spec_MappingsText.l0
      repeat' first
      | (with_reducible exact ih0 _ _ _ _ _ _ _ _ _ _)
      | (with_reducible exact ih1 _ _ _ _ _ _ _ _ _ _ _ _ _ _ _ _ _)
      | (with_reducible exact ih2 _ _ _ _ _ _ _ _ _ _ _ _ _ _ _ _ _)
      | (with_reducible exact ih3 _ _ _ _ _ _ _ _ _ _ _ _ _ _ _ _)
      | (with_reducible exact spec_VLQText.mono _ _)
      | (with_reducible exact LeO.refl _)
      | (with_reducible exact LeO.none _)
      | (with_reducible refine LeO.ite ?_ ?_)
      | (with_reducible refine LeO.bind ?_ (fun _ => ?_))
      | exact ih0 _ _ _ _ _ _ _ _ _ _
      | exact ih1 _ _ _ _ _ _ _ _ _ _ _ _ _ _ _ _ _
      | exact ih2 _ _ _ _ _ _ _ _ _ _ _ _ _ _ _ _ _
      | exact ih3 _ _ _ _ _ _ _ _ _ _ _ _ _ _ _ _
      | exact spec_VLQText.mono _ _
      | exact LeO.none _
      | refine LeO.ite ?_ ?_
      | refine LeO.bind ?_ (fun _ => ?_)
    · intro y0 y1 y2 y3 y4 y5 y6 y7 y8 y9 y10 y11 y12 y13 y14 y15 y16
      unfold spec_MappingsText.l1
      repeat' first
      | (with_reducible exact ih0 _ _ _ _ _ _ _ _ _ _)
      | (with_reducible exact ih1 _ _ _ _ _ _ _ _ _ _ _ _ _ _ _ _ _)
      | (with_reducible exact ih2 _ _ _ _ _ _ _ _ _ _ _ _ _ _ _ _ _)
      | (with_reducible exact ih3 _ _ _ _ _ _ _ _ _ _ _ _ _ _ _ _)
      | (with_reducible exact spec_VLQText.mono _ _)
      | (with_reducible exact LeO.refl _)
      | (with_reducible exact LeO.none _)
      | (with_reducible refine LeO.ite ?_ ?_)
      | (with_reducible refine LeO.bind ?_ (fun _ => ?_))
      | exact ih0 _ _ _ _ _ _ _ _ _ _
      | exact ih1 _ _ _ _ _ _ _ _ _ _ _ _ _ _ _ _ _
      | exact ih2 _ _ _ _ _ _ _ _ _ _ _ _ _ _ _ _ _
      | exact ih3 _ _ _ _ _ _ _ _ _ _ _ _ _ _ _ _
      | exact spec_VLQText.mono _ _
      | exact LeO.none _
      | refine LeO.ite ?_ ?_
      | refine LeO.bind ?_ (fun _ => ?_)
    · intro y0 y1 y2 y3 y4 y5 y6 y7 y8 y9 y10 y11 y12 y13 y14 y15 y16
      unfold spec_MappingsText.j2
      repeat' first
      | (with_reducible exact ih0 _ _ _ _ _ _ _ _ _ _)
      | (with_reducible exact ih1 _ _ _ _ _ _ _ _ _ _ _ _ _ _ _ _ _)
      | (with_reducible exact ih2 _ _ _ _ _ _ _ _ _ _ _ _ _ _ _ _ _)
      | (with_reducible exact ih3 _ _ _ _ _ _ _ _ _ _ _ _ _ _ _ _)
      | (with_reducible exact spec_VLQText.mono _ _)
      | (with_reducible exact LeO.refl _)
      | (with_reducible exact LeO.none _)
      | (with_reducible refine LeO.ite ?_ ?_)
      | (with_reducible refine LeO.bind ?_ (fun _ => ?_))
      | exact ih0 _ _ _ _ _ _ _ _ _ _
      | exact ih1 _ _ _ _ _ _ _ _ _ _ _ _ _ _ _ _ _
      | exact ih2 _ _ _ _ _ _ _ _ _ _ _ _ _ _ _ _ _
      | exact ih3 _ _ _ _ _ _ _ _ _ _ _ _ _ _ _ _
      | exact spec_VLQText.mono _ _
      | exact LeO.none _
      | refine LeO.ite ?_ ?_
      | refine LeO.bind ?_ (fun _ => ?_)
    · intro y0 y1 y2 y3 y4 y5 y6 y7 y8 y9 y10 y11 y12 y13 y14 y15
      unfold spec_MappingsText.j3
      repeat' first
      | (with_reducible exact ih0 _ _ _ _ _ _ _ _ _ _)
      | (with_reducible exact ih1 _ _ _ _ _ _ _ _ _ _ _ _ _ _ _ _ _)
      | (with_reducible exact ih2 _ _ _ _ _ _ _ _ _ _ _ _ _ _ _ _ _)
      | (with_reducible exact ih3 _ _ _ _ _ _ _ _ _ _ _ _ _ _ _ _)
      | (with_reducible exact spec_VLQText.mono _ _)
      | (with_reducible exact LeO.refl _)
      | (with_reducible exact LeO.none _)
      | (with_reducible refine LeO.ite ?_ ?_)
      | (with_reducible refine LeO.bind ?_ (fun _ => ?_))
      | exact ih0 _ _ _ _ _ _ _ _ _ _
      | exact ih1 _ _ _ _ _ _ _ _ _ _ _ _ _ _ _ _ _
      | exact ih2 _ _ _ _ _ _ _ _ _ _ _ _ _ _ _ _ _
      | exact ih3 _ _ _ _ _ _ _ _ _ _ _ _ _ _ _ _
      | exact spec_VLQText.mono _ _
      | exact LeO.none _
      | refine LeO.ite ?_ ?_
      | refine LeO.bind ?_ (fun _ => ?_)
theorem spec_MappingsText.mono : ∀ a0 k, LeO (spec_MappingsText.f k a0) (spec_MappingsText.f (k + 1) a0) := by
  intro a0 k
  obtain ⟨ih0, ih1, ih2, ih3⟩ := spec_MappingsText.mono_l k
  unfold spec_MappingsText.f
  repeat' first
      | (with_reducible exact ih0 _ _ _ _ _ _ _ _ _ _)
      | (with_reducible exact ih1 _ _ _ _ _ _ _ _ _ _ _ _ _ _ _ _ _)
      | (with_reducible exact ih2 _ _ _ _ _ _ _ _ _ _ _ _ _ _ _ _ _)
      | (with_reducible exact ih3 _ _ _ _ _ _ _ _ _ _ _ _ _ _ _ _)
      | (with_reducible exact spec_VLQText.mono _ _)
      | (with_reducible exact LeO.refl _)
      | (with_reducible exact LeO.none _)
      | (with_reducible refine LeO.ite ?_ ?_)
      | (with_reducible refine LeO.bind ?_ (fun _ => ?_))
      | exact ih0 _ _ _ _ _ _ _ _ _ _
      | exact ih1 _ _ _ _ _ _ _ _ _ _ _ _ _ _ _ _ _
      | exact ih2 _ _ _ _ _ _ _ _ _ _ _ _ _ _ _ _ _
      | exact ih3 _ _ _ _ _ _ _ _ _ _ _ _ _ _ _ _
      | exact spec_VLQText.mono _ _
      | exact LeO.none _
      | refine LeO.ite ?_ ?_
      | refine LeO.bind ?_ (fun _ => ?_)
def spec_MappingsText.T11 : Bool × List (List Nat × List Nat) := (true, [([], []), ([0], [0]), ([1], [1]), ([2], [2]), ([2], [2]), ([4, 2], [2, 4]), ([3, 5, 2], [2, 3, 5]), ([6, 2], [2, 6]), ([7, 2], [2, 7]), ([2], [2]), ([9, 2], [2, 9]), ([8, 10, 2], [2, 8, 10]), ([2, 11], [2, 11])])
def spec_MappingsText.B11 : List Nat := [0, 1, 3, 7, 7, 23, 63, 127, 255, 7, 519, 2047, 4095]
theorem spec_MappingsText.tab11 : rtab .any (opsOf Try.f7 11) = spec_MappingsText.T11 := by kernel_rfl
theorem spec_MappingsText.bits11 : waitsOk spec_MappingsText.T11.2 spec_MappingsText.B11 = true := by kernel_rfl
def spec_MappingsText.T13 : Bool × List (List Nat × List Nat) := (true, [([], []), ([], []), ([1], [1]), ([], []), ([3], [3]), ([2, 4], [2, 4]), ([5], [5]), ([], []), ([7], [7]), ([], []), ([9], [9]), ([8, 10], [8, 10]), ([11, 6], [11]), ([6, 12], [6, 12]), ([], []), ([14], [14]), ([], []), ([16], [16]), ([15, 17], [15, 17]), ([18, 12], [18]), ([13, 19], [13, 19]), ([], []), ([21], [21]), ([], []), ([23], [23]), ([22, 24], [22, 24]), ([25, 19], [25]), ([20, 26], [20, 26]), ([0, 27], [0, 27]), ([28, 26, 0, 1, 2, 3, 4, 5, 6, 7, 8, 9, 10, 11, 12, 13, 14, 15, 16, 17, 18, 19, 20, 21, 22, 23, 24, 25, 26, 27, 28], [0, 28])])
def spec_MappingsText.B13 : List Nat := [0, 0, 2, 0, 8, 30, 62, 0, 128, 0, 512, 1920, 4094, 8190, 0, 16384, 0, 65536, 245760, 516094, 1048574, 0, 2097152, 0, 8388608, 31457280, 66052094, 134217726, 268435455, 536870911]
theorem spec_MappingsText.tab13 : rtab .any (opsOf Try.f7 13) = spec_MappingsText.T13 := by kernel_rfl
theorem spec_MappingsText.bits13 : waitsOk spec_MappingsText.T13.2 spec_MappingsText.B13 = true := by kernel_rfl
def spec_MappingsText.T17 : Bool × List (List Nat × List Nat) := (true, [([], []), ([0], [0]), ([], []), ([2], [2]), ([], []), ([4], [4]), ([], []), ([6], [6]), ([0, 1], []), ([8, 1, 0, 1], [1, 8]), ([0, 1, 2, 3, 8, 9], []), ([10, 3, 9, 0, 1, 2, 3, 8, 9], [3, 10]), ([0, 1, 2, 3, 4, 5, 8, 9, 10, 11], []), ([12, 5, 11, 0, 1, 2, 3, 4, 5, 8, 9, 10, 11], [5, 12]), ([0, 1, 2, 3, 4, 5, 6, 7, 8, 9, 10, 11, 12, 13], []), ([14, 7, 13, 0, 1, 2, 3, 4, 5, 6, 7, 8, 9, 10, 11, 12, 13], [7, 14])])
def spec_MappingsText.B17 : List Nat := [0, 1, 0, 4, 0, 16, 0, 64, 3, 259, 783, 1807, 3903, 7999, 16383, 32767]
theorem spec_MappingsText.tab17 : rtab .any (opsOf Try.f7 17) = spec_MappingsText.T17 := by kernel_rfl
theorem spec_MappingsText.bits17 : waitsOk spec_MappingsText.T17.2 spec_MappingsText.B17 = true := by kernel_rfl
set_option maxHeartbeats 8000000 in
set_option maxRecDepth 100000 in
theorem spec_MappingsText.calls (k : Nat) (A0 : Option Addr) (c0 : Nat) (l0 : List (S27)) (r : ByteArray) (w : World) (hr0 : Kd.C k27 w A0 l0.length l0) (hc0 : l0.length ≤ c0) (h : spec_MappingsText.f k l0 = some r) :
    Calls Try.prog 7 #[.slice A0 l0.length c0] w fun e w' => e = .returned (.string r) ∧ Below w.heap.size w w' := by
  have hu32 := Try.underlying32
  have hu27 := Try.underlying27
  have HR0 := Aside0.mk hr0
  have HC0 := Aside0.mk hc0
  clear hr0 hc0
  have HB := Aside0.mk (Below.refl w.heap.size w)
  have H : (spec_MappingsText.l0 k l0 (⟨#[]⟩ : ByteArray) (l0.length : Int) 0 0 0 0 0 0 0) = some r := h
  clear h
  have H' := Aside0.mk H
  clear H
  go_enter Try.func7, Try.ntmps7
  go_wp2_with (first | ((with_reducible refine gate_dst (N := 4) rfl ?_); refine box_event ?hg (N := 4) ?hd (cs := #[.int .i64 0, .int .i64 0, .int .i64 0, .int .i64 0, .int .i64 0, .int .i64 0]) (t := 32) ?hr ?_; (case hd => rfl); (case hg => rfl); (case hr => first | (go_simp; done) | (go_simp; rfl)); intro gb115 hg w2 hbox hb; have n0_ := Aside0.mk (below_step (by repeat (first | (with_reducible first | exact HB.out | apply below_alloc | apply pw_below_drewN | apply below_drew1) | exact HB.out)) hb); have n1_ := Aside0.mk (hbox); have n2_ := Aside0.mk ((by rw [hg]; exact (below_size (by repeat (first | (with_reducible first | exact HB.out | apply below_alloc | apply pw_below_drewN | apply below_drew1) | exact HB.out))) : w.heap.size ≤ gb115)); have n3_ := Aside0.mk ((by rw [hg]; exact (below_size (by repeat (first | (with_reducible first | exact HB.out | apply below_alloc | apply pw_below_drewN | apply below_drew1) | exact HB.out))) : w.heap.size ≤ gb115)); clear HB; have HB := n0_; have BK115 := n1_; have GW115 := n2_; have GE115 := n3_; clear n0_ n1_ n2_ n3_; clear hb hbox hg; have hcz3_0 : w2.cell? ⟨gb115, 0, none⟩ = some (.int .i64 0) := (blk_cell BK115.out 0).trans rfl; have hcz3_1 : w2.cell? ⟨gb115, 1, none⟩ = some (.int .i64 0) := (blk_cell BK115.out 1).trans rfl; have hcz3_2 : w2.cell? ⟨gb115, 2, none⟩ = some (.int .i64 0) := (blk_cell BK115.out 2).trans rfl; have hcz3_3 : w2.cell? ⟨gb115, 3, none⟩ = some (.int .i64 0) := (blk_cell BK115.out 3).trans rfl; have hcz3_4 : w2.cell? ⟨gb115, 4, none⟩ = some (.int .i64 0) := (blk_cell BK115.out 4).trans rfl; have hcz3_5 : w2.cell? ⟨gb115, 5, none⟩ = some (.int .i64 0) := (blk_cell BK115.out 5).trans rfl; have hfz3_0 := blk_frozen BK115.out 0; have hfz3_1 := blk_frozen BK115.out 1; have hfz3_2 := blk_frozen BK115.out 2; have hfz3_3 := blk_frozen BK115.out 3; have hfz3_4 := blk_frozen BK115.out 4; have hfz3_5 := blk_frozen BK115.out 5))
  go_loopg [3, 10] k (fun kq v3 v10 w' => ∃ (x3_1 : ByteArray) (x10_1 : Int) (x116000_1 : Int) (x116001_1 : Int) (x116002_1 : Int) (x116003_1 : Int) (x116004_1 : Int) (x116005_1 : Int), v3 = .string x3_1 ∧ v10 = .int .i64 x10_1 ∧ Aside0 (spec_MappingsText.l0 kq l0 x3_1 (l0.length : Int) x10_1 x116000_1 x116001_1 x116002_1 x116003_1 x116004_1 x116005_1 = some r) ∧ Aside0 (kq ≤ k) ∧ Aside0 (w'.heap[gb115]? = some (.cells #[.int .i64 x116000_1, .int .i64 x116001_1, .int .i64 x116002_1, .int .i64 x116003_1, .int .i64 x116004_1, .int .i64 x116005_1] 32 (0, 0))) ∧ Aside0 (Below w.heap.size w w'))
  case atStart => exact ⟨((⟨#[]⟩ : ByteArray)), (0), (0), (0), (0), (0), (0), (0), (by first | rfl | (simp; done) | (simp [*]; done)), (by first | rfl | (simp; done) | (simp [*]; done)), H', ⟨Nat.le_refl _⟩, ⟨by (with_reducible repeat (first | refine blk_drewN ?_ _ | refine blk_drew ?_ | refine blk_alloc ?_ _)); refine blk_put (cs := #[.int .i64 0, .int .i64 0, .int .i64 0, .int .i64 0, .int .i64 0, .int .i64 0]) ?_ 5 _ rfl; (with_reducible repeat (first | refine blk_drewN ?_ _ | refine blk_drew ?_ | refine blk_alloc ?_ _)); refine blk_put (cs := #[.int .i64 0, .int .i64 0, .int .i64 0, .int .i64 0, .int .i64 0, .int .i64 0]) ?_ 4 _ rfl; (with_reducible repeat (first | refine blk_drewN ?_ _ | refine blk_drew ?_ | refine blk_alloc ?_ _)); refine blk_put (cs := #[.int .i64 0, .int .i64 0, .int .i64 0, .int .i64 0, .int .i64 0, .int .i64 0]) ?_ 3 _ rfl; (with_reducible repeat (first | refine blk_drewN ?_ _ | refine blk_drew ?_ | refine blk_alloc ?_ _)); refine blk_put (cs := #[.int .i64 0, .int .i64 0, .int .i64 0, .int .i64 0, .int .i64 0, .int .i64 0]) ?_ 2 _ rfl; (with_reducible repeat (first | refine blk_drewN ?_ _ | refine blk_drew ?_ | refine blk_alloc ?_ _)); refine blk_put (cs := #[.int .i64 0, .int .i64 0, .int .i64 0, .int .i64 0, .int .i64 0, .int .i64 0]) ?_ 1 _ rfl; (with_reducible repeat (first | refine blk_drewN ?_ _ | refine blk_drew ?_ | refine blk_alloc ?_ _)); refine blk_put (cs := #[.int .i64 0, .int .i64 0, .int .i64 0, .int .i64 0, .int .i64 0, .int .i64 0]) ?_ 0 _ rfl; (with_reducible repeat (first | refine blk_drewN ?_ _ | refine blk_drew ?_ | refine blk_alloc ?_ _)); exact BK115.out⟩, ⟨by repeat (first | (with_reducible first | exact HB.out | apply below_alloc | apply pw_below_drewN | apply below_drew1 | refine below_set ?_ GE115.out) | exact HB.out)⟩⟩
  case round =>
    clear H'
    try clear p2
    try clear hcz3_0
    try clear hcz3_1
    try clear hcz3_2
    try clear hcz3_3
    try clear hcz3_4
    try clear hcz3_5
    try clear hfz3_0
    try clear hfz3_1
    try clear hfz3_2
    try clear hfz3_3
    try clear hfz3_4
    try clear hfz3_5
    obtain ⟨x3_1, x10_1, x116000_1, x116001_1, x116002_1, x116003_1, x116004_1, x116005_1, rfl, rfl, HA, HK1, BK115, HB⟩ := hrel
    cases gk with
    | zero => exact absurd HA.out (by simp [spec_MappingsText.l0])
    | succ k1 =>
      have H := HA.out
      clear HA
      simp only [spec_MappingsText.l0] at H
      by_cases c4 : x10_1 < (l0.length : Int)
      · rw [if_pos c4] at H
        have c4b0 : decide (x10_1 < (l0.length : Int)) = true := decide_eq_true c4
        clear c4
        by_cases c5 : 0 ≤ x10_1
        · rw [if_pos c5] at H
          have c5b0 : decide (0 ≤ x10_1) = true := decide_eq_true c5
          clear c5
          by_cases c6 : x10_1 < (l0.length : Int)
          · rw [if_pos c6] at H
            have c6b0 : decide (x10_1 < (l0.length : Int)) = true := decide_eq_true c6
            clear c6
            have H' := Aside0.mk H
            clear H
            have p116 : 0 ≤ (x10_1 : Int) := of_decide_eq_true (by first | (with_reducible assumption) | assumption)
            have q116 : x10_1 < (l0.length : Int) := of_decide_eq_true (by first | (with_reducible assumption) | assumption)
            obtain ⟨ad116, e116, hx116_0, hx116_1, hx116_2, hx116_3, hx116_4, hx116_5⟩ := at_T27 HR0.out x10_1 p116 q116
            cases e116
            replace hx116_0 := (HB.out.cell (World.block_lt_of_cell? w _ hx116_0)).trans hx116_0
            replace hx116_1 := (HB.out.cell (World.block_lt_of_cell? w _ hx116_1)).trans hx116_1
            replace hx116_2 := (HB.out.cell (World.block_lt_of_cell? w _ hx116_2)).trans hx116_2
            replace hx116_3 := (HB.out.cell (World.block_lt_of_cell? w _ hx116_3)).trans hx116_3
            replace hx116_4 := (HB.out.cell (World.block_lt_of_cell? w _ hx116_4)).trans hx116_4
            replace hx116_5 := (HB.out.cell (World.block_lt_of_cell? w _ hx116_5)).trans hx116_5
            replace p116 := eq_true p116
            replace q116 := eq_true q116
            go_wp2_with (first | ((with_reducible refine gate_dst (N := 6) rfl ?_); refine box_event ?hg (N := 6) ?hd (cs := #[.int .i64 0, .int .i64 0, .int .i64 0, .int .i64 0, .int .i64 0, .int .i64 0]) (t := 27) ?hr ?_; (case hd => rfl); (case hg => rfl); (case hr => first | (go_simp; done) | (go_simp; rfl)); intro gb117 hg w7 hbox hb; have n0_ := Aside0.mk (blk_below (g := gb115) (o := .cells #[.int .i64 x116000_1, .int .i64 x116001_1, .int .i64 x116002_1, .int .i64 x116003_1, .int .i64 x116004_1, .int .i64 x116005_1] 32 (0, 0)) (by (with_reducible repeat (first | refine blk_drewN ?_ _ | refine blk_drew ?_ | refine blk_alloc ?_ _)); exact BK115.out) hb); have n1_ := Aside0.mk (below_step (by repeat (first | (with_reducible first | exact HB.out | apply below_alloc | apply pw_below_drewN | apply below_drew1 | refine below_set ?_ GE115.out) | exact HB.out)) hb); have n2_ := Aside0.mk (hbox); have n3_ := Aside0.mk ((by rw [hg]; exact (below_size (by repeat (first | (with_reducible first | exact HB.out | apply below_alloc | apply pw_below_drewN | apply below_drew1 | refine below_set ?_ GE115.out) | exact HB.out))) : w.heap.size ≤ gb117)); have n4_ := Aside0.mk ((by rw [hg]; exact (below_size (by repeat (first | (with_reducible first | exact HB.out | apply below_alloc | apply pw_below_drewN | apply below_drew1 | refine below_set ?_ GE115.out) | exact HB.out))) : w.heap.size ≤ gb117)); have n5_ := Aside0.mk ((by rw [hg]; exact Nat.ne_of_lt (blk_lt (g := gb115) (o := .cells #[.int .i64 x116000_1, .int .i64 x116001_1, .int .i64 x116002_1, .int .i64 x116003_1, .int .i64 x116004_1, .int .i64 x116005_1] 32 (0, 0)) (by (with_reducible repeat (first | refine blk_drewN ?_ _ | refine blk_drew ?_ | refine blk_alloc ?_ _)); exact BK115.out)) : gb115 ≠ gb117)); have n6_ := Aside0.mk ((by rw [hg]; exact Nat.ne_of_gt (blk_lt (g := gb115) (o := .cells #[.int .i64 x116000_1, .int .i64 x116001_1, .int .i64 x116002_1, .int .i64 x116003_1, .int .i64 x116004_1, .int .i64 x116005_1] 32 (0, 0)) (by (with_reducible repeat (first | refine blk_drewN ?_ _ | refine blk_drew ?_ | refine blk_alloc ?_ _)); exact BK115.out)) : gb117 ≠ gb115)); clear BK115; clear HB; have BK115 := n0_; have HB := n1_; have BK117 := n2_; have GW117 := n3_; have GE117 := n4_; have NB115_117 := n5_; have NB117_115 := n6_; clear n0_ n1_ n2_ n3_ n4_ n5_ n6_; clear hb hbox hg; have hnb8 := NB117_115.out; have hnc8 := NB115_117.out; have hcz9_0 : w7.cell? ⟨gb117, 0, none⟩ = some (.int .i64 0) := (blk_cell BK117.out 0).trans rfl; have hcz9_1 : w7.cell? ⟨gb117, 1, none⟩ = some (.int .i64 0) := (blk_cell BK117.out 1).trans rfl; have hcz9_2 : w7.cell? ⟨gb117, 2, none⟩ = some (.int .i64 0) := (blk_cell BK117.out 2).trans rfl; have hcz9_3 : w7.cell? ⟨gb117, 3, none⟩ = some (.int .i64 0) := (blk_cell BK117.out 3).trans rfl; have hcz9_4 : w7.cell? ⟨gb117, 4, none⟩ = some (.int .i64 0) := (blk_cell BK117.out 4).trans rfl; have hcz9_5 : w7.cell? ⟨gb117, 5, none⟩ = some (.int .i64 0) := (blk_cell BK117.out 5).trans rfl; have hfz9_0 := blk_frozen BK117.out 0; have hfz9_1 := blk_frozen BK117.out 1; have hfz9_2 := blk_frozen BK117.out 2; have hfz9_3 := blk_frozen BK117.out 3; have hfz9_4 := blk_frozen BK117.out 4; have hfz9_5 := blk_frozen BK117.out 5))
            go_loopg [3] k1 (fun kq v3 w' => ∃ (x3_2 : ByteArray) (x116000_2 : Int) (x116001_2 : Int), v3 = .string x3_2 ∧ Aside0 (spec_MappingsText.l1 kq l0 x3_2 x10_1 (l0.length : Int) x10_1 x116000_2 x116001_2 x116002_1 x116003_1 x116004_1 x116005_1 ((rd_T27 l0 x10_1).f0) ((rd_T27 l0 x10_1).f1) ((rd_T27 l0 x10_1).f2) ((rd_T27 l0 x10_1).f3) ((rd_T27 l0 x10_1).f4) ((rd_T27 l0 x10_1).f5) = some r) ∧ Aside0 (kq ≤ k1) ∧ Aside0 (w'.heap[gb115]? = some (.cells #[.int .i64 x116000_2, .int .i64 x116001_2, .int .i64 x116002_1, .int .i64 x116003_1, .int .i64 x116004_1, .int .i64 x116005_1] 32 (0, 0))) ∧ Aside0 (w'.heap[gb117]? = some (.cells #[.int .i64 ((rd_T27 l0 x10_1).f0), .int .i64 ((rd_T27 l0 x10_1).f1), .int .i64 ((rd_T27 l0 x10_1).f2), .int .i64 ((rd_T27 l0 x10_1).f3), .int .i64 ((rd_T27 l0 x10_1).f4), .int .i64 ((rd_T27 l0 x10_1).f5)] 27 (0, 0))) ∧ Aside0 (Below w.heap.size w w'))
            case atStart => exact ⟨(x3_1), (x116000_1), (x116001_1), (by first | rfl | (simp; done) | (simp [*]; done)), H', ⟨Nat.le_refl _⟩, ⟨by (with_reducible repeat (first | refine blk_drewN ?_ _ | refine blk_drew ?_ | refine blk_alloc ?_ _)); refine blk_far ?_ NB115_117.out _; (with_reducible repeat (first | refine blk_drewN ?_ _ | refine blk_drew ?_ | refine blk_alloc ?_ _)); refine blk_far ?_ NB115_117.out _; (with_reducible repeat (first | refine blk_drewN ?_ _ | refine blk_drew ?_ | refine blk_alloc ?_ _)); refine blk_far ?_ NB115_117.out _; (with_reducible repeat (first | refine blk_drewN ?_ _ | refine blk_drew ?_ | refine blk_alloc ?_ _)); refine blk_far ?_ NB115_117.out _; (with_reducible repeat (first | refine blk_drewN ?_ _ | refine blk_drew ?_ | refine blk_alloc ?_ _)); refine blk_far ?_ NB115_117.out _; (with_reducible repeat (first | refine blk_drewN ?_ _ | refine blk_drew ?_ | refine blk_alloc ?_ _)); refine blk_far ?_ NB115_117.out _; (with_reducible repeat (first | refine blk_drewN ?_ _ | refine blk_drew ?_ | refine blk_alloc ?_ _)); exact BK115.out⟩, ⟨by (with_reducible repeat (first | refine blk_drewN ?_ _ | refine blk_drew ?_ | refine blk_alloc ?_ _)); refine blk_put (cs := #[.int .i64 ((rd_T27 l0 x10_1).f0), .int .i64 ((rd_T27 l0 x10_1).f1), .int .i64 ((rd_T27 l0 x10_1).f2), .int .i64 ((rd_T27 l0 x10_1).f3), .int .i64 ((rd_T27 l0 x10_1).f4), .int .i64 0]) ?_ 5 _ rfl; (with_reducible repeat (first | refine blk_drewN ?_ _ | refine blk_drew ?_ | refine blk_alloc ?_ _)); refine blk_put (cs := #[.int .i64 ((rd_T27 l0 x10_1).f0), .int .i64 ((rd_T27 l0 x10_1).f1), .int .i64 ((rd_T27 l0 x10_1).f2), .int .i64 ((rd_T27 l0 x10_1).f3), .int .i64 0, .int .i64 0]) ?_ 4 _ rfl; (with_reducible repeat (first | refine blk_drewN ?_ _ | refine blk_drew ?_ | refine blk_alloc ?_ _)); refine blk_put (cs := #[.int .i64 ((rd_T27 l0 x10_1).f0), .int .i64 ((rd_T27 l0 x10_1).f1), .int .i64 ((rd_T27 l0 x10_1).f2), .int .i64 0, .int .i64 0, .int .i64 0]) ?_ 3 _ rfl; (with_reducible repeat (first | refine blk_drewN ?_ _ | refine blk_drew ?_ | refine blk_alloc ?_ _)); refine blk_put (cs := #[.int .i64 ((rd_T27 l0 x10_1).f0), .int .i64 ((rd_T27 l0 x10_1).f1), .int .i64 0, .int .i64 0, .int .i64 0, .int .i64 0]) ?_ 2 _ rfl; (with_reducible repeat (first | refine blk_drewN ?_ _ | refine blk_drew ?_ | refine blk_alloc ?_ _)); refine blk_put (cs := #[.int .i64 ((rd_T27 l0 x10_1).f0), .int .i64 0, .int .i64 0, .int .i64 0, .int .i64 0, .int .i64 0]) ?_ 1 _ rfl; (with_reducible repeat (first | refine blk_drewN ?_ _ | refine blk_drew ?_ | refine blk_alloc ?_ _)); refine blk_put (cs := #[.int .i64 0, .int .i64 0, .int .i64 0, .int .i64 0, .int .i64 0, .int .i64 0]) ?_ 0 _ rfl; (with_reducible repeat (first | refine blk_drewN ?_ _ | refine blk_drew ?_ | refine blk_alloc ?_ _)); exact BK117.out⟩, ⟨by repeat (first | (with_reducible first | exact HB.out | apply below_alloc | apply pw_below_drewN | apply below_drew1 | refine below_set ?_ GE115.out | refine below_set ?_ GE117.out) | exact HB.out)⟩⟩
            case round =>
              clear H'
              try clear p1
              try clear q1
              try clear hx1
              try clear p2
              try clear c4
              try clear c4b0
              try clear c5
              try clear c5b0
              try clear c6
              try clear c6b0
              try clear c7
              try clear c8
              try clear hcz3_0
              try clear hcz3_1
              try clear hcz3_2
              try clear hcz3_3
              try clear hcz3_4
              try clear hcz3_5
              try clear hcz9_0
              try clear hcz9_1
              try clear hcz9_2
              try clear hcz9_3
              try clear hcz9_4
              try clear hcz9_5
              try clear hfz3_0
              try clear hfz3_1
              try clear hfz3_2
              try clear hfz3_3
              try clear hfz3_4
              try clear hfz3_5
              try clear hfz9_0
              try clear hfz9_1
              try clear hfz9_2
              try clear hfz9_3
              try clear hfz9_4
              try clear hfz9_5
              try clear hx116_0
              try clear hx116_1
              try clear hx116_2
              try clear hx116_3
              try clear hx116_4
              try clear hx116_5
              try clear p116
              try clear p2
              try clear q116
              obtain ⟨x3_2, x116000_2, x116001_2, rfl, HA, HK2, BK115, BK117, HB⟩ := hrel
              cases gk with
              | zero => exact absurd HA.out (by simp [spec_MappingsText.l1])
              | succ k2 =>
                have H := HA.out
                clear HA
                simp only [spec_MappingsText.l1] at H
                by_cases c10 : x116000_2 < ((rd_T27 l0 x10_1).f0)
                · rw [if_pos c10] at H
                  have c10b0 : decide (x116000_2 < ((rd_T27 l0 x10_1).f0)) = true := decide_eq_true c10
                  clear c10
                  by_cases c11 : x3_2.size + 1 ≤ 9223372036854775807
                  · rw [if_pos c11] at H
                    have c11b0 := eq_true c11
                    have c11b1 : decide (x3_2.size + 1 ≤ 9223372036854775807) = true := decide_eq_true c11
                    try have c11b2 : (9223372036854775807 < x3_2.size + 1) = False := eq_false (Nat.not_lt.2 c11)
                    have H' := Aside0.mk H
                    clear H
                    have hnb12 := NB115_117.out
                    have hnc12 := NB117_115.out
                    have hcz13_0 : wr.cell? ⟨gb115, 0, none⟩ = some (.int .i64 x116000_2) := (blk_cell BK115.out 0).trans rfl
                    have hcz13_1 : wr.cell? ⟨gb115, 1, none⟩ = some (.int .i64 x116001_2) := (blk_cell BK115.out 1).trans rfl
                    have hcz13_2 : wr.cell? ⟨gb115, 2, none⟩ = some (.int .i64 x116002_1) := (blk_cell BK115.out 2).trans rfl
                    have hcz13_3 : wr.cell? ⟨gb115, 3, none⟩ = some (.int .i64 x116003_1) := (blk_cell BK115.out 3).trans rfl
                    have hcz13_4 : wr.cell? ⟨gb115, 4, none⟩ = some (.int .i64 x116004_1) := (blk_cell BK115.out 4).trans rfl
                    have hcz13_5 : wr.cell? ⟨gb115, 5, none⟩ = some (.int .i64 x116005_1) := (blk_cell BK115.out 5).trans rfl
                    have hfz13_0 := blk_frozen BK115.out 0
                    have hfz13_1 := blk_frozen BK115.out 1
                    have hfz13_2 := blk_frozen BK115.out 2
                    have hfz13_3 := blk_frozen BK115.out 3
                    have hfz13_4 := blk_frozen BK115.out 4
                    have hfz13_5 := blk_frozen BK115.out 5
                    have hcz14_0 : wr.cell? ⟨gb117, 0, none⟩ = some (.int .i64 ((rd_T27 l0 x10_1).f0)) := (blk_cell BK117.out 0).trans rfl
                    have hcz14_1 : wr.cell? ⟨gb117, 1, none⟩ = some (.int .i64 ((rd_T27 l0 x10_1).f1)) := (blk_cell BK117.out 1).trans rfl
                    have hcz14_2 : wr.cell? ⟨gb117, 2, none⟩ = some (.int .i64 ((rd_T27 l0 x10_1).f2)) := (blk_cell BK117.out 2).trans rfl
                    have hcz14_3 : wr.cell? ⟨gb117, 3, none⟩ = some (.int .i64 ((rd_T27 l0 x10_1).f3)) := (blk_cell BK117.out 3).trans rfl
                    have hcz14_4 : wr.cell? ⟨gb117, 4, none⟩ = some (.int .i64 ((rd_T27 l0 x10_1).f4)) := (blk_cell BK117.out 4).trans rfl
                    have hcz14_5 : wr.cell? ⟨gb117, 5, none⟩ = some (.int .i64 ((rd_T27 l0 x10_1).f5)) := (blk_cell BK117.out 5).trans rfl
                    have hfz14_0 := blk_frozen BK117.out 0
                    have hfz14_1 := blk_frozen BK117.out 1
                    have hfz14_2 := blk_frozen BK117.out 2
                    have hfz14_3 := blk_frozen BK117.out 3
                    have hfz14_4 := blk_frozen BK117.out 4
                    have hfz14_5 := blk_frozen BK117.out 5
                    go_wp2
                    go_roundg k2
                    case measure => have := HK1.out; have := HK2.out; omega
                    case rel => exact ⟨(x3_2 ++ (⟨#[59]⟩ : ByteArray)), (wrap64 (x116000_2 + 1)), (0), (by first | rfl | (simp; done) | (simp [*]; done)), H', ⟨by have := HK1.out; have := HK2.out; omega⟩, ⟨by (with_reducible repeat (first | refine blk_drewN ?_ _ | refine blk_drew ?_ | refine blk_alloc ?_ _)); refine blk_put (cs := #[.int .i64 (wrap64 (x116000_2 + 1)), .int .i64 x116001_2, .int .i64 x116002_1, .int .i64 x116003_1, .int .i64 x116004_1, .int .i64 x116005_1]) ?_ 1 _ rfl; (with_reducible repeat (first | refine blk_drewN ?_ _ | refine blk_drew ?_ | refine blk_alloc ?_ _)); refine blk_put (cs := #[.int .i64 x116000_2, .int .i64 x116001_2, .int .i64 x116002_1, .int .i64 x116003_1, .int .i64 x116004_1, .int .i64 x116005_1]) ?_ 0 _ rfl; (with_reducible repeat (first | refine blk_drewN ?_ _ | refine blk_drew ?_ | refine blk_alloc ?_ _)); exact BK115.out⟩, ⟨by (with_reducible repeat (first | refine blk_drewN ?_ _ | refine blk_drew ?_ | refine blk_alloc ?_ _)); refine blk_far ?_ NB117_115.out _; (with_reducible repeat (first | refine blk_drewN ?_ _ | refine blk_drew ?_ | refine blk_alloc ?_ _)); refine blk_far ?_ NB117_115.out _; (with_reducible repeat (first | refine blk_drewN ?_ _ | refine blk_drew ?_ | refine blk_alloc ?_ _)); exact BK117.out⟩, ⟨by repeat (first | (with_reducible first | exact HB.out | apply below_alloc | apply pw_below_drewN | apply below_drew1 | refine below_set ?_ GE115.out | refine below_set ?_ GE117.out) | exact HB.out)⟩⟩
                  · rw [if_neg c11] at H
                    exact absurd H (by simp)
                · rw [if_neg c10] at H
                  have c10b0 : decide (x116000_2 < ((rd_T27 l0 x10_1).f0)) = false := decide_eq_false c10
                  clear c10
                  have HC15 := Aside0.mk H
                  clear H
                  have hnb16 := NB115_117.out
                  have hnc16 := NB117_115.out
                  have hcz17_0 : wr.cell? ⟨gb115, 0, none⟩ = some (.int .i64 x116000_2) := (blk_cell BK115.out 0).trans rfl
                  have hcz17_1 : wr.cell? ⟨gb115, 1, none⟩ = some (.int .i64 x116001_2) := (blk_cell BK115.out 1).trans rfl
                  have hcz17_2 : wr.cell? ⟨gb115, 2, none⟩ = some (.int .i64 x116002_1) := (blk_cell BK115.out 2).trans rfl
                  have hcz17_3 : wr.cell? ⟨gb115, 3, none⟩ = some (.int .i64 x116003_1) := (blk_cell BK115.out 3).trans rfl
                  have hcz17_4 : wr.cell? ⟨gb115, 4, none⟩ = some (.int .i64 x116004_1) := (blk_cell BK115.out 4).trans rfl
                  have hcz17_5 : wr.cell? ⟨gb115, 5, none⟩ = some (.int .i64 x116005_1) := (blk_cell BK115.out 5).trans rfl
                  have hfz17_0 := blk_frozen BK115.out 0
                  have hfz17_1 := blk_frozen BK115.out 1
                  have hfz17_2 := blk_frozen BK115.out 2
                  have hfz17_3 := blk_frozen BK115.out 3
                  have hfz17_4 := blk_frozen BK115.out 4
                  have hfz17_5 := blk_frozen BK115.out 5
                  have hcz18_0 : wr.cell? ⟨gb117, 0, none⟩ = some (.int .i64 ((rd_T27 l0 x10_1).f0)) := (blk_cell BK117.out 0).trans rfl
                  have hcz18_1 : wr.cell? ⟨gb117, 1, none⟩ = some (.int .i64 ((rd_T27 l0 x10_1).f1)) := (blk_cell BK117.out 1).trans rfl
                  have hcz18_2 : wr.cell? ⟨gb117, 2, none⟩ = some (.int .i64 ((rd_T27 l0 x10_1).f2)) := (blk_cell BK117.out 2).trans rfl
                  have hcz18_3 : wr.cell? ⟨gb117, 3, none⟩ = some (.int .i64 ((rd_T27 l0 x10_1).f3)) := (blk_cell BK117.out 3).trans rfl
                  have hcz18_4 : wr.cell? ⟨gb117, 4, none⟩ = some (.int .i64 ((rd_T27 l0 x10_1).f4)) := (blk_cell BK117.out 4).trans rfl
                  have hcz18_5 : wr.cell? ⟨gb117, 5, none⟩ = some (.int .i64 ((rd_T27 l0 x10_1).f5)) := (blk_cell BK117.out 5).trans rfl
                  have hfz18_0 := blk_frozen BK117.out 0
                  have hfz18_1 := blk_frozen BK117.out 1
                  have hfz18_2 := blk_frozen BK117.out 2
                  have hfz18_3 := blk_frozen BK117.out 3
                  have hfz18_4 := blk_frozen BK117.out 4
                  have hfz18_5 := blk_frozen BK117.out 5
                  go_upto_region 11 with (fail)
                  go_cut [41] (fun v41 wc => ∃ (kq : Nat) (x41_14 : Bool), v41 = .bool x41_14 ∧ Aside0 (spec_MappingsText.j2 kq l0 x3_2 (l0.length : Int) x10_1 x41_14 x116000_2 x116001_2 x116002_1 x116003_1 x116004_1 x116005_1 ((rd_T27 l0 x10_1).f0) ((rd_T27 l0 x10_1).f1) ((rd_T27 l0 x10_1).f2) ((rd_T27 l0 x10_1).f3) ((rd_T27 l0 x10_1).f4) ((rd_T27 l0 x10_1).f5) = some r) ∧ Aside0 (kq ≤ k2) ∧ Aside0 (wc.heap[gb115]? = some (.cells #[.int .i64 x116000_2, .int .i64 x116001_2, .int .i64 x116002_1, .int .i64 x116003_1, .int .i64 x116004_1, .int .i64 x116005_1] 32 (0, 0))) ∧ Aside0 (wc.heap[gb117]? = some (.cells #[.int .i64 ((rd_T27 l0 x10_1).f0), .int .i64 ((rd_T27 l0 x10_1).f1), .int .i64 ((rd_T27 l0 x10_1).f2), .int .i64 ((rd_T27 l0 x10_1).f3), .int .i64 ((rd_T27 l0 x10_1).f4), .int .i64 ((rd_T27 l0 x10_1).f5)] 27 (0, 0))) ∧ Aside0 (Below w.heap.size w wc))
                  case first =>
                    have H := HC15.out
                    clear HC15
                    by_cases c19 : x10_1 > 0
                    · rw [if_pos c19] at H
                      have c19b0 : decide (0 < x10_1) = true := decide_eq_true c19
                      clear c19
                      (first | rw [c19b0] | (simp only [i64_w, i32_w]; rw [c19b0]) | skip)
                      obtain ⟨ji20, hji20⟩ : ∃ j_ : Int, (wrap64 (x10_1 - 1)) = j_ := ⟨_, rfl⟩
                      replace H : (if 0 ≤ (ji20) then (if (ji20) < (l0.length : Int) then (spec_MappingsText.j2 k2 l0 x3_2 (l0.length : Int) x10_1 (((rd_T27 l0 (ji20)).f0) == ((rd_T27 l0 x10_1).f0)) x116000_2 x116001_2 x116002_1 x116003_1 x116004_1 x116005_1 ((rd_T27 l0 x10_1).f0) ((rd_T27 l0 x10_1).f1) ((rd_T27 l0 x10_1).f2) ((rd_T27 l0 x10_1).f3) ((rd_T27 l0 x10_1).f4) ((rd_T27 l0 x10_1).f5)) else (none)) else (none)) = some r := by first | (rw [hji20] at H; exact H) | (simp only [hji20] at H ⊢; exact H)
                      have hji20w : (IntKind.i64.wrap (x10_1 - 1)) = ji20 := (i64_w _).trans hji20
                      by_cases c21 : 0 ≤ (ji20)
                      · rw [if_pos c21] at H
                        have c21b0 : decide (0 ≤ (ji20)) = true := decide_eq_true c21
                        clear c21
                        by_cases c22 : (ji20) < (l0.length : Int)
                        · rw [if_pos c22] at H
                          have c22b0 : decide ((ji20) < (l0.length : Int)) = true := decide_eq_true c22
                          clear c22
                          have H' := Aside0.mk H
                          clear H
                          try go_wp2
                          have n0_ := Aside0.mk (blk_drew BK115.out)
                          have n1_ := Aside0.mk (blk_drew BK117.out)
                          have n2_ := Aside0.mk (below_drew1 HB.out)
                          clear BK115
                          clear BK117
                          clear HB
                          have BK115 := n0_
                          have BK117 := n1_
                          have HB := n2_
                          clear n0_ n1_ n2_
                          have p118 : 0 ≤ ((ji20) : Int) := of_decide_eq_true (by first | (with_reducible assumption) | assumption)
                          have q118 : (ji20) < (l0.length : Int) := of_decide_eq_true (by first | (with_reducible assumption) | assumption)
                          obtain ⟨ad118, e118, hx118_0, hx118_1, hx118_2, hx118_3, hx118_4, hx118_5⟩ := at_T27 HR0.out (ji20) p118 q118
                          have hw118_5 := hx118_5
                          have hw118_4 := hx118_4
                          have hw118_3 := hx118_3
                          have hw118_2 := hx118_2
                          have hw118_1 := hx118_1
                          have hw118_0 := hx118_0
                          obtain rfl : ad116 = ad118 := (by injection e118)
                          replace hx118_0 := (HB.out.cell (World.block_lt_of_cell? w _ hx118_0)).trans hx118_0
                          replace hx118_1 := (HB.out.cell (World.block_lt_of_cell? w _ hx118_1)).trans hx118_1
                          replace hx118_2 := (HB.out.cell (World.block_lt_of_cell? w _ hx118_2)).trans hx118_2
                          replace hx118_3 := (HB.out.cell (World.block_lt_of_cell? w _ hx118_3)).trans hx118_3
                          replace hx118_4 := (HB.out.cell (World.block_lt_of_cell? w _ hx118_4)).trans hx118_4
                          replace hx118_5 := (HB.out.cell (World.block_lt_of_cell? w _ hx118_5)).trans hx118_5
                          replace p118 := eq_true p118
                          replace q118 := eq_true q118
                          refine start_ (n := 13) (S := fun w' => w'.cell? ⟨gb117, 0, none⟩ = some (.int .i64 ((rd_T27 l0 x10_1).f0)) ∧ w'.cell? ⟨gb117, 1, none⟩ = some (.int .i64 ((rd_T27 l0 x10_1).f1)) ∧ w'.cell? ⟨gb117, 2, none⟩ = some (.int .i64 ((rd_T27 l0 x10_1).f2)) ∧ w'.cell? ⟨gb117, 3, none⟩ = some (.int .i64 ((rd_T27 l0 x10_1).f3)) ∧ w'.cell? ⟨gb117, 4, none⟩ = some (.int .i64 ((rd_T27 l0 x10_1).f4)) ∧ w'.cell? ⟨gb117, 5, none⟩ = some (.int .i64 ((rd_T27 l0 x10_1).f5)) ∧ w'.cell? (ad116.add (((ji20)).toNat * 6)) = some (.int .i64 ((rd_T27 l0 (ji20)).f0)) ∧ w'.cell? ⟨(ad116.add (((ji20)).toNat * 6)).block, (ad116.add (((ji20)).toNat * 6)).off + 1, none⟩ = some (.int .i64 ((rd_T27 l0 (ji20)).f1)) ∧ w'.cell? ⟨(ad116.add (((ji20)).toNat * 6)).block, (ad116.add (((ji20)).toNat * 6)).off + 2, none⟩ = some (.int .i64 ((rd_T27 l0 (ji20)).f2)) ∧ w'.cell? ⟨(ad116.add (((ji20)).toNat * 6)).block, (ad116.add (((ji20)).toNat * 6)).off + 3, none⟩ = some (.int .i64 ((rd_T27 l0 (ji20)).f3)) ∧ w'.cell? ⟨(ad116.add (((ji20)).toNat * 6)).block, (ad116.add (((ji20)).toNat * 6)).off + 4, none⟩ = some (.int .i64 ((rd_T27 l0 (ji20)).f4)) ∧ w'.cell? ⟨(ad116.add (((ji20)).toNat * 6)).block, (ad116.add (((ji20)).toNat * 6)).off + 5, none⟩ = some (.int .i64 ((rd_T27 l0 (ji20)).f5))) (ds := []) #[false, false, false, false, false, false, false, false, false, false, false, false, false] (by kernel_rfl) rfl rfl ⟨(blk_cell BK117.out 0).trans rfl, (blk_cell BK117.out 1).trans rfl, (blk_cell BK117.out 2).trans rfl, (blk_cell BK117.out 3).trans rfl, (blk_cell BK117.out 4).trans rfl, (blk_cell BK117.out 5).trans rfl, ((HB.out.cell (World.block_lt_of_cell? w _ hw118_0)).trans hw118_0), ((HB.out.cell (World.block_lt_of_cell? w _ hw118_1)).trans hw118_1), ((HB.out.cell (World.block_lt_of_cell? w _ hw118_2)).trans hw118_2), ((HB.out.cell (World.block_lt_of_cell? w _ hw118_3)).trans hw118_3), ((HB.out.cell (World.block_lt_of_cell? w _ hw118_4)).trans hw118_4), ((HB.out.cell (World.block_lt_of_cell? w _ hw118_5)).trans hw118_5)⟩ (fun hHeld => ?_); refine with_tabW spec_MappingsText.tab11 spec_MappingsText.bits11 (fun HT_ HW_ => ?_)
                          generalize wr.drew = w23 at BK115 BK117 HB hx118_0 hx118_1 hx118_2 hx118_3 hx118_4 hx118_5 hHeld ⊢
                          refine pure_ (i := 0) (N := some 29) (v := ?_) (a' := ?_) #[true, false, false, false, false, false, false, false, false, false, false, false, false] rfl rfl (any_of HT_.out (by kernel_rfl)) (fun _ _ _ h => h) (Or.inl ⟨by rfl, ?_⟩) ?_ ?_
                          rotate_left
                          · intro w'
                            go_simp
                            with_reducible rfl
                          rotate_left
                          · simp only [Act.put, List.setIfInBounds_toArray, List.set_cons_zero, List.set_cons_succ, i64_w, i32_w]
                            rfl
                          refine pure_ (i := 1) (N := some 30) (v := ?_) (a' := ?_) #[true, true, false, false, false, false, false, false, false, false, false, false, false] rfl rfl (any_of HT_.out (by kernel_rfl)) (fun _ _ _ h => h) (Or.inl ⟨by rfl, ?_⟩) ?_ ?_
                          rotate_left
                          · intro w'
                            go_simp
                            with_reducible rfl
                          rotate_left
                          · simp only [Act.put, List.setIfInBounds_toArray, List.set_cons_zero, List.set_cons_succ, i64_w, i32_w]
                            rfl
                          refine pure_ (i := 2) (N := some 31) (v := ?_) (a' := ?_) #[true, true, true, false, false, false, false, false, false, false, false, false, false] rfl rfl (any_of HT_.out (by kernel_rfl)) (fun _ _ _ h => h) (Or.inl ⟨by rfl, ?_⟩) ?_ ?_
                          rotate_left
                          · intro w'
                            go_simp
                            with_reducible rfl
                          rotate_left
                          · simp only [Act.put, List.setIfInBounds_toArray, List.set_cons_zero, List.set_cons_succ, i64_w, i32_w]
                            rfl
                          refine pure_ (i := 3) (N := some 32) (v := ?_) (a' := ?_) #[true, true, true, true, false, false, false, false, false, false, false, false, false] rfl rfl (any_of HT_.out (by kernel_rfl)) (fun _ _ _ h => h) (Or.inl ⟨by rfl, ?_⟩) ?_ ?_
                          rotate_left
                          · intro w'
                            go_simp
                            with_reducible rfl
                          rotate_left
                          · simp only [Act.put, List.setIfInBounds_toArray, List.set_cons_zero, List.set_cons_succ, i64_w, i32_w]
                            rfl
                          refine pure_ (i := 4) (N := some 33) (v := ?_) (a' := ?_) #[true, true, true, true, true, false, false, false, false, false, false, false, false] rfl rfl (any_of HT_.out (by kernel_rfl)) (fun _ _ _ h => h) (Or.inl ⟨by rfl, ?_⟩) ?_ ?_
                          rotate_left
                          · intro w'
                            go_simp
                            with_reducible rfl
                          rotate_left
                          · simp only [Act.put, List.setIfInBounds_toArray, List.set_cons_zero, List.set_cons_succ, i64_w, i32_w]
                            rfl
                          refine pure_ (i := 5) (N := some 34) (v := ?_) (a' := ?_) #[true, true, true, true, true, true, false, false, false, false, false, false, false] rfl rfl (any_of HT_.out (by kernel_rfl)) (fun _ _ _ h => h) (Or.inl ⟨by rfl, ?_⟩) ?_ ?_
                          rotate_left
                          · intro w'
                            go_simp
                            with_reducible rfl
                          rotate_left
                          · simp only [Act.put, List.setIfInBounds_toArray, List.set_cons_zero, List.set_cons_succ, i64_w, i32_w]
                            rfl
                          refine pure_ (i := 6) (N := some 35) (v := ?_) (a' := ?_) #[true, true, true, true, true, true, true, false, false, false, false, false, false] rfl rfl (any_of HT_.out (by kernel_rfl)) (fun _ _ _ h => h) (Or.inl ⟨by rfl, ?_⟩) ?_ ?_
                          rotate_left
                          · intro w'
                            go_simp
                            with_reducible rfl
                          rotate_left
                          · simp only [Act.put, List.setIfInBounds_toArray, List.set_cons_zero, List.set_cons_succ, i64_w, i32_w]
                            rfl
                          refine pure_ (i := 7) (N := some 36) (v := ?_) (a' := ?_) #[true, true, true, true, true, true, true, true, false, false, false, false, false] rfl rfl (any_of HT_.out (by kernel_rfl)) (fun _ _ _ h => h) (Or.inl ⟨by rfl, ?_⟩) ?_ ?_
                          rotate_left
                          · intro w'
                            go_simp
                            with_reducible rfl
                          rotate_left
                          · simp only [Act.put, List.setIfInBounds_toArray, List.set_cons_zero, List.set_cons_succ, i64_w, i32_w]
                            rfl
                          refine pure_ (i := 9) (N := some 38) (v := ?_) (a' := ?_) #[true, true, true, true, true, true, true, true, false, true, false, false, false] rfl rfl (any_of HT_.out (by kernel_rfl)) (fun _ _ _ h => h) (Or.inl ⟨by rfl, ?_⟩) ?_ ?_
                          rotate_left
                          · intro w'
                            go_simp
                            with_reducible rfl
                          rotate_left
                          · simp only [Act.put, List.setIfInBounds_toArray, List.set_cons_zero, List.set_cons_succ, i64_w, i32_w]
                            rfl
                          refine take_ (i := 8) (N := some 37) (v := ?_) (a' := ?_) #[true, true, true, true, true, true, true, true, true, true, false, false, false] rfl rfl (take_ofW HT_.out HW_.out (by kernel_rfl)) (fun _ _ _ h => h) (Or.inl ⟨by rfl, ?_⟩) hHeld ?_ ?_
                          rotate_left
                          · rintro w' ⟨s0, s1, s2, s3, s4, s5, s6, s7, s8, s9, s10, s11⟩
                            go_simp
                            with_reducible rfl
                          rotate_left
                          · simp only [Act.put, List.setIfInBounds_toArray, List.set_cons_zero, List.set_cons_succ, i64_w, i32_w]
                            rfl
                          refine take_ (i := 10) (N := some 39) (v := ?_) (a' := ?_) #[true, true, true, true, true, true, true, true, true, true, true, false, false] rfl rfl (take_ofW HT_.out HW_.out (by kernel_rfl)) (fun _ _ _ h => h) (Or.inl ⟨by rfl, ?_⟩) hHeld ?_ ?_
                          rotate_left
                          · rintro w' ⟨s0, s1, s2, s3, s4, s5, s6, s7, s8, s9, s10, s11⟩
                            go_simp
                            with_reducible rfl
                          rotate_left
                          · simp only [Act.put, List.setIfInBounds_toArray, List.set_cons_zero, List.set_cons_succ, i64_w, i32_w]
                            rfl
                          refine pure_ (i := 11) (N := some 40) (v := ?_) (a' := ?_) #[true, true, true, true, true, true, true, true, true, true, true, true, false] rfl rfl (any_of HT_.out (by kernel_rfl)) (fun _ _ _ h => h) (Or.inl ⟨by rfl, ?_⟩) ?_ ?_
                          rotate_left
                          · intro w'
                            go_simp
                            with_reducible rfl
                          rotate_left
                          · simp only [Act.put, List.setIfInBounds_toArray, List.set_cons_zero, List.set_cons_succ, i64_w, i32_w]
                            rfl
                          refine pure_ (i := 12) (N := some 41) (v := ?_) (a' := ?_) #[true, true, true, true, true, true, true, true, true, true, true, true, true] rfl rfl (any_of HT_.out (by kernel_rfl)) (fun _ _ _ h => h) (Or.inl ⟨by rfl, ?_⟩) ?_ ?_
                          rotate_left
                          · intro w'
                            go_simp
                            with_reducible rfl
                          rotate_left
                          · simp only [Act.put, List.setIfInBounds_toArray, List.set_cons_zero, List.set_cons_succ, i64_w, i32_w]
                            rfl
                          refine done_ (done_of HT_.out (by kernel_rfl)) ?_
                          try go_wp2
                          go_meet
                          case rel => exact ⟨_, ((((rd_T27 l0 (ji20)).f0) == ((rd_T27 l0 x10_1).f0))), (by first | rfl | (simp; done) | (simp only [← hji20] <;> (first | rfl | simp)) | (simp [*]; done)), H', ⟨by have := HK1.out; have := HK2.out; first | omega | exact Nat.le_refl _⟩, ⟨by (with_reducible repeat (first | refine blk_drewN ?_ _ | refine blk_drew ?_ | refine blk_alloc ?_ _)); exact BK115.out⟩, ⟨by (with_reducible repeat (first | refine blk_drewN ?_ _ | refine blk_drew ?_ | refine blk_alloc ?_ _)); exact BK117.out⟩, ⟨by repeat (first | (with_reducible first | exact HB.out | apply below_alloc | apply pw_below_drewN | apply below_drew1 | refine below_set ?_ GE115.out | refine below_set ?_ GE117.out) | exact HB.out)⟩⟩
                        · rw [if_neg c22] at H
                          exact absurd H (by simp)
                      · rw [if_neg c21] at H
                        exact absurd H (by simp)
                    · rw [if_neg c19] at H
                      have c19b0 : decide (0 < x10_1) = false := decide_eq_false c19
                      clear c19
                      (first | rw [c19b0] | (simp only [i64_w, i32_w]; rw [c19b0]) | skip)
                      have H' := Aside0.mk H
                      clear H
                      try go_wp2
                      have n0_ := Aside0.mk (blk_drew BK115.out)
                      have n1_ := Aside0.mk (blk_drew BK117.out)
                      have n2_ := Aside0.mk (below_drew1 HB.out)
                      clear BK115
                      clear BK117
                      clear HB
                      have BK115 := n0_
                      have BK117 := n1_
                      have HB := n2_
                      clear n0_ n1_ n2_
                      refine start_ (n := 13) (S := fun w' => True) (ds := []) #[false, false, false, false, false, false, false, false, false, false, false, false, false] (by kernel_rfl) rfl rfl trivial (fun hHeld => ?_); refine with_tabW spec_MappingsText.tab11 spec_MappingsText.bits11 (fun HT_ HW_ => ?_)
                      generalize wr.drew = w24 at BK115 BK117 HB hHeld ⊢
                      refine pure_ (i := 0) (N := some 29) (v := ?_) (a' := ?_) #[true, false, false, false, false, false, false, false, false, false, false, false, false] rfl rfl (any_of HT_.out (by kernel_rfl)) (fun _ _ _ h => h) (Or.inl ⟨by rfl, ?_⟩) ?_ ?_
                      rotate_left
                      · intro w'
                        go_simp
                        with_reducible rfl
                      rotate_left
                      · simp only [Act.put, List.setIfInBounds_toArray, List.set_cons_zero, List.set_cons_succ, i64_w, i32_w]
                        rfl
                      refine pure_ (i := 1) (N := some 30) (v := ?_) (a' := ?_) #[true, true, false, false, false, false, false, false, false, false, false, false, false] rfl rfl (any_of HT_.out (by kernel_rfl)) (fun _ _ _ h => h) (Or.inl ⟨by rfl, ?_⟩) ?_ ?_
                      rotate_left
                      · intro w'
                        go_simp
                        with_reducible rfl
                      rotate_left
                      · simp only [Act.put, List.setIfInBounds_toArray, List.set_cons_zero, List.set_cons_succ, i64_w, i32_w]
                        rfl
                      refine pure_ (i := 2) (N := some 31) (v := ?_) (a' := ?_) #[true, true, true, false, false, false, false, false, false, false, false, false, false] rfl rfl (any_of HT_.out (by kernel_rfl)) (fun _ _ _ h => h) (Or.inl ⟨by rfl, ?_⟩) ?_ ?_
                      rotate_left
                      · intro w'
                        go_simp
                        with_reducible rfl
                      rotate_left
                      · simp only [Act.put, List.setIfInBounds_toArray, List.set_cons_zero, List.set_cons_succ, i64_w, i32_w]
                        rfl
                      refine pure_ (i := 3) (N := some 32) (v := undef) (a' := ?_) #[true, true, true, true, false, false, false, false, false, false, false, false, false] rfl rfl (any_of HT_.out (by kernel_rfl)) (fun _ _ _ h => h) (Or.inr ⟨by rfl, rfl⟩) ?_ ?_
                      rotate_left
                      · simp only [Act.put, List.setIfInBounds_toArray, List.set_cons_zero, List.set_cons_succ, i64_w, i32_w]
                        rfl
                      refine pure_ (i := 4) (N := some 33) (v := undef) (a' := ?_) #[true, true, true, true, true, false, false, false, false, false, false, false, false] rfl rfl (any_of HT_.out (by kernel_rfl)) (fun _ _ _ h => h) (Or.inr ⟨by rfl, rfl⟩) ?_ ?_
                      rotate_left
                      · simp only [Act.put, List.setIfInBounds_toArray, List.set_cons_zero, List.set_cons_succ, i64_w, i32_w]
                        rfl
                      refine pure_ (i := 5) (N := some 34) (v := undef) (a' := ?_) #[true, true, true, true, true, true, false, false, false, false, false, false, false] rfl rfl (any_of HT_.out (by kernel_rfl)) (fun _ _ _ h => h) (Or.inr ⟨by rfl, rfl⟩) ?_ ?_
                      rotate_left
                      · simp only [Act.put, List.setIfInBounds_toArray, List.set_cons_zero, List.set_cons_succ, i64_w, i32_w]
                        rfl
                      refine pure_ (i := 6) (N := some 35) (v := undef) (a' := ?_) #[true, true, true, true, true, true, true, false, false, false, false, false, false] rfl rfl (any_of HT_.out (by kernel_rfl)) (fun _ _ _ h => h) (Or.inr ⟨by rfl, rfl⟩) ?_ ?_
                      rotate_left
                      · simp only [Act.put, List.setIfInBounds_toArray, List.set_cons_zero, List.set_cons_succ, i64_w, i32_w]
                        rfl
                      refine pure_ (i := 7) (N := some 36) (v := undef) (a' := ?_) #[true, true, true, true, true, true, true, true, false, false, false, false, false] rfl rfl (any_of HT_.out (by kernel_rfl)) (fun _ _ _ h => h) (Or.inr ⟨by rfl, rfl⟩) ?_ ?_
                      rotate_left
                      · simp only [Act.put, List.setIfInBounds_toArray, List.set_cons_zero, List.set_cons_succ, i64_w, i32_w]
                        rfl
                      refine pure_ (i := 8) (N := some 37) (v := undef) (a' := ?_) #[true, true, true, true, true, true, true, true, true, false, false, false, false] rfl rfl (any_of HT_.out (by kernel_rfl)) (fun _ _ _ h => h) (Or.inr ⟨by rfl, rfl⟩) ?_ ?_
                      rotate_left
                      · simp only [Act.put, List.setIfInBounds_toArray, List.set_cons_zero, List.set_cons_succ, i64_w, i32_w]
                        rfl
                      refine pure_ (i := 9) (N := some 38) (v := undef) (a' := ?_) #[true, true, true, true, true, true, true, true, true, true, false, false, false] rfl rfl (any_of HT_.out (by kernel_rfl)) (fun _ _ _ h => h) (Or.inr ⟨by rfl, rfl⟩) ?_ ?_
                      rotate_left
                      · simp only [Act.put, List.setIfInBounds_toArray, List.set_cons_zero, List.set_cons_succ, i64_w, i32_w]
                        rfl
                      refine pure_ (i := 10) (N := some 39) (v := undef) (a' := ?_) #[true, true, true, true, true, true, true, true, true, true, true, false, false] rfl rfl (any_of HT_.out (by kernel_rfl)) (fun _ _ _ h => h) (Or.inr ⟨by rfl, rfl⟩) ?_ ?_
                      rotate_left
                      · simp only [Act.put, List.setIfInBounds_toArray, List.set_cons_zero, List.set_cons_succ, i64_w, i32_w]
                        rfl
                      refine pure_ (i := 11) (N := some 40) (v := undef) (a' := ?_) #[true, true, true, true, true, true, true, true, true, true, true, true, false] rfl rfl (any_of HT_.out (by kernel_rfl)) (fun _ _ _ h => h) (Or.inr ⟨by rfl, rfl⟩) ?_ ?_
                      rotate_left
                      · simp only [Act.put, List.setIfInBounds_toArray, List.set_cons_zero, List.set_cons_succ, i64_w, i32_w]
                        rfl
                      refine pure_ (i := 12) (N := some 41) (v := ?_) (a' := ?_) #[true, true, true, true, true, true, true, true, true, true, true, true, true] rfl rfl (any_of HT_.out (by kernel_rfl)) (fun _ _ _ h => h) (Or.inl ⟨by rfl, ?_⟩) ?_ ?_
                      rotate_left
                      · intro w'
                        go_simp
                        with_reducible rfl
                      rotate_left
                      · simp only [Act.put, List.setIfInBounds_toArray, List.set_cons_zero, List.set_cons_succ, i64_w, i32_w]
                        rfl
                      refine done_ (done_of HT_.out (by kernel_rfl)) ?_
                      try go_wp2
                      go_meet
                      case rel => exact ⟨_, (false), (by first | rfl | (simp; done) | (simp [*]; done)), H', ⟨by have := HK1.out; have := HK2.out; first | omega | exact Nat.le_refl _⟩, ⟨by (with_reducible repeat (first | refine blk_drewN ?_ _ | refine blk_drew ?_ | refine blk_alloc ?_ _)); exact BK115.out⟩, ⟨by (with_reducible repeat (first | refine blk_drewN ?_ _ | refine blk_drew ?_ | refine blk_alloc ?_ _)); exact BK117.out⟩, ⟨by repeat (first | (with_reducible first | exact HB.out | apply below_alloc | apply pw_below_drewN | apply below_drew1 | refine below_set ?_ GE115.out | refine below_set ?_ GE117.out) | exact HB.out)⟩⟩
                  case rest =>
                    clear HC15
                    try clear c1
                    try clear p1
                    try clear q1
                    try clear hx1
                    try clear c2
                    try clear p2
                    try clear c4
                    try clear c4b0
                    try clear c5
                    try clear c5b0
                    try clear c6
                    try clear c6b0
                    try clear p6
                    try clear c7
                    try clear c8
                    try clear c10
                    try clear c10b0
                    try clear c11
                    try clear c11b0
                    try clear c11b1
                    try clear c11b2
                    try clear p11
                    try clear q11
                    try clear hx11
                    try clear c12
                    try clear c16
                    try clear c19
                    try clear c19b0
                    try clear c21
                    try clear c21b0
                    try clear c22
                    try clear c22b0
                    try clear hcz13_0
                    try clear hcz13_1
                    try clear hcz13_2
                    try clear hcz13_3
                    try clear hcz13_4
                    try clear hcz13_5
                    try clear hcz14_0
                    try clear hcz14_1
                    try clear hcz14_2
                    try clear hcz14_3
                    try clear hcz14_4
                    try clear hcz14_5
                    try clear hcz17_0
                    try clear hcz17_1
                    try clear hcz17_2
                    try clear hcz17_3
                    try clear hcz17_4
                    try clear hcz17_5
                    try clear hcz18_0
                    try clear hcz18_1
                    try clear hcz18_2
                    try clear hcz18_3
                    try clear hcz18_4
                    try clear hcz18_5
                    try clear hcz3_0
                    try clear hcz3_1
                    try clear hcz3_2
                    try clear hcz3_3
                    try clear hcz3_4
                    try clear hcz3_5
                    try clear hcz9_0
                    try clear hcz9_1
                    try clear hcz9_2
                    try clear hcz9_3
                    try clear hcz9_4
                    try clear hcz9_5
                    try clear hfz13_0
                    try clear hfz13_1
                    try clear hfz13_2
                    try clear hfz13_3
                    try clear hfz13_4
                    try clear hfz13_5
                    try clear hfz14_0
                    try clear hfz14_1
                    try clear hfz14_2
                    try clear hfz14_3
                    try clear hfz14_4
                    try clear hfz14_5
                    try clear hfz17_0
                    try clear hfz17_1
                    try clear hfz17_2
                    try clear hfz17_3
                    try clear hfz17_4
                    try clear hfz17_5
                    try clear hfz18_0
                    try clear hfz18_1
                    try clear hfz18_2
                    try clear hfz18_3
                    try clear hfz18_4
                    try clear hfz18_5
                    try clear hfz3_0
                    try clear hfz3_1
                    try clear hfz3_2
                    try clear hfz3_3
                    try clear hfz3_4
                    try clear hfz3_5
                    try clear hfz9_0
                    try clear hfz9_1
                    try clear hfz9_2
                    try clear hfz9_3
                    try clear hfz9_4
                    try clear hfz9_5
                    try clear hx116_0
                    try clear hx116_1
                    try clear hx116_2
                    try clear hx116_3
                    try clear hx116_4
                    try clear hx116_5
                    try clear hx118_0
                    try clear hx118_1
                    try clear hx118_2
                    try clear hx118_3
                    try clear hx118_4
                    try clear hx118_5
                    try clear p1
                    try clear p116
                    try clear p118
                    try clear p2
                    try clear q1
                    try clear q116
                    try clear q118
                    obtain ⟨kq, x41_14, rfl, HA, HJ14, BK115, BK117, HB⟩ := hcut
                    cases kq with
                    | zero => exact absurd HA.out (by simp [spec_MappingsText.j2])
                    | succ kj14 =>
                      have H := HA.out
                      clear HA
                      simp only [spec_MappingsText.j2] at H
                      have HC25 := Aside0.mk H
                      clear H
                      go_upto_if 41 with (fail)
                      go_cut [3] (fun v3 wc => ∃ (kq : Nat) (x3_24 : ByteArray), v3 = .string x3_24 ∧ Aside0 (spec_MappingsText.j3 kq l0 x3_24 (l0.length : Int) x10_1 x116000_2 x116001_2 x116002_1 x116003_1 x116004_1 x116005_1 ((rd_T27 l0 x10_1).f0) ((rd_T27 l0 x10_1).f1) ((rd_T27 l0 x10_1).f2) ((rd_T27 l0 x10_1).f3) ((rd_T27 l0 x10_1).f4) ((rd_T27 l0 x10_1).f5) = some r) ∧ Aside0 (kq ≤ kj14) ∧ Aside0 (wc.heap[gb115]? = some (.cells #[.int .i64 x116000_2, .int .i64 x116001_2, .int .i64 x116002_1, .int .i64 x116003_1, .int .i64 x116004_1, .int .i64 x116005_1] 32 (0, 0))) ∧ Aside0 (wc.heap[gb117]? = some (.cells #[.int .i64 ((rd_T27 l0 x10_1).f0), .int .i64 ((rd_T27 l0 x10_1).f1), .int .i64 ((rd_T27 l0 x10_1).f2), .int .i64 ((rd_T27 l0 x10_1).f3), .int .i64 ((rd_T27 l0 x10_1).f4), .int .i64 ((rd_T27 l0 x10_1).f5)] 27 (0, 0))) ∧ Aside0 (Below w.heap.size w wc))
                      case first =>
                        have H := HC25.out
                        clear HC25
                        by_cases c26 : x41_14 = true
                        · subst c26
                          have H1 : (if x3_2.size + 1 ≤ 9223372036854775807 then (spec_MappingsText.j3 kj14 l0 (x3_2 ++ (⟨#[44]⟩ : ByteArray)) (l0.length : Int) x10_1 x116000_2 x116001_2 x116002_1 x116003_1 x116004_1 x116005_1 ((rd_T27 l0 x10_1).f0) ((rd_T27 l0 x10_1).f1) ((rd_T27 l0 x10_1).f2) ((rd_T27 l0 x10_1).f3) ((rd_T27 l0 x10_1).f4) ((rd_T27 l0 x10_1).f5)) else (none)) = some r := by rw [if_pos rfl] at H; exact H
                          clear H
                          have H := H1
                          clear H1
                          by_cases c27 : x3_2.size + 1 ≤ 9223372036854775807
                          · rw [if_pos c27] at H
                            have c27b0 := eq_true c27
                            have c27b1 : decide (x3_2.size + 1 ≤ 9223372036854775807) = true := decide_eq_true c27
                            try have c27b2 : (9223372036854775807 < x3_2.size + 1) = False := eq_false (Nat.not_lt.2 c27)
                            have H' := Aside0.mk H
                            clear H
                            go_wp2
                            go_meet
                            case rel => exact ⟨_, (x3_2 ++ (⟨#[44]⟩ : ByteArray)), (by first | rfl | (simp; done) | (simp [*]; done)), H', ⟨by have := HK1.out; have := HK2.out; have := HJ14.out; first | omega | exact Nat.le_refl _⟩, ⟨by (with_reducible repeat (first | refine blk_drewN ?_ _ | refine blk_drew ?_ | refine blk_alloc ?_ _)); exact BK115.out⟩, ⟨by (with_reducible repeat (first | refine blk_drewN ?_ _ | refine blk_drew ?_ | refine blk_alloc ?_ _)); exact BK117.out⟩, ⟨by repeat (first | (with_reducible first | exact HB.out | apply below_alloc | apply pw_below_drewN | apply below_drew1 | refine below_set ?_ GE115.out | refine below_set ?_ GE117.out) | exact HB.out)⟩⟩
                          · rw [if_neg c27] at H
                            exact absurd H (by simp)
                        · replace c26 := Bool.eq_false_iff.mpr c26
                          subst c26
                          have H1 : (spec_MappingsText.j3 kj14 l0 x3_2 (l0.length : Int) x10_1 x116000_2 x116001_2 x116002_1 x116003_1 x116004_1 x116005_1 ((rd_T27 l0 x10_1).f0) ((rd_T27 l0 x10_1).f1) ((rd_T27 l0 x10_1).f2) ((rd_T27 l0 x10_1).f3) ((rd_T27 l0 x10_1).f4) ((rd_T27 l0 x10_1).f5)) = some r := by rw [if_neg (show ¬ (false = true) by decide)] at H; exact H
                          clear H
                          have H := H1
                          clear H1
                          have H' := Aside0.mk H
                          clear H
                          go_wp2
                          go_meet
                          case rel => exact ⟨_, (x3_2), (by first | rfl | (simp; done) | (simp [*]; done)), H', ⟨by have := HK1.out; have := HK2.out; have := HJ14.out; first | omega | exact Nat.le_refl _⟩, ⟨by (with_reducible repeat (first | refine blk_drewN ?_ _ | refine blk_drew ?_ | refine blk_alloc ?_ _)); exact BK115.out⟩, ⟨by (with_reducible repeat (first | refine blk_drewN ?_ _ | refine blk_drew ?_ | refine blk_alloc ?_ _)); exact BK117.out⟩, ⟨by repeat (first | (with_reducible first | exact HB.out | apply below_alloc | apply pw_below_drewN | apply below_drew1 | refine below_set ?_ GE115.out | refine below_set ?_ GE117.out) | exact HB.out)⟩⟩
                      case rest =>
                        clear HC25
                        try clear c1
                        try clear p1
                        try clear q1
                        try clear hx1
                        try clear c2
                        try clear p2
                        try clear c4
                        try clear c4b0
                        try clear c5
                        try clear c5b0
                        try clear c6
                        try clear c6b0
                        try clear p6
                        try clear c7
                        try clear c8
                        try clear c10
                        try clear c10b0
                        try clear c11
                        try clear c11b0
                        try clear c11b1
                        try clear c11b2
                        try clear p11
                        try clear q11
                        try clear hx11
                        try clear c12
                        try clear c16
                        try clear c19
                        try clear c19b0
                        try clear c21
                        try clear c21b0
                        try clear c22
                        try clear c22b0
                        try clear c26
                        try clear c27
                        try clear c27b0
                        try clear c27b1
                        try clear c27b2
                        try clear hcz13_0
                        try clear hcz13_1
                        try clear hcz13_2
                        try clear hcz13_3
                        try clear hcz13_4
                        try clear hcz13_5
                        try clear hcz14_0
                        try clear hcz14_1
                        try clear hcz14_2
                        try clear hcz14_3
                        try clear hcz14_4
                        try clear hcz14_5
                        try clear hcz17_0
                        try clear hcz17_1
                        try clear hcz17_2
                        try clear hcz17_3
                        try clear hcz17_4
                        try clear hcz17_5
                        try clear hcz18_0
                        try clear hcz18_1
                        try clear hcz18_2
                        try clear hcz18_3
                        try clear hcz18_4
                        try clear hcz18_5
                        try clear hcz3_0
                        try clear hcz3_1
                        try clear hcz3_2
                        try clear hcz3_3
                        try clear hcz3_4
                        try clear hcz3_5
                        try clear hcz9_0
                        try clear hcz9_1
                        try clear hcz9_2
                        try clear hcz9_3
                        try clear hcz9_4
                        try clear hcz9_5
                        try clear hfz13_0
                        try clear hfz13_1
                        try clear hfz13_2
                        try clear hfz13_3
                        try clear hfz13_4
                        try clear hfz13_5
                        try clear hfz14_0
                        try clear hfz14_1
                        try clear hfz14_2
                        try clear hfz14_3
                        try clear hfz14_4
                        try clear hfz14_5
                        try clear hfz17_0
                        try clear hfz17_1
                        try clear hfz17_2
                        try clear hfz17_3
                        try clear hfz17_4
                        try clear hfz17_5
                        try clear hfz18_0
                        try clear hfz18_1
                        try clear hfz18_2
                        try clear hfz18_3
                        try clear hfz18_4
                        try clear hfz18_5
                        try clear hfz3_0
                        try clear hfz3_1
                        try clear hfz3_2
                        try clear hfz3_3
                        try clear hfz3_4
                        try clear hfz3_5
                        try clear hfz9_0
                        try clear hfz9_1
                        try clear hfz9_2
                        try clear hfz9_3
                        try clear hfz9_4
                        try clear hfz9_5
                        try clear hx116_0
                        try clear hx116_1
                        try clear hx116_2
                        try clear hx116_3
                        try clear hx116_4
                        try clear hx116_5
                        try clear hx118_0
                        try clear hx118_1
                        try clear hx118_2
                        try clear hx118_3
                        try clear hx118_4
                        try clear hx118_5
                        try clear p1
                        try clear p11
                        try clear p116
                        try clear p118
                        try clear p2
                        try clear p6
                        try clear q1
                        try clear q11
                        try clear q116
                        try clear q118
                        obtain ⟨kq, x3_24, rfl, HA, HJ24, BK115, BK117, HB⟩ := hcut
                        cases kq with
                        | zero => exact absurd HA.out (by simp [spec_MappingsText.j3])
                        | succ kj24 =>
                          have H := HA.out
                          clear HA
                          simp only [spec_MappingsText.j3] at H
                          replace H := Option.bind_eq_some_iff.mp H
                          obtain ⟨t119, A280, H⟩ := H
                          replace H : ((spec_VLQText.f kj24 (wrap64 (((rd_T27 l0 x10_1).f2) - x116002_1))).bind fun t120 => (if t119.size + t120.size ≤ 9223372036854775807 then ((spec_VLQText.f kj24 (wrap64 (((rd_T27 l0 x10_1).f3) - x116003_1))).bind fun t121 => (if (t119 ++ t120).size + t121.size ≤ 9223372036854775807 then ((spec_VLQText.f kj24 (wrap64 (((rd_T27 l0 x10_1).f4) - x116004_1))).bind fun t122 => (if ((t119 ++ t120) ++ t121).size + t122.size ≤ 9223372036854775807 then (if x3_24.size + (((t119 ++ t120) ++ t121) ++ t122).size ≤ 9223372036854775807 then (if ((rd_T27 l0 x10_1).f5) ≥ 0 then ((spec_VLQText.f kj24 (wrap64 (((rd_T27 l0 x10_1).f5) - x116005_1))).bind fun t123 => (if (x3_24 ++ (((t119 ++ t120) ++ t121) ++ t122)).size + t123.size ≤ 9223372036854775807 then (spec_MappingsText.l0 kj24 l0 ((x3_24 ++ (((t119 ++ t120) ++ t121) ++ t122)) ++ t123) (l0.length : Int) (wrap64 (x10_1 + 1)) x116000_2 ((rd_T27 l0 x10_1).f1) ((rd_T27 l0 x10_1).f2) ((rd_T27 l0 x10_1).f3) ((rd_T27 l0 x10_1).f4) ((rd_T27 l0 x10_1).f5)) else (none))) else (spec_MappingsText.l0 kj24 l0 (x3_24 ++ (((t119 ++ t120) ++ t121) ++ t122)) (l0.length : Int) (wrap64 (x10_1 + 1)) x116000_2 ((rd_T27 l0 x10_1).f1) ((rd_T27 l0 x10_1).f2) ((rd_T27 l0 x10_1).f3) ((rd_T27 l0 x10_1).f4) x116005_1)) else (none)) else (none))) else (none))) else (none))) = some r := H
                          have A28 := Aside0.mk A280
                          clear A280
                          replace H := Option.bind_eq_some_iff.mp H
                          obtain ⟨t120, A290, H⟩ := H
                          replace H : (if t119.size + t120.size ≤ 9223372036854775807 then ((spec_VLQText.f kj24 (wrap64 (((rd_T27 l0 x10_1).f3) - x116003_1))).bind fun t121 => (if (t119 ++ t120).size + t121.size ≤ 9223372036854775807 then ((spec_VLQText.f kj24 (wrap64 (((rd_T27 l0 x10_1).f4) - x116004_1))).bind fun t122 => (if ((t119 ++ t120) ++ t121).size + t122.size ≤ 9223372036854775807 then (if x3_24.size + (((t119 ++ t120) ++ t121) ++ t122).size ≤ 9223372036854775807 then (if ((rd_T27 l0 x10_1).f5) ≥ 0 then ((spec_VLQText.f kj24 (wrap64 (((rd_T27 l0 x10_1).f5) - x116005_1))).bind fun t123 => (if (x3_24 ++ (((t119 ++ t120) ++ t121) ++ t122)).size + t123.size ≤ 9223372036854775807 then (spec_MappingsText.l0 kj24 l0 ((x3_24 ++ (((t119 ++ t120) ++ t121) ++ t122)) ++ t123) (l0.length : Int) (wrap64 (x10_1 + 1)) x116000_2 ((rd_T27 l0 x10_1).f1) ((rd_T27 l0 x10_1).f2) ((rd_T27 l0 x10_1).f3) ((rd_T27 l0 x10_1).f4) ((rd_T27 l0 x10_1).f5)) else (none))) else (spec_MappingsText.l0 kj24 l0 (x3_24 ++ (((t119 ++ t120) ++ t121) ++ t122)) (l0.length : Int) (wrap64 (x10_1 + 1)) x116000_2 ((rd_T27 l0 x10_1).f1) ((rd_T27 l0 x10_1).f2) ((rd_T27 l0 x10_1).f3) ((rd_T27 l0 x10_1).f4) x116005_1)) else (none)) else (none))) else (none))) else (none)) = some r := H
                          have A29 := Aside0.mk A290
                          clear A290
                          by_cases c30 : t119.size + t120.size ≤ 9223372036854775807
                          · rw [if_pos c30] at H
                            have c30b0 := eq_true c30
                            have c30b1 : decide (t119.size + t120.size ≤ 9223372036854775807) = true := decide_eq_true c30
                            try have c30b2 : (9223372036854775807 < t119.size + t120.size) = False := eq_false (Nat.not_lt.2 c30)
                            replace H := Option.bind_eq_some_iff.mp H
                            obtain ⟨t121, A310, H⟩ := H
                            replace H : (if (t119 ++ t120).size + t121.size ≤ 9223372036854775807 then ((spec_VLQText.f kj24 (wrap64 (((rd_T27 l0 x10_1).f4) - x116004_1))).bind fun t122 => (if ((t119 ++ t120) ++ t121).size + t122.size ≤ 9223372036854775807 then (if x3_24.size + (((t119 ++ t120) ++ t121) ++ t122).size ≤ 9223372036854775807 then (if ((rd_T27 l0 x10_1).f5) ≥ 0 then ((spec_VLQText.f kj24 (wrap64 (((rd_T27 l0 x10_1).f5) - x116005_1))).bind fun t123 => (if (x3_24 ++ (((t119 ++ t120) ++ t121) ++ t122)).size + t123.size ≤ 9223372036854775807 then (spec_MappingsText.l0 kj24 l0 ((x3_24 ++ (((t119 ++ t120) ++ t121) ++ t122)) ++ t123) (l0.length : Int) (wrap64 (x10_1 + 1)) x116000_2 ((rd_T27 l0 x10_1).f1) ((rd_T27 l0 x10_1).f2) ((rd_T27 l0 x10_1).f3) ((rd_T27 l0 x10_1).f4) ((rd_T27 l0 x10_1).f5)) else (none))) else (spec_MappingsText.l0 kj24 l0 (x3_24 ++ (((t119 ++ t120) ++ t121) ++ t122)) (l0.length : Int) (wrap64 (x10_1 + 1)) x116000_2 ((rd_T27 l0 x10_1).f1) ((rd_T27 l0 x10_1).f2) ((rd_T27 l0 x10_1).f3) ((rd_T27 l0 x10_1).f4) x116005_1)) else (none)) else (none))) else (none)) = some r := H
                            have A31 := Aside0.mk A310
                            clear A310
                            by_cases c32 : (t119 ++ t120).size + t121.size ≤ 9223372036854775807
                            · rw [if_pos c32] at H
                              have c32b0 := eq_true c32
                              have c32b1 : decide ((t119 ++ t120).size + t121.size ≤ 9223372036854775807) = true := decide_eq_true c32
                              try have c32b2 : (9223372036854775807 < (t119 ++ t120).size + t121.size) = False := eq_false (Nat.not_lt.2 c32)
                              have c32n := c32b2
                              simp only [ByteArray.size_append] at c32n
                              replace H := Option.bind_eq_some_iff.mp H
                              obtain ⟨t122, A330, H⟩ := H
                              replace H : (if ((t119 ++ t120) ++ t121).size + t122.size ≤ 9223372036854775807 then (if x3_24.size + (((t119 ++ t120) ++ t121) ++ t122).size ≤ 9223372036854775807 then (if ((rd_T27 l0 x10_1).f5) ≥ 0 then ((spec_VLQText.f kj24 (wrap64 (((rd_T27 l0 x10_1).f5) - x116005_1))).bind fun t123 => (if (x3_24 ++ (((t119 ++ t120) ++ t121) ++ t122)).size + t123.size ≤ 9223372036854775807 then (spec_MappingsText.l0 kj24 l0 ((x3_24 ++ (((t119 ++ t120) ++ t121) ++ t122)) ++ t123) (l0.length : Int) (wrap64 (x10_1 + 1)) x116000_2 ((rd_T27 l0 x10_1).f1) ((rd_T27 l0 x10_1).f2) ((rd_T27 l0 x10_1).f3) ((rd_T27 l0 x10_1).f4) ((rd_T27 l0 x10_1).f5)) else (none))) else (spec_MappingsText.l0 kj24 l0 (x3_24 ++ (((t119 ++ t120) ++ t121) ++ t122)) (l0.length : Int) (wrap64 (x10_1 + 1)) x116000_2 ((rd_T27 l0 x10_1).f1) ((rd_T27 l0 x10_1).f2) ((rd_T27 l0 x10_1).f3) ((rd_T27 l0 x10_1).f4) x116005_1)) else (none)) else (none)) = some r := H
                              have A33 := Aside0.mk A330
                              clear A330
                              by_cases c34 : ((t119 ++ t120) ++ t121).size + t122.size ≤ 9223372036854775807
                              · rw [if_pos c34] at H
                                have c34b0 := eq_true c34
                                have c34b1 : decide (((t119 ++ t120) ++ t121).size + t122.size ≤ 9223372036854775807) = true := decide_eq_true c34
                                try have c34b2 : (9223372036854775807 < ((t119 ++ t120) ++ t121).size + t122.size) = False := eq_false (Nat.not_lt.2 c34)
                                have c34n := c34b2
                                simp only [ByteArray.size_append] at c34n
                                by_cases c35 : x3_24.size + (((t119 ++ t120) ++ t121) ++ t122).size ≤ 9223372036854775807
                                · rw [if_pos c35] at H
                                  have c35b0 := eq_true c35
                                  have c35b1 : decide (x3_24.size + (((t119 ++ t120) ++ t121) ++ t122).size ≤ 9223372036854775807) = true := decide_eq_true c35
                                  try have c35b2 : (9223372036854775807 < x3_24.size + (((t119 ++ t120) ++ t121) ++ t122).size) = False := eq_false (Nat.not_lt.2 c35)
                                  have c35n := c35b2
                                  simp only [ByteArray.size_append] at c35n
                                  by_cases c36 : ((rd_T27 l0 x10_1).f5) ≥ 0
                                  · rw [if_pos c36] at H
                                    have c36b0 : decide (0 ≤ ((rd_T27 l0 x10_1).f5)) = true := decide_eq_true c36
                                    clear c36
                                    replace H := Option.bind_eq_some_iff.mp H
                                    obtain ⟨t123, A370, H⟩ := H
                                    replace H : (if (x3_24 ++ (((t119 ++ t120) ++ t121) ++ t122)).size + t123.size ≤ 9223372036854775807 then (spec_MappingsText.l0 kj24 l0 ((x3_24 ++ (((t119 ++ t120) ++ t121) ++ t122)) ++ t123) (l0.length : Int) (wrap64 (x10_1 + 1)) x116000_2 ((rd_T27 l0 x10_1).f1) ((rd_T27 l0 x10_1).f2) ((rd_T27 l0 x10_1).f3) ((rd_T27 l0 x10_1).f4) ((rd_T27 l0 x10_1).f5)) else (none)) = some r := H
                                    have A37 := Aside0.mk A370
                                    clear A370
                                    by_cases c38 : (x3_24 ++ (((t119 ++ t120) ++ t121) ++ t122)).size + t123.size ≤ 9223372036854775807
                                    · rw [if_pos c38] at H
                                      have c38b0 := eq_true c38
                                      have c38b1 : decide ((x3_24 ++ (((t119 ++ t120) ++ t121) ++ t122)).size + t123.size ≤ 9223372036854775807) = true := decide_eq_true c38
                                      try have c38b2 : (9223372036854775807 < (x3_24 ++ (((t119 ++ t120) ++ t121) ++ t122)).size + t123.size) = False := eq_false (Nat.not_lt.2 c38)
                                      have c38n := c38b2
                                      simp only [ByteArray.size_append] at c38n
                                      have H' := Aside0.mk H
                                      clear H
                                      try go_wp2
                                      have n0_ := Aside0.mk (blk_drew BK115.out)
                                      have n1_ := Aside0.mk (blk_drew BK117.out)
                                      have n2_ := Aside0.mk (below_drew1 HB.out)
                                      clear BK115
                                      clear BK117
                                      clear HB
                                      have BK115 := n0_
                                      have BK117 := n1_
                                      have HB := n2_
                                      clear n0_ n1_ n2_
                                      refine start_ (n := 30) (S := fun w' => w'.cell? ⟨gb117, 0, none⟩ = some (.int .i64 ((rd_T27 l0 x10_1).f0)) ∧ w'.cell? ⟨gb117, 1, none⟩ = some (.int .i64 ((rd_T27 l0 x10_1).f1)) ∧ w'.cell? ⟨gb117, 2, none⟩ = some (.int .i64 ((rd_T27 l0 x10_1).f2)) ∧ w'.cell? ⟨gb117, 3, none⟩ = some (.int .i64 ((rd_T27 l0 x10_1).f3)) ∧ w'.cell? ⟨gb117, 4, none⟩ = some (.int .i64 ((rd_T27 l0 x10_1).f4)) ∧ w'.cell? ⟨gb117, 5, none⟩ = some (.int .i64 ((rd_T27 l0 x10_1).f5)) ∧ w'.cell? ⟨gb115, 0, none⟩ = some (.int .i64 x116000_2) ∧ w'.cell? ⟨gb115, 1, none⟩ = some (.int .i64 x116001_2) ∧ w'.cell? ⟨gb115, 2, none⟩ = some (.int .i64 x116002_1) ∧ w'.cell? ⟨gb115, 3, none⟩ = some (.int .i64 x116003_1) ∧ w'.cell? ⟨gb115, 4, none⟩ = some (.int .i64 x116004_1) ∧ w'.cell? ⟨gb115, 5, none⟩ = some (.int .i64 x116005_1)) (ds := []) #[false, false, false, false, false, false, false, false, false, false, false, false, false, false, false, false, false, false, false, false, false, false, false, false, false, false, false, false, false, false] (by kernel_rfl) rfl rfl ⟨(blk_cell BK117.out 0).trans rfl, (blk_cell BK117.out 1).trans rfl, (blk_cell BK117.out 2).trans rfl, (blk_cell BK117.out 3).trans rfl, (blk_cell BK117.out 4).trans rfl, (blk_cell BK117.out 5).trans rfl, (blk_cell BK115.out 0).trans rfl, (blk_cell BK115.out 1).trans rfl, (blk_cell BK115.out 2).trans rfl, (blk_cell BK115.out 3).trans rfl, (blk_cell BK115.out 4).trans rfl, (blk_cell BK115.out 5).trans rfl⟩ (fun hHeld => ?_); refine with_tabW spec_MappingsText.tab13 spec_MappingsText.bits13 (fun HT_ HW_ => ?_)
                                      generalize wc.drew = w39 at BK115 BK117 HB hHeld ⊢
                                      refine pure_ (i := 0) (N := some 44) (v := ?_) (a' := ?_) #[true, false, false, false, false, false, false, false, false, false, false, false, false, false, false, false, false, false, false, false, false, false, false, false, false, false, false, false, false, false] rfl rfl (any_of HT_.out (by kernel_rfl)) (fun _ _ _ h => h) (Or.inl ⟨by rfl, ?_⟩) ?_ ?_
                                      rotate_left
                                      · intro w'
                                        go_simp
                                        with_reducible rfl
                                      rotate_left
                                      · simp only [Act.put, List.setIfInBounds_toArray, List.set_cons_zero, List.set_cons_succ, i64_w, i32_w]
                                        rfl
                                      refine pure_ (i := 1) (N := some 45) (v := ?_) (a' := ?_) #[true, true, false, false, false, false, false, false, false, false, false, false, false, false, false, false, false, false, false, false, false, false, false, false, false, false, false, false, false, false] rfl rfl (any_of HT_.out (by kernel_rfl)) (fun _ _ _ h => h) (Or.inl ⟨by rfl, ?_⟩) ?_ ?_
                                      rotate_left
                                      · intro w'
                                        go_simp
                                        with_reducible rfl
                                      rotate_left
                                      · simp only [Act.put, List.setIfInBounds_toArray, List.set_cons_zero, List.set_cons_succ, i64_w, i32_w]
                                        rfl
                                      refine pure_ (i := 3) (N := some 47) (v := ?_) (a' := ?_) #[true, true, false, true, false, false, false, false, false, false, false, false, false, false, false, false, false, false, false, false, false, false, false, false, false, false, false, false, false, false] rfl rfl (any_of HT_.out (by kernel_rfl)) (fun _ _ _ h => h) (Or.inl ⟨by rfl, ?_⟩) ?_ ?_
                                      rotate_left
                                      · intro w'
                                        go_simp
                                        with_reducible rfl
                                      rotate_left
                                      · simp only [Act.put, List.setIfInBounds_toArray, List.set_cons_zero, List.set_cons_succ, i64_w, i32_w]
                                        rfl
                                      refine pure_ (i := 7) (N := some 51) (v := ?_) (a' := ?_) #[true, true, false, true, false, false, false, true, false, false, false, false, false, false, false, false, false, false, false, false, false, false, false, false, false, false, false, false, false, false] rfl rfl (any_of HT_.out (by kernel_rfl)) (fun _ _ _ h => h) (Or.inl ⟨by rfl, ?_⟩) ?_ ?_
                                      rotate_left
                                      · intro w'
                                        go_simp
                                        with_reducible rfl
                                      rotate_left
                                      · simp only [Act.put, List.setIfInBounds_toArray, List.set_cons_zero, List.set_cons_succ, i64_w, i32_w]
                                        rfl
                                      refine pure_ (i := 9) (N := some 53) (v := ?_) (a' := ?_) #[true, true, false, true, false, false, false, true, false, true, false, false, false, false, false, false, false, false, false, false, false, false, false, false, false, false, false, false, false, false] rfl rfl (any_of HT_.out (by kernel_rfl)) (fun _ _ _ h => h) (Or.inl ⟨by rfl, ?_⟩) ?_ ?_
                                      rotate_left
                                      · intro w'
                                        go_simp
                                        with_reducible rfl
                                      rotate_left
                                      · simp only [Act.put, List.setIfInBounds_toArray, List.set_cons_zero, List.set_cons_succ, i64_w, i32_w]
                                        rfl
                                      refine pure_ (i := 14) (N := some 58) (v := ?_) (a' := ?_) #[true, true, false, true, false, false, false, true, false, true, false, false, false, false, true, false, false, false, false, false, false, false, false, false, false, false, false, false, false, false] rfl rfl (any_of HT_.out (by kernel_rfl)) (fun _ _ _ h => h) (Or.inl ⟨by rfl, ?_⟩) ?_ ?_
                                      rotate_left
                                      · intro w'
                                        go_simp
                                        with_reducible rfl
                                      rotate_left
                                      · simp only [Act.put, List.setIfInBounds_toArray, List.set_cons_zero, List.set_cons_succ, i64_w, i32_w]
                                        rfl
                                      refine pure_ (i := 16) (N := some 60) (v := ?_) (a' := ?_) #[true, true, false, true, false, false, false, true, false, true, false, false, false, false, true, false, true, false, false, false, false, false, false, false, false, false, false, false, false, false] rfl rfl (any_of HT_.out (by kernel_rfl)) (fun _ _ _ h => h) (Or.inl ⟨by rfl, ?_⟩) ?_ ?_
                                      rotate_left
                                      · intro w'
                                        go_simp
                                        with_reducible rfl
                                      rotate_left
                                      · simp only [Act.put, List.setIfInBounds_toArray, List.set_cons_zero, List.set_cons_succ, i64_w, i32_w]
                                        rfl
                                      refine pure_ (i := 21) (N := some 65) (v := ?_) (a' := ?_) #[true, true, false, true, false, false, false, true, false, true, false, false, false, false, true, false, true, false, false, false, false, true, false, false, false, false, false, false, false, false] rfl rfl (any_of HT_.out (by kernel_rfl)) (fun _ _ _ h => h) (Or.inl ⟨by rfl, ?_⟩) ?_ ?_
                                      rotate_left
                                      · intro w'
                                        go_simp
                                        with_reducible rfl
                                      rotate_left
                                      · simp only [Act.put, List.setIfInBounds_toArray, List.set_cons_zero, List.set_cons_succ, i64_w, i32_w]
                                        rfl
                                      refine pure_ (i := 23) (N := some 67) (v := ?_) (a' := ?_) #[true, true, false, true, false, false, false, true, false, true, false, false, false, false, true, false, true, false, false, false, false, true, false, true, false, false, false, false, false, false] rfl rfl (any_of HT_.out (by kernel_rfl)) (fun _ _ _ h => h) (Or.inl ⟨by rfl, ?_⟩) ?_ ?_
                                      rotate_left
                                      · intro w'
                                        go_simp
                                        with_reducible rfl
                                      rotate_left
                                      · simp only [Act.put, List.setIfInBounds_toArray, List.set_cons_zero, List.set_cons_succ, i64_w, i32_w]
                                        rfl
                                      refine take_ (i := 2) (N := some 46) (v := ?_) (a' := ?_) #[true, true, true, true, false, false, false, true, false, true, false, false, false, false, true, false, true, false, false, false, false, true, false, true, false, false, false, false, false, false] rfl rfl (take_ofW HT_.out HW_.out (by kernel_rfl)) (fun _ _ _ h => h) (Or.inl ⟨by rfl, ?_⟩) hHeld ?_ ?_
                                      rotate_left
                                      · rintro w' ⟨s0, s1, s2, s3, s4, s5, s6, s7, s8, s9, s10, s11⟩
                                        go_simp
                                        with_reducible rfl
                                      rotate_left
                                      · simp only [Act.put, List.setIfInBounds_toArray, List.set_cons_zero, List.set_cons_succ, i64_w, i32_w]
                                        rfl
                                      refine take_ (i := 4) (N := some 48) (v := ?_) (a' := ?_) #[true, true, true, true, true, false, false, true, false, true, false, false, false, false, true, false, true, false, false, false, false, true, false, true, false, false, false, false, false, false] rfl rfl (take_ofW HT_.out HW_.out (by kernel_rfl)) (fun _ _ _ h => h) (Or.inl ⟨by rfl, ?_⟩) hHeld ?_ ?_
                                      rotate_left
                                      · rintro w' ⟨s0, s1, s2, s3, s4, s5, s6, s7, s8, s9, s10, s11⟩
                                        go_simp
                                        with_reducible rfl
                                      rotate_left
                                      · simp only [Act.put, List.setIfInBounds_toArray, List.set_cons_zero, List.set_cons_succ, i64_w, i32_w]
                                        rfl
                                      refine pure_ (i := 5) (N := some 49) (v := ?_) (a' := ?_) #[true, true, true, true, true, true, false, true, false, true, false, false, false, false, true, false, true, false, false, false, false, true, false, true, false, false, false, false, false, false] rfl rfl (any_of HT_.out (by kernel_rfl)) (fun _ _ _ h => h) (Or.inl ⟨by rfl, ?_⟩) ?_ ?_
                                      rotate_left
                                      · intro w'
                                        go_simp
                                        with_reducible rfl
                                      rotate_left
                                      · simp only [Act.put, List.setIfInBounds_toArray, List.set_cons_zero, List.set_cons_succ, i64_w, i32_w]
                                        rfl
                                      refine take_ (i := 8) (N := some 52) (v := ?_) (a' := ?_) #[true, true, true, true, true, true, false, true, true, true, false, false, false, false, true, false, true, false, false, false, false, true, false, true, false, false, false, false, false, false] rfl rfl (take_ofW HT_.out HW_.out (by kernel_rfl)) (fun _ _ _ h => h) (Or.inl ⟨by rfl, ?_⟩) hHeld ?_ ?_
                                      rotate_left
                                      · rintro w' ⟨s0, s1, s2, s3, s4, s5, s6, s7, s8, s9, s10, s11⟩
                                        go_simp
                                        with_reducible rfl
                                      rotate_left
                                      · simp only [Act.put, List.setIfInBounds_toArray, List.set_cons_zero, List.set_cons_succ, i64_w, i32_w]
                                        rfl
                                      refine take_ (i := 10) (N := some 54) (v := ?_) (a' := ?_) #[true, true, true, true, true, true, false, true, true, true, true, false, false, false, true, false, true, false, false, false, false, true, false, true, false, false, false, false, false, false] rfl rfl (take_ofW HT_.out HW_.out (by kernel_rfl)) (fun _ _ _ h => h) (Or.inl ⟨by rfl, ?_⟩) hHeld ?_ ?_
                                      rotate_left
                                      · rintro w' ⟨s0, s1, s2, s3, s4, s5, s6, s7, s8, s9, s10, s11⟩
                                        go_simp
                                        with_reducible rfl
                                      rotate_left
                                      · simp only [Act.put, List.setIfInBounds_toArray, List.set_cons_zero, List.set_cons_succ, i64_w, i32_w]
                                        rfl
                                      refine pure_ (i := 11) (N := some 55) (v := ?_) (a' := ?_) #[true, true, true, true, true, true, false, true, true, true, true, true, false, false, true, false, true, false, false, false, false, true, false, true, false, false, false, false, false, false] rfl rfl (any_of HT_.out (by kernel_rfl)) (fun _ _ _ h => h) (Or.inl ⟨by rfl, ?_⟩) ?_ ?_
                                      rotate_left
                                      · intro w'
                                        go_simp
                                        with_reducible rfl
                                      rotate_left
                                      · simp only [Act.put, List.setIfInBounds_toArray, List.set_cons_zero, List.set_cons_succ, i64_w, i32_w]
                                        rfl
                                      refine take_ (i := 15) (N := some 59) (v := ?_) (a' := ?_) #[true, true, true, true, true, true, false, true, true, true, true, true, false, false, true, true, true, false, false, false, false, true, false, true, false, false, false, false, false, false] rfl rfl (take_ofW HT_.out HW_.out (by kernel_rfl)) (fun _ _ _ h => h) (Or.inl ⟨by rfl, ?_⟩) hHeld ?_ ?_
                                      rotate_left
                                      · rintro w' ⟨s0, s1, s2, s3, s4, s5, s6, s7, s8, s9, s10, s11⟩
                                        go_simp
                                        with_reducible rfl
                                      rotate_left
                                      · simp only [Act.put, List.setIfInBounds_toArray, List.set_cons_zero, List.set_cons_succ, i64_w, i32_w]
                                        rfl
                                      refine take_ (i := 17) (N := some 61) (v := ?_) (a' := ?_) #[true, true, true, true, true, true, false, true, true, true, true, true, false, false, true, true, true, true, false, false, false, true, false, true, false, false, false, false, false, false] rfl rfl (take_ofW HT_.out HW_.out (by kernel_rfl)) (fun _ _ _ h => h) (Or.inl ⟨by rfl, ?_⟩) hHeld ?_ ?_
                                      rotate_left
                                      · rintro w' ⟨s0, s1, s2, s3, s4, s5, s6, s7, s8, s9, s10, s11⟩
                                        go_simp
                                        with_reducible rfl
                                      rotate_left
                                      · simp only [Act.put, List.setIfInBounds_toArray, List.set_cons_zero, List.set_cons_succ, i64_w, i32_w]
                                        rfl
                                      refine pure_ (i := 18) (N := some 62) (v := ?_) (a' := ?_) #[true, true, true, true, true, true, false, true, true, true, true, true, false, false, true, true, true, true, true, false, false, true, false, true, false, false, false, false, false, false] rfl rfl (any_of HT_.out (by kernel_rfl)) (fun _ _ _ h => h) (Or.inl ⟨by rfl, ?_⟩) ?_ ?_
                                      rotate_left
                                      · intro w'
                                        go_simp
                                        with_reducible rfl
                                      rotate_left
                                      · simp only [Act.put, List.setIfInBounds_toArray, List.set_cons_zero, List.set_cons_succ, i64_w, i32_w]
                                        rfl
                                      refine take_ (i := 22) (N := some 66) (v := ?_) (a' := ?_) #[true, true, true, true, true, true, false, true, true, true, true, true, false, false, true, true, true, true, true, false, false, true, true, true, false, false, false, false, false, false] rfl rfl (take_ofW HT_.out HW_.out (by kernel_rfl)) (fun _ _ _ h => h) (Or.inl ⟨by rfl, ?_⟩) hHeld ?_ ?_
                                      rotate_left
                                      · rintro w' ⟨s0, s1, s2, s3, s4, s5, s6, s7, s8, s9, s10, s11⟩
                                        go_simp
                                        with_reducible rfl
                                      rotate_left
                                      · simp only [Act.put, List.setIfInBounds_toArray, List.set_cons_zero, List.set_cons_succ, i64_w, i32_w]
                                        rfl
                                      refine take_ (i := 24) (N := some 68) (v := ?_) (a' := ?_) #[true, true, true, true, true, true, false, true, true, true, true, true, false, false, true, true, true, true, true, false, false, true, true, true, true, false, false, false, false, false] rfl rfl (take_ofW HT_.out HW_.out (by kernel_rfl)) (fun _ _ _ h => h) (Or.inl ⟨by rfl, ?_⟩) hHeld ?_ ?_
                                      rotate_left
                                      · rintro w' ⟨s0, s1, s2, s3, s4, s5, s6, s7, s8, s9, s10, s11⟩
                                        go_simp
                                        with_reducible rfl
                                      rotate_left
                                      · simp only [Act.put, List.setIfInBounds_toArray, List.set_cons_zero, List.set_cons_succ, i64_w, i32_w]
                                        rfl
                                      refine pure_ (i := 25) (N := some 69) (v := ?_) (a' := ?_) #[true, true, true, true, true, true, false, true, true, true, true, true, false, false, true, true, true, true, true, false, false, true, true, true, true, true, false, false, false, false] rfl rfl (any_of HT_.out (by kernel_rfl)) (fun _ _ _ h => h) (Or.inl ⟨by rfl, ?_⟩) ?_ ?_
                                      rotate_left
                                      · intro w'
                                        go_simp
                                        with_reducible rfl
                                      rotate_left
                                      · simp only [Act.put, List.setIfInBounds_toArray, List.set_cons_zero, List.set_cons_succ, i64_w, i32_w]
                                        rfl
                                      refine one_ (i := 6) (N := some 50) #[true, true, true, true, true, true, true, true, true, true, true, true, false, false, true, true, true, true, true, false, false, true, true, true, true, true, false, false, false, false] rfl rfl (one_of HT_.out (by kernel_rfl)) (by decide) (fun K hK => ?_)
                                      refine goes_ Try.func16 (by kernel_rfl) rfl #[.int .i64 (wrap64 (((rd_T27 l0 x10_1).f1) - x116001_2))] (by rfl) rfl rfl (by (try simp only [List.map_toArray, List.map_cons, List.map_nil]); first | done | rfl | (simp only [List.length_drop, List.length_take]; rfl)) ?_
                                      with_reducible refine (spec_VLQText.calls kj24 (wrap64 (((rd_T27 l0 x10_1).f1) - x116001_2)) t119 _ A28.out).mono ?_
                                      rintro e w' ⟨rfl, ⟨nd, rfl⟩⟩
                                      refine ⟨_, rfl, ?_⟩
                                      refine hK.out _ _ ⟨(blk_cell BK117.out 0).trans rfl, (blk_cell BK117.out 1).trans rfl, (blk_cell BK117.out 2).trans rfl, (blk_cell BK117.out 3).trans rfl, (blk_cell BK117.out 4).trans rfl, (blk_cell BK117.out 5).trans rfl, (blk_cell BK115.out 0).trans rfl, (blk_cell BK115.out 1).trans rfl, (blk_cell BK115.out 2).trans rfl, (blk_cell BK115.out 3).trans rfl, (blk_cell BK115.out 4).trans rfl, (blk_cell BK115.out 5).trans rfl⟩ (fun hHeld => ?_)
                                      clear hK K
                                      refine norm_ (a' := ?_) ?_ ?_
                                      rotate_left
                                      · show Act.put _ (some 50) _ = _
                                        simp only [Act.put, List.setIfInBounds_toArray, List.set_cons_zero, List.set_cons_succ, i64_w, i32_w]
                                        rfl
                                      refine one_ (i := 12) (N := some 56) #[true, true, true, true, true, true, true, true, true, true, true, true, true, false, true, true, true, true, true, false, false, true, true, true, true, true, false, false, false, false] rfl rfl (one_of HT_.out (by kernel_rfl)) (by decide) (fun K hK => ?_)
                                      refine goes_ Try.func16 (by kernel_rfl) rfl #[.int .i64 (wrap64 (((rd_T27 l0 x10_1).f2) - x116002_1))] (by rfl) rfl rfl (by (try simp only [List.map_toArray, List.map_cons, List.map_nil]); first | done | rfl | (simp only [List.length_drop, List.length_take]; rfl)) ?_
                                      with_reducible refine (spec_VLQText.calls kj24 (wrap64 (((rd_T27 l0 x10_1).f2) - x116002_1)) t120 _ A29.out).mono ?_
                                      rintro e w' ⟨rfl, ⟨nd, rfl⟩⟩
                                      refine ⟨_, rfl, ?_⟩
                                      refine hK.out _ _ ⟨(blk_cell BK117.out 0).trans rfl, (blk_cell BK117.out 1).trans rfl, (blk_cell BK117.out 2).trans rfl, (blk_cell BK117.out 3).trans rfl, (blk_cell BK117.out 4).trans rfl, (blk_cell BK117.out 5).trans rfl, (blk_cell BK115.out 0).trans rfl, (blk_cell BK115.out 1).trans rfl, (blk_cell BK115.out 2).trans rfl, (blk_cell BK115.out 3).trans rfl, (blk_cell BK115.out 4).trans rfl, (blk_cell BK115.out 5).trans rfl⟩ (fun hHeld => ?_)
                                      clear hK K
                                      refine norm_ (a' := ?_) ?_ ?_
                                      rotate_left
                                      · show Act.put _ (some 56) _ = _
                                        simp only [Act.put, List.setIfInBounds_toArray, List.set_cons_zero, List.set_cons_succ, i64_w, i32_w]
                                        rfl
                                      refine pure_ (i := 13) (N := some 57) (v := ?_) (a' := ?_) #[true, true, true, true, true, true, true, true, true, true, true, true, true, true, true, true, true, true, true, false, false, true, true, true, true, true, false, false, false, false] rfl rfl (any_of HT_.out (by kernel_rfl)) (fun _ _ _ h => h) (Or.inl ⟨by rfl, ?_⟩) ?_ ?_
                                      rotate_left
                                      · intro w'
                                        go_simp
                                        with_reducible rfl
                                      rotate_left
                                      · simp only [Act.put, List.setIfInBounds_toArray, List.set_cons_zero, List.set_cons_succ, i64_w, i32_w]
                                        rfl
                                      refine one_ (i := 19) (N := some 63) #[true, true, true, true, true, true, true, true, true, true, true, true, true, true, true, true, true, true, true, true, false, true, true, true, true, true, false, false, false, false] rfl rfl (one_of HT_.out (by kernel_rfl)) (by decide) (fun K hK => ?_)
                                      refine goes_ Try.func16 (by kernel_rfl) rfl #[.int .i64 (wrap64 (((rd_T27 l0 x10_1).f3) - x116003_1))] (by rfl) rfl rfl (by (try simp only [List.map_toArray, List.map_cons, List.map_nil]); first | done | rfl | (simp only [List.length_drop, List.length_take]; rfl)) ?_
                                      with_reducible refine (spec_VLQText.calls kj24 (wrap64 (((rd_T27 l0 x10_1).f3) - x116003_1)) t121 _ A31.out).mono ?_
                                      rintro e w' ⟨rfl, ⟨nd, rfl⟩⟩
                                      refine ⟨_, rfl, ?_⟩
                                      refine hK.out _ _ ⟨(blk_cell BK117.out 0).trans rfl, (blk_cell BK117.out 1).trans rfl, (blk_cell BK117.out 2).trans rfl, (blk_cell BK117.out 3).trans rfl, (blk_cell BK117.out 4).trans rfl, (blk_cell BK117.out 5).trans rfl, (blk_cell BK115.out 0).trans rfl, (blk_cell BK115.out 1).trans rfl, (blk_cell BK115.out 2).trans rfl, (blk_cell BK115.out 3).trans rfl, (blk_cell BK115.out 4).trans rfl, (blk_cell BK115.out 5).trans rfl⟩ (fun hHeld => ?_)
                                      clear hK K
                                      refine norm_ (a' := ?_) ?_ ?_
                                      rotate_left
                                      · show Act.put _ (some 63) _ = _
                                        simp only [Act.put, List.setIfInBounds_toArray, List.set_cons_zero, List.set_cons_succ, i64_w, i32_w]
                                        rfl
                                      refine pure_ (i := 20) (N := some 64) (v := ?_) (a' := ?_) #[true, true, true, true, true, true, true, true, true, true, true, true, true, true, true, true, true, true, true, true, true, true, true, true, true, true, false, false, false, false] rfl rfl (any_of HT_.out (by kernel_rfl)) (fun _ _ _ h => h) (Or.inl ⟨by rfl, ?_⟩) ?_ ?_
                                      rotate_left
                                      · intro w'
                                        go_simp
                                        with_reducible rfl
                                      rotate_left
                                      · simp only [Act.put, List.setIfInBounds_toArray, List.set_cons_zero, List.set_cons_succ, i64_w, i32_w]
                                        rfl
                                      refine one_ (i := 26) (N := some 70) #[true, true, true, true, true, true, true, true, true, true, true, true, true, true, true, true, true, true, true, true, true, true, true, true, true, true, true, false, false, false] rfl rfl (one_of HT_.out (by kernel_rfl)) (by decide) (fun K hK => ?_)
                                      refine goes_ Try.func16 (by kernel_rfl) rfl #[.int .i64 (wrap64 (((rd_T27 l0 x10_1).f4) - x116004_1))] (by rfl) rfl rfl (by (try simp only [List.map_toArray, List.map_cons, List.map_nil]); first | done | rfl | (simp only [List.length_drop, List.length_take]; rfl)) ?_
                                      with_reducible refine (spec_VLQText.calls kj24 (wrap64 (((rd_T27 l0 x10_1).f4) - x116004_1)) t122 _ A33.out).mono ?_
                                      rintro e w' ⟨rfl, ⟨nd, rfl⟩⟩
                                      refine ⟨_, rfl, ?_⟩
                                      refine hK.out _ _ ⟨(blk_cell BK117.out 0).trans rfl, (blk_cell BK117.out 1).trans rfl, (blk_cell BK117.out 2).trans rfl, (blk_cell BK117.out 3).trans rfl, (blk_cell BK117.out 4).trans rfl, (blk_cell BK117.out 5).trans rfl, (blk_cell BK115.out 0).trans rfl, (blk_cell BK115.out 1).trans rfl, (blk_cell BK115.out 2).trans rfl, (blk_cell BK115.out 3).trans rfl, (blk_cell BK115.out 4).trans rfl, (blk_cell BK115.out 5).trans rfl⟩ (fun hHeld => ?_)
                                      clear hK K
                                      refine norm_ (a' := ?_) ?_ ?_
                                      rotate_left
                                      · show Act.put _ (some 70) _ = _
                                        simp only [Act.put, List.setIfInBounds_toArray, List.set_cons_zero, List.set_cons_succ, i64_w, i32_w]
                                        rfl
                                      refine pure_ (i := 27) (N := some 71) (v := ?_) (a' := ?_) #[true, true, true, true, true, true, true, true, true, true, true, true, true, true, true, true, true, true, true, true, true, true, true, true, true, true, true, true, false, false] rfl rfl (any_of HT_.out (by kernel_rfl)) (fun _ _ _ h => h) (Or.inl ⟨by rfl, ?_⟩) ?_ ?_
                                      rotate_left
                                      · intro w'
                                        go_simp
                                        with_reducible rfl
                                      rotate_left
                                      · simp only [Act.put, List.setIfInBounds_toArray, List.set_cons_zero, List.set_cons_succ, i64_w, i32_w]
                                        rfl
                                      refine pure_ (i := 28) (N := some 72) (v := ?_) (a' := ?_) #[true, true, true, true, true, true, true, true, true, true, true, true, true, true, true, true, true, true, true, true, true, true, true, true, true, true, true, true, true, false] rfl rfl (any_of HT_.out (by kernel_rfl)) (fun _ _ _ h => h) (Or.inl ⟨by rfl, ?_⟩) ?_ ?_
                                      rotate_left
                                      · intro w'
                                        go_simp
                                        with_reducible rfl
                                      rotate_left
                                      · simp only [Act.put, List.setIfInBounds_toArray, List.set_cons_zero, List.set_cons_succ, i64_w, i32_w]
                                        rfl
                                      refine pure_ (i := 29) (N := some 3) (v := ?_) (a' := ?_) #[true, true, true, true, true, true, true, true, true, true, true, true, true, true, true, true, true, true, true, true, true, true, true, true, true, true, true, true, true, true] rfl rfl (any_of HT_.out (by kernel_rfl)) (fun _ _ _ h => h) (Or.inl ⟨by rfl, ?_⟩) ?_ ?_
                                      rotate_left
                                      · intro w'
                                        go_simp
                                        with_reducible rfl
                                      rotate_left
                                      · simp only [Act.put, List.setIfInBounds_toArray, List.set_cons_zero, List.set_cons_succ, i64_w, i32_w]
                                        rfl
                                      refine done_ (done_of HT_.out (by kernel_rfl)) ?_
                                      refine gen4 (fun w39 g1 g2 g3 g4 => ?_)
                                      have n0_ := (congrArg (fun h => h[gb115]?) g1).trans BK115.out
                                      have n1_ := (congrArg (fun h => h[gb117]?) g1).trans BK117.out
                                      have n2_ : Below w.heap.size w w39 := ⟨g2.trans HB.out.os, g3.trans HB.out.tape, g4.trans HB.out.output, by rw [g1]; exact HB.out.size, fun k hk => by rw [g1]; exact HB.out.block k hk⟩
                                      clear BK115 BK117 HB g1 g2 g3 g4
                                      have BK115 := Aside0.mk n0_
                                      have BK117 := Aside0.mk n1_
                                      have HB := Aside0.mk n2_
                                      clear n0_ n1_ n2_
                                      have hnb40 := NB117_115.out
                                      have hnc40 := NB115_117.out
                                      have hcz41_0 : w39.cell? ⟨gb117, 0, none⟩ = some (.int .i64 ((rd_T27 l0 x10_1).f0)) := (blk_cell BK117.out 0).trans rfl
                                      have hcz41_1 : w39.cell? ⟨gb117, 1, none⟩ = some (.int .i64 ((rd_T27 l0 x10_1).f1)) := (blk_cell BK117.out 1).trans rfl
                                      have hcz41_2 : w39.cell? ⟨gb117, 2, none⟩ = some (.int .i64 ((rd_T27 l0 x10_1).f2)) := (blk_cell BK117.out 2).trans rfl
                                      have hcz41_3 : w39.cell? ⟨gb117, 3, none⟩ = some (.int .i64 ((rd_T27 l0 x10_1).f3)) := (blk_cell BK117.out 3).trans rfl
                                      have hcz41_4 : w39.cell? ⟨gb117, 4, none⟩ = some (.int .i64 ((rd_T27 l0 x10_1).f4)) := (blk_cell BK117.out 4).trans rfl
                                      have hcz41_5 : w39.cell? ⟨gb117, 5, none⟩ = some (.int .i64 ((rd_T27 l0 x10_1).f5)) := (blk_cell BK117.out 5).trans rfl
                                      have hfz41_0 := blk_frozen BK117.out 0
                                      have hfz41_1 := blk_frozen BK117.out 1
                                      have hfz41_2 := blk_frozen BK117.out 2
                                      have hfz41_3 := blk_frozen BK117.out 3
                                      have hfz41_4 := blk_frozen BK117.out 4
                                      have hfz41_5 := blk_frozen BK117.out 5
                                      have hcz42_0 : w39.cell? ⟨gb115, 0, none⟩ = some (.int .i64 x116000_2) := (blk_cell BK115.out 0).trans rfl
                                      have hcz42_1 : w39.cell? ⟨gb115, 1, none⟩ = some (.int .i64 x116001_2) := (blk_cell BK115.out 1).trans rfl
                                      have hcz42_2 : w39.cell? ⟨gb115, 2, none⟩ = some (.int .i64 x116002_1) := (blk_cell BK115.out 2).trans rfl
                                      have hcz42_3 : w39.cell? ⟨gb115, 3, none⟩ = some (.int .i64 x116003_1) := (blk_cell BK115.out 3).trans rfl
                                      have hcz42_4 : w39.cell? ⟨gb115, 4, none⟩ = some (.int .i64 x116004_1) := (blk_cell BK115.out 4).trans rfl
                                      have hcz42_5 : w39.cell? ⟨gb115, 5, none⟩ = some (.int .i64 x116005_1) := (blk_cell BK115.out 5).trans rfl
                                      have hfz42_0 := blk_frozen BK115.out 0
                                      have hfz42_1 := blk_frozen BK115.out 1
                                      have hfz42_2 := blk_frozen BK115.out 2
                                      have hfz42_3 := blk_frozen BK115.out 3
                                      have hfz42_4 := blk_frozen BK115.out 4
                                      have hfz42_5 := blk_frozen BK115.out 5
                                      try go_wp2_with (first | ((with_reducible refine gate_callee (f := 16) rfl ?_); refine goesL_ (some 82) rfl rfl Try.func16 (by kernel_rfl) rfl #[.int .i64 (wrap64 (((rd_T27 l0 x10_1).f5) - x116005_1))] rfl (by (try simp only [List.map_toArray, List.map_cons, List.map_nil]); first | done | rfl | (simp only [List.length_drop, List.length_take]; rfl)) ?_; (with_reducible refine (spec_VLQText.calls kj24 (wrap64 (((rd_T27 l0 x10_1).f5) - x116005_1)) t123 _ A37.out).mono ?_); rintro e w' ⟨rfl, ⟨nd, rfl⟩⟩; refine ⟨_, rfl, ?_⟩; have n0_ := blk_drewN BK115.out nd; have n1_ := blk_drewN BK117.out nd; have n2_ := pw_below_drewN HB.out nd; clear BK115 BK117 HB; generalize w39.drewN nd = w39 at n0_ n1_ n2_ ⊢; have BK115 := Aside0.mk n0_; have BK117 := Aside0.mk n1_; have HB := Aside0.mk n2_; clear n0_ n1_ n2_; have hy1 : w39.cell? ⟨gb117, 5, none⟩ = some (.int .i64 ((rd_T27 l0 x10_1).f5)) := (blk_cell BK117.out 5).trans rfl; have hy2 : w39.cell? ⟨gb115, 5, none⟩ = some (.int .i64 x116005_1) := (blk_cell BK115.out 5).trans rfl; have hy3 := blk_frozen BK115.out 5))
                                      have n0_ : Aside0 ((w39.setCell ⟨gb115, 5, none⟩ (.int .i64 ((rd_T27 l0 x10_1).f5))).heap[gb115]? = some (.cells #[.int .i64 x116000_2, .int .i64 x116001_2, .int .i64 x116002_1, .int .i64 x116003_1, .int .i64 x116004_1, .int .i64 ((rd_T27 l0 x10_1).f5)] 32 (0, 0))) := ⟨by (with_reducible repeat (first | refine blk_drewN ?_ _ | refine blk_drew ?_ | refine blk_alloc ?_ _)); refine blk_put (cs := #[.int .i64 x116000_2, .int .i64 x116001_2, .int .i64 x116002_1, .int .i64 x116003_1, .int .i64 x116004_1, .int .i64 x116005_1]) ?_ 5 _ rfl; (with_reducible repeat (first | refine blk_drewN ?_ _ | refine blk_drew ?_ | refine blk_alloc ?_ _)); exact BK115.out⟩
                                      have n1_ : Aside0 ((w39.setCell ⟨gb115, 5, none⟩ (.int .i64 ((rd_T27 l0 x10_1).f5))).heap[gb117]? = some (.cells #[.int .i64 ((rd_T27 l0 x10_1).f0), .int .i64 ((rd_T27 l0 x10_1).f1), .int .i64 ((rd_T27 l0 x10_1).f2), .int .i64 ((rd_T27 l0 x10_1).f3), .int .i64 ((rd_T27 l0 x10_1).f4), .int .i64 ((rd_T27 l0 x10_1).f5)] 27 (0, 0))) := ⟨by (with_reducible repeat (first | refine blk_drewN ?_ _ | refine blk_drew ?_ | refine blk_alloc ?_ _)); refine blk_far ?_ NB117_115.out _; (with_reducible repeat (first | refine blk_drewN ?_ _ | refine blk_drew ?_ | refine blk_alloc ?_ _)); exact BK117.out⟩
                                      have n2_ : Aside0 (Below w.heap.size w (w39.setCell ⟨gb115, 5, none⟩ (.int .i64 ((rd_T27 l0 x10_1).f5)))) := ⟨by repeat (first | (with_reducible first | exact HB.out | apply below_alloc | apply pw_below_drewN | apply below_drew1 | refine below_set ?_ GE115.out | refine below_set ?_ GE117.out) | exact HB.out)⟩
                                      (try clear BK115)
                                      (try clear BK117)
                                      (try clear HB)
                                      generalize (w39.setCell ⟨gb115, 5, none⟩ (.int .i64 ((rd_T27 l0 x10_1).f5))) = w43 at n0_ n1_ n2_ ⊢
                                      have BK115 := n0_
                                      have BK117 := n1_
                                      have HB := n2_
                                      clear n0_ n1_ n2_
                                      have n0_ := Aside0.mk (blk_drew BK115.out)
                                      have n1_ := Aside0.mk (blk_drew BK117.out)
                                      have n2_ := Aside0.mk (below_drew1 HB.out)
                                      clear BK115
                                      clear BK117
                                      clear HB
                                      have BK115 := n0_
                                      have BK117 := n1_
                                      have HB := n2_
                                      clear n0_ n1_ n2_
                                      refine start_ (n := 16) (S := fun w' => w'.cell? ⟨gb117, 0, none⟩ = some (.int .i64 ((rd_T27 l0 x10_1).f0)) ∧ w'.cell? ⟨gb117, 1, none⟩ = some (.int .i64 ((rd_T27 l0 x10_1).f1)) ∧ w'.cell? ⟨gb117, 2, none⟩ = some (.int .i64 ((rd_T27 l0 x10_1).f2)) ∧ w'.cell? ⟨gb117, 3, none⟩ = some (.int .i64 ((rd_T27 l0 x10_1).f3)) ∧ w'.cell? ⟨gb117, 4, none⟩ = some (.int .i64 ((rd_T27 l0 x10_1).f4)) ∧ w'.cell? ⟨gb117, 5, none⟩ = some (.int .i64 ((rd_T27 l0 x10_1).f5))) (ds := []) #[false, false, false, false, false, false, false, false, false, false, false, false, false, false, false, false] (by kernel_rfl) rfl rfl ⟨(blk_cell BK117.out 0).trans rfl, (blk_cell BK117.out 1).trans rfl, (blk_cell BK117.out 2).trans rfl, (blk_cell BK117.out 3).trans rfl, (blk_cell BK117.out 4).trans rfl, (blk_cell BK117.out 5).trans rfl⟩ (fun hHeld => ?_); refine with_tabW spec_MappingsText.tab17 spec_MappingsText.bits17 (fun HT_ HW_ => ?_)
                                      generalize w43.drew = w44 at BK115 BK117 HB hHeld ⊢
                                      refine pure_ (i := 0) (N := some 87) (v := ?_) (a' := ?_) #[true, false, false, false, false, false, false, false, false, false, false, false, false, false, false, false] rfl rfl (any_of HT_.out (by kernel_rfl)) (fun _ _ _ h => h) (Or.inl ⟨by rfl, ?_⟩) ?_ ?_
                                      rotate_left
                                      · intro w'
                                        go_simp
                                        with_reducible rfl
                                      rotate_left
                                      · simp only [Act.put, List.setIfInBounds_toArray, List.set_cons_zero, List.set_cons_succ, i64_w, i32_w]
                                        rfl
                                      refine pure_ (i := 2) (N := some 89) (v := ?_) (a' := ?_) #[true, false, true, false, false, false, false, false, false, false, false, false, false, false, false, false] rfl rfl (any_of HT_.out (by kernel_rfl)) (fun _ _ _ h => h) (Or.inl ⟨by rfl, ?_⟩) ?_ ?_
                                      rotate_left
                                      · intro w'
                                        go_simp
                                        with_reducible rfl
                                      rotate_left
                                      · simp only [Act.put, List.setIfInBounds_toArray, List.set_cons_zero, List.set_cons_succ, i64_w, i32_w]
                                        rfl
                                      refine pure_ (i := 4) (N := some 91) (v := ?_) (a' := ?_) #[true, false, true, false, true, false, false, false, false, false, false, false, false, false, false, false] rfl rfl (any_of HT_.out (by kernel_rfl)) (fun _ _ _ h => h) (Or.inl ⟨by rfl, ?_⟩) ?_ ?_
                                      rotate_left
                                      · intro w'
                                        go_simp
                                        with_reducible rfl
                                      rotate_left
                                      · simp only [Act.put, List.setIfInBounds_toArray, List.set_cons_zero, List.set_cons_succ, i64_w, i32_w]
                                        rfl
                                      refine pure_ (i := 6) (N := some 93) (v := ?_) (a' := ?_) #[true, false, true, false, true, false, true, false, false, false, false, false, false, false, false, false] rfl rfl (any_of HT_.out (by kernel_rfl)) (fun _ _ _ h => h) (Or.inl ⟨by rfl, ?_⟩) ?_ ?_
                                      rotate_left
                                      · intro w'
                                        go_simp
                                        with_reducible rfl
                                      rotate_left
                                      · simp only [Act.put, List.setIfInBounds_toArray, List.set_cons_zero, List.set_cons_succ, i64_w, i32_w]
                                        rfl
                                      refine take_ (i := 1) (N := some 88) (v := ?_) (a' := ?_) #[true, true, true, false, true, false, true, false, false, false, false, false, false, false, false, false] rfl rfl (take_ofW HT_.out HW_.out (by kernel_rfl)) (fun _ _ _ h => h) (Or.inl ⟨by rfl, ?_⟩) hHeld ?_ ?_
                                      rotate_left
                                      · rintro w' ⟨s0, s1, s2, s3, s4, s5⟩
                                        go_simp
                                        with_reducible rfl
                                      rotate_left
                                      · simp only [Act.put, List.setIfInBounds_toArray, List.set_cons_zero, List.set_cons_succ, i64_w, i32_w]
                                        rfl
                                      refine pure_ (i := 8) (N := some 95) (v := ?_) (a' := ?_) #[true, true, true, false, true, false, true, false, true, false, false, false, false, false, false, false] rfl rfl (any_of HT_.out (by kernel_rfl)) (fun _ _ _ h => h) (Or.inl ⟨by rfl, ?_⟩) ?_ ?_
                                      rotate_left
                                      · intro w'
                                        go_simp
                                        with_reducible rfl
                                      rotate_left
                                      · simp only [Act.put, List.setIfInBounds_toArray, List.set_cons_zero, List.set_cons_succ, i64_w, i32_w]
                                        rfl
                                      refine take_ (i := 3) (N := some 90) (v := ?_) (a' := ?_) #[true, true, true, true, true, false, true, false, true, false, false, false, false, false, false, false] rfl rfl (take_ofW HT_.out HW_.out (by kernel_rfl)) (fun _ _ _ h => h) (Or.inl ⟨by rfl, ?_⟩) hHeld ?_ ?_
                                      rotate_left
                                      · rintro w' ⟨s0, s1, s2, s3, s4, s5⟩
                                        go_simp
                                        with_reducible rfl
                                      rotate_left
                                      · simp only [Act.put, List.setIfInBounds_toArray, List.set_cons_zero, List.set_cons_succ, i64_w, i32_w]
                                        rfl
                                      refine take_ (i := 5) (N := some 92) (v := ?_) (a' := ?_) #[true, true, true, true, true, true, true, false, true, false, false, false, false, false, false, false] rfl rfl (take_ofW HT_.out HW_.out (by kernel_rfl)) (fun _ _ _ h => h) (Or.inl ⟨by rfl, ?_⟩) hHeld ?_ ?_
                                      rotate_left
                                      · rintro w' ⟨s0, s1, s2, s3, s4, s5⟩
                                        go_simp
                                        with_reducible rfl
                                      rotate_left
                                      · simp only [Act.put, List.setIfInBounds_toArray, List.set_cons_zero, List.set_cons_succ, i64_w, i32_w]
                                        rfl
                                      refine take_ (i := 7) (N := some 94) (v := ?_) (a' := ?_) #[true, true, true, true, true, true, true, true, true, false, false, false, false, false, false, false] rfl rfl (take_ofW HT_.out HW_.out (by kernel_rfl)) (fun _ _ _ h => h) (Or.inl ⟨by rfl, ?_⟩) hHeld ?_ ?_
                                      rotate_left
                                      · rintro w' ⟨s0, s1, s2, s3, s4, s5⟩
                                        go_simp
                                        with_reducible rfl
                                      rotate_left
                                      · simp only [Act.put, List.setIfInBounds_toArray, List.set_cons_zero, List.set_cons_succ, i64_w, i32_w]
                                        rfl
                                      refine one_ (i := 9) (N := none) #[true, true, true, true, true, true, true, true, true, true, false, false, false, false, false, false] rfl rfl (one_of HT_.out (by kernel_rfl)) (by decide) (fun K hK => ?_)
                                      have hs45 : w44.cell? ⟨gb115, 1, none⟩ = some (.int .i64 x116001_2) := (blk_cell BK115.out 1).trans rfl
                                      have hfs45 := blk_frozen BK115.out 1
                                      have hns45_1 := NB117_115.out
                                      have hms45_1 := NB115_117.out
                                      refine skip_ (w1 := ?_) (by rfl) rfl ?_ ?_
                                      rotate_left
                                      · go_simp
                                        rfl
                                      refine hK.out _ _ ⟨((cell_far (p := ⟨gb115, _, none⟩) NB117_115.out _).trans (hHeld.1)), ((cell_far (p := ⟨gb115, _, none⟩) NB117_115.out _).trans (hHeld.2.1)), ((cell_far (p := ⟨gb115, _, none⟩) NB117_115.out _).trans (hHeld.2.2.1)), ((cell_far (p := ⟨gb115, _, none⟩) NB117_115.out _).trans (hHeld.2.2.2.1)), ((cell_far (p := ⟨gb115, _, none⟩) NB117_115.out _).trans (hHeld.2.2.2.2.1)), ((cell_far (p := ⟨gb115, _, none⟩) NB117_115.out _).trans (hHeld.2.2.2.2.2))⟩ (fun hHeld => ?_)
                                      clear hK K
                                      refine pure_ (i := 10) (N := some 96) (v := ?_) (a' := ?_) #[true, true, true, true, true, true, true, true, true, true, true, false, false, false, false, false] rfl rfl (any_of HT_.out (by kernel_rfl)) (fun _ _ _ h => h) (Or.inl ⟨by rfl, ?_⟩) ?_ ?_
                                      rotate_left
                                      · intro w'
                                        go_simp
                                        with_reducible rfl
                                      rotate_left
                                      · simp only [Act.put, List.setIfInBounds_toArray, List.set_cons_zero, List.set_cons_succ, i64_w, i32_w]
                                        rfl
                                      refine one_ (i := 11) (N := none) #[true, true, true, true, true, true, true, true, true, true, true, true, false, false, false, false] rfl rfl (one_of HT_.out (by kernel_rfl)) (by decide) (fun K hK => ?_)
                                      have hs46 : w44.cell? ⟨gb115, 2, none⟩ = some (.int .i64 x116002_1) := (blk_cell BK115.out 2).trans rfl
                                      have hfs46 := blk_frozen BK115.out 2
                                      have hns46_1 := NB117_115.out
                                      have hms46_1 := NB115_117.out
                                      refine skip_ (w1 := ?_) (by rfl) rfl ?_ ?_
                                      rotate_left
                                      · go_simp
                                        rfl
                                      refine hK.out _ _ ⟨((cell_far (p := ⟨gb115, _, none⟩) NB117_115.out _).trans (hHeld.1)), ((cell_far (p := ⟨gb115, _, none⟩) NB117_115.out _).trans (hHeld.2.1)), ((cell_far (p := ⟨gb115, _, none⟩) NB117_115.out _).trans (hHeld.2.2.1)), ((cell_far (p := ⟨gb115, _, none⟩) NB117_115.out _).trans (hHeld.2.2.2.1)), ((cell_far (p := ⟨gb115, _, none⟩) NB117_115.out _).trans (hHeld.2.2.2.2.1)), ((cell_far (p := ⟨gb115, _, none⟩) NB117_115.out _).trans (hHeld.2.2.2.2.2))⟩ (fun hHeld => ?_)
                                      clear hK K
                                      refine pure_ (i := 12) (N := some 97) (v := ?_) (a' := ?_) #[true, true, true, true, true, true, true, true, true, true, true, true, true, false, false, false] rfl rfl (any_of HT_.out (by kernel_rfl)) (fun _ _ _ h => h) (Or.inl ⟨by rfl, ?_⟩) ?_ ?_
                                      rotate_left
                                      · intro w'
                                        go_simp
                                        with_reducible rfl
                                      rotate_left
                                      · simp only [Act.put, List.setIfInBounds_toArray, List.set_cons_zero, List.set_cons_succ, i64_w, i32_w]
                                        rfl
                                      refine one_ (i := 13) (N := none) #[true, true, true, true, true, true, true, true, true, true, true, true, true, true, false, false] rfl rfl (one_of HT_.out (by kernel_rfl)) (by decide) (fun K hK => ?_)
                                      have hs47 : w44.cell? ⟨gb115, 3, none⟩ = some (.int .i64 x116003_1) := (blk_cell BK115.out 3).trans rfl
                                      have hfs47 := blk_frozen BK115.out 3
                                      have hns47_1 := NB117_115.out
                                      have hms47_1 := NB115_117.out
                                      refine skip_ (w1 := ?_) (by rfl) rfl ?_ ?_
                                      rotate_left
                                      · go_simp
                                        rfl
                                      refine hK.out _ _ ⟨((cell_far (p := ⟨gb115, _, none⟩) NB117_115.out _).trans (hHeld.1)), ((cell_far (p := ⟨gb115, _, none⟩) NB117_115.out _).trans (hHeld.2.1)), ((cell_far (p := ⟨gb115, _, none⟩) NB117_115.out _).trans (hHeld.2.2.1)), ((cell_far (p := ⟨gb115, _, none⟩) NB117_115.out _).trans (hHeld.2.2.2.1)), ((cell_far (p := ⟨gb115, _, none⟩) NB117_115.out _).trans (hHeld.2.2.2.2.1)), ((cell_far (p := ⟨gb115, _, none⟩) NB117_115.out _).trans (hHeld.2.2.2.2.2))⟩ (fun hHeld => ?_)
                                      clear hK K
                                      refine pure_ (i := 14) (N := some 98) (v := ?_) (a' := ?_) #[true, true, true, true, true, true, true, true, true, true, true, true, true, true, true, false] rfl rfl (any_of HT_.out (by kernel_rfl)) (fun _ _ _ h => h) (Or.inl ⟨by rfl, ?_⟩) ?_ ?_
                                      rotate_left
                                      · intro w'
                                        go_simp
                                        with_reducible rfl
                                      rotate_left
                                      · simp only [Act.put, List.setIfInBounds_toArray, List.set_cons_zero, List.set_cons_succ, i64_w, i32_w]
                                        rfl
                                      refine one_ (i := 15) (N := none) #[true, true, true, true, true, true, true, true, true, true, true, true, true, true, true, true] rfl rfl (one_of HT_.out (by kernel_rfl)) (by decide) (fun K hK => ?_)
                                      have hs48 : w44.cell? ⟨gb115, 4, none⟩ = some (.int .i64 x116004_1) := (blk_cell BK115.out 4).trans rfl
                                      have hfs48 := blk_frozen BK115.out 4
                                      have hns48_1 := NB117_115.out
                                      have hms48_1 := NB115_117.out
                                      refine skip_ (w1 := ?_) (by rfl) rfl ?_ ?_
                                      rotate_left
                                      · go_simp
                                        rfl
                                      refine hK.out _ _ ⟨((cell_far (p := ⟨gb115, _, none⟩) NB117_115.out _).trans (hHeld.1)), ((cell_far (p := ⟨gb115, _, none⟩) NB117_115.out _).trans (hHeld.2.1)), ((cell_far (p := ⟨gb115, _, none⟩) NB117_115.out _).trans (hHeld.2.2.1)), ((cell_far (p := ⟨gb115, _, none⟩) NB117_115.out _).trans (hHeld.2.2.2.1)), ((cell_far (p := ⟨gb115, _, none⟩) NB117_115.out _).trans (hHeld.2.2.2.2.1)), ((cell_far (p := ⟨gb115, _, none⟩) NB117_115.out _).trans (hHeld.2.2.2.2.2))⟩ (fun hHeld => ?_)
                                      clear hK K
                                      refine done_ (done_of HT_.out (by kernel_rfl)) ?_
                                      try go_wp2
                                      go_roundg kj24
                                      case measure => have := HK1.out; have := HK2.out; have := HJ14.out; have := HJ24.out; omega
                                      case rel => exact ⟨((x3_24 ++ (((t119 ++ t120) ++ t121) ++ t122)) ++ t123), (wrap64 (x10_1 + 1)), (x116000_2), (((rd_T27 l0 x10_1).f1)), (((rd_T27 l0 x10_1).f2)), (((rd_T27 l0 x10_1).f3)), (((rd_T27 l0 x10_1).f4)), (((rd_T27 l0 x10_1).f5)), (by first | rfl | (simp; done) | (simp [*]; done)), (by first | rfl | (simp; done) | (simp [*]; done)), H', ⟨by have := HK1.out; have := HK2.out; have := HJ14.out; have := HJ24.out; omega⟩, ⟨by (with_reducible repeat (first | refine blk_drewN ?_ _ | refine blk_drew ?_ | refine blk_alloc ?_ _)); refine blk_put (cs := #[.int .i64 x116000_2, .int .i64 ((rd_T27 l0 x10_1).f1), .int .i64 ((rd_T27 l0 x10_1).f2), .int .i64 ((rd_T27 l0 x10_1).f3), .int .i64 x116004_1, .int .i64 ((rd_T27 l0 x10_1).f5)]) ?_ 4 _ rfl; (with_reducible repeat (first | refine blk_drewN ?_ _ | refine blk_drew ?_ | refine blk_alloc ?_ _)); refine blk_put (cs := #[.int .i64 x116000_2, .int .i64 ((rd_T27 l0 x10_1).f1), .int .i64 ((rd_T27 l0 x10_1).f2), .int .i64 x116003_1, .int .i64 x116004_1, .int .i64 ((rd_T27 l0 x10_1).f5)]) ?_ 3 _ rfl; (with_reducible repeat (first | refine blk_drewN ?_ _ | refine blk_drew ?_ | refine blk_alloc ?_ _)); refine blk_put (cs := #[.int .i64 x116000_2, .int .i64 ((rd_T27 l0 x10_1).f1), .int .i64 x116002_1, .int .i64 x116003_1, .int .i64 x116004_1, .int .i64 ((rd_T27 l0 x10_1).f5)]) ?_ 2 _ rfl; (with_reducible repeat (first | refine blk_drewN ?_ _ | refine blk_drew ?_ | refine blk_alloc ?_ _)); refine blk_put (cs := #[.int .i64 x116000_2, .int .i64 x116001_2, .int .i64 x116002_1, .int .i64 x116003_1, .int .i64 x116004_1, .int .i64 ((rd_T27 l0 x10_1).f5)]) ?_ 1 _ rfl; (with_reducible repeat (first | refine blk_drewN ?_ _ | refine blk_drew ?_ | refine blk_alloc ?_ _)); exact BK115.out⟩, ⟨by repeat (first | (with_reducible first | exact HB.out | apply below_alloc | apply pw_below_drewN | apply below_drew1 | refine below_set ?_ GE115.out | refine below_set ?_ GE117.out) | exact HB.out)⟩⟩
                                    · rw [if_neg c38] at H
                                      exact absurd H (by simp)
                                  · rw [if_neg c36] at H
                                    have c36b0 : decide (0 ≤ ((rd_T27 l0 x10_1).f5)) = false := decide_eq_false c36
                                    clear c36
                                    have H' := Aside0.mk H
                                    clear H
                                    try go_wp2
                                    have n0_ := Aside0.mk (blk_drew BK115.out)
                                    have n1_ := Aside0.mk (blk_drew BK117.out)
                                    have n2_ := Aside0.mk (below_drew1 HB.out)
                                    clear BK115
                                    clear BK117
                                    clear HB
                                    have BK115 := n0_
                                    have BK117 := n1_
                                    have HB := n2_
                                    clear n0_ n1_ n2_
                                    refine start_ (n := 30) (S := fun w' => w'.cell? ⟨gb117, 0, none⟩ = some (.int .i64 ((rd_T27 l0 x10_1).f0)) ∧ w'.cell? ⟨gb117, 1, none⟩ = some (.int .i64 ((rd_T27 l0 x10_1).f1)) ∧ w'.cell? ⟨gb117, 2, none⟩ = some (.int .i64 ((rd_T27 l0 x10_1).f2)) ∧ w'.cell? ⟨gb117, 3, none⟩ = some (.int .i64 ((rd_T27 l0 x10_1).f3)) ∧ w'.cell? ⟨gb117, 4, none⟩ = some (.int .i64 ((rd_T27 l0 x10_1).f4)) ∧ w'.cell? ⟨gb117, 5, none⟩ = some (.int .i64 ((rd_T27 l0 x10_1).f5)) ∧ w'.cell? ⟨gb115, 0, none⟩ = some (.int .i64 x116000_2) ∧ w'.cell? ⟨gb115, 1, none⟩ = some (.int .i64 x116001_2) ∧ w'.cell? ⟨gb115, 2, none⟩ = some (.int .i64 x116002_1) ∧ w'.cell? ⟨gb115, 3, none⟩ = some (.int .i64 x116003_1) ∧ w'.cell? ⟨gb115, 4, none⟩ = some (.int .i64 x116004_1) ∧ w'.cell? ⟨gb115, 5, none⟩ = some (.int .i64 x116005_1)) (ds := []) #[false, false, false, false, false, false, false, false, false, false, false, false, false, false, false, false, false, false, false, false, false, false, false, false, false, false, false, false, false, false] (by kernel_rfl) rfl rfl ⟨(blk_cell BK117.out 0).trans rfl, (blk_cell BK117.out 1).trans rfl, (blk_cell BK117.out 2).trans rfl, (blk_cell BK117.out 3).trans rfl, (blk_cell BK117.out 4).trans rfl, (blk_cell BK117.out 5).trans rfl, (blk_cell BK115.out 0).trans rfl, (blk_cell BK115.out 1).trans rfl, (blk_cell BK115.out 2).trans rfl, (blk_cell BK115.out 3).trans rfl, (blk_cell BK115.out 4).trans rfl, (blk_cell BK115.out 5).trans rfl⟩ (fun hHeld => ?_); refine with_tabW spec_MappingsText.tab13 spec_MappingsText.bits13 (fun HT_ HW_ => ?_)
                                    generalize wc.drew = w49 at BK115 BK117 HB hHeld ⊢
                                    refine pure_ (i := 0) (N := some 44) (v := ?_) (a' := ?_) #[true, false, false, false, false, false, false, false, false, false, false, false, false, false, false, false, false, false, false, false, false, false, false, false, false, false, false, false, false, false] rfl rfl (any_of HT_.out (by kernel_rfl)) (fun _ _ _ h => h) (Or.inl ⟨by rfl, ?_⟩) ?_ ?_
                                    rotate_left
                                    · intro w'
                                      go_simp
                                      with_reducible rfl
                                    rotate_left
                                    · simp only [Act.put, List.setIfInBounds_toArray, List.set_cons_zero, List.set_cons_succ, i64_w, i32_w]
                                      rfl
                                    refine pure_ (i := 1) (N := some 45) (v := ?_) (a' := ?_) #[true, true, false, false, false, false, false, false, false, false, false, false, false, false, false, false, false, false, false, false, false, false, false, false, false, false, false, false, false, false] rfl rfl (any_of HT_.out (by kernel_rfl)) (fun _ _ _ h => h) (Or.inl ⟨by rfl, ?_⟩) ?_ ?_
                                    rotate_left
                                    · intro w'
                                      go_simp
                                      with_reducible rfl
                                    rotate_left
                                    · simp only [Act.put, List.setIfInBounds_toArray, List.set_cons_zero, List.set_cons_succ, i64_w, i32_w]
                                      rfl
                                    refine pure_ (i := 3) (N := some 47) (v := ?_) (a' := ?_) #[true, true, false, true, false, false, false, false, false, false, false, false, false, false, false, false, false, false, false, false, false, false, false, false, false, false, false, false, false, false] rfl rfl (any_of HT_.out (by kernel_rfl)) (fun _ _ _ h => h) (Or.inl ⟨by rfl, ?_⟩) ?_ ?_
                                    rotate_left
                                    · intro w'
                                      go_simp
                                      with_reducible rfl
                                    rotate_left
                                    · simp only [Act.put, List.setIfInBounds_toArray, List.set_cons_zero, List.set_cons_succ, i64_w, i32_w]
                                      rfl
                                    refine pure_ (i := 7) (N := some 51) (v := ?_) (a' := ?_) #[true, true, false, true, false, false, false, true, false, false, false, false, false, false, false, false, false, false, false, false, false, false, false, false, false, false, false, false, false, false] rfl rfl (any_of HT_.out (by kernel_rfl)) (fun _ _ _ h => h) (Or.inl ⟨by rfl, ?_⟩) ?_ ?_
                                    rotate_left
                                    · intro w'
                                      go_simp
                                      with_reducible rfl
                                    rotate_left
                                    · simp only [Act.put, List.setIfInBounds_toArray, List.set_cons_zero, List.set_cons_succ, i64_w, i32_w]
                                      rfl
                                    refine pure_ (i := 9) (N := some 53) (v := ?_) (a' := ?_) #[true, true, false, true, false, false, false, true, false, true, false, false, false, false, false, false, false, false, false, false, false, false, false, false, false, false, false, false, false, false] rfl rfl (any_of HT_.out (by kernel_rfl)) (fun _ _ _ h => h) (Or.inl ⟨by rfl, ?_⟩) ?_ ?_
                                    rotate_left
                                    · intro w'
                                      go_simp
                                      with_reducible rfl
                                    rotate_left
                                    · simp only [Act.put, List.setIfInBounds_toArray, List.set_cons_zero, List.set_cons_succ, i64_w, i32_w]
                                      rfl
                                    refine pure_ (i := 14) (N := some 58) (v := ?_) (a' := ?_) #[true, true, false, true, false, false, false, true, false, true, false, false, false, false, true, false, false, false, false, false, false, false, false, false, false, false, false, false, false, false] rfl rfl (any_of HT_.out (by kernel_rfl)) (fun _ _ _ h => h) (Or.inl ⟨by rfl, ?_⟩) ?_ ?_
                                    rotate_left
                                    · intro w'
                                      go_simp
                                      with_reducible rfl
                                    rotate_left
                                    · simp only [Act.put, List.setIfInBounds_toArray, List.set_cons_zero, List.set_cons_succ, i64_w, i32_w]
                                      rfl
                                    refine pure_ (i := 16) (N := some 60) (v := ?_) (a' := ?_) #[true, true, false, true, false, false, false, true, false, true, false, false, false, false, true, false, true, false, false, false, false, false, false, false, false, false, false, false, false, false] rfl rfl (any_of HT_.out (by kernel_rfl)) (fun _ _ _ h => h) (Or.inl ⟨by rfl, ?_⟩) ?_ ?_
                                    rotate_left
                                    · intro w'
                                      go_simp
                                      with_reducible rfl
                                    rotate_left
                                    · simp only [Act.put, List.setIfInBounds_toArray, List.set_cons_zero, List.set_cons_succ, i64_w, i32_w]
                                      rfl
                                    refine pure_ (i := 21) (N := some 65) (v := ?_) (a' := ?_) #[true, true, false, true, false, false, false, true, false, true, false, false, false, false, true, false, true, false, false, false, false, true, false, false, false, false, false, false, false, false] rfl rfl (any_of HT_.out (by kernel_rfl)) (fun _ _ _ h => h) (Or.inl ⟨by rfl, ?_⟩) ?_ ?_
                                    rotate_left
                                    · intro w'
                                      go_simp
                                      with_reducible rfl
                                    rotate_left
                                    · simp only [Act.put, List.setIfInBounds_toArray, List.set_cons_zero, List.set_cons_succ, i64_w, i32_w]
                                      rfl
                                    refine pure_ (i := 23) (N := some 67) (v := ?_) (a' := ?_) #[true, true, false, true, false, false, false, true, false, true, false, false, false, false, true, false, true, false, false, false, false, true, false, true, false, false, false, false, false, false] rfl rfl (any_of HT_.out (by kernel_rfl)) (fun _ _ _ h => h) (Or.inl ⟨by rfl, ?_⟩) ?_ ?_
                                    rotate_left
                                    · intro w'
                                      go_simp
                                      with_reducible rfl
                                    rotate_left
                                    · simp only [Act.put, List.setIfInBounds_toArray, List.set_cons_zero, List.set_cons_succ, i64_w, i32_w]
                                      rfl
                                    refine take_ (i := 2) (N := some 46) (v := ?_) (a' := ?_) #[true, true, true, true, false, false, false, true, false, true, false, false, false, false, true, false, true, false, false, false, false, true, false, true, false, false, false, false, false, false] rfl rfl (take_ofW HT_.out HW_.out (by kernel_rfl)) (fun _ _ _ h => h) (Or.inl ⟨by rfl, ?_⟩) hHeld ?_ ?_
                                    rotate_left
                                    · rintro w' ⟨s0, s1, s2, s3, s4, s5, s6, s7, s8, s9, s10, s11⟩
                                      go_simp
                                      with_reducible rfl
                                    rotate_left
                                    · simp only [Act.put, List.setIfInBounds_toArray, List.set_cons_zero, List.set_cons_succ, i64_w, i32_w]
                                      rfl
                                    refine take_ (i := 4) (N := some 48) (v := ?_) (a' := ?_) #[true, true, true, true, true, false, false, true, false, true, false, false, false, false, true, false, true, false, false, false, false, true, false, true, false, false, false, false, false, false] rfl rfl (take_ofW HT_.out HW_.out (by kernel_rfl)) (fun _ _ _ h => h) (Or.inl ⟨by rfl, ?_⟩) hHeld ?_ ?_
                                    rotate_left
                                    · rintro w' ⟨s0, s1, s2, s3, s4, s5, s6, s7, s8, s9, s10, s11⟩
                                      go_simp
                                      with_reducible rfl
                                    rotate_left
                                    · simp only [Act.put, List.setIfInBounds_toArray, List.set_cons_zero, List.set_cons_succ, i64_w, i32_w]
                                      rfl
                                    refine pure_ (i := 5) (N := some 49) (v := ?_) (a' := ?_) #[true, true, true, true, true, true, false, true, false, true, false, false, false, false, true, false, true, false, false, false, false, true, false, true, false, false, false, false, false, false] rfl rfl (any_of HT_.out (by kernel_rfl)) (fun _ _ _ h => h) (Or.inl ⟨by rfl, ?_⟩) ?_ ?_
                                    rotate_left
                                    · intro w'
                                      go_simp
                                      with_reducible rfl
                                    rotate_left
                                    · simp only [Act.put, List.setIfInBounds_toArray, List.set_cons_zero, List.set_cons_succ, i64_w, i32_w]
                                      rfl
                                    refine take_ (i := 8) (N := some 52) (v := ?_) (a' := ?_) #[true, true, true, true, true, true, false, true, true, true, false, false, false, false, true, false, true, false, false, false, false, true, false, true, false, false, false, false, false, false] rfl rfl (take_ofW HT_.out HW_.out (by kernel_rfl)) (fun _ _ _ h => h) (Or.inl ⟨by rfl, ?_⟩) hHeld ?_ ?_
                                    rotate_left
                                    · rintro w' ⟨s0, s1, s2, s3, s4, s5, s6, s7, s8, s9, s10, s11⟩
                                      go_simp
                                      with_reducible rfl
                                    rotate_left
                                    · simp only [Act.put, List.setIfInBounds_toArray, List.set_cons_zero, List.set_cons_succ, i64_w, i32_w]
                                      rfl
                                    refine take_ (i := 10) (N := some 54) (v := ?_) (a' := ?_) #[true, true, true, true, true, true, false, true, true, true, true, false, false, false, true, false, true, false, false, false, false, true, false, true, false, false, false, false, false, false] rfl rfl (take_ofW HT_.out HW_.out (by kernel_rfl)) (fun _ _ _ h => h) (Or.inl ⟨by rfl, ?_⟩) hHeld ?_ ?_
                                    rotate_left
                                    · rintro w' ⟨s0, s1, s2, s3, s4, s5, s6, s7, s8, s9, s10, s11⟩
                                      go_simp
                                      with_reducible rfl
                                    rotate_left
                                    · simp only [Act.put, List.setIfInBounds_toArray, List.set_cons_zero, List.set_cons_succ, i64_w, i32_w]
                                      rfl
                                    refine pure_ (i := 11) (N := some 55) (v := ?_) (a' := ?_) #[true, true, true, true, true, true, false, true, true, true, true, true, false, false, true, false, true, false, false, false, false, true, false, true, false, false, false, false, false, false] rfl rfl (any_of HT_.out (by kernel_rfl)) (fun _ _ _ h => h) (Or.inl ⟨by rfl, ?_⟩) ?_ ?_
                                    rotate_left
                                    · intro w'
                                      go_simp
                                      with_reducible rfl
                                    rotate_left
                                    · simp only [Act.put, List.setIfInBounds_toArray, List.set_cons_zero, List.set_cons_succ, i64_w, i32_w]
                                      rfl
                                    refine take_ (i := 15) (N := some 59) (v := ?_) (a' := ?_) #[true, true, true, true, true, true, false, true, true, true, true, true, false, false, true, true, true, false, false, false, false, true, false, true, false, false, false, false, false, false] rfl rfl (take_ofW HT_.out HW_.out (by kernel_rfl)) (fun _ _ _ h => h) (Or.inl ⟨by rfl, ?_⟩) hHeld ?_ ?_
                                    rotate_left
                                    · rintro w' ⟨s0, s1, s2, s3, s4, s5, s6, s7, s8, s9, s10, s11⟩
                                      go_simp
                                      with_reducible rfl
                                    rotate_left
                                    · simp only [Act.put, List.setIfInBounds_toArray, List.set_cons_zero, List.set_cons_succ, i64_w, i32_w]
                                      rfl
                                    refine take_ (i := 17) (N := some 61) (v := ?_) (a' := ?_) #[true, true, true, true, true, true, false, true, true, true, true, true, false, false, true, true, true, true, false, false, false, true, false, true, false, false, false, false, false, false] rfl rfl (take_ofW HT_.out HW_.out (by kernel_rfl)) (fun _ _ _ h => h) (Or.inl ⟨by rfl, ?_⟩) hHeld ?_ ?_
                                    rotate_left
                                    · rintro w' ⟨s0, s1, s2, s3, s4, s5, s6, s7, s8, s9, s10, s11⟩
                                      go_simp
                                      with_reducible rfl
                                    rotate_left
                                    · simp only [Act.put, List.setIfInBounds_toArray, List.set_cons_zero, List.set_cons_succ, i64_w, i32_w]
                                      rfl
                                    refine pure_ (i := 18) (N := some 62) (v := ?_) (a' := ?_) #[true, true, true, true, true, true, false, true, true, true, true, true, false, false, true, true, true, true, true, false, false, true, false, true, false, false, false, false, false, false] rfl rfl (any_of HT_.out (by kernel_rfl)) (fun _ _ _ h => h) (Or.inl ⟨by rfl, ?_⟩) ?_ ?_
                                    rotate_left
                                    · intro w'
                                      go_simp
                                      with_reducible rfl
                                    rotate_left
                                    · simp only [Act.put, List.setIfInBounds_toArray, List.set_cons_zero, List.set_cons_succ, i64_w, i32_w]
                                      rfl
                                    refine take_ (i := 22) (N := some 66) (v := ?_) (a' := ?_) #[true, true, true, true, true, true, false, true, true, true, true, true, false, false, true, true, true, true, true, false, false, true, true, true, false, false, false, false, false, false] rfl rfl (take_ofW HT_.out HW_.out (by kernel_rfl)) (fun _ _ _ h => h) (Or.inl ⟨by rfl, ?_⟩) hHeld ?_ ?_
                                    rotate_left
                                    · rintro w' ⟨s0, s1, s2, s3, s4, s5, s6, s7, s8, s9, s10, s11⟩
                                      go_simp
                                      with_reducible rfl
                                    rotate_left
                                    · simp only [Act.put, List.setIfInBounds_toArray, List.set_cons_zero, List.set_cons_succ, i64_w, i32_w]
                                      rfl
                                    refine take_ (i := 24) (N := some 68) (v := ?_) (a' := ?_) #[true, true, true, true, true, true, false, true, true, true, true, true, false, false, true, true, true, true, true, false, false, true, true, true, true, false, false, false, false, false] rfl rfl (take_ofW HT_.out HW_.out (by kernel_rfl)) (fun _ _ _ h => h) (Or.inl ⟨by rfl, ?_⟩) hHeld ?_ ?_
                                    rotate_left
                                    · rintro w' ⟨s0, s1, s2, s3, s4, s5, s6, s7, s8, s9, s10, s11⟩
                                      go_simp
                                      with_reducible rfl
                                    rotate_left
                                    · simp only [Act.put, List.setIfInBounds_toArray, List.set_cons_zero, List.set_cons_succ, i64_w, i32_w]
                                      rfl
                                    refine pure_ (i := 25) (N := some 69) (v := ?_) (a' := ?_) #[true, true, true, true, true, true, false, true, true, true, true, true, false, false, true, true, true, true, true, false, false, true, true, true, true, true, false, false, false, false] rfl rfl (any_of HT_.out (by kernel_rfl)) (fun _ _ _ h => h) (Or.inl ⟨by rfl, ?_⟩) ?_ ?_
                                    rotate_left
                                    · intro w'
                                      go_simp
                                      with_reducible rfl
                                    rotate_left
                                    · simp only [Act.put, List.setIfInBounds_toArray, List.set_cons_zero, List.set_cons_succ, i64_w, i32_w]
                                      rfl
                                    refine one_ (i := 6) (N := some 50) #[true, true, true, true, true, true, true, true, true, true, true, true, false, false, true, true, true, true, true, false, false, true, true, true, true, true, false, false, false, false] rfl rfl (one_of HT_.out (by kernel_rfl)) (by decide) (fun K hK => ?_)
                                    refine goes_ Try.func16 (by kernel_rfl) rfl #[.int .i64 (wrap64 (((rd_T27 l0 x10_1).f1) - x116001_2))] (by rfl) rfl rfl (by (try simp only [List.map_toArray, List.map_cons, List.map_nil]); first | done | rfl | (simp only [List.length_drop, List.length_take]; rfl)) ?_
                                    with_reducible refine (spec_VLQText.calls kj24 (wrap64 (((rd_T27 l0 x10_1).f1) - x116001_2)) t119 _ A28.out).mono ?_
                                    rintro e w' ⟨rfl, ⟨nd, rfl⟩⟩
                                    refine ⟨_, rfl, ?_⟩
                                    refine hK.out _ _ ⟨(blk_cell BK117.out 0).trans rfl, (blk_cell BK117.out 1).trans rfl, (blk_cell BK117.out 2).trans rfl, (blk_cell BK117.out 3).trans rfl, (blk_cell BK117.out 4).trans rfl, (blk_cell BK117.out 5).trans rfl, (blk_cell BK115.out 0).trans rfl, (blk_cell BK115.out 1).trans rfl, (blk_cell BK115.out 2).trans rfl, (blk_cell BK115.out 3).trans rfl, (blk_cell BK115.out 4).trans rfl, (blk_cell BK115.out 5).trans rfl⟩ (fun hHeld => ?_)
                                    clear hK K
                                    refine norm_ (a' := ?_) ?_ ?_
                                    rotate_left
                                    · show Act.put _ (some 50) _ = _
                                      simp only [Act.put, List.setIfInBounds_toArray, List.set_cons_zero, List.set_cons_succ, i64_w, i32_w]
                                      rfl
                                    refine one_ (i := 12) (N := some 56) #[true, true, true, true, true, true, true, true, true, true, true, true, true, false, true, true, true, true, true, false, false, true, true, true, true, true, false, false, false, false] rfl rfl (one_of HT_.out (by kernel_rfl)) (by decide) (fun K hK => ?_)
                                    refine goes_ Try.func16 (by kernel_rfl) rfl #[.int .i64 (wrap64 (((rd_T27 l0 x10_1).f2) - x116002_1))] (by rfl) rfl rfl (by (try simp only [List.map_toArray, List.map_cons, List.map_nil]); first | done | rfl | (simp only [List.length_drop, List.length_take]; rfl)) ?_
                                    with_reducible refine (spec_VLQText.calls kj24 (wrap64 (((rd_T27 l0 x10_1).f2) - x116002_1)) t120 _ A29.out).mono ?_
                                    rintro e w' ⟨rfl, ⟨nd, rfl⟩⟩
                                    refine ⟨_, rfl, ?_⟩
                                    refine hK.out _ _ ⟨(blk_cell BK117.out 0).trans rfl, (blk_cell BK117.out 1).trans rfl, (blk_cell BK117.out 2).trans rfl, (blk_cell BK117.out 3).trans rfl, (blk_cell BK117.out 4).trans rfl, (blk_cell BK117.out 5).trans rfl, (blk_cell BK115.out 0).trans rfl, (blk_cell BK115.out 1).trans rfl, (blk_cell BK115.out 2).trans rfl, (blk_cell BK115.out 3).trans rfl, (blk_cell BK115.out 4).trans rfl, (blk_cell BK115.out 5).trans rfl⟩ (fun hHeld => ?_)
                                    clear hK K
                                    refine norm_ (a' := ?_) ?_ ?_
                                    rotate_left
                                    · show Act.put _ (some 56) _ = _
                                      simp only [Act.put, List.setIfInBounds_toArray, List.set_cons_zero, List.set_cons_succ, i64_w, i32_w]
                                      rfl
                                    refine pure_ (i := 13) (N := some 57) (v := ?_) (a' := ?_) #[true, true, true, true, true, true, true, true, true, true, true, true, true, true, true, true, true, true, true, false, false, true, true, true, true, true, false, false, false, false] rfl rfl (any_of HT_.out (by kernel_rfl)) (fun _ _ _ h => h) (Or.inl ⟨by rfl, ?_⟩) ?_ ?_
                                    rotate_left
                                    · intro w'
                                      go_simp
                                      with_reducible rfl
                                    rotate_left
                                    · simp only [Act.put, List.setIfInBounds_toArray, List.set_cons_zero, List.set_cons_succ, i64_w, i32_w]
                                      rfl
                                    refine one_ (i := 19) (N := some 63) #[true, true, true, true, true, true, true, true, true, true, true, true, true, true, true, true, true, true, true, true, false, true, true, true, true, true, false, false, false, false] rfl rfl (one_of HT_.out (by kernel_rfl)) (by decide) (fun K hK => ?_)
                                    refine goes_ Try.func16 (by kernel_rfl) rfl #[.int .i64 (wrap64 (((rd_T27 l0 x10_1).f3) - x116003_1))] (by rfl) rfl rfl (by (try simp only [List.map_toArray, List.map_cons, List.map_nil]); first | done | rfl | (simp only [List.length_drop, List.length_take]; rfl)) ?_
                                    with_reducible refine (spec_VLQText.calls kj24 (wrap64 (((rd_T27 l0 x10_1).f3) - x116003_1)) t121 _ A31.out).mono ?_
                                    rintro e w' ⟨rfl, ⟨nd, rfl⟩⟩
                                    refine ⟨_, rfl, ?_⟩
                                    refine hK.out _ _ ⟨(blk_cell BK117.out 0).trans rfl, (blk_cell BK117.out 1).trans rfl, (blk_cell BK117.out 2).trans rfl, (blk_cell BK117.out 3).trans rfl, (blk_cell BK117.out 4).trans rfl, (blk_cell BK117.out 5).trans rfl, (blk_cell BK115.out 0).trans rfl, (blk_cell BK115.out 1).trans rfl, (blk_cell BK115.out 2).trans rfl, (blk_cell BK115.out 3).trans rfl, (blk_cell BK115.out 4).trans rfl, (blk_cell BK115.out 5).trans rfl⟩ (fun hHeld => ?_)
                                    clear hK K
                                    refine norm_ (a' := ?_) ?_ ?_
                                    rotate_left
                                    · show Act.put _ (some 63) _ = _
                                      simp only [Act.put, List.setIfInBounds_toArray, List.set_cons_zero, List.set_cons_succ, i64_w, i32_w]
                                      rfl
                                    refine pure_ (i := 20) (N := some 64) (v := ?_) (a' := ?_) #[true, true, true, true, true, true, true, true, true, true, true, true, true, true, true, true, true, true, true, true, true, true, true, true, true, true, false, false, false, false] rfl rfl (any_of HT_.out (by kernel_rfl)) (fun _ _ _ h => h) (Or.inl ⟨by rfl, ?_⟩) ?_ ?_
                                    rotate_left
                                    · intro w'
                                      go_simp
                                      with_reducible rfl
                                    rotate_left
                                    · simp only [Act.put, List.setIfInBounds_toArray, List.set_cons_zero, List.set_cons_succ, i64_w, i32_w]
                                      rfl
                                    refine one_ (i := 26) (N := some 70) #[true, true, true, true, true, true, true, true, true, true, true, true, true, true, true, true, true, true, true, true, true, true, true, true, true, true, true, false, false, false] rfl rfl (one_of HT_.out (by kernel_rfl)) (by decide) (fun K hK => ?_)
                                    refine goes_ Try.func16 (by kernel_rfl) rfl #[.int .i64 (wrap64 (((rd_T27 l0 x10_1).f4) - x116004_1))] (by rfl) rfl rfl (by (try simp only [List.map_toArray, List.map_cons, List.map_nil]); first | done | rfl | (simp only [List.length_drop, List.length_take]; rfl)) ?_
                                    with_reducible refine (spec_VLQText.calls kj24 (wrap64 (((rd_T27 l0 x10_1).f4) - x116004_1)) t122 _ A33.out).mono ?_
                                    rintro e w' ⟨rfl, ⟨nd, rfl⟩⟩
                                    refine ⟨_, rfl, ?_⟩
                                    refine hK.out _ _ ⟨(blk_cell BK117.out 0).trans rfl, (blk_cell BK117.out 1).trans rfl, (blk_cell BK117.out 2).trans rfl, (blk_cell BK117.out 3).trans rfl, (blk_cell BK117.out 4).trans rfl, (blk_cell BK117.out 5).trans rfl, (blk_cell BK115.out 0).trans rfl, (blk_cell BK115.out 1).trans rfl, (blk_cell BK115.out 2).trans rfl, (blk_cell BK115.out 3).trans rfl, (blk_cell BK115.out 4).trans rfl, (blk_cell BK115.out 5).trans rfl⟩ (fun hHeld => ?_)
                                    clear hK K
                                    refine norm_ (a' := ?_) ?_ ?_
                                    rotate_left
                                    · show Act.put _ (some 70) _ = _
                                      simp only [Act.put, List.setIfInBounds_toArray, List.set_cons_zero, List.set_cons_succ, i64_w, i32_w]
                                      rfl
                                    refine pure_ (i := 27) (N := some 71) (v := ?_) (a' := ?_) #[true, true, true, true, true, true, true, true, true, true, true, true, true, true, true, true, true, true, true, true, true, true, true, true, true, true, true, true, false, false] rfl rfl (any_of HT_.out (by kernel_rfl)) (fun _ _ _ h => h) (Or.inl ⟨by rfl, ?_⟩) ?_ ?_
                                    rotate_left
                                    · intro w'
                                      go_simp
                                      with_reducible rfl
                                    rotate_left
                                    · simp only [Act.put, List.setIfInBounds_toArray, List.set_cons_zero, List.set_cons_succ, i64_w, i32_w]
                                      rfl
                                    refine pure_ (i := 28) (N := some 72) (v := ?_) (a' := ?_) #[true, true, true, true, true, true, true, true, true, true, true, true, true, true, true, true, true, true, true, true, true, true, true, true, true, true, true, true, true, false] rfl rfl (any_of HT_.out (by kernel_rfl)) (fun _ _ _ h => h) (Or.inl ⟨by rfl, ?_⟩) ?_ ?_
                                    rotate_left
                                    · intro w'
                                      go_simp
                                      with_reducible rfl
                                    rotate_left
                                    · simp only [Act.put, List.setIfInBounds_toArray, List.set_cons_zero, List.set_cons_succ, i64_w, i32_w]
                                      rfl
                                    refine pure_ (i := 29) (N := some 3) (v := ?_) (a' := ?_) #[true, true, true, true, true, true, true, true, true, true, true, true, true, true, true, true, true, true, true, true, true, true, true, true, true, true, true, true, true, true] rfl rfl (any_of HT_.out (by kernel_rfl)) (fun _ _ _ h => h) (Or.inl ⟨by rfl, ?_⟩) ?_ ?_
                                    rotate_left
                                    · intro w'
                                      go_simp
                                      with_reducible rfl
                                    rotate_left
                                    · simp only [Act.put, List.setIfInBounds_toArray, List.set_cons_zero, List.set_cons_succ, i64_w, i32_w]
                                      rfl
                                    refine done_ (done_of HT_.out (by kernel_rfl)) ?_
                                    have hnb50 := NB117_115.out
                                    have hnc50 := NB115_117.out
                                    have hcz51_0 : w49.cell? ⟨gb117, 0, none⟩ = some (.int .i64 ((rd_T27 l0 x10_1).f0)) := (blk_cell BK117.out 0).trans rfl
                                    have hcz51_1 : w49.cell? ⟨gb117, 1, none⟩ = some (.int .i64 ((rd_T27 l0 x10_1).f1)) := (blk_cell BK117.out 1).trans rfl
                                    have hcz51_2 : w49.cell? ⟨gb117, 2, none⟩ = some (.int .i64 ((rd_T27 l0 x10_1).f2)) := (blk_cell BK117.out 2).trans rfl
                                    have hcz51_3 : w49.cell? ⟨gb117, 3, none⟩ = some (.int .i64 ((rd_T27 l0 x10_1).f3)) := (blk_cell BK117.out 3).trans rfl
                                    have hcz51_4 : w49.cell? ⟨gb117, 4, none⟩ = some (.int .i64 ((rd_T27 l0 x10_1).f4)) := (blk_cell BK117.out 4).trans rfl
                                    have hcz51_5 : w49.cell? ⟨gb117, 5, none⟩ = some (.int .i64 ((rd_T27 l0 x10_1).f5)) := (blk_cell BK117.out 5).trans rfl
                                    have hfz51_0 := blk_frozen BK117.out 0
                                    have hfz51_1 := blk_frozen BK117.out 1
                                    have hfz51_2 := blk_frozen BK117.out 2
                                    have hfz51_3 := blk_frozen BK117.out 3
                                    have hfz51_4 := blk_frozen BK117.out 4
                                    have hfz51_5 := blk_frozen BK117.out 5
                                    try go_wp2
                                    (try (rw [drewN_self w49]; generalize hq_ : World.drewN w49 _ = w49; have n0_ : Aside0 (w49.heap[gb115]? = some (.cells #[.int .i64 x116000_2, .int .i64 x116001_2, .int .i64 x116002_1, .int .i64 x116003_1, .int .i64 x116004_1, .int .i64 x116005_1] 32 (0, 0))) := ⟨by rw [← hq_]; exact (by (with_reducible repeat (first | refine blk_drewN ?_ _ | refine blk_drew ?_ | refine blk_alloc ?_ _)); exact BK115.out)⟩; have n1_ : Aside0 (w49.heap[gb117]? = some (.cells #[.int .i64 ((rd_T27 l0 x10_1).f0), .int .i64 ((rd_T27 l0 x10_1).f1), .int .i64 ((rd_T27 l0 x10_1).f2), .int .i64 ((rd_T27 l0 x10_1).f3), .int .i64 ((rd_T27 l0 x10_1).f4), .int .i64 ((rd_T27 l0 x10_1).f5)] 27 (0, 0))) := ⟨by rw [← hq_]; exact (by (with_reducible repeat (first | refine blk_drewN ?_ _ | refine blk_drew ?_ | refine blk_alloc ?_ _)); exact BK117.out)⟩; have n2_ : Aside0 (Below w.heap.size w w49) := ⟨by rw [← hq_]; exact (by repeat (first | (with_reducible first | exact HB.out | apply below_alloc | apply pw_below_drewN | apply below_drew1 | refine below_set ?_ GE115.out | refine below_set ?_ GE117.out) | exact HB.out))⟩; clear BK115 BK117 HB hq_; have BK115 := n0_; have BK117 := n1_; have HB := n2_; clear n0_ n1_ n2_))
                                    have n0_ := Aside0.mk (blk_drew BK115.out)
                                    have n1_ := Aside0.mk (blk_drew BK117.out)
                                    have n2_ := Aside0.mk (below_drew1 HB.out)
                                    clear BK115
                                    clear BK117
                                    clear HB
                                    have BK115 := n0_
                                    have BK117 := n1_
                                    have HB := n2_
                                    clear n0_ n1_ n2_
                                    refine start_ (n := 16) (S := fun w' => w'.cell? ⟨gb117, 0, none⟩ = some (.int .i64 ((rd_T27 l0 x10_1).f0)) ∧ w'.cell? ⟨gb117, 1, none⟩ = some (.int .i64 ((rd_T27 l0 x10_1).f1)) ∧ w'.cell? ⟨gb117, 2, none⟩ = some (.int .i64 ((rd_T27 l0 x10_1).f2)) ∧ w'.cell? ⟨gb117, 3, none⟩ = some (.int .i64 ((rd_T27 l0 x10_1).f3)) ∧ w'.cell? ⟨gb117, 4, none⟩ = some (.int .i64 ((rd_T27 l0 x10_1).f4)) ∧ w'.cell? ⟨gb117, 5, none⟩ = some (.int .i64 ((rd_T27 l0 x10_1).f5))) (ds := []) #[false, false, false, false, false, false, false, false, false, false, false, false, false, false, false, false] (by kernel_rfl) rfl rfl ⟨(blk_cell BK117.out 0).trans rfl, (blk_cell BK117.out 1).trans rfl, (blk_cell BK117.out 2).trans rfl, (blk_cell BK117.out 3).trans rfl, (blk_cell BK117.out 4).trans rfl, (blk_cell BK117.out 5).trans rfl⟩ (fun hHeld => ?_); refine with_tabW spec_MappingsText.tab17 spec_MappingsText.bits17 (fun HT_ HW_ => ?_)
                                    generalize w49.drew = w52 at BK115 BK117 HB hHeld ⊢
                                    refine pure_ (i := 0) (N := some 87) (v := ?_) (a' := ?_) #[true, false, false, false, false, false, false, false, false, false, false, false, false, false, false, false] rfl rfl (any_of HT_.out (by kernel_rfl)) (fun _ _ _ h => h) (Or.inl ⟨by rfl, ?_⟩) ?_ ?_
                                    rotate_left
                                    · intro w'
                                      go_simp
                                      with_reducible rfl
                                    rotate_left
                                    · simp only [Act.put, List.setIfInBounds_toArray, List.set_cons_zero, List.set_cons_succ, i64_w, i32_w]
                                      rfl
                                    refine pure_ (i := 2) (N := some 89) (v := ?_) (a' := ?_) #[true, false, true, false, false, false, false, false, false, false, false, false, false, false, false, false] rfl rfl (any_of HT_.out (by kernel_rfl)) (fun _ _ _ h => h) (Or.inl ⟨by rfl, ?_⟩) ?_ ?_
                                    rotate_left
                                    · intro w'
                                      go_simp
                                      with_reducible rfl
                                    rotate_left
                                    · simp only [Act.put, List.setIfInBounds_toArray, List.set_cons_zero, List.set_cons_succ, i64_w, i32_w]
                                      rfl
                                    refine pure_ (i := 4) (N := some 91) (v := ?_) (a' := ?_) #[true, false, true, false, true, false, false, false, false, false, false, false, false, false, false, false] rfl rfl (any_of HT_.out (by kernel_rfl)) (fun _ _ _ h => h) (Or.inl ⟨by rfl, ?_⟩) ?_ ?_
                                    rotate_left
                                    · intro w'
                                      go_simp
                                      with_reducible rfl
                                    rotate_left
                                    · simp only [Act.put, List.setIfInBounds_toArray, List.set_cons_zero, List.set_cons_succ, i64_w, i32_w]
                                      rfl
                                    refine pure_ (i := 6) (N := some 93) (v := ?_) (a' := ?_) #[true, false, true, false, true, false, true, false, false, false, false, false, false, false, false, false] rfl rfl (any_of HT_.out (by kernel_rfl)) (fun _ _ _ h => h) (Or.inl ⟨by rfl, ?_⟩) ?_ ?_
                                    rotate_left
                                    · intro w'
                                      go_simp
                                      with_reducible rfl
                                    rotate_left
                                    · simp only [Act.put, List.setIfInBounds_toArray, List.set_cons_zero, List.set_cons_succ, i64_w, i32_w]
                                      rfl
                                    refine take_ (i := 1) (N := some 88) (v := ?_) (a' := ?_) #[true, true, true, false, true, false, true, false, false, false, false, false, false, false, false, false] rfl rfl (take_ofW HT_.out HW_.out (by kernel_rfl)) (fun _ _ _ h => h) (Or.inl ⟨by rfl, ?_⟩) hHeld ?_ ?_
                                    rotate_left
                                    · rintro w' ⟨s0, s1, s2, s3, s4, s5⟩
                                      go_simp
                                      with_reducible rfl
                                    rotate_left
                                    · simp only [Act.put, List.setIfInBounds_toArray, List.set_cons_zero, List.set_cons_succ, i64_w, i32_w]
                                      rfl
                                    refine pure_ (i := 8) (N := some 95) (v := ?_) (a' := ?_) #[true, true, true, false, true, false, true, false, true, false, false, false, false, false, false, false] rfl rfl (any_of HT_.out (by kernel_rfl)) (fun _ _ _ h => h) (Or.inl ⟨by rfl, ?_⟩) ?_ ?_
                                    rotate_left
                                    · intro w'
                                      go_simp
                                      with_reducible rfl
                                    rotate_left
                                    · simp only [Act.put, List.setIfInBounds_toArray, List.set_cons_zero, List.set_cons_succ, i64_w, i32_w]
                                      rfl
                                    refine take_ (i := 3) (N := some 90) (v := ?_) (a' := ?_) #[true, true, true, true, true, false, true, false, true, false, false, false, false, false, false, false] rfl rfl (take_ofW HT_.out HW_.out (by kernel_rfl)) (fun _ _ _ h => h) (Or.inl ⟨by rfl, ?_⟩) hHeld ?_ ?_
                                    rotate_left
                                    · rintro w' ⟨s0, s1, s2, s3, s4, s5⟩
                                      go_simp
                                      with_reducible rfl
                                    rotate_left
                                    · simp only [Act.put, List.setIfInBounds_toArray, List.set_cons_zero, List.set_cons_succ, i64_w, i32_w]
                                      rfl
                                    refine take_ (i := 5) (N := some 92) (v := ?_) (a' := ?_) #[true, true, true, true, true, true, true, false, true, false, false, false, false, false, false, false] rfl rfl (take_ofW HT_.out HW_.out (by kernel_rfl)) (fun _ _ _ h => h) (Or.inl ⟨by rfl, ?_⟩) hHeld ?_ ?_
                                    rotate_left
                                    · rintro w' ⟨s0, s1, s2, s3, s4, s5⟩
                                      go_simp
                                      with_reducible rfl
                                    rotate_left
                                    · simp only [Act.put, List.setIfInBounds_toArray, List.set_cons_zero, List.set_cons_succ, i64_w, i32_w]
                                      rfl
                                    refine take_ (i := 7) (N := some 94) (v := ?_) (a' := ?_) #[true, true, true, true, true, true, true, true, true, false, false, false, false, false, false, false] rfl rfl (take_ofW HT_.out HW_.out (by kernel_rfl)) (fun _ _ _ h => h) (Or.inl ⟨by rfl, ?_⟩) hHeld ?_ ?_
                                    rotate_left
                                    · rintro w' ⟨s0, s1, s2, s3, s4, s5⟩
                                      go_simp
                                      with_reducible rfl
                                    rotate_left
                                    · simp only [Act.put, List.setIfInBounds_toArray, List.set_cons_zero, List.set_cons_succ, i64_w, i32_w]
                                      rfl
                                    refine one_ (i := 9) (N := none) #[true, true, true, true, true, true, true, true, true, true, false, false, false, false, false, false] rfl rfl (one_of HT_.out (by kernel_rfl)) (by decide) (fun K hK => ?_)
                                    have hs53 : w52.cell? ⟨gb115, 1, none⟩ = some (.int .i64 x116001_2) := (blk_cell BK115.out 1).trans rfl
                                    have hfs53 := blk_frozen BK115.out 1
                                    have hns53_1 := NB117_115.out
                                    have hms53_1 := NB115_117.out
                                    refine skip_ (w1 := ?_) (by rfl) rfl ?_ ?_
                                    rotate_left
                                    · go_simp
                                      rfl
                                    refine hK.out _ _ ⟨((cell_far (p := ⟨gb115, _, none⟩) NB117_115.out _).trans (hHeld.1)), ((cell_far (p := ⟨gb115, _, none⟩) NB117_115.out _).trans (hHeld.2.1)), ((cell_far (p := ⟨gb115, _, none⟩) NB117_115.out _).trans (hHeld.2.2.1)), ((cell_far (p := ⟨gb115, _, none⟩) NB117_115.out _).trans (hHeld.2.2.2.1)), ((cell_far (p := ⟨gb115, _, none⟩) NB117_115.out _).trans (hHeld.2.2.2.2.1)), ((cell_far (p := ⟨gb115, _, none⟩) NB117_115.out _).trans (hHeld.2.2.2.2.2))⟩ (fun hHeld => ?_)
                                    clear hK K
                                    refine pure_ (i := 10) (N := some 96) (v := ?_) (a' := ?_) #[true, true, true, true, true, true, true, true, true, true, true, false, false, false, false, false] rfl rfl (any_of HT_.out (by kernel_rfl)) (fun _ _ _ h => h) (Or.inl ⟨by rfl, ?_⟩) ?_ ?_
                                    rotate_left
                                    · intro w'
                                      go_simp
                                      with_reducible rfl
                                    rotate_left
                                    · simp only [Act.put, List.setIfInBounds_toArray, List.set_cons_zero, List.set_cons_succ, i64_w, i32_w]
                                      rfl
                                    refine one_ (i := 11) (N := none) #[true, true, true, true, true, true, true, true, true, true, true, true, false, false, false, false] rfl rfl (one_of HT_.out (by kernel_rfl)) (by decide) (fun K hK => ?_)
                                    have hs54 : w52.cell? ⟨gb115, 2, none⟩ = some (.int .i64 x116002_1) := (blk_cell BK115.out 2).trans rfl
                                    have hfs54 := blk_frozen BK115.out 2
                                    have hns54_1 := NB117_115.out
                                    have hms54_1 := NB115_117.out
                                    refine skip_ (w1 := ?_) (by rfl) rfl ?_ ?_
                                    rotate_left
                                    · go_simp
                                      rfl
                                    refine hK.out _ _ ⟨((cell_far (p := ⟨gb115, _, none⟩) NB117_115.out _).trans (hHeld.1)), ((cell_far (p := ⟨gb115, _, none⟩) NB117_115.out _).trans (hHeld.2.1)), ((cell_far (p := ⟨gb115, _, none⟩) NB117_115.out _).trans (hHeld.2.2.1)), ((cell_far (p := ⟨gb115, _, none⟩) NB117_115.out _).trans (hHeld.2.2.2.1)), ((cell_far (p := ⟨gb115, _, none⟩) NB117_115.out _).trans (hHeld.2.2.2.2.1)), ((cell_far (p := ⟨gb115, _, none⟩) NB117_115.out _).trans (hHeld.2.2.2.2.2))⟩ (fun hHeld => ?_)
                                    clear hK K
                                    refine pure_ (i := 12) (N := some 97) (v := ?_) (a' := ?_) #[true, true, true, true, true, true, true, true, true, true, true, true, true, false, false, false] rfl rfl (any_of HT_.out (by kernel_rfl)) (fun _ _ _ h => h) (Or.inl ⟨by rfl, ?_⟩) ?_ ?_
                                    rotate_left
                                    · intro w'
                                      go_simp
                                      with_reducible rfl
                                    rotate_left
                                    · simp only [Act.put, List.setIfInBounds_toArray, List.set_cons_zero, List.set_cons_succ, i64_w, i32_w]
                                      rfl
                                    refine one_ (i := 13) (N := none) #[true, true, true, true, true, true, true, true, true, true, true, true, true, true, false, false] rfl rfl (one_of HT_.out (by kernel_rfl)) (by decide) (fun K hK => ?_)
                                    have hs55 : w52.cell? ⟨gb115, 3, none⟩ = some (.int .i64 x116003_1) := (blk_cell BK115.out 3).trans rfl
                                    have hfs55 := blk_frozen BK115.out 3
                                    have hns55_1 := NB117_115.out
                                    have hms55_1 := NB115_117.out
                                    refine skip_ (w1 := ?_) (by rfl) rfl ?_ ?_
                                    rotate_left
                                    · go_simp
                                      rfl
                                    refine hK.out _ _ ⟨((cell_far (p := ⟨gb115, _, none⟩) NB117_115.out _).trans (hHeld.1)), ((cell_far (p := ⟨gb115, _, none⟩) NB117_115.out _).trans (hHeld.2.1)), ((cell_far (p := ⟨gb115, _, none⟩) NB117_115.out _).trans (hHeld.2.2.1)), ((cell_far (p := ⟨gb115, _, none⟩) NB117_115.out _).trans (hHeld.2.2.2.1)), ((cell_far (p := ⟨gb115, _, none⟩) NB117_115.out _).trans (hHeld.2.2.2.2.1)), ((cell_far (p := ⟨gb115, _, none⟩) NB117_115.out _).trans (hHeld.2.2.2.2.2))⟩ (fun hHeld => ?_)
                                    clear hK K
                                    refine pure_ (i := 14) (N := some 98) (v := ?_) (a' := ?_) #[true, true, true, true, true, true, true, true, true, true, true, true, true, true, true, false] rfl rfl (any_of HT_.out (by kernel_rfl)) (fun _ _ _ h => h) (Or.inl ⟨by rfl, ?_⟩) ?_ ?_
                                    rotate_left
                                    · intro w'
                                      go_simp
                                      with_reducible rfl
                                    rotate_left
                                    · simp only [Act.put, List.setIfInBounds_toArray, List.set_cons_zero, List.set_cons_succ, i64_w, i32_w]
                                      rfl
                                    refine one_ (i := 15) (N := none) #[true, true, true, true, true, true, true, true, true, true, true, true, true, true, true, true] rfl rfl (one_of HT_.out (by kernel_rfl)) (by decide) (fun K hK => ?_)
                                    have hs56 : w52.cell? ⟨gb115, 4, none⟩ = some (.int .i64 x116004_1) := (blk_cell BK115.out 4).trans rfl
                                    have hfs56 := blk_frozen BK115.out 4
                                    have hns56_1 := NB117_115.out
                                    have hms56_1 := NB115_117.out
                                    refine skip_ (w1 := ?_) (by rfl) rfl ?_ ?_
                                    rotate_left
                                    · go_simp
                                      rfl
                                    refine hK.out _ _ ⟨((cell_far (p := ⟨gb115, _, none⟩) NB117_115.out _).trans (hHeld.1)), ((cell_far (p := ⟨gb115, _, none⟩) NB117_115.out _).trans (hHeld.2.1)), ((cell_far (p := ⟨gb115, _, none⟩) NB117_115.out _).trans (hHeld.2.2.1)), ((cell_far (p := ⟨gb115, _, none⟩) NB117_115.out _).trans (hHeld.2.2.2.1)), ((cell_far (p := ⟨gb115, _, none⟩) NB117_115.out _).trans (hHeld.2.2.2.2.1)), ((cell_far (p := ⟨gb115, _, none⟩) NB117_115.out _).trans (hHeld.2.2.2.2.2))⟩ (fun hHeld => ?_)
                                    clear hK K
                                    refine done_ (done_of HT_.out (by kernel_rfl)) ?_
                                    try go_wp2
                                    go_roundg kj24
                                    case measure => have := HK1.out; have := HK2.out; have := HJ14.out; have := HJ24.out; omega
                                    case rel => exact ⟨(x3_24 ++ (((t119 ++ t120) ++ t121) ++ t122)), (wrap64 (x10_1 + 1)), (x116000_2), (((rd_T27 l0 x10_1).f1)), (((rd_T27 l0 x10_1).f2)), (((rd_T27 l0 x10_1).f3)), (((rd_T27 l0 x10_1).f4)), (x116005_1), (by first | rfl | (simp; done) | (simp [*]; done)), (by first | rfl | (simp; done) | (simp [*]; done)), H', ⟨by have := HK1.out; have := HK2.out; have := HJ14.out; have := HJ24.out; omega⟩, ⟨by (with_reducible repeat (first | refine blk_drewN ?_ _ | refine blk_drew ?_ | refine blk_alloc ?_ _)); refine blk_put (cs := #[.int .i64 x116000_2, .int .i64 ((rd_T27 l0 x10_1).f1), .int .i64 ((rd_T27 l0 x10_1).f2), .int .i64 ((rd_T27 l0 x10_1).f3), .int .i64 x116004_1, .int .i64 x116005_1]) ?_ 4 _ rfl; (with_reducible repeat (first | refine blk_drewN ?_ _ | refine blk_drew ?_ | refine blk_alloc ?_ _)); refine blk_put (cs := #[.int .i64 x116000_2, .int .i64 ((rd_T27 l0 x10_1).f1), .int .i64 ((rd_T27 l0 x10_1).f2), .int .i64 x116003_1, .int .i64 x116004_1, .int .i64 x116005_1]) ?_ 3 _ rfl; (with_reducible repeat (first | refine blk_drewN ?_ _ | refine blk_drew ?_ | refine blk_alloc ?_ _)); refine blk_put (cs := #[.int .i64 x116000_2, .int .i64 ((rd_T27 l0 x10_1).f1), .int .i64 x116002_1, .int .i64 x116003_1, .int .i64 x116004_1, .int .i64 x116005_1]) ?_ 2 _ rfl; (with_reducible repeat (first | refine blk_drewN ?_ _ | refine blk_drew ?_ | refine blk_alloc ?_ _)); refine blk_put (cs := #[.int .i64 x116000_2, .int .i64 x116001_2, .int .i64 x116002_1, .int .i64 x116003_1, .int .i64 x116004_1, .int .i64 x116005_1]) ?_ 1 _ rfl; (with_reducible repeat (first | refine blk_drewN ?_ _ | refine blk_drew ?_ | refine blk_alloc ?_ _)); exact BK115.out⟩, ⟨by repeat (first | (with_reducible first | exact HB.out | apply below_alloc | apply pw_below_drewN | apply below_drew1 | refine below_set ?_ GE115.out | refine below_set ?_ GE117.out) | exact HB.out)⟩⟩
                                · rw [if_neg c35] at H
                                  exact absurd H (by simp)
                              · rw [if_neg c34] at H
                                exact absurd H (by simp)
                            · rw [if_neg c32] at H
                              exact absurd H (by simp)
                          · rw [if_neg c30] at H
                            exact absurd H (by simp)
          · rw [if_neg c6] at H
            exact absurd H (by simp)
        · rw [if_neg c5] at H
          exact absurd H (by simp)
      · rw [if_neg c4] at H
        have c4b0 : decide (x10_1 < (l0.length : Int)) = false := decide_eq_false c4
        clear c4
        obtain rfl := Option.some.inj H
        go_wp2
        go_ret
        exact ⟨by first | rfl | (simp [errW_none, errW_some] <;> rfl) | (simp [*, errW_none, errW_some] <;> rfl), by repeat (first | (with_reducible first | exact HB.out | apply below_alloc | apply pw_below_drewN | apply below_drew1 | refine below_set ?_ GE115.out) | exact HB.out)⟩

end Go.Proofs.Ytdhaifcjhmmdlaa.PFnFinalize
