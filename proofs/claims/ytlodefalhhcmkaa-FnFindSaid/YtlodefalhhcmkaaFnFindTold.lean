/-
  FnFind: the walks of ast.MakeIndex32, Index32.GetIndex and of the thin package's told.
  Conditions: numbers of 32 bits.
-/
import Derived.Test.YtlodefalhhcmkaaPFnFindx1
import Derived.Test.YtlodefalhhcmkaaRows
import Derived.WalkSmall
import Derived.Laws.BitsAllLaws
import Derived.Laws.ResultCell
import Derived.Lib.Hide
namespace Go.Proofs.Ytlodefalhhcmkaa.fnFind
open Go.RowKit Go.Proofs.YtlodefalhhcmkaaW.PrintWords Go.Proofs.Ytlodefalhhcmkaa.PFnFind
set_option linter.unusedVariables false
set_option linter.unusedSimpArgs false

theorem not_u32 (n : Int) (h0 : 0 ≤ n) (h1 : n ≤ 4294967295) : bits BinOp.xor IntKind.u32 IntKind.u32.max n = 4294967295 - n := by
  obtain ⟨m, rfl⟩ : ∃ m : Nat, n = m := ⟨n.toNat, by omega⟩
  have e : IntKind.u32.max = ((4294967295 : Nat) : Int) := by decide
  rw [e, u32_xor_nat 4294967295 m (by decide) (by omega)]
  have h : (4294967295 ^^^ m : Nat) = 4294967295 - m := by
    have hx : (BitVec.ofNat 32 4294967295 ^^^ BitVec.ofNat 32 m).toNat = (~~~ BitVec.ofNat 32 m).toNat := by
      rw [BitVec.xor_comm, show BitVec.ofNat 32 4294967295 = BitVec.allOnes 32 by decide, BitVec.xor_allOnes]
    rw [BitVec.toNat_xor, BitVec.toNat_not, BitVec.toNat_ofNat, BitVec.toNat_ofNat, Nat.mod_eq_of_lt (by decide), Nat.mod_eq_of_lt (by omega)] at hx
    rw [hx]
  rw [h]
  omega
theorem info38 : (Try.prog.info? 38).map (·.size) = some 1 := by kernel_rfl
theorem info24 : (Try.prog.info? 24).map (·.size) = some 6 := by kernel_rfl
theorem getIndex (n : Int) (h0 : 0 ≤ n) (h1 : n ≤ 4294967295) (w : World) : Calls Try.prog 13 #[.agg #[.int .u32 n]] w fun e w' => e = .returned (.int .u32 (4294967295 - n)) ∧ Below w.heap.size w w' := by
  have hx := not_u32 n h0 h1
  go_enter Try.func13, Try.ntmps13
  go_wp2_with (fail)
  go_ret
  refine ⟨?_, (Below.refl _ _).alloc (Nat.le_refl _) _⟩
  rw [← hx]
  rfl
theorem makeIndex (n : Int) (h0 : 0 ≤ n) (h1 : n ≤ 4294967295) (w : World) : Calls Try.prog 8 #[.int .u32 n] w fun e w' => e = .returned (.agg #[.int .u32 (4294967295 - n)]) ∧ Below w.heap.size w w' := by
  have hx := not_u32 n h0 h1
  go_enter Try.func8, Try.ntmps8
  go_wp2_with (fail)
  exact bodyPost_ret (results_cell_row rfl _ _ w.heap.size 38 _ (0, 0) _ rfl (heap_alloc_new w _) Try.underlying38 rfl info38) rfl ⟨rfl, (Below.refl _ _).alloc (Nat.le_refl _) _⟩
/-- a name's number out of its bits -/
def unname (e : Int) : Int := if e = 0 then -1 else 4294967295 - e
theorem three (w : World) (o1 o2 o3 : Obj) : (((w.alloc o1).alloc o2).alloc o3).heap[w.heap.size]? = some o1 ∧ (((w.alloc o1).alloc o2).alloc o3).heap[w.heap.size + 1]? = some o2 ∧ (((w.alloc o1).alloc o2).alloc o3).heap[w.heap.size + 2]? = some o3 := by
  refine ⟨?_, ?_, ?_⟩
  · rw [Below.heap_alloc _ _ _ (by simp; omega), Below.heap_alloc _ _ _ (by simp)]
    exact heap_alloc_new w o1
  · rw [Below.heap_alloc _ _ _ (by simp)]
    have := heap_alloc_new (w.alloc o1) o2
    simpa using this
  · have := heap_alloc_new ((w.alloc o1).alloc o2) o3
    simpa using this
theorem six {w : World} {g : Nat} {c0 c1 c2 c3 c4 c5 : Value} {T : TypeId} (h : w.heap[g]? = some (.cells #[c0, c1, c2, c3, c4, c5] T (0, 0))) (v0 v1 v2 v3 v4 v5 : Value) :
    ((((((w.setCell ⟨g, 0, none⟩ v0).setCell ⟨g, 1, none⟩ v1).setCell ⟨g, 2, none⟩ v2).setCell ⟨g, 3, none⟩ v3).setCell ⟨g, 4, none⟩ v4).setCell ⟨g, 5, none⟩ v5).heap[g]? = some (.cells #[v0, v1, v2, v3, v4, v5] T (0, 0)) := by
  simp [World.setCell, Array.getElem?_modify, h]
theorem below_six {B : Nat} {a w : World} (h : Below B a w) {g : Nat} (hg : B ≤ g) (v0 v1 v2 v3 v4 v5 : Value) : Below B a ((((((w.setCell ⟨g, 0, none⟩ v0).setCell ⟨g, 1, none⟩ v1).setCell ⟨g, 2, none⟩ v2).setCell ⟨g, 3, none⟩ v3).setCell ⟨g, 4, none⟩ v4).setCell ⟨g, 5, none⟩ v5) :=
  (((((h.setCell hg _).setCell hg _).setCell hg _).setCell hg _).setCell hg _).setCell hg _
set_option maxHeartbeats 4000000 in
theorem told (f0 f1 f2 f3 f4 e : Int) (h0 : 0 ≤ f0 ∧ f0 ≤ 2147483647) (h1 : 0 ≤ f1 ∧ f1 ≤ 2147483647) (h2 : 0 ≤ f2 ∧ f2 ≤ 2147483647) (h3 : 0 ≤ f3 ∧ f3 ≤ 2147483647) (h4 : 0 ≤ f4 ∧ f4 ≤ 2147483647) (e0 : 0 ≤ e) (e1 : e ≤ 4294967295) (w : World) :
    Calls Try.prog 10 #[.agg #[.int .i32 f0, .int .i32 f1, .int .i32 f2, .int .i32 f3, .int .i32 f4, .int .u32 e]] w fun en w' => en = .returned (.agg #[.int .i64 f0, .int .i64 f1, .int .i64 f2, .int .i64 f3, .int .i64 f4, .int .i64 (unname e)]) ∧ Below w.heap.size w w' := by
  obtain ⟨a0, b0⟩ := h0
  obtain ⟨a1, b1⟩ := h1
  obtain ⟨a2, b2⟩ := h2
  obtain ⟨a3, b3⟩ := h3
  obtain ⟨a4, b4⟩ := h4
  by_cases hz : e = 0
  · subst hz
    go_enter Try.func10, Try.ntmps10
    go_wp2_with (fail)
    refine (ast_Index32_IsValid.calls _ false _ (by unfold ast_Index32_IsValid.f; rfl)).mono ?_
    rintro en w1 ⟨rfl, hb⟩
    obtain ⟨g0, g1, g2⟩ := three w (Obj.cells #[Value.int IntKind.i32 f0, Value.int IntKind.i32 f1, Value.int IntKind.i32 f2, Value.int IntKind.i32 f3, Value.int IntKind.i32 f4, Value.int IntKind.u32 0] 40) (Obj.cells #[Value.int IntKind.i64 0, Value.int IntKind.i64 0, Value.int IntKind.i64 0, Value.int IntKind.i64 0, Value.int IntKind.i64 0, Value.int IntKind.i64 0] 24) (Obj.cells #[Value.int IntKind.i64 f0, Value.int IntKind.i64 f1, Value.int IntKind.i64 f2, Value.int IntKind.i64 f3, Value.int IntKind.i64 f4, Value.int IntKind.i64 (-1)] 24)
    rw [← hb.block _ (by simp; omega)] at g0
    rw [← hb.block _ (by simp)] at g1
    rw [← hb.block _ (by simp)] at g2
    have HB := Lib.hid (show Below w.heap.size w w1 from ((((Below.refl _ _).alloc (Nat.le_refl _) _).alloc (by simp) _).alloc (by simp; omega) _).trans (hb.mono (by simp; omega)))
    have hs1 : w.heap.size + 3 ≤ w1.heap.size := by have := hb.size; simp at this; omega
    clear hb
    have p0 : w1.cell? ⟨w.heap.size + 2, 0, none⟩ = some (.int .i64 f0) := by rw [Lib.cell_of_heap g2]; rfl
    have p1 : w1.cell? ⟨w.heap.size + 2, 1, none⟩ = some (.int .i64 f1) := by rw [Lib.cell_of_heap g2]; rfl
    have p2 : w1.cell? ⟨w.heap.size + 2, 2, none⟩ = some (.int .i64 f2) := by rw [Lib.cell_of_heap g2]; rfl
    have p3 : w1.cell? ⟨w.heap.size + 2, 3, none⟩ = some (.int .i64 f3) := by rw [Lib.cell_of_heap g2]; rfl
    have p4 : w1.cell? ⟨w.heap.size + 2, 4, none⟩ = some (.int .i64 f4) := by rw [Lib.cell_of_heap g2]; rfl
    have p5 : w1.cell? ⟨w.heap.size + 2, 5, none⟩ = some (.int .i64 (-1)) := by rw [Lib.cell_of_heap g2]; rfl
    have y0 : w1.cell? ⟨w.heap.size + 1, 0, none⟩ = some (.int .i64 0) := by rw [Lib.cell_of_heap g1]; rfl
    have y1 : w1.cell? ⟨w.heap.size + 1, 1, none⟩ = some (.int .i64 0) := by rw [Lib.cell_of_heap g1]; rfl
    have y2 : w1.cell? ⟨w.heap.size + 1, 2, none⟩ = some (.int .i64 0) := by rw [Lib.cell_of_heap g1]; rfl
    have y3 : w1.cell? ⟨w.heap.size + 1, 3, none⟩ = some (.int .i64 0) := by rw [Lib.cell_of_heap g1]; rfl
    have y4 : w1.cell? ⟨w.heap.size + 1, 4, none⟩ = some (.int .i64 0) := by rw [Lib.cell_of_heap g1]; rfl
    have y5 : w1.cell? ⟨w.heap.size + 1, 5, none⟩ = some (.int .i64 0) := by rw [Lib.cell_of_heap g1]; rfl
    have z1_0 : w1.frozen? ⟨w.heap.size + 1, 0, none⟩ = false := Lib.frozen_of_heap g1 0
    have z1_1 : w1.frozen? ⟨w.heap.size + 1, 1, none⟩ = false := Lib.frozen_of_heap g1 1
    have z1_2 : w1.frozen? ⟨w.heap.size + 1, 2, none⟩ = false := Lib.frozen_of_heap g1 2
    have z1_3 : w1.frozen? ⟨w.heap.size + 1, 3, none⟩ = false := Lib.frozen_of_heap g1 3
    have z1_4 : w1.frozen? ⟨w.heap.size + 1, 4, none⟩ = false := Lib.frozen_of_heap g1 4
    have z1_5 : w1.frozen? ⟨w.heap.size + 1, 5, none⟩ = false := Lib.frozen_of_heap g1 5
    go_wp2_with (fail)
    exact bodyPost_ret (results_cell_row rfl _ _ (w.heap.size + 1) 24 _ (0, 0) _ rfl (six g1 _ _ _ _ _ _) Try.underlying24 rfl info24) rfl ⟨rfl, below_six HB.out (by omega) _ _ _ _ _ _⟩
  · have hne : (e != 0) = true := by simpa using hz
    go_enter Try.func10, Try.ntmps10
    go_wp2_with (fail)
    refine (ast_Index32_IsValid.calls _ true _ (by unfold ast_Index32_IsValid.f; rw [hne])).mono ?_
    rintro en w1 ⟨rfl, hb⟩
    obtain ⟨g0, g1, g2⟩ := three w (Obj.cells #[Value.int IntKind.i32 f0, Value.int IntKind.i32 f1, Value.int IntKind.i32 f2, Value.int IntKind.i32 f3, Value.int IntKind.i32 f4, Value.int IntKind.u32 e] 40) (Obj.cells #[Value.int IntKind.i64 0, Value.int IntKind.i64 0, Value.int IntKind.i64 0, Value.int IntKind.i64 0, Value.int IntKind.i64 0, Value.int IntKind.i64 0] 24) (Obj.cells #[Value.int IntKind.i64 f0, Value.int IntKind.i64 f1, Value.int IntKind.i64 f2, Value.int IntKind.i64 f3, Value.int IntKind.i64 f4, Value.int IntKind.i64 (-1)] 24)
    rw [← hb.block _ (by simp; omega)] at g0
    rw [← hb.block _ (by simp)] at g1
    rw [← hb.block _ (by simp)] at g2
    have HB := Lib.hid (show Below w.heap.size w w1 from ((((Below.refl _ _).alloc (Nat.le_refl _) _).alloc (by simp) _).alloc (by simp; omega) _).trans (hb.mono (by simp; omega)))
    have hs1 : w.heap.size + 3 ≤ w1.heap.size := by have := hb.size; simp at this; omega
    clear hb
    have x0 : w1.cell? ⟨w.heap.size, 0, none⟩ = some (.int .i32 f0) := by rw [Lib.cell_of_heap g0]; rfl
    have x1 : w1.cell? ⟨w.heap.size, 1, none⟩ = some (.int .i32 f1) := by rw [Lib.cell_of_heap g0]; rfl
    have x2 : w1.cell? ⟨w.heap.size, 2, none⟩ = some (.int .i32 f2) := by rw [Lib.cell_of_heap g0]; rfl
    have x3 : w1.cell? ⟨w.heap.size, 3, none⟩ = some (.int .i32 f3) := by rw [Lib.cell_of_heap g0]; rfl
    have x4 : w1.cell? ⟨w.heap.size, 4, none⟩ = some (.int .i32 f4) := by rw [Lib.cell_of_heap g0]; rfl
    have x5 : w1.cell? ⟨w.heap.size, 5, none⟩ = some (.int .u32 e) := by rw [Lib.cell_of_heap g0]; rfl
    go_wp2_with (fail)
    refine (getIndex e e0 e1 _).mono ?_
    rintro en w2 ⟨rfl, hb2⟩
    have g1b := g1
    have g2b := g2
    rw [← hb2.block _ (by omega)] at g1b
    rw [← hb2.block _ (by omega)] at g2b
    have HB2 := Lib.hid (show Below w.heap.size w w2 from HB.out.trans (hb2.mono (by omega)))
    clear hb2 g0 x0 x1 x2 x3 x4 x5 g1 g2
    have n0 : (0 : Int) ≤ 4294967295 - e := by omega
    have n1 : 4294967295 - e ≤ 4294967295 := by omega
    have p0 : w2.cell? ⟨w.heap.size + 2, 0, none⟩ = some (.int .i64 f0) := by rw [Lib.cell_of_heap g2b]; rfl
    have p1 : w2.cell? ⟨w.heap.size + 2, 1, none⟩ = some (.int .i64 f1) := by rw [Lib.cell_of_heap g2b]; rfl
    have p2 : w2.cell? ⟨w.heap.size + 2, 2, none⟩ = some (.int .i64 f2) := by rw [Lib.cell_of_heap g2b]; rfl
    have p3 : w2.cell? ⟨w.heap.size + 2, 3, none⟩ = some (.int .i64 f3) := by rw [Lib.cell_of_heap g2b]; rfl
    have p4 : w2.cell? ⟨w.heap.size + 2, 4, none⟩ = some (.int .i64 f4) := by rw [Lib.cell_of_heap g2b]; rfl
    have p5 : w2.cell? ⟨w.heap.size + 2, 5, none⟩ = some (.int .i64 (-1)) := by rw [Lib.cell_of_heap g2b]; rfl
    have y0 : w2.cell? ⟨w.heap.size + 1, 0, none⟩ = some (.int .i64 0) := by rw [Lib.cell_of_heap g1b]; rfl
    have y1 : w2.cell? ⟨w.heap.size + 1, 1, none⟩ = some (.int .i64 0) := by rw [Lib.cell_of_heap g1b]; rfl
    have y2 : w2.cell? ⟨w.heap.size + 1, 2, none⟩ = some (.int .i64 0) := by rw [Lib.cell_of_heap g1b]; rfl
    have y3 : w2.cell? ⟨w.heap.size + 1, 3, none⟩ = some (.int .i64 0) := by rw [Lib.cell_of_heap g1b]; rfl
    have y4 : w2.cell? ⟨w.heap.size + 1, 4, none⟩ = some (.int .i64 0) := by rw [Lib.cell_of_heap g1b]; rfl
    have y5 : w2.cell? ⟨w.heap.size + 1, 5, none⟩ = some (.int .i64 0) := by rw [Lib.cell_of_heap g1b]; rfl
    have z1_0 : w2.frozen? ⟨w.heap.size + 1, 0, none⟩ = false := Lib.frozen_of_heap g1b 0
    have z1_1 : w2.frozen? ⟨w.heap.size + 1, 1, none⟩ = false := Lib.frozen_of_heap g1b 1
    have z1_2 : w2.frozen? ⟨w.heap.size + 1, 2, none⟩ = false := Lib.frozen_of_heap g1b 2
    have z1_3 : w2.frozen? ⟨w.heap.size + 1, 3, none⟩ = false := Lib.frozen_of_heap g1b 3
    have z1_4 : w2.frozen? ⟨w.heap.size + 1, 4, none⟩ = false := Lib.frozen_of_heap g1b 4
    have z1_5 : w2.frozen? ⟨w.heap.size + 1, 5, none⟩ = false := Lib.frozen_of_heap g1b 5
    have z2_0 : w2.frozen? ⟨w.heap.size + 2, 0, none⟩ = false := Lib.frozen_of_heap g2b 0
    have z2_1 : w2.frozen? ⟨w.heap.size + 2, 1, none⟩ = false := Lib.frozen_of_heap g2b 1
    have z2_2 : w2.frozen? ⟨w.heap.size + 2, 2, none⟩ = false := Lib.frozen_of_heap g2b 2
    have z2_3 : w2.frozen? ⟨w.heap.size + 2, 3, none⟩ = false := Lib.frozen_of_heap g2b 3
    have z2_4 : w2.frozen? ⟨w.heap.size + 2, 4, none⟩ = false := Lib.frozen_of_heap g2b 4
    have z2_5 : w2.frozen? ⟨w.heap.size + 2, 5, none⟩ = false := Lib.frozen_of_heap g2b 5
    go_wp2_with (fail)
    have g1c : (w2.setCell ⟨w.heap.size + 1 + 1, 5, none⟩ (.int .i64 (4294967295 - e))).heap[w.heap.size + 1]? = some (Obj.cells #[Value.int IntKind.i64 0, Value.int IntKind.i64 0, Value.int IntKind.i64 0, Value.int IntKind.i64 0, Value.int IntKind.i64 0, Value.int IntKind.i64 0] 24) := by
      rw [Below.heap_setCell _ _ _ _ (by simp)]
      exact g1b
    exact bodyPost_ret (results_cell_row rfl _ _ (w.heap.size + 1) 24 _ (0, 0) _ rfl (six g1c _ _ _ _ _ _) Try.underlying24 rfl info24) rfl ⟨by unfold unname; rw [if_neg hz], below_six (HB2.out.setCell (by simp; omega) _) (by omega) _ _ _ _ _ _⟩
end Go.Proofs.Ytlodefalhhcmkaa.fnFind
