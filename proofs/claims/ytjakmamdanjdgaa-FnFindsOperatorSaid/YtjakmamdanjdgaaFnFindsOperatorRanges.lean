/-
  FnFindsOperator: logger.Source.RangeOfOperatorAfter and RangeOfOperatorBefore hand back the range of the place that the search found.
  Conditions: texts of at most 4096 bytes, operators of at most 100.
-/
import Derived.Test.YtjakmamdanjdgaaFnFindsOperatorIndex
import Derived.Test.YtjakmamdanjdgaaWWords
import Derived.Deep.QuietTactic
import Derived.BigQuiet
import Derived.Deep.RegionWith
namespace Go.Proofs.Ytjakmamdanjdgaa.fnFindsOperator
open Go.RowKit Go.Proofs.YtjakmamdanjdgaaW.PrintWords
set_option linter.unusedVariables false
set_option linter.unusedSimpArgs false

theorem below_draws {B : Nat} {a w : World} (h : Below B a w) (n : Nat) : Below B a (w.drewN n) := ⟨h.os, h.tape, h.output, h.size, h.block⟩
theorem info30 : (Try.prog.info? 30).map (·.size) = some 2 := by kernel_rfl
theorem two {W : World} {g : Nat} {u0 u1 : Value} (h : W.heap[g]? = some (.cells #[u0, u1] 30 (0, 0))) (x y : Value) : ((W.setCell ⟨g, 0, none⟩ x).setCell ⟨g, 1, none⟩ y).heap[g]? = some (.cells #[x, y] 30 (0, 0)) :=
  blk_put (blk_put h 0 x rfl) 1 y rfl

set_option maxHeartbeats 4000000 in
theorem after (s op : ByteArray) (a : Nat) (b : Nat) (w : World) (hs : s.size ≤ 4096) (ho : op.size ≤ 100) (ha : a ≤ s.size) (hc : w.cell? ⟨b, 3, none⟩ = some (.string s)) :
    Calls Try.prog 8 #[.pointer (some ⟨b, 0, none⟩), .agg #[.int .i32 a], .string op] w fun e w' => (∃ r : Int, e = .returned (.agg #[.int .i32 (if 0 ≤ r then a + r else a), .int .i32 (if 0 ≤ r then op.size else 0)]) ∧ First (s.extract a s.size) op r) ∧ Below w.heap.size w w' := by
  have hb : b < w.heap.size := by
    simp only [World.cell?] at hc
    cases hh : w.heap[b]? with
    | none => simp [hh] at hc
    | some o => exact (Array.getElem?_eq_some_iff.1 hh).1
  have hB1 : Below w.heap.size w ((w.alloc (.cells #[.int .i32 a] 28)).alloc (.cells #[.int .i32 0, .int .i32 0] 30)) := ((Below.refl _ _).alloc (Nat.le_refl _) _).alloc (by simp) _
  have hc2 := (hB1.cell (p := ⟨b, 3, none⟩) hb).trans hc
  have HB1 := Lib.hid hB1
  have hN : ((w.alloc (.cells #[.int .i32 a] 28)).alloc (.cells #[.int .i32 0, .int .i32 0] 30)).heap[w.heap.size + 1]? = some (.cells #[.int .i32 0, .int .i32 0] 30 (0, 0)) := by
    have := blk_new (w.alloc (.cells #[.int .i32 a] 28)) (.cells #[.int .i32 0, .int .i32 0] 30)
    simpa using this
  have HN := Lib.hid hN
  clear hN
  clear hB1
  have a0 : (0:Int) ≤ a := by omega
  have a1 : (a:Int) ≤ s.size := by omega
  go_enter Try.func8, Try.ntmps8
  go_wp2_with (fail)
  go_quiet (fail)
  have hsz : (s.extract a s.size).size = s.size - a := by simp
  go_wp2_with (go_at_call 12; refine (index _ op _ (by omega) (by omega)).mono ?_)
  rintro e w1 ⟨⟨r, rfl, hr⟩, rfl⟩
  have HR := Lib.hid hr
  rcases hr with ⟨rfl, _⟩ | ⟨k, rfl, hk, _, _⟩
  · go_wp2_with (fail)
    exact bodyPost_ret (results_cell_row rfl _ _ (w.heap.size + 1) 30 _ (0, 0) _ rfl (two (blk_drewN HN.out nq) _ _) Try.underlying30 rfl info30) rfl ⟨⟨_, by kernel_rfl, HR.out⟩, ((below_draws HB1.out nq).setCell (by simp) _).setCell (by simp) _⟩
  · have k0 : (0:Int) ≤ k := by omega
    have k1 : (k:Int) ≤ 4096 := by omega
    have a4 : (a:Int) ≤ 4096 := by omega
    have o4 : (op.size:Int) ≤ 100 := by omega
    have ak : (a:Int) + k ≤ 4096 := by omega
    have ak0 : 0 ≤ (a:Int) + k := by omega
    go_wp2_with (fail)
    exact bodyPost_ret (results_cell_row rfl _ _ (w.heap.size + 1) 30 _ (0, 0) _ rfl (two (blk_drewN HN.out nq) _ _) Try.underlying30 rfl info30) rfl ⟨⟨_, by kernel_rfl, HR.out⟩, ((below_draws HB1.out nq).setCell (by simp) _).setCell (by simp) _⟩
/-- the last place of op in s, or -1 -/
def Last (s op : ByteArray) (r : Int) : Prop := (r = -1 ∧ ∀ j, j + op.size ≤ s.size → occ s op j = false) ∨ (∃ k : Nat, r = k ∧ k + op.size ≤ s.size ∧ occ s op k = true ∧ ∀ j, k < j → j + op.size ≤ s.size → occ s op j = false)
theorem last_is (s op : ByteArray) : Last s op (Lib.lastIndex s.data.toList op.data.toList) := by
  unfold Lib.lastIndex
  rw [Array.length_toList, Array.length_toList]
  by_cases h : op.data.size ≤ s.data.size
  · rw [if_pos h]
    have h' : op.size ≤ s.size := h
    rcases Lib.lastOcc_spec s.data.toList op.data.toList (s.data.size - op.data.size + 1) with ⟨e, hn⟩ | ⟨i, hi, e, hc, hn⟩
    · exact .inl ⟨e, fun j hj => hn j (by show j < s.size - op.size + 1; omega)⟩
    · have hi' : i < s.size - op.size + 1 := hi
      exact .inr ⟨i, e, by omega, hc, fun j h1 h2 => hn j h1 (by show j < s.size - op.size + 1; omega)⟩
  · rw [if_neg h]
    have h' : ¬ op.size ≤ s.size := h
    exact .inl ⟨rfl, fun j hj => by omega⟩

set_option maxHeartbeats 4000000 in
theorem before (s op : ByteArray) (a : Nat) (b : Nat) (w : World) (hs : s.size ≤ 4096) (ho : op.size ≤ 100) (ha : a ≤ s.size) (hc : w.cell? ⟨b, 3, none⟩ = some (.string s)) :
    Calls Try.prog 10 #[.pointer (some ⟨b, 0, none⟩), .agg #[.int .i32 a], .string op] w fun e w' => (∃ r : Int, e = .returned (.agg #[.int .i32 (if 0 ≤ r then r else a), .int .i32 (if 0 ≤ r then op.size else 0)]) ∧ Last (s.extract 0 a) op r) ∧ Below w.heap.size w w' := by
  have hb : b < w.heap.size := by
    simp only [World.cell?] at hc
    cases hh : w.heap[b]? with
    | none => simp [hh] at hc
    | some o => exact (Array.getElem?_eq_some_iff.1 hh).1
  have hB1 : Below w.heap.size w ((w.alloc (.cells #[.int .i32 a] 28)).alloc (.cells #[.int .i32 0, .int .i32 0] 30)) := ((Below.refl _ _).alloc (Nat.le_refl _) _).alloc (by simp) _
  have hc2 := (hB1.cell (p := ⟨b, 3, none⟩) hb).trans hc
  have HB1 := Lib.hid hB1
  have hN : ((w.alloc (.cells #[.int .i32 a] 28)).alloc (.cells #[.int .i32 0, .int .i32 0] 30)).heap[w.heap.size + 1]? = some (.cells #[.int .i32 0, .int .i32 0] 30 (0, 0)) := by
    have := blk_new (w.alloc (.cells #[.int .i32 a] 28)) (.cells #[.int .i32 0, .int .i32 0] 30)
    simpa using this
  have HN := Lib.hid hN
  clear hN
  clear hB1
  have a0 : (0:Int) ≤ a := by omega
  have a1 : (a:Int) ≤ s.size := by omega
  go_enter Try.func10, Try.ntmps10
  go_wp2_with (fail)
  go_quiet (fail)
  have hsz : (s.extract 0 a).size = a := by simp; omega
  go_wp2_with (go_at_call 13; refine (Try.strings_LastIndex _ op (by omega) _).mono ?_)
  rintro e w1 ⟨rfl, rfl⟩
  have hr := last_is (s.extract 0 a) op
  generalize Lib.lastIndex (s.extract 0 a).data.toList op.data.toList = r at hr
  have HR := Lib.hid hr
  rcases hr with ⟨rfl, _⟩ | ⟨k, rfl, hk, _, _⟩
  · go_wp2_with (fail)
    exact bodyPost_ret (results_cell_row rfl _ _ (w.heap.size + 1) 30 _ (0, 0) _ rfl (two (blk_drewN HN.out nq) _ _) Try.underlying30 rfl info30) rfl ⟨⟨_, by kernel_rfl, HR.out⟩, ((below_draws HB1.out nq).setCell (by simp) _).setCell (by simp) _⟩
  · have k0 : (0:Int) ≤ k := by omega
    have k1 : (k:Int) ≤ 4096 := by omega
    have a4 : (a:Int) ≤ 4096 := by omega
    have o4 : (op.size:Int) ≤ 100 := by omega
    go_wp2_with (fail)
    exact bodyPost_ret (results_cell_row rfl _ _ (w.heap.size + 1) 30 _ (0, 0) _ rfl (two (blk_drewN HN.out nq) _ _) Try.underlying30 rfl info30) rfl ⟨⟨_, by kernel_rfl, HR.out⟩, ((below_draws HB1.out nq).setCell (by simp) _).setCell (by simp) _⟩
end Go.Proofs.Ytjakmamdanjdgaa.fnFindsOperator
