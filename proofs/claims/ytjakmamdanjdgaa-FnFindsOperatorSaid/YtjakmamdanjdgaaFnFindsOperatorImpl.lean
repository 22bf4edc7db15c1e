/-
  FnFindsOperator: the two closures of impl.OperatorAfter and impl.OperatorBefore, impl.ranged over them, and the two functions themselves.
  Conditions: texts of at most 4096 bytes, operators of at most 100.
-/
import Derived.Test.YtjakmamdanjdgaaFnFindsOperatorRanges
import Derived.Deep.RegionWith
namespace Go.Proofs.Ytjakmamdanjdgaa.fnFindsOperator
open Go.RowKit Go.Proofs.YtjakmamdanjdgaaW.PrintWords
set_option linter.unusedVariables false
set_option linter.unusedSimpArgs false

theorem cell_lt {w : World} {b i : Nat} {v : Value} (hc : w.cell? ⟨b, i, none⟩ = some v) : b < w.heap.size := by
  simp only [World.cell?] at hc
  cases hh : w.heap[b]? with
  | none => simp [hh] at hc
  | some o => exact (Array.getElem?_eq_some_iff.1 hh).1


set_option maxHeartbeats 4000000 in
theorem closAfter (s op : ByteArray) (a S B : Nat) (w : World) (hs : s.size ≤ 4096) (ho : op.size ≤ 100) (ha : a ≤ s.size) (hc : w.cell? ⟨S, 3, none⟩ = some (.string s)) (hd : w.cell? ⟨B, 0, none⟩ = some (.string op)) :
    Calls Try.prog 7 #[.pointer (some ⟨S, 0, none⟩), .agg #[.int .i32 a], .pointer (some ⟨B, 0, none⟩)] w fun e w' => (∃ r : Int, e = .returned (.agg #[.int .i32 (if 0 ≤ r then a + r else a), .int .i32 (if 0 ≤ r then op.size else 0)]) ∧ First (s.extract a s.size) op r) ∧ Below w.heap.size w w' := by
  have hb := cell_lt hc
  have hb' := cell_lt hd
  have hB1 : Below w.heap.size w ((w.alloc (.cells #[.int .i32 a] 28)).alloc (.cells #[.int .i32 0, .int .i32 0] 30)) := ((Below.refl _ _).alloc (Nat.le_refl _) _).alloc (by simp) _
  have hc2 := (hB1.cell (p := ⟨S, 3, none⟩) hb).trans hc
  have hd2 := (hB1.cell (p := ⟨B, 0, none⟩) hb').trans hd
  have HC2 := Lib.hid hc2
  have HB1 := Lib.hid hB1
  have hN : ((w.alloc (.cells #[.int .i32 a] 28)).alloc (.cells #[.int .i32 0, .int .i32 0] 30)).heap[w.heap.size + 1]? = some (.cells #[.int .i32 0, .int .i32 0] 30 (0, 0)) := by
    have := blk_new (w.alloc (.cells #[.int .i32 a] 28)) (.cells #[.int .i32 0, .int .i32 0] 30)
    simpa using this
  have HN := Lib.hid hN
  clear hN hB1 hc2
  go_enter Try.func7, Try.ntmps7
  go_wp2_with (go_at_call 8; refine (after s op a S _ hs ho ha HC2.out).mono ?_)
  rintro e w1 ⟨⟨r, rfl, hr⟩, hb1⟩
  obtain ⟨x, hx⟩ : ∃ x, x = (if 0 ≤ r then (a:Int) + r else a) := ⟨_, rfl⟩
  obtain ⟨n, hn⟩ : ∃ n, n = (if 0 ≤ r then (op.size:Int) else 0) := ⟨_, rfl⟩
  rw [← hx, ← hn]
  have HX := Lib.hid hx
  have HNN := Lib.hid hn
  clear hx hn
  have hN1 := blk_below HN.out hb1
  have HR := Lib.hid hr
  have HB2 := Lib.hid (HB1.out.trans (hb1.mono (by simp; omega)))
  have hf0 := blk_frozen hN1 0
  have hf1 := blk_frozen hN1 1
  have hc0 := blk_cell hN1 0
  have hc1 := blk_cell hN1 1
  have HN1 := Lib.hid hN1
  clear hr hb1 hN1
  go_wp2_with (fail)
  exact bodyPost_ret (results_cell_row rfl _ _ (w.heap.size + 1) 30 _ (0, 0) _ rfl (two HN1.out _ _) Try.underlying30 rfl info30) rfl ⟨⟨r, by rw [← HX.out, ← HNN.out], HR.out⟩, (HB2.out.setCell (by simp) _).setCell (by simp) _⟩

set_option maxHeartbeats 4000000 in
theorem closBefore (s op : ByteArray) (a S B : Nat) (w : World) (hs : s.size ≤ 4096) (ho : op.size ≤ 100) (ha : a ≤ s.size) (hc : w.cell? ⟨S, 3, none⟩ = some (.string s)) (hd : w.cell? ⟨B, 0, none⟩ = some (.string op)) :
    Calls Try.prog 9 #[.pointer (some ⟨S, 0, none⟩), .agg #[.int .i32 a], .pointer (some ⟨B, 0, none⟩)] w fun e w' => (∃ r : Int, e = .returned (.agg #[.int .i32 (if 0 ≤ r then r else a), .int .i32 (if 0 ≤ r then op.size else 0)]) ∧ Last (s.extract 0 a) op r) ∧ Below w.heap.size w w' := by
  have hb := cell_lt hc
  have hb' := cell_lt hd
  have hB1 : Below w.heap.size w ((w.alloc (.cells #[.int .i32 a] 28)).alloc (.cells #[.int .i32 0, .int .i32 0] 30)) := ((Below.refl _ _).alloc (Nat.le_refl _) _).alloc (by simp) _
  have hc2 := (hB1.cell (p := ⟨S, 3, none⟩) hb).trans hc
  have hd2 := (hB1.cell (p := ⟨B, 0, none⟩) hb').trans hd
  have HC2 := Lib.hid hc2
  have HB1 := Lib.hid hB1
  have hN : ((w.alloc (.cells #[.int .i32 a] 28)).alloc (.cells #[.int .i32 0, .int .i32 0] 30)).heap[w.heap.size + 1]? = some (.cells #[.int .i32 0, .int .i32 0] 30 (0, 0)) := by
    have := blk_new (w.alloc (.cells #[.int .i32 a] 28)) (.cells #[.int .i32 0, .int .i32 0] 30)
    simpa using this
  have HN := Lib.hid hN
  clear hN hB1 hc2
  go_enter Try.func9, Try.ntmps9
  go_wp2_with (go_at_call 10; refine (before s op a S _ hs ho ha HC2.out).mono ?_)
  rintro e w1 ⟨⟨r, rfl, hr⟩, hb1⟩
  obtain ⟨x, hx⟩ : ∃ x, x = (if 0 ≤ r then r else (a:Int)) := ⟨_, rfl⟩
  obtain ⟨n, hn⟩ : ∃ n, n = (if 0 ≤ r then (op.size:Int) else 0) := ⟨_, rfl⟩
  rw [← hx, ← hn]
  have HX := Lib.hid hx
  have HNN := Lib.hid hn
  clear hx hn
  have hN1 := blk_below HN.out hb1
  have HR := Lib.hid hr
  have HB2 := Lib.hid (HB1.out.trans (hb1.mono (by simp; omega)))
  have hf0 := blk_frozen hN1 0
  have hf1 := blk_frozen hN1 1
  have hc0 := blk_cell hN1 0
  have hc1 := blk_cell hN1 1
  have HN1 := Lib.hid hN1
  clear hr hb1 hN1
  go_wp2_with (fail)
  exact bodyPost_ret (results_cell_row rfl _ _ (w.heap.size + 1) 30 _ (0, 0) _ rfl (two HN1.out _ _) Try.underlying30 rfl info30) rfl ⟨⟨r, by rw [← HX.out, ← HNN.out], HR.out⟩, (HB2.out.setCell (by simp) _).setCell (by simp) _⟩


theorem first_in {s op : ByteArray} {r : Int} (h : First s op r) : -1 ≤ r ∧ (0 ≤ r → r + op.size ≤ s.size) := by
  rcases h with ⟨rfl, _⟩ | ⟨k, rfl, h, _⟩
  · omega
  · omega
theorem last_in {s op : ByteArray} {r : Int} (h : Last s op r) : -1 ≤ r ∧ (0 ≤ r → r + op.size ≤ s.size) := by
  rcases h with ⟨rfl, _⟩ | ⟨k, rfl, h, _⟩
  · omega
  · omega

theorem ende (x n : Int) (w : World) (h0 : 0 ≤ x) (h1 : x ≤ 4096) (h2 : 0 ≤ n) (h3 : n ≤ 100) : Calls Try.prog 11 #[.agg #[.int .i32 x, .int .i32 n]] w fun e w' => e = .returned (.int .i32 (x + n)) ∧ w' = w.alloc (.cells #[.int .i32 x, .int .i32 n] 30) := by
  have hx : x + n ≤ 4196 := by omega
  go_enter Try.func11, Try.ntmps11
  go_wp2
  go_ret
  exact ⟨rfl, rfl⟩

set_option maxHeartbeats 4000000 in
theorem rangedAfter (s op : ByteArray) (a B : Nat) (w : World) (hs : s.size ≤ 4096) (ho : op.size ≤ 100) (ha : a ≤ s.size) (hd : w.cell? ⟨B, 0, none⟩ = some (.string op)) :
    Calls Try.prog 6 #[.string s, .int .i64 a, .func (.func 7) #[] #[.pointer (some ⟨B, 0, none⟩)]] w fun e w' => (∃ r x n : Int, e = .returned (.tuple #[.int .i64 x, .int .i64 (x + n)]) ∧ x = (if 0 ≤ r then (a:Int) + r else a) ∧ n = (if 0 ≤ r then (op.size:Int) else 0) ∧ First (s.extract a s.size) op r) ∧ Below w.heap.size w w' := by
  have a0 : (0:Int) ≤ a := by omega
  have a1 : (a:Int) ≤ 4096 := by omega
  have a2 : (a:Int) ≤ s.size := by omega
  have hb' := cell_lt hd
  have hW : ∀ o, (w.alloc o).cell? ⟨B, 0, none⟩ = some (.string op) := fun o => (((Below.refl _ _).alloc (Nat.le_refl _) o).cell (p := ⟨B, 0, none⟩) hb').trans hd
  have hS : ∀ (c0 c1 c2 c4 c5 c6 c7 c8 c9 : Value), (w.alloc (.cells #[c0, c1, c2, .string s, c4, c5, c6, c7, c8, c9] 42)).cell? ⟨w.heap.size, 3, none⟩ = some (.string s) := fun c0 c1 c2 c4 c5 c6 c7 c8 c9 => by rw [blk_cell (blk_new w _) 3]; rfl
  have HW := Lib.hid hW
  have HS := Lib.hid hS
  clear hW hS hd
  go_enter Try.func6, Try.ntmps6
  go_wp2_with (go_at_call 7; refine (closAfter s op a w.heap.size B _ hs ho ha (HS.out _ _ _ _ _ _ _ _ _) (HW.out _)).mono ?_)
  rintro e w1 ⟨⟨r, rfl, hr⟩, hb1⟩
  obtain ⟨x, hx⟩ : ∃ x, x = (if 0 ≤ r then (a:Int) + r else a) := ⟨_, rfl⟩
  obtain ⟨n, hn⟩ : ∃ n, n = (if 0 ≤ r then (op.size:Int) else 0) := ⟨_, rfl⟩
  rw [← hx, ← hn]
  have hin := first_in hr
  have hex : (s.extract a s.size).size = s.size - a := by simp
  have hex2 : (s.extract 0 a).size = a := by simp; omega
  have x0 : 0 ≤ x := by rw [hx]; split <;> omega
  have x1 : x ≤ 4096 := by rw [hx]; split <;> omega
  have n0 : 0 ≤ n := by rw [hn]; split <;> omega
  have n1 : n ≤ 100 := by rw [hn]; split <;> omega
  have n2 : x + n ≤ 4196 := by omega
  have n3 : 0 ≤ x + n := by omega
  have e1 : IntKind.i64.wrap x = x := IntWalk.i64_in _ (by omega)
  have e2 : IntKind.i64.wrap (x + n) = x + n := IntWalk.i64_in _ (by omega)
  have HX := Lib.hid hx
  have HNN := Lib.hid hn
  have HR := Lib.hid hr
  have hb2 : Below w.heap.size w w1 := ((Below.refl _ _).alloc (Nat.le_refl _) _).trans (hb1.mono (by simp))
  have HB2 := Lib.hid hb2
  have hle := hb2.size
  have HB3 := Lib.hid (hb2.alloc hle (.cells #[.int .i32 x, .int .i32 n] 30))
  clear hx hn hr hb1 hb2 hin hex hex2
  go_wp2_with (fail)
  go_region_with (go_at_call 11; refine (ende x n _ x0 x1 n0 n1).mono ?_; rintro e w2 ⟨rfl, rfl⟩)
  go_wp2_with (fail)
  all_goals
    go_ret2
    refine ⟨⟨r, x, n, by simp [go_sem, Act.put, Array.getD, e1, e2], HX.out, HNN.out, HR.out⟩, ?_⟩
    repeat (first | exact HB3.out | apply Below.drew | refine Below.alloc ?_ (by first | (simp; done) | (simp; omega)) _)

set_option maxHeartbeats 4000000 in
theorem rangedBefore (s op : ByteArray) (a B : Nat) (w : World) (hs : s.size ≤ 4096) (ho : op.size ≤ 100) (ha : a ≤ s.size) (hd : w.cell? ⟨B, 0, none⟩ = some (.string op)) :
    Calls Try.prog 6 #[.string s, .int .i64 a, .func (.func 9) #[] #[.pointer (some ⟨B, 0, none⟩)]] w fun e w' => (∃ r x n : Int, e = .returned (.tuple #[.int .i64 x, .int .i64 (x + n)]) ∧ x = (if 0 ≤ r then r else (a:Int)) ∧ n = (if 0 ≤ r then (op.size:Int) else 0) ∧ Last (s.extract 0 a) op r) ∧ Below w.heap.size w w' := by
  have a0 : (0:Int) ≤ a := by omega
  have a1 : (a:Int) ≤ 4096 := by omega
  have a2 : (a:Int) ≤ s.size := by omega
  have hb' := cell_lt hd
  have hW : ∀ o, (w.alloc o).cell? ⟨B, 0, none⟩ = some (.string op) := fun o => (((Below.refl _ _).alloc (Nat.le_refl _) o).cell (p := ⟨B, 0, none⟩) hb').trans hd
  have hS : ∀ (c0 c1 c2 c4 c5 c6 c7 c8 c9 : Value), (w.alloc (.cells #[c0, c1, c2, .string s, c4, c5, c6, c7, c8, c9] 42)).cell? ⟨w.heap.size, 3, none⟩ = some (.string s) := fun c0 c1 c2 c4 c5 c6 c7 c8 c9 => by rw [blk_cell (blk_new w _) 3]; rfl
  have HW := Lib.hid hW
  have HS := Lib.hid hS
  clear hW hS hd
  go_enter Try.func6, Try.ntmps6
  go_wp2_with (go_at_call 9; refine (closBefore s op a w.heap.size B _ hs ho ha (HS.out _ _ _ _ _ _ _ _ _) (HW.out _)).mono ?_)
  rintro e w1 ⟨⟨r, rfl, hr⟩, hb1⟩
  obtain ⟨x, hx⟩ : ∃ x, x = (if 0 ≤ r then r else (a:Int)) := ⟨_, rfl⟩
  obtain ⟨n, hn⟩ : ∃ n, n = (if 0 ≤ r then (op.size:Int) else 0) := ⟨_, rfl⟩
  rw [← hx, ← hn]
  have hin := last_in hr
  have hex : (s.extract a s.size).size = s.size - a := by simp
  have hex2 : (s.extract 0 a).size = a := by simp; omega
  have x0 : 0 ≤ x := by rw [hx]; split <;> omega
  have x1 : x ≤ 4096 := by rw [hx]; split <;> omega
  have n0 : 0 ≤ n := by rw [hn]; split <;> omega
  have n1 : n ≤ 100 := by rw [hn]; split <;> omega
  have n2 : x + n ≤ 4196 := by omega
  have n3 : 0 ≤ x + n := by omega
  have e1 : IntKind.i64.wrap x = x := IntWalk.i64_in _ (by omega)
  have e2 : IntKind.i64.wrap (x + n) = x + n := IntWalk.i64_in _ (by omega)
  have HX := Lib.hid hx
  have HNN := Lib.hid hn
  have HR := Lib.hid hr
  have hb2 : Below w.heap.size w w1 := ((Below.refl _ _).alloc (Nat.le_refl _) _).trans (hb1.mono (by simp))
  have HB2 := Lib.hid hb2
  have hle := hb2.size
  have HB3 := Lib.hid (hb2.alloc hle (.cells #[.int .i32 x, .int .i32 n] 30))
  clear hx hn hr hb1 hb2 hin hex hex2
  go_wp2_with (fail)
  go_region_with (go_at_call 11; refine (ende x n _ x0 x1 n0 n1).mono ?_; rintro e w2 ⟨rfl, rfl⟩)
  go_wp2_with (fail)
  all_goals
    go_ret2
    refine ⟨⟨r, x, n, by simp [go_sem, Act.put, Array.getD, e1, e2], HX.out, HNN.out, HR.out⟩, ?_⟩
    repeat (first | exact HB3.out | apply Below.drew | refine Below.alloc ?_ (by first | (simp; done) | (simp; omega)) _)

set_option maxHeartbeats 4000000 in
theorem implAfter (s op : ByteArray) (a : Nat) (w : World) (hs : s.size ≤ 4096) (ho : op.size ≤ 100) (ha : a ≤ s.size) :
    Calls Try.prog 4 #[.string s, .int .i64 a, .string op] w fun e w' => (∃ r x n : Int, e = .returned (.tuple #[.int .i64 x, .int .i64 (x + n)]) ∧ x = (if 0 ≤ r then (a:Int) + r else a) ∧ n = (if 0 ≤ r then (op.size:Int) else 0) ∧ First (s.extract a s.size) op r) ∧ Below w.heap.size w w' := by
  have hc : (w.alloc (.cells #[.string op] 9)).cell? ⟨w.heap.size, 0, none⟩ = some (.string op) := by rw [blk_cell (blk_new w _) 0]; rfl
  have HC := Lib.hid hc
  have HB := Lib.hid ((Below.refl w.heap.size w).alloc (Nat.le_refl _) (.cells #[.string op] 9))
  clear hc
  go_enter Try.func4, Try.ntmps4
  go_wp2_with (go_at_call 6; refine (rangedAfter s op a w.heap.size _ hs ho ha HC.out).mono ?_)
  rintro e w1 ⟨⟨r, x, n, rfl, hx, hn, hr⟩, hb1⟩
  have HX := Lib.hid hx
  have HNN := Lib.hid hn
  have HR := Lib.hid hr
  have HB2 := Lib.hid (HB.out.trans (hb1.mono (by simp)))
  clear hx hn hr hb1
  go_wp2_with (fail)
  go_ret2
  exact ⟨⟨r, x, n, rfl, HX.out, HNN.out, HR.out⟩, HB2.out⟩

set_option maxHeartbeats 4000000 in
theorem implBefore (s op : ByteArray) (a : Nat) (w : World) (hs : s.size ≤ 4096) (ho : op.size ≤ 100) (ha : a ≤ s.size) :
    Calls Try.prog 5 #[.string s, .int .i64 a, .string op] w fun e w' => (∃ r x n : Int, e = .returned (.tuple #[.int .i64 x, .int .i64 (x + n)]) ∧ x = (if 0 ≤ r then r else (a:Int)) ∧ n = (if 0 ≤ r then (op.size:Int) else 0) ∧ Last (s.extract 0 a) op r) ∧ Below w.heap.size w w' := by
  have hc : (w.alloc (.cells #[.string op] 9)).cell? ⟨w.heap.size, 0, none⟩ = some (.string op) := by rw [blk_cell (blk_new w _) 0]; rfl
  have HC := Lib.hid hc
  have HB := Lib.hid ((Below.refl w.heap.size w).alloc (Nat.le_refl _) (.cells #[.string op] 9))
  clear hc
  go_enter Try.func5, Try.ntmps5
  go_wp2_with (go_at_call 6; refine (rangedBefore s op a w.heap.size _ hs ho ha HC.out).mono ?_)
  rintro e w1 ⟨⟨r, x, n, rfl, hx, hn, hr⟩, hb1⟩
  have HX := Lib.hid hx
  have HNN := Lib.hid hn
  have HR := Lib.hid hr
  have HB2 := Lib.hid (HB.out.trans (hb1.mono (by simp)))
  clear hx hn hr hb1
  go_wp2_with (fail)
  go_ret2
  exact ⟨⟨r, x, n, rfl, HX.out, HNN.out, HR.out⟩, HB2.out⟩


end Go.Proofs.Ytjakmamdanjdgaa.fnFindsOperator
