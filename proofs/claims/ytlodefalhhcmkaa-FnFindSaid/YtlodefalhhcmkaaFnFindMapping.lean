/-
  FnFind: the walk of the thin package's FindMapping: the mappings are laid as the package's, and the one that Find points to is told.
  Conditions: at most 1,000 mappings of fit numbers; those at or before the place stand ahead of all others.
-/
import Derived.Test.YtlodefalhhcmkaaFnFindSearch
namespace Go.Proofs.Ytlodefalhhcmkaa.fnFind
open Go.RowKit Go.Proofs.YtlodefalhhcmkaaW.PrintWords Go.Proofs.Ytlodefalhhcmkaa.PFnFind
set_option linter.unusedVariables false
set_option linter.unusedSimpArgs false

theorem news_alloc (w : World) (cs : List Value) (t : TypeId) (j : Nat) (u : Value) (h : cs[j]? = some u) : (w.alloc (.cells cs.toArray t)).cell? ((⟨w.heap.size, 0, none⟩ : Addr).add j) = some u := by
  have e : (⟨w.heap.size, 0, none⟩ : Addr).add j = ⟨w.heap.size, j, none⟩ := by unfold Addr.add; split <;> simp_all
  rw [e, blk_cell (heap_alloc_new w _) j]
  simpa using h
theorem small_all (l : List Int) (hl : l.length ≤ 1000) (h : ∀ i, i < l.length → -2147483648 ≤ l.getD i 0 ∧ l.getD i 0 ≤ 2147483647) : ∀ m i, i + m = l.length → impl_small.l0 (m + 1) l (l.length : Int) (i : Int) = some true := by
  intro m
  induction m with
  | zero =>
    intro i hi
    unfold impl_small.l0
    rw [if_neg (by omega)]
  | succ m ih =>
    intro i hi
    have hr := h i (by omega)
    have e : rd l (i : Int) = l.getD i 0 := by unfold rd; rw [Int.toNat_natCast]
    have hw : wrap64 ((i : Int) + 1) = ((i + 1 : Nat) : Int) := by unfold wrap64; omega
    unfold impl_small.l0
    rw [if_pos (by omega), if_pos (by omega), if_pos (by omega), e, if_neg (by omega), if_neg (by omega), hw]
    exact ih (i + 1) (by omega)
theorem small (l : List Int) (g c : Nat) (w : World) (hl : l.length ≤ 1000) (hc : l.length ≤ c) (hcell : ∀ i, i < l.length → w.cell? ⟨g, i, none⟩ = some (.int .i64 (l.getD i 0))) (h : ∀ i, i < l.length → -2147483648 ≤ l.getD i 0 ∧ l.getD i 0 ≤ 2147483647) :
    Calls Try.prog 7 #[.slice (some ⟨g, 0, none⟩) l.length c] w fun e w' => e = .returned (.bool true) ∧ Drawn0 w w' := by
  refine impl_small.calls (l.length + 1) _ c l true w (Kd.C_of_reads (d := (0 : Int)) ⟨rfl, by omega, fun _ => ⟨_, rfl, fun j hj => ?_⟩⟩) hc ?_
  · have e : (⟨g, 0, none⟩ : Addr).add j = ⟨g, j, none⟩ := by unfold Addr.add; split <;> simp_all
    rw [e]
    exact hcell j hj
  · exact small_all l hl h l.length 0 (by omega)
theorem info40 : (Try.prog.info? 40).map (fun i => (i.zero, i.size, i.bytes)) = some (some (.agg #[.int .i32 0, .int .i32 0, .int .i32 0, .int .i32 0, .int .i32 0, .int .u32 0]), 6, 24) := by kernel_rfl

/-- the cells of a mapping -/
def cells24 (x : S24) : Array Value := #[.int .i64 x.f0, .int .i64 x.f1, .int .i64 x.f2, .int .i64 x.f3, .int .i64 x.f4, .int .i64 x.f5]
def cells40 (x : S24) : List Value := [.int .i32 x.f0, .int .i32 x.f1, .int .i32 x.f2, .int .i32 x.f3, .int .i32 x.f4, .int .u32 (name x.f5)]
def rowCells (xs : List S24) : List Value := xs.flatMap cells40
theorem rowCells_len (xs : List S24) : (rowCells xs).length = xs.length * 6 := by
  induction xs with
  | nil => rfl
  | cons x r ih =>
    have : (rowCells (x :: r)).length = 6 + (rowCells r).length := by simp [rowCells, cells40]; omega
    rw [this, ih, List.length_cons]; omega
theorem rowCells_get : ∀ (xs : List S24) (i : Nat) (hi : i < xs.length) (j : Nat) (hj : j < 6), (rowCells xs)[i * 6 + j]? = (cells40 (xs.getD i z24))[j]? := by
  intro xs
  induction xs with
  | nil => intro i hi; simp at hi
  | cons x r ih =>
    intro i hi j hj
    have e : rowCells (x :: r) = cells40 x ++ rowCells r := by simp [rowCells]
    have el : (cells40 x).length = 6 := rfl
    rw [e]
    cases i with
    | zero =>
      rw [List.getElem?_append_left (by rw [el]; omega)]
      simp
    | succ i =>
      rw [List.getElem?_append_right (by rw [el]; omega), el, show (i + 1) * 6 + j - 6 = i * 6 + j by omega, ih i (by simpa using hi) j hj]
      simp
theorem rowCells_take (xs : List S24) (i : Nat) (h : i < xs.length) : rowCells (xs.take (i + 1)) = rowCells (xs.take i) ++ cells40 (xs.getD i z24) := by
  rw [List.take_succ_eq_append_getElem h]
  have e : xs.getD i z24 = xs[i] := by simp [List.getD, List.getElem?_eq_getElem h]
  rw [e]
  unfold rowCells
  rw [List.flatMap_append]
  simp
theorem makeIndex' (n : Int) (h0 : 0 ≤ n) (h1 : n ≤ 4294967295) (w : World) : Calls Try.prog 8 #[.int .u32 n] w fun e w' => e = .returned (.agg #[.int .u32 (4294967295 - n)]) ∧ w' = w.alloc (.cells #[.int .u32 (4294967295 - n)] 38) := by
  have hx := not_u32 n h0 h1
  go_enter Try.func8, Try.ntmps8
  go_wp2_with (fail)
  exact bodyPost_ret (results_cell_row rfl _ _ w.heap.size 38 _ (0, 0) _ rfl (heap_alloc_new w _) Try.underlying38 rfl info38) rfl ⟨rfl, rfl⟩
theorem six_cells (W : World) (f0 f1 f2 f3 f4 f5 : Int) : ∀ i, i < [f0, f1, f2, f3, f4, f5].length → (W.alloc (.cells #[.int .i64 f0, .int .i64 f1, .int .i64 f2, .int .i64 f3, .int .i64 f4, .int .i64 f5] 3)).cell? ⟨W.heap.size, i, none⟩ = some (.int .i64 ([f0, f1, f2, f3, f4, f5].getD i 0)) := by
  intro i hi
  rw [Lib.cell_of_heap (heap_alloc_new W _)]
  match i, hi with
  | 0, _ => rfl
  | 1, _ => rfl
  | 2, _ => rfl
  | 3, _ => rfl
  | 4, _ => rfl
  | 5, _ => rfl
  | n + 6, h => simp at h; omega
theorem two_cells (W : World) (f0 f1 : Int) : ∀ i, i < [f0, f1].length → (W.alloc (.cells #[.int .i64 f0, .int .i64 f1] 3)).cell? ⟨W.heap.size, i, none⟩ = some (.int .i64 ([f0, f1].getD i 0)) := by
  intro i hi
  rw [Lib.cell_of_heap (heap_alloc_new W _)]
  match i, hi with
  | 0, _ => rfl
  | 1, _ => rfl
  | n + 2, h => simp at h; omega
theorem results_row2 {fn : Func} {p u : Tmp} {ty : TypeId} (h : fn.results = #[.cell p ty, .tmp u]) (tmps : Array Value) {P : Program} (w : World) (g : Nat) (t : TypeId) (cs : Array Value) (fr : Nat × Nat) (fs : Array Field)
    (hp : tmps.getD p undef = .pointer (some ⟨g, 0, none⟩)) (hg : w.heap[g]? = some (.cells cs t fr))
    (hu : P.underlying ty = some (.struct fs)) (hi : (P.info? ty).map (·.size) = some cs.size) :
    (results fn tmps).run P w = .ok (.tuple #[.agg cs, tmps.getD u undef]) w := by
  rw [results_cell_tmp h, hp]
  simp [asAddr, run_loadVar_row w g t ty cs fr _ hg hu rfl hi, Result.andThen]
theorem lies_of_own {w : World} {B : Nat} {g cap : Nat} {xs : List S24} (h : w.ownsRow B 40 6 (.slice (some ⟨g, 0, none⟩) xs.length cap) xs.length (rowCells xs)) : Lies g xs w := by
  intro i hi
  have at_ : ∀ j, j < 6 → w.cell? ⟨g, i * 6 + j, none⟩ = (cells40 (xs.getD i z24))[j]? := fun j hj => by
    rw [h.cellAt (i * 6 + j) (by omega), rowCells_get xs i hi j hj]
  have h0 := h
  rcases h.2 with ⟨h', _⟩ | ⟨g', cap', cur, h', _, hg, _⟩
  · simp at h'
  · simp only [Value.slice.injEq, Option.some.injEq, Addr.mk.injEq, and_true, true_and] at h'
    obtain ⟨rfl, rfl⟩ := h'
    exact ⟨(Array.getElem?_eq_some_iff.1 hg).1, at_ 0 (by omega), at_ 1 (by omega), at_ 2 (by omega), at_ 3 (by omega), at_ 4 (by omega), at_ 5 (by omega)⟩
/-- numbers that fit -/
def Fit (x : S24) : Prop := (0 ≤ x.f0 ∧ x.f0 ≤ 1073741824) ∧ (0 ≤ x.f1 ∧ x.f1 ≤ 1073741824) ∧ (0 ≤ x.f2 ∧ x.f2 ≤ 1073741824) ∧ (0 ≤ x.f3 ∧ x.f3 ≤ 1073741824) ∧ (0 ≤ x.f4 ∧ x.f4 ≤ 1073741824) ∧ (-1 ≤ x.f5 ∧ x.f5 ≤ 1073741824)
theorem unname_name {n : Int} (h1 : -1 ≤ n) (h2 : n ≤ 1073741824) : unname (name n) = n := by
  unfold unname name
  by_cases h : 0 ≤ n
  · rw [if_pos h, if_neg (by omega)]; omega
  · rw [if_neg h, if_pos rfl]; omega
def FoundMap (line col : Int) (xs : List S24) (en : Ending) : Prop := ∃ j, j ≤ xs.length ∧ (∀ i, i < j → le line col (xs.getD i z24)) ∧ (∀ i, j ≤ i → i < xs.length → ¬ le line col (xs.getD i z24)) ∧
  ((en = .returned (.tuple #[.agg (cells24 z24), .bool false]) ∧ (j = 0 ∨ (xs.getD (j - 1) z24).f0 ≠ line)) ∨ (0 < j ∧ (xs.getD (j - 1) z24).f0 = line ∧ en = .returned (.tuple #[.agg (cells24 (xs.getD (j - 1) z24)), .bool true])))

set_option maxHeartbeats 40000000 in
set_option maxRecDepth 100000 in
theorem findMapping (xs : List S24) (A0 : Option Addr) (cap : Nat) (line col : Int) (w : World) (hn : xs.length ≤ 1000) (hl : 0 ≤ line ∧ line ≤ 2147483647) (hc : 0 ≤ col ∧ col ≤ 2147483647)
    (hC : Kd.C k24 w A0 xs.length xs) (hfit : ∀ i, i < xs.length → Fit (xs.getD i z24)) (hmono : ∀ i j, i ≤ j → j < xs.length → le line col (xs.getD j z24) → le line col (xs.getD i z24)) :
    Calls Try.prog 4 #[.slice A0 xs.length cap, .int .i64 line, .int .i64 col] w fun en w' => FoundMap line col xs en ∧ Below w.heap.size w w' := by
  obtain ⟨i0, hi, hz0, hz1, hz2⟩ := info_parts info40
  have HM := Lib.hid hmono
  have HF := Lib.hid hfit
  have HC := Lib.hid hC
  clear hmono hfit hC
  obtain ⟨l0, l1⟩ := hl
  obtain ⟨c0, c1⟩ := hc
  have n0 : (xs.length : Int) ≤ 1000 := by omega
  have hB0 : Below (w.heap.size + 1) (w.alloc (.cells (cells24 z24) 24)) ((w.alloc (.cells (cells24 z24) 24)).alloc (.cells #[.slice none 0 0, .slice none 0 0, .slice none 0 0, .slice none 0 0] 34)) := (Below.refl _ _).alloc (by simp) _
  have HB0 := Lib.hid hB0
  have HH0 := Lib.hid (show ((w.alloc (.cells (cells24 z24) 24)).alloc (.cells #[.slice none 0 0, .slice none 0 0, .slice none 0 0, .slice none 0 0] 34)).heap[w.heap.size + 1]? = some (Obj.cells #[.slice none 0 0, .slice none 0 0, .slice none 0 0, .slice none 0 0] 34 (0, 0)) by
    have := heap_alloc_new (w.alloc (.cells (cells24 z24) 24)) (.cells #[.slice none 0 0, .slice none 0 0, .slice none 0 0, .slice none 0 0] 34)
    simpa using this)
  clear hB0
  go_enter Try.func4, Try.ntmps4
  go_wp2_with (fail)
  go_loopw [10, 11, 16] (fun v10 v11 v16 wr => ∃ (i : Nat) (v : Value), v16 = .int .i64 i ∧ i ≤ xs.length ∧ Hid (wr.heap[w.heap.size + 1]? = some (Obj.cells #[.slice none 0 0, .slice none 0 0, v, .slice none 0 0] 34 (0, 0))) ∧ Hid (wr.ownsRow (w.heap.size + 2) 40 6 v i (rowCells (xs.take i))) ∧ Hid (Below (w.heap.size + 1) (w.alloc (.cells (cells24 z24) 24)) wr)) (fun _ _ v16 _ => xs.length - (intOf v16).toNat)
  case atStart => exact ⟨0, _, rfl, Nat.zero_le _, HH0, Lib.hid (World.ownsRow_nil _ _ _ _), HB0⟩
  case round =>
    clear HH0 HB0
    obtain ⟨i, v, rfl, hil, HH, HO, HB⟩ := hrel
    have i1 : (0 : Int) ≤ i := by omega
    have hsz : w.heap.size + 2 ≤ wr.heap.size := by have := blk_lt HH.out; omega
    by_cases hlt : i < xs.length
    · have hlt' : (i : Int) < xs.length := by omega
      have hbw : Below w.heap.size w wr := ((Below.refl _ _).alloc (Nat.le_refl _) _).trans (HB.out.mono (by omega))
      obtain ⟨ad, hA, q0, q1, q2, q3, q4, q5⟩ := at_T24 (Kd.C_below HC.out hbw) (i : Int) i1 (by omega)
      subst hA
      have er : rd_T24 xs (i : Int) = xs.getD i z24 := by unfold rd_T24; rw [Int.toNat_natCast]
      rw [er] at q0 q1 q2 q3 q4 q5
      rw [Int.toNat_natCast] at q0 q1 q2 q3 q4 q5
      obtain ⟨⟨a0, b0⟩, ⟨a1, b1⟩, ⟨a2, b2⟩, ⟨a3, b3⟩, ⟨a4, b4⟩, ⟨a5, b5⟩⟩ := HF.out i hlt
      have HX := Lib.hid (rowCells_take xs i hlt)
      generalize hx : xs.getD i z24 = x at *
      obtain ⟨f0, f1, f2, f3, f4, f5⟩ := x
      simp only at q0 q1 q2 q3 q4 q5 a0 b0 a1 b1 a2 b2 a3 b3 a4 b4 a5 b5
      go_wp2_with (fail)
      refine (small [f0, f1, f2, f3, f4, f5] (wr.heap.size + 1) 6 _ (by simp) (by simp) (by have := six_cells (wr.alloc (Obj.cells #[Value.int IntKind.i64 f0, Value.int IntKind.i64 f1, Value.int IntKind.i64 f2, Value.int IntKind.i64 f3, Value.int IntKind.i64 f4, Value.int IntKind.i64 f5] 24)) f0 f1 f2 f3 f4 f5; simpa using this) ?_).mono ?_
      · intro j hj
        match j, hj with
        | 0, _ => exact ⟨by show _ ≤ f0; omega, by show f0 ≤ _; omega⟩
        | 1, _ => exact ⟨by show _ ≤ f1; omega, by show f1 ≤ _; omega⟩
        | 2, _ => exact ⟨by show _ ≤ f2; omega, by show f2 ≤ _; omega⟩
        | 3, _ => exact ⟨by show _ ≤ f3; omega, by show f3 ≤ _; omega⟩
        | 4, _ => exact ⟨by show _ ≤ f4; omega, by show f4 ≤ _; omega⟩
        | 5, _ => exact ⟨by show _ ≤ f5; omega, by show f5 ≤ _; omega⟩
        | n + 6, h => simp at h; omega
      rintro e w1 ⟨rfl, hd⟩
      obtain ⟨m, rfl⟩ := hd
      clear q0 q1 q2 q3 q4 q5
      have hb34 : wr.cell? ⟨w.heap.size + 1, 2, none⟩ = some v := by rw [Lib.cell_of_heap HH.out]; rfl
      have hb1 : w.heap.size + 1 < wr.heap.size := by omega
      have hrd3 : ∀ o1 o2 o3 : Obj, ((((wr.alloc o1).alloc o2).drewN m).alloc o3).cell? ⟨w.heap.size + 1, 2, none⟩ = some v := fun o1 o2 o3 => by
        rw [← hb34]
        have hh : ((((wr.alloc o1).alloc o2).drewN m).alloc o3).heap[w.heap.size + 1]? = wr.heap[w.heap.size + 1]? := by
          rw [Below.heap_alloc _ _ _ (by simp; omega)]
          show ((wr.alloc o1).alloc o2).heap[w.heap.size + 1]? = _
          rw [Below.heap_alloc _ _ _ (by simp; omega), Below.heap_alloc _ _ _ (by omega)]
        exact World.cell?_of_block hh
      have hrd4 : ∀ o1 o2 o3 o4 : Obj, (((((wr.alloc o1).alloc o2).drewN m).alloc o3).alloc o4).cell? ⟨w.heap.size + 1, 2, none⟩ = some v := fun o1 o2 o3 o4 => by
        rw [← hrd3 o1 o2 o3]
        exact World.cell?_of_block (Below.heap_alloc _ _ _ (by simp; omega))
      by_cases hneg : 0 ≤ f5
      · go_wp2_with (fail)
        refine (makeIndex' f5 hneg (by omega) _).mono ?_
        rintro e w1 ⟨rfl, rfl⟩
        go_wp2_with (at_builtin; refine wpList_append_own _ rfl (.tmp 61) (.tmp 63) 32 rfl (w.heap.size + 2) 40 i0 (.agg #[.int .i32 0, .int .i32 0, .int .i32 0, .int .i32 0, .int .i32 0, .int .u32 0]) 6 24 Try.underlying32 hi hz0 hz1 hz2 rfl (by decide) _ i _ rfl ((((show World.ownsRow (((wr.alloc (Obj.cells #[Value.int IntKind.i64 f0, Value.int IntKind.i64 f1, Value.int IntKind.i64 f2, Value.int IntKind.i64 f3, Value.int IntKind.i64 f4, Value.int IntKind.i64 f5] 24)).alloc (Obj.cells #[Value.int IntKind.i64 f0, Value.int IntKind.i64 f1, Value.int IntKind.i64 f2, Value.int IntKind.i64 f3, Value.int IntKind.i64 f4, Value.int IntKind.i64 f5] 3)).drewN m) (w.heap.size + 2) 40 6 v i (rowCells (xs.take i)) from (HO.out.alloc _).alloc _).alloc _).alloc _).alloc _) ⟨wr.heap.size + 1 + 1 + 1 + 1, 0, none⟩ 1 1 [Value.int IntKind.i32 f0, Value.int IntKind.i32 f1, Value.int IntKind.i32 f2, Value.int IntKind.i32 f3, Value.int IntKind.i32 f4, Value.int IntKind.u32 (4294967295 - f5)] rfl rfl (fun j u h => by have := news_alloc (((((wr.alloc (Obj.cells #[Value.int IntKind.i64 f0, Value.int IntKind.i64 f1, Value.int IntKind.i64 f2, Value.int IntKind.i64 f3, Value.int IntKind.i64 f4, Value.int IntKind.i64 f5] 24)).alloc (Obj.cells #[Value.int IntKind.i64 f0, Value.int IntKind.i64 f1, Value.int IntKind.i64 f2, Value.int IntKind.i64 f3, Value.int IntKind.i64 f4, Value.int IntKind.i64 f5] 3)).drewN m).alloc (Obj.cells #[Value.int IntKind.i32 f0, Value.int IntKind.i32 f1, Value.int IntKind.i32 f2, Value.int IntKind.i32 f3, Value.int IntKind.i32 f4, Value.int IntKind.u32 (4294967295 - f5)] 40)).alloc (Obj.cells #[Value.int IntKind.u32 (4294967295 - f5)] 38)) [Value.int IntKind.i32 f0, Value.int IntKind.i32 f1, Value.int IntKind.i32 f2, Value.int IntKind.i32 f3, Value.int IntKind.i32 f4, Value.int IntKind.u32 (4294967295 - f5)] 40 j u h; simpa using this) (by intro u hu; simp only [List.mem_cons, List.not_mem_nil, or_false] at hu; rcases hu with rfl | rfl | rfl | rfl | rfl | rfl <;> rfl) (by unfold maxLen; omega) (by omega) (by simp; omega) ?_)
        intro v' w2 hown3 hgr _
        have hW : Below wr.heap.size wr ((((((wr.alloc (Obj.cells #[Value.int IntKind.i64 f0, Value.int IntKind.i64 f1, Value.int IntKind.i64 f2, Value.int IntKind.i64 f3, Value.int IntKind.i64 f4, Value.int IntKind.i64 f5] 24)).alloc (Obj.cells #[Value.int IntKind.i64 f0, Value.int IntKind.i64 f1, Value.int IntKind.i64 f2, Value.int IntKind.i64 f3, Value.int IntKind.i64 f4, Value.int IntKind.i64 f5] 3)).drewN m).alloc (Obj.cells #[Value.int IntKind.i32 f0, Value.int IntKind.i32 f1, Value.int IntKind.i32 f2, Value.int IntKind.i32 f3, Value.int IntKind.i32 f4, Value.int IntKind.u32 (4294967295 - f5)] 40)).alloc (Obj.cells #[Value.int IntKind.u32 (4294967295 - f5)] 38)).alloc (Obj.cells #[Value.int IntKind.i32 f0, Value.int IntKind.i32 f1, Value.int IntKind.i32 f2, Value.int IntKind.i32 f3, Value.int IntKind.i32 f4, Value.int IntKind.u32 (4294967295 - f5)] 40)) := (((below_drewN (((Below.refl _ _).alloc (Nat.le_refl _) _).alloc (by simp) _) m).alloc (by simp; omega) _).alloc (by simp; omega) _).alloc (by simp; omega) _
        have hgb := hgr.block (w.heap.size + 1) (by simp; omega) (fun e => by have := (HO.out.lt _ e.symm).1; omega)
        have hh2 : w2.heap[w.heap.size + 1]? = some (Obj.cells #[.slice none 0 0, .slice none 0 0, v, .slice none 0 0] 34 (0, 0)) := by
          rw [hgb, hW.block _ hb1]
          exact HH.out
        have HB4 := Lib.hid (show Below (w.heap.size + 1) (w.alloc (.cells (cells24 z24) 24)) w2 from (HB.out.trans (hW.mono (by omega))).grown hgr (by simp; omega) (fun k hk => by have := (HO.out.lt k hk).1; omega))
        have HO4 := Lib.hid (show w2.ownsRow (w.heap.size + 2) 40 6 v' (i + 1) (rowCells (xs.take (i + 1))) by
          rw [HX.out]
          have e : cells40 ⟨f0, f1, f2, f3, f4, f5⟩ = [.int .i32 f0, .int .i32 f1, .int .i32 f2, .int .i32 f3, .int .i32 f4, .int .u32 (4294967295 - f5)] := by unfold cells40 name; simp only []; rw [if_pos hneg]
          rw [e]
          exact hown3)
        clear hW hgb hgr hrd3 hrd4
        have d2 : w2.cell? ⟨w.heap.size + 1, 2, none⟩ = some v := by rw [Lib.cell_of_heap hh2]; rfl
        have z2 : w2.frozen? ⟨w.heap.size + 1, 2, none⟩ = false := Lib.frozen_of_heap hh2 2
        have HH2 := Lib.hid hh2
        clear hh2
        obtain ⟨ao, n', cap', rfl⟩ : ∃ ao n' cap', v' = .slice ao n' cap' := by
          rcases hown3.2 with ⟨hv, _⟩ | ⟨g, cap, cur, hv, _⟩
          · exact ⟨_, _, _, hv⟩
          · exact ⟨_, _, _, hv⟩
        clear hown3
        go_wp2_with (fail)
        go_roundw
        case rel =>
          refine ⟨i + 1, .slice ao n' cap', by simp, by omega, Lib.hid ?_, Lib.hid (ownsRow_setCell_below HO4.out (by simp) _), Lib.hid (HB4.out.setCell (by simp) _)⟩
          have := HH2.out
          simp [World.setCell, Array.getElem?_modify, this]
        case measure =>
          simp only [intOf]
          omega
      · go_wp2_with (at_builtin; refine wpList_append_own _ rfl (.tmp 61) (.tmp 63) 32 rfl (w.heap.size + 2) 40 i0 (.agg #[.int .i32 0, .int .i32 0, .int .i32 0, .int .i32 0, .int .i32 0, .int .u32 0]) 6 24 Try.underlying32 hi hz0 hz1 hz2 rfl (by decide) _ i _ rfl (((show World.ownsRow (((wr.alloc (Obj.cells #[Value.int IntKind.i64 f0, Value.int IntKind.i64 f1, Value.int IntKind.i64 f2, Value.int IntKind.i64 f3, Value.int IntKind.i64 f4, Value.int IntKind.i64 f5] 24)).alloc (Obj.cells #[Value.int IntKind.i64 f0, Value.int IntKind.i64 f1, Value.int IntKind.i64 f2, Value.int IntKind.i64 f3, Value.int IntKind.i64 f4, Value.int IntKind.i64 f5] 3)).drewN m) (w.heap.size + 2) 40 6 v i (rowCells (xs.take i)) from (HO.out.alloc _).alloc _).alloc _).alloc _) ⟨wr.heap.size + 1 + 1 + 1, 0, none⟩ 1 1 [Value.int IntKind.i32 f0, Value.int IntKind.i32 f1, Value.int IntKind.i32 f2, Value.int IntKind.i32 f3, Value.int IntKind.i32 f4, Value.int IntKind.u32 0] rfl rfl (fun j u h => by have := news_alloc ((((wr.alloc (Obj.cells #[Value.int IntKind.i64 f0, Value.int IntKind.i64 f1, Value.int IntKind.i64 f2, Value.int IntKind.i64 f3, Value.int IntKind.i64 f4, Value.int IntKind.i64 f5] 24)).alloc (Obj.cells #[Value.int IntKind.i64 f0, Value.int IntKind.i64 f1, Value.int IntKind.i64 f2, Value.int IntKind.i64 f3, Value.int IntKind.i64 f4, Value.int IntKind.i64 f5] 3)).drewN m).alloc (Obj.cells #[Value.int IntKind.i32 f0, Value.int IntKind.i32 f1, Value.int IntKind.i32 f2, Value.int IntKind.i32 f3, Value.int IntKind.i32 f4, Value.int IntKind.u32 0] 40)) [Value.int IntKind.i32 f0, Value.int IntKind.i32 f1, Value.int IntKind.i32 f2, Value.int IntKind.i32 f3, Value.int IntKind.i32 f4, Value.int IntKind.u32 0] 40 j u h; simpa using this) (by intro u hu; simp only [List.mem_cons, List.not_mem_nil, or_false] at hu; rcases hu with rfl | rfl | rfl | rfl | rfl | rfl <;> rfl) (by unfold maxLen; omega) (by omega) (by simp; omega) ?_)
        intro v' w2 hown3 hgr _
        have hW : Below wr.heap.size wr (((((wr.alloc (Obj.cells #[Value.int IntKind.i64 f0, Value.int IntKind.i64 f1, Value.int IntKind.i64 f2, Value.int IntKind.i64 f3, Value.int IntKind.i64 f4, Value.int IntKind.i64 f5] 24)).alloc (Obj.cells #[Value.int IntKind.i64 f0, Value.int IntKind.i64 f1, Value.int IntKind.i64 f2, Value.int IntKind.i64 f3, Value.int IntKind.i64 f4, Value.int IntKind.i64 f5] 3)).drewN m).alloc (Obj.cells #[Value.int IntKind.i32 f0, Value.int IntKind.i32 f1, Value.int IntKind.i32 f2, Value.int IntKind.i32 f3, Value.int IntKind.i32 f4, Value.int IntKind.u32 0] 40)).alloc (Obj.cells #[Value.int IntKind.i32 f0, Value.int IntKind.i32 f1, Value.int IntKind.i32 f2, Value.int IntKind.i32 f3, Value.int IntKind.i32 f4, Value.int IntKind.u32 0] 40)) := ((below_drewN (((Below.refl _ _).alloc (Nat.le_refl _) _).alloc (by simp) _) m).alloc (by simp; omega) _).alloc (by simp; omega) _
        have hgb := hgr.block (w.heap.size + 1) (by simp; omega) (fun e => by have := (HO.out.lt _ e.symm).1; omega)
        have hh2 : w2.heap[w.heap.size + 1]? = some (Obj.cells #[.slice none 0 0, .slice none 0 0, v, .slice none 0 0] 34 (0, 0)) := by
          rw [hgb, hW.block _ hb1]
          exact HH.out
        have HB4 := Lib.hid (show Below (w.heap.size + 1) (w.alloc (.cells (cells24 z24) 24)) w2 from (HB.out.trans (hW.mono (by omega))).grown hgr (by simp; omega) (fun k hk => by have := (HO.out.lt k hk).1; omega))
        have HO4 := Lib.hid (show w2.ownsRow (w.heap.size + 2) 40 6 v' (i + 1) (rowCells (xs.take (i + 1))) by
          rw [HX.out]
          have e : cells40 ⟨f0, f1, f2, f3, f4, f5⟩ = [.int .i32 f0, .int .i32 f1, .int .i32 f2, .int .i32 f3, .int .i32 f4, .int .u32 0] := by unfold cells40 name; simp only []; rw [if_neg (by omega)]
          rw [e]
          exact hown3)
        clear hW hgb hgr hrd3 hrd4
        have d2 : w2.cell? ⟨w.heap.size + 1, 2, none⟩ = some v := by rw [Lib.cell_of_heap hh2]; rfl
        have z2 : w2.frozen? ⟨w.heap.size + 1, 2, none⟩ = false := Lib.frozen_of_heap hh2 2
        have HH2 := Lib.hid hh2
        clear hh2
        obtain ⟨ao, n', cap', rfl⟩ : ∃ ao n' cap', v' = .slice ao n' cap' := by
          rcases hown3.2 with ⟨hv, _⟩ | ⟨g, cap, cur, hv, _⟩
          · exact ⟨_, _, _, hv⟩
          · exact ⟨_, _, _, hv⟩
        clear hown3
        go_wp2_with (fail)
        go_roundw
        case rel =>
          refine ⟨i + 1, .slice ao n' cap', by simp, by omega, Lib.hid ?_, Lib.hid (ownsRow_setCell_below HO4.out (by simp) _), Lib.hid (HB4.out.setCell (by simp) _)⟩
          have := HH2.out
          simp [World.setCell, Array.getElem?_modify, this]
        case measure =>
          simp only [intOf]
          omega
    · have hlt' : ¬ (i : Int) < xs.length := by omega
      obtain rfl : i = xs.length := by omega
      have HO5 := Lib.hid (show wr.ownsRow (w.heap.size + 2) 40 6 v xs.length (rowCells xs) by
        have := HO.out
        rw [List.take_length] at this
        exact this)
      obtain ⟨A, cap', g, rfl, hA⟩ : ∃ A cap' g, v = .slice A xs.length cap' ∧ (xs ≠ [] → A = some ⟨g, 0, none⟩) := by
        rcases HO5.out.2 with ⟨hv, hz⟩ | ⟨g, cap, cur, hv, _⟩
        · exact ⟨none, 0, 0, by rw [hv, hz], fun h => absurd (List.eq_nil_of_length_eq_zero hz) h⟩
        · exact ⟨_, cap, g, hv, fun _ => rfl⟩
      have HAX := Lib.hid hA
      have HLI := Lib.hid (show Lies g xs wr by
        intro i hi
        have hne : xs ≠ [] := by intro h; rw [h] at hi; simp at hi
        have := HO5.out
        rw [hA hne] at this
        exact lies_of_own this i hi)
      clear hA
      go_wp2_with (fail)
      refine (small [line, col] wr.heap.size 2 _ (by simp) (by simp) (two_cells wr line col) ?_).mono ?_
      · intro j hj
        match j, hj with
        | 0, _ => exact ⟨by show _ ≤ line; omega, by show line ≤ _; omega⟩
        | 1, _ => exact ⟨by show _ ≤ col; omega, by show col ≤ _; omega⟩
        | n + 2, h => simp at h; omega
      rintro e w1 ⟨rfl, hd⟩
      obtain ⟨m, rfl⟩ := hd
      have hW : Below wr.heap.size wr ((wr.alloc (.cells #[.int .i64 line, .int .i64 col] 3)).drewN m) := below_drewN ((Below.refl _ _).alloc (Nat.le_refl _) _) m
      have HW := Lib.hid hW
      have HV := Lib.hid (show ((wr.alloc (.cells #[.int .i64 line, .int .i64 col] 3)).drewN m).cell? ⟨w.heap.size + 1, 2, none⟩ = some (.slice A xs.length cap') by
        rw [hW.cell (p := ⟨w.heap.size + 1, 2, none⟩) (show w.heap.size + 1 < wr.heap.size by omega), Lib.cell_of_heap HH.out]; rfl)
      clear hW
      go_wp2_with (fail)
      refine (find xs (w.heap.size + 1) g A cap' line col _ hn ⟨l0, l1⟩ ⟨c0, c1⟩ HV.out HAX.out (HLI.out.below HW.out rfl) HM.out).mono ?_
      rintro e w3 ⟨⟨j, hj, hj1, hj2, hj3⟩, hb3⟩
      have HJ1 := Lib.hid hj1
      have HJ2 := Lib.hid hj2
      have hs3 : wr.heap.size ≤ w3.heap.size := by have := hb3.size; simp at this; omega
      have HB3 := Lib.hid (show Below (w.heap.size + 1) (w.alloc (.cells (cells24 z24) 24)) w3 from (HB.out.trans (HW.out.mono (by omega))).trans (hb3.mono (by simp; omega)))
      have HLI3 := Lib.hid (show Lies g xs w3 from (HLI.out.below HW.out rfl).below hb3 rfl)
      clear hj1 hj2 hb3 HV HLI
      have hr0 : w3.heap[w.heap.size]? = some (Obj.cells #[.int .i64 0, .int .i64 0, .int .i64 0, .int .i64 0, .int .i64 0, .int .i64 0] 24 (0, 0)) := by
        rw [HB3.out.block _ (by omega)]
        exact heap_alloc_new w _
      have HR0 := Lib.hid hr0
      have HBW := Lib.hid (show Below w.heap.size w w3 from ((Below.refl _ _).alloc (Nat.le_refl _) _).trans (HB3.out.mono (by omega)))
      rcases hj3 with ⟨rfl, hj3⟩ | ⟨hj3, hj4, rfl⟩
      · have HJ3 := Lib.hid hj3
        clear hj3
        have y0 : w3.cell? ⟨w.heap.size, 0, none⟩ = some (.int .i64 0) := by rw [Lib.cell_of_heap hr0]; rfl
        have y1 : w3.cell? ⟨w.heap.size, 1, none⟩ = some (.int .i64 0) := by rw [Lib.cell_of_heap hr0]; rfl
        have y2 : w3.cell? ⟨w.heap.size, 2, none⟩ = some (.int .i64 0) := by rw [Lib.cell_of_heap hr0]; rfl
        have y3 : w3.cell? ⟨w.heap.size, 3, none⟩ = some (.int .i64 0) := by rw [Lib.cell_of_heap hr0]; rfl
        have y4 : w3.cell? ⟨w.heap.size, 4, none⟩ = some (.int .i64 0) := by rw [Lib.cell_of_heap hr0]; rfl
        have y5 : w3.cell? ⟨w.heap.size, 5, none⟩ = some (.int .i64 0) := by rw [Lib.cell_of_heap hr0]; rfl
        have z0 : ∀ k, w3.frozen? ⟨w.heap.size, k, none⟩ = false := fun k => Lib.frozen_of_heap hr0 k
        clear hr0
        go_wp2_with (fail)
        exact bodyPost_ret (results_row2 rfl _ _ w.heap.size 24 _ (0, 0) _ rfl (six HR0.out _ _ _ _ _ _) Try.underlying24 info24) rfl ⟨⟨j, hj, HJ1.out, HJ2.out, .inl ⟨rfl, HJ3.out⟩⟩, below_six HBW.out (by omega) _ _ _ _ _ _⟩
      · have HJ3 := Lib.hid hj3
        obtain ⟨k, rfl⟩ : ∃ k, j = k + 1 := ⟨j - 1, by omega⟩
        have hk : k < xs.length := by omega
        rw [Nat.add_sub_cancel] at hj4
        have HJ4 := Lib.hid hj4
        clear hj4 hj3
        obtain ⟨gg, q0, q1, q2, q3, q4, q5⟩ := HLI3.out k hk
        obtain ⟨⟨a0, b0⟩, ⟨a1, b1⟩, ⟨a2, b2⟩, ⟨a3, b3⟩, ⟨a4, b4⟩, ⟨a5, b5⟩⟩ := HF.out k hk
        have HU := Lib.hid (unname_name a5 b5)
        have e0 : 0 ≤ name (xs.getD k z24).f5 := by unfold name; split <;> omega
        have e1 : name (xs.getD k z24).f5 ≤ 4294967295 := by unfold name; split <;> omega
        rw [Nat.add_sub_cancel]
        generalize hx : xs.getD k z24 = x at *
        go_wp2_with (fail)
        refine (told x.f0 x.f1 x.f2 x.f3 x.f4 (name x.f5) ⟨a0, by omega⟩ ⟨a1, by omega⟩ ⟨a2, by omega⟩ ⟨a3, by omega⟩ ⟨a4, by omega⟩ e0 e1 _).mono ?_
        rintro e w4 ⟨rfl, hb4⟩
        rw [HU.out]
        have hr4 : w4.heap[w.heap.size]? = some (Obj.cells #[.int .i64 0, .int .i64 0, .int .i64 0, .int .i64 0, .int .i64 0, .int .i64 0] 24 (0, 0)) := (hb4.block _ (by omega)).trans hr0
        have HB4 := Lib.hid (HBW.out.trans (hb4.mono HBW.out.size))
        have HR4 := Lib.hid hr4
        have y0 : w4.cell? ⟨w.heap.size, 0, none⟩ = some (.int .i64 0) := by rw [Lib.cell_of_heap hr4]; rfl
        have y1 : w4.cell? ⟨w.heap.size, 1, none⟩ = some (.int .i64 0) := by rw [Lib.cell_of_heap hr4]; rfl
        have y2 : w4.cell? ⟨w.heap.size, 2, none⟩ = some (.int .i64 0) := by rw [Lib.cell_of_heap hr4]; rfl
        have y3 : w4.cell? ⟨w.heap.size, 3, none⟩ = some (.int .i64 0) := by rw [Lib.cell_of_heap hr4]; rfl
        have y4 : w4.cell? ⟨w.heap.size, 4, none⟩ = some (.int .i64 0) := by rw [Lib.cell_of_heap hr4]; rfl
        have y5 : w4.cell? ⟨w.heap.size, 5, none⟩ = some (.int .i64 0) := by rw [Lib.cell_of_heap hr4]; rfl
        have z0 : ∀ k, w4.frozen? ⟨w.heap.size, k, none⟩ = false := fun k => Lib.frozen_of_heap hr4 k
        have HXX := Lib.hid hx
        clear hr0 hr4 hb4 hx q0 q1 q2 q3 q4 q5
        go_wp2_with (fail)
        exact bodyPost_ret (results_row2 rfl _ _ w.heap.size 24 _ (0, 0) _ rfl (six HR4.out _ _ _ _ _ _) Try.underlying24 info24) rfl ⟨⟨k + 1, hj, HJ1.out, HJ2.out, .inr ⟨by omega, by rw [Nat.add_sub_cancel, HXX.out]; exact HJ4.out, by rw [Nat.add_sub_cancel, HXX.out]; rfl⟩⟩, below_six HB4.out (by omega) _ _ _ _ _ _⟩
end Go.Proofs.Ytlodefalhhcmkaa.fnFind
