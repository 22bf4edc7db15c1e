/-
  FnFind: the law's own walk: what is found is the last mapping of the line at or before the column; it answers true at every list.
  Conditions: none.
-/
import Derived.Test.YtlodefalhhcmkaaFnFindMapping
import Derived.Test.YtlodefalhhcmkaaFnFindPure
namespace Go.Proofs.Ytlodefalhhcmkaa.fnFind
open Go.RowKit Go.Proofs.YtlodefalhhcmkaaW.PrintWords Go.Proofs.Ytlodefalhhcmkaa.PFnFind
set_option linter.unusedVariables false
set_option linter.unusedSimpArgs false

theorem eqA24 (d : Nat) (w : World) (x0 y0 : Int) (x1 y1 : Int) (x2 y2 : Int) (x3 y3 : Int) (x4 y4 : Int) (x5 y5 : Int) :
    (Op.equalIn (d + 2) 24 (.agg #[.int .i64 x0, .int .i64 x1, .int .i64 x2, .int .i64 x3, .int .i64 x4, .int .i64 x5]) (.agg #[.int .i64 y0, .int .i64 y1, .int .i64 y2, .int .i64 y3, .int .i64 y4, .int .i64 y5])).run Try.prog w = .ok (x0 == y0 && (x1 == y1 && (x2 == y2 && (x3 == y3 && (x4 == y4 && (x5 == y5)))))) w := by
  refine eqA_of Try.underlying24 (by kernel_rfl) ?_
  refine eqf_cons (by rfl) (by go_simp; rfl) (by go_simp; rfl) (by go_simp) ?_
  refine eqf_cons (by rfl) (by go_simp; rfl) (by go_simp; rfl) (by go_simp) ?_
  refine eqf_cons (by rfl) (by go_simp; rfl) (by go_simp; rfl) (by go_simp) ?_
  refine eqf_cons (by rfl) (by go_simp; rfl) (by go_simp; rfl) (by go_simp) ?_
  refine eqf_cons (by rfl) (by go_simp; rfl) (by go_simp; rfl) (by go_simp) ?_
  exact eqf_last (by rfl) (by go_simp; rfl) (by go_simp; rfl) (by go_simp)
/-- two mappings are the same -/
def same (y x : S24) : Bool := y.f0 == x.f0 && (y.f1 == x.f1 && (y.f2 == x.f2 && (y.f3 == x.f3 && (y.f4 == x.f4 && (y.f5 == x.f5)))))
theorem same_self (x : S24) : same x x = true := by unfold same; simp
theorem eqS (d : Nat) (w : World) (y x : S24) : (Op.equalIn (d + 2) 24 (.agg #[.int .i64 y.f0, .int .i64 y.f1, .int .i64 y.f2, .int .i64 y.f3, .int .i64 y.f4, .int .i64 y.f5]) (.agg #[.int .i64 x.f0, .int .i64 x.f1, .int .i64 x.f2, .int .i64 x.f3, .int .i64 x.f4, .int .i64 x.f5])).run Try.prog w = .ok (same y x) w := eqA24 d w _ _ _ _ _ _ _ _ _ _ _ _
attribute [local go_sem high] eqS
def one : S24 := ⟨0, 0, 0, 1, 0, -1⟩
theorem reads_one (W : World) (x : S24) : Kd.C k24 (W.alloc (.cells (cells24 x) 24)) (some ⟨W.heap.size, 0, none⟩) [x].length [x] := by
  refine ⟨rfl, by simp, fun _ => ⟨_, rfl, fun j p hj => ?_⟩⟩
  match j, hj with
  | 0, hj =>
    obtain rfl : x = p := by simpa using hj
    refine ⟨_, rfl, k24_mk _ _, fun i u hu => ?_⟩
    have := news_alloc W (cells24 x).toList 24 i u hu
    rw [Array.toArray_toList] at this
    have e : 0 * k24.sz + i = i := by omega
    rw [e]
    exact this
  | n + 1, hj => simp at hj
theorem fit_one : Fit one := by unfold Fit one; simp
theorem awake (W : World) : Calls Try.prog 4 #[.slice (some ⟨W.heap.size, 0, none⟩) 1 1, .int .i64 0, .int .i64 5] (W.alloc (.cells (cells24 one) 24)) fun en w' => en = .returned (.tuple #[.agg (cells24 one), .bool true]) ∧ Below (W.heap.size + 1) (W.alloc (.cells (cells24 one) 24)) w' := by
  refine (findMapping [one] _ 1 0 5 _ (by simp) (by omega) (by omega) (reads_one W one) (fun i hi => ?_) (fun i j h1 h2 h3 => ?_)).mono ?_
  · obtain rfl : i = 0 := by simpa using hi
    exact fit_one
  · obtain rfl : j = 0 := by simpa using h2
    obtain rfl : i = 0 := by omega
    exact h3
  · rintro en w' ⟨⟨j, hj, hj1, hj2, hj3⟩, hb⟩
    have hle : le 0 5 one := .inr ⟨rfl, by decide⟩
    have hl1 : [one].length = 1 := rfl
    have j0 : j ≠ 0 := fun h => hj2 0 (by omega) (by simp) hle
    obtain rfl : j = 1 := by omega
    refine ⟨?_, by have e : (W.alloc (.cells (cells24 one) 24)).heap.size = W.heap.size + 1 := by simp
                   rw [← e]; exact hb⟩
    rcases hj3 with ⟨_, h | h⟩ | ⟨_, _, h⟩
    · omega
    · exact absurd rfl h
    · exact h
theorem awake' (w : World) : Calls Try.prog 4 #[.slice (some ⟨w.heap.size + 1, 0, none⟩) 1 1, .int .i64 0, .int .i64 5] ((w.alloc (Obj.cells #[Value.int IntKind.i64 0, Value.int IntKind.i64 0, Value.int IntKind.i64 0, Value.int IntKind.i64 1, Value.int IntKind.i64 0, Value.int IntKind.i64 (-1)] 24)).alloc (Obj.cells #[Value.int IntKind.i64 0, Value.int IntKind.i64 0, Value.int IntKind.i64 0, Value.int IntKind.i64 1, Value.int IntKind.i64 0, Value.int IntKind.i64 (-1)] 24)) fun en w' => en = .returned (.tuple #[.agg #[Value.int IntKind.i64 0, Value.int IntKind.i64 0, Value.int IntKind.i64 0, Value.int IntKind.i64 1, Value.int IntKind.i64 0, Value.int IntKind.i64 (-1)], .bool true]) ∧ Below w.heap.size w w' := by
  have h := awake (w.alloc (Obj.cells #[Value.int IntKind.i64 0, Value.int IntKind.i64 0, Value.int IntKind.i64 0, Value.int IntKind.i64 1, Value.int IntKind.i64 0, Value.int IntKind.i64 (-1)] 24))
  have e : (w.alloc (Obj.cells #[Value.int IntKind.i64 0, Value.int IntKind.i64 0, Value.int IntKind.i64 0, Value.int IntKind.i64 1, Value.int IntKind.i64 0, Value.int IntKind.i64 (-1)] 24)).heap.size = w.heap.size + 1 := by simp
  have eo : cells24 one = #[Value.int IntKind.i64 0, Value.int IntKind.i64 0, Value.int IntKind.i64 0, Value.int IntKind.i64 1, Value.int IntKind.i64 0, Value.int IntKind.i64 (-1)] := rfl
  rw [eo, e] at h
  refine h.mono ?_
  rintro en w' ⟨h1, h2⟩
  exact ⟨h1, (((Below.refl _ _).alloc (Nat.le_refl _) _).alloc (by simp) _).trans (h2.mono (by omega))⟩
/-- what is found is what is asked for -/
theorem agree {xs : List S24} (hs : Sorted xs) {line col r : Int} {en : Ending} (hf : FoundMap line col xs en) (hr : IsLast xs line col r) :
    (r = -1 ∧ en = .returned (.tuple #[.agg (cells24 z24), .bool false])) ∨ ∃ k : Nat, r = k ∧ k < xs.length ∧ en = .returned (.tuple #[.agg (cells24 (xs.getD k z24)), .bool true]) := by
  obtain ⟨j, hj, h1, h2, h3⟩ := hf
  rcases hr with ⟨rfl, hr⟩ | ⟨k, rfl, hk, hk1, hk2, hk3⟩
  · rcases h3 with ⟨h3, _⟩ | ⟨h3, h4, _⟩
    · exact .inl ⟨rfl, h3⟩
    · exfalso
      have hle := h1 (j - 1) (by omega)
      refine hr (j - 1) (by omega) ⟨h4, ?_⟩
      rcases hle with hle | hle
      · omega
      · exact hle.2
  · have hlk : le line col (xs.getD k z24) := .inr ⟨hk1, hk2⟩
    have hkj : k < j := by
      by_cases h : k < j
      · exact h
      · exact absurd hlk (h2 k (by omega) hk)
    have hle := h1 (j - 1) (by omega)
    have hlex := sorted_le hs (xs.getD (j - 1) z24).f0 (xs.getD (j - 1) z24).f1 (j - 1 - k) k (by omega) (by rw [show k + (j - 1 - k) = j - 1 by omega]; exact .inr ⟨rfl, Int.le_refl _⟩)
    unfold le at hle
    have h0 : (xs.getD (j - 1) z24).f0 = line := by omega
    rcases h3 with ⟨_, h3 | h3⟩ | ⟨_, _, h3⟩
    · omega
    · exact absurd h0 h3
    · refine .inr ⟨k, rfl, hk, ?_⟩
      have hjk : j - 1 = k := by
        by_cases e : k < j - 1
        · exact absurd ⟨h0, by omega⟩ (hk3 (j - 1) e (by omega))
        · omega
      rw [hjk] at h3
      exact h3

set_option maxHeartbeats 40000000 in
set_option maxRecDepth 100000 in
theorem law (xs : List S24) (A : Option Addr) (cap : Nat) (line col : Int) (w : World) (hC : Kd.C k24 w A xs.length xs) (hcap : xs.length ≤ cap)
    (hr : ∀ i, i < xs.length → -9223372036854775808 ≤ (xs.getD i z24).f5 ∧ (xs.getD i z24).f5 ≤ 9223372036854775807) :
    Calls Try.prog 3 #[.slice A xs.length cap, .int .i64 line, .int .i64 col] w fun e w' => e = .returned (.bool true) ∧ Below w.heap.size w w' := by
  by_cases hbig : xs.length ≤ 2147483647
  · have hbig' : (xs.length : Int) ≤ 2147483647 := by omega
    have HC := Lib.hid hC
    have HR := Lib.hid hr
    clear hC hr
    go_enter Try.func3, Try.ntmps3
    go_wp2_with (fail)
    refine (awake' w).mono ?_
    rintro e w1 ⟨rfl, hb1⟩
    have HB1 := Lib.hid hb1
    have hC1 := Kd.C_below HC.out hb1
    have HC1 := Lib.hid hC1
    clear hb1 hC1 HC
    have n0 : (0 : Int) ≤ xs.length := by omega
    by_cases hn : xs.length ≤ 1000
    · have hn' : ¬ (1000 : Int) < xs.length := by omega
      obtain ⟨kf, rf, hf1, hf2⟩ := fits_f xs hn HR.out
      have hbw := HB1.out.size
      go_wp2_with (fail)
      refine (spec_MapsFit.calls kf A cap xs rf _ (Kd.C_alloc HC1.out _) hcap hf1).mono ?_
      rintro e w2 ⟨rfl, hb2⟩
      have HC2 := Lib.hid (Kd.C_below (Kd.C_alloc HC1.out _) hb2)
      have HB2 := Lib.hid (show Below w.heap.size w w2 from (HB1.out.alloc hbw _).trans (hb2.mono (by simp; omega)))
      have HF2 := Lib.hid hf2
      clear hb2 hf2 hf1 HC1
      cases rf
      · go_wp2_with (fail)
        go_ret
        exact ⟨rfl, HB2.out⟩
      · by_cases t1 : line < 0
        · go_wp2_with (fail)
          go_ret
          exact ⟨rfl, HB2.out⟩
        · have t1' : 0 ≤ line := by omega
          by_cases t2 : 2147483648 ≤ line
          · go_wp2_with (fail)
            go_ret
            exact ⟨rfl, HB2.out⟩
          · have t2' : line < 2147483648 := by omega
            by_cases t3 : col < 0
            · go_wp2_with (fail)
              go_ret
              exact ⟨rfl, HB2.out⟩
            · have t3' : 0 ≤ col := by omega
              by_cases t4 : 2147483648 ≤ col
              · go_wp2_with (fail)
                go_ret
                exact ⟨rfl, HB2.out⟩
              · have t4' : col < 2147483648 := by omega
                obtain ⟨hsort, hfit⟩ := HF2.out rfl
                have HSO := Lib.hid hsort
                have HFI := Lib.hid (show ∀ i, i < xs.length → Fit (xs.getD i z24) from hfit)
                have HMO := Lib.hid (show ∀ i j, i ≤ j → j < xs.length → le line col (xs.getD j z24) → le line col (xs.getD i z24) from fun i j h1 h2 h3 => sorted_le hsort line col (j - i) i (by omega) (by rw [show i + (j - i) = j by omega]; exact h3))
                clear hsort hfit HF2
                go_wp2_with (fail)
                refine (findMapping xs A cap line col _ hn ⟨t1', by omega⟩ ⟨t3', by omega⟩ HC2.out HFI.out HMO.out).mono ?_
                rintro e w3 ⟨hfm, hb3⟩
                obtain ⟨kr, r, hr1, hr2⟩ := find_f xs hn line col
                have HC3 := Lib.hid (Kd.C_below HC2.out hb3)
                have HB3 := Lib.hid (show Below w.heap.size w w3 from HB2.out.trans (hb3.mono HB2.out.size))
                clear hb3 HMO
                have hag := agree HSO.out hfm hr2
                clear hfm hr2
                have HRR := Lib.hid hr1
                clear hr1
                rcases hag with ⟨rfl, rfl⟩ | ⟨k, rfl, hk, rfl⟩
                · rw [show cells24 z24 = #[.int .i64 0, .int .i64 0, .int .i64 0, .int .i64 0, .int .i64 0, .int .i64 0] from rfl]
                  go_wp2_with (fail)
                  refine (spec_MapFind.calls kr A cap xs line col (-1) _ (Kd.C_alloc HC3.out _) hcap HRR.out).mono ?_
                  rintro e w4 ⟨rfl, hd⟩
                  obtain ⟨m, rfl⟩ := hd
                  go_wp2_with (fail)
                  go_ret
                  exact ⟨rfl, below_drewN (HB3.out.alloc HB3.out.size _) m⟩
                · generalize hx : xs.getD k z24 = x
                  rw [show cells24 x = #[.int .i64 x.f0, .int .i64 x.f1, .int .i64 x.f2, .int .i64 x.f3, .int .i64 x.f4, .int .i64 x.f5] from rfl]
                  go_wp2_with (fail)
                  refine (spec_MapFind.calls kr A cap xs line col k _ (Kd.C_alloc HC3.out _) hcap HRR.out).mono ?_
                  rintro e w4 ⟨rfl, hd⟩
                  obtain ⟨m, rfl⟩ := hd
                  have k0 : (0 : Int) ≤ k := by omega
                  have k1 : (k : Int) < xs.length := by omega
                  go_wp2_with (fail)
                  have hB4 : Below w.heap.size w ((w3.alloc (Obj.cells #[Value.int IntKind.i64 x.f0, Value.int IntKind.i64 x.f1, Value.int IntKind.i64 x.f2, Value.int IntKind.i64 x.f3, Value.int IntKind.i64 x.f4, Value.int IntKind.i64 x.f5] 24)).drewN m) := below_drewN (HB3.out.alloc HB3.out.size _) m
                  have hC4 := Kd.C_drewN (Kd.C_alloc HC3.out (Obj.cells #[Value.int IntKind.i64 x.f0, Value.int IntKind.i64 x.f1, Value.int IntKind.i64 x.f2, Value.int IntKind.i64 x.f3, Value.int IntKind.i64 x.f4, Value.int IntKind.i64 x.f5] 24)) m
                  have hH4 : ((w3.alloc (Obj.cells #[Value.int IntKind.i64 x.f0, Value.int IntKind.i64 x.f1, Value.int IntKind.i64 x.f2, Value.int IntKind.i64 x.f3, Value.int IntKind.i64 x.f4, Value.int IntKind.i64 x.f5] 24)).drewN m).heap[w3.heap.size]? = some (Obj.cells #[Value.int IntKind.i64 x.f0, Value.int IntKind.i64 x.f1, Value.int IntKind.i64 x.f2, Value.int IntKind.i64 x.f3, Value.int IntKind.i64 x.f4, Value.int IntKind.i64 x.f5] 24) := heap_alloc_new w3 _
                  generalize (w3.alloc (Obj.cells #[Value.int IntKind.i64 x.f0, Value.int IntKind.i64 x.f1, Value.int IntKind.i64 x.f2, Value.int IntKind.i64 x.f3, Value.int IntKind.i64 x.f4, Value.int IntKind.i64 x.f5] 24)).drewN m = w4 at hB4 hC4 hH4
                  have HB4 := Lib.hid hB4
                  have HC4 := Lib.hid hC4
                  have HH4 := Lib.hid hH4
                  have HX := Lib.hid hx
                  clear hB4 hC4 hH4 hx HC3 HB3 HC2 HB2 HFI HSO HRR
                  go_loopw [13, 69] (fun v13 v69 wr => ∃ i n : Nat, v69 = .int .i64 i ∧ i ≤ k ∧ wr = w4.drewN n) (fun _ v69 _ => xs.length - (intOf v69).toNat)
                  case atStart => exact ⟨0, 0, rfl, Nat.zero_le _, rfl⟩
                  case round =>
                    obtain ⟨i, n, rfl, hik, rfl⟩ := hrel
                    have i0 : (0 : Int) ≤ i := by omega
                    have i1 : (i : Int) < xs.length := by omega
                    have hH5 : (w4.drewN n).heap[w3.heap.size]? = some (Obj.cells #[Value.int IntKind.i64 x.f0, Value.int IntKind.i64 x.f1, Value.int IntKind.i64 x.f2, Value.int IntKind.i64 x.f3, Value.int IntKind.i64 x.f4, Value.int IntKind.i64 x.f5] 24) := HH4.out
                    have hC5 := Kd.C_drewN HC4.out n
                    have hB5 := below_drewN HB4.out n
                    generalize hwr : w4.drewN n = wr at hH5 hC5 hB5 ⊢
                    have HWR := Lib.hid hwr
                    clear hwr
                    obtain ⟨ad, hA, p0, p1, p2, p3, p4, p5⟩ := at_T24 hC5 (k : Int) k0 k1
                    obtain ⟨ad', hA', q0, q1, q2, q3, q4, q5⟩ := at_T24 hC5 (i : Int) i0 i1
                    subst hA
                    obtain rfl : ad = ad' := by simpa using hA'
                    rw [rd_nat, Int.toNat_natCast] at p0 p1 p2 p3 p4 p5 q0 q1 q2 q3 q4 q5
                    rw [HX.out] at p0 p1 p2 p3 p4 p5
                    have r0 : wr.cell? ⟨w3.heap.size, 0, none⟩ = some (.int .i64 x.f0) := by rw [Lib.cell_of_heap hH5]; rfl
                    have r1 : wr.cell? ⟨w3.heap.size, 1, none⟩ = some (.int .i64 x.f1) := by rw [Lib.cell_of_heap hH5]; rfl
                    have r2 : wr.cell? ⟨w3.heap.size, 2, none⟩ = some (.int .i64 x.f2) := by rw [Lib.cell_of_heap hH5]; rfl
                    have r3 : wr.cell? ⟨w3.heap.size, 3, none⟩ = some (.int .i64 x.f3) := by rw [Lib.cell_of_heap hH5]; rfl
                    have r4 : wr.cell? ⟨w3.heap.size, 4, none⟩ = some (.int .i64 x.f4) := by rw [Lib.cell_of_heap hH5]; rfl
                    have r5 : wr.cell? ⟨w3.heap.size, 5, none⟩ = some (.int .i64 x.f5) := by rw [Lib.cell_of_heap hH5]; rfl
                    clear hH5 hC5
                    have HB5 := Lib.hid hB5
                    clear hB5 hA'
                    generalize hy : xs.getD i z24 = y at q0 q1 q2 q3 q4 q5
                    cases hs : same y x
                    · have hne : i ≠ k := by
                        intro e
                        have e1 : y = x := by rw [← hy, ← HX.out, e]
                        rw [e1, same_self] at hs
                        cases hs
                      go_wp2_with (fail)
                      go_quiet (fail)
                      go_wp2_with (fail)
                      go_roundw
                      case rel => exact ⟨i + 1, n + _, by simp, by omega, by rw [← HWR.out]; exact World.drewN_drewN ..⟩
                      case measure =>
                        simp only [intOf]
                        omega
                    · go_wp2_with (fail)
                      go_quiet (fail)
                      go_wp2_with (fail)
                      go_ret
                      exact ⟨rfl, below_drewN HB5.out _⟩
    · have hn' : (1000 : Int) < xs.length := by omega
      go_wp2_with (fail)
      go_ret
      exact ⟨rfl, HB1.out.alloc HB1.out.size _⟩
  · have hbig' : ¬ (xs.length : Int) ≤ 2147483647 := by omega
    have hbig2 : (2147483647 : Int) < xs.length := by omega
    go_enter Try.func3, Try.ntmps3
    go_wp2
    go_ret
    exact ⟨rfl, Below.refl _ _⟩
end Go.Proofs.Ytlodefalhhcmkaa.fnFind
