/-
  FnAdvance: the walk of spec.Places: it moves a place over a well-formed text as the plain function `go` says.
  Conditions: well-formed texts of at most 2^16 bytes, lines and columns of at most 2^30.
-/
import Derived.Test.YtbgghgibkjoopaaDoorFnAdvanceStr
import Derived.Test.YtbgghgibkjoopaaDoorRows
import Derived.WalkSmall
import Derived.Lib.Hide
import Derived.Lib.OthersKept
namespace Go.Proofs.YtbgghgibkjoopaaDoor.fnAdvance
open Go.RowKit Go.Proofs.YtbgghgibkjoopaaDoorW.PrintWords Go.Proofs.YtbgghgibkjoopaaDoor.PFnAdvance Go.Proofs.YtbgghgibkjoopaaDoor.runes
set_option linter.unusedVariables false
set_option linter.unusedSimpArgs false

theorem info24 : (Tryd.prog.info? 24).map (·.size) = some 2 := by kernel_rfl
theorem two {w : World} {g : Nat} {c0 c1 : Value} {T : TypeId} (h : w.heap[g]? = some (.cells #[c0, c1] T (0, 0))) (v0 v1 : Value) :
    ((w.setCell ⟨g, 0, none⟩ v0).setCell ⟨g, 1, none⟩ v1).heap[g]? = some (.cells #[v0, v1] T (0, 0)) := by
  simp [World.setCell, Array.getElem?_modify, h]

set_option maxHeartbeats 16000000 in
set_option maxRecDepth 100000 in
theorem places (s : ByteArray) (l0 c0 : Nat) (w : World) (hs : s.size ≤ 65536) (hl : l0 ≤ 1073741824) (hc : c0 ≤ 1073741824) (hw : wfb s s.size 0 = true) :
    Calls Tryd.prog 5 #[.agg #[.int .i64 l0, .int .i64 c0], .string s] w fun e w' => e = .returned (.agg #[.int .i64 (go 0 s s.size 0 l0 c0).1, .int .i64 (go 0 s s.size 0 l0 c0).2]) ∧ Below w.heap.size w w' := by
  have HW := Lib.hid hw
  have HL0 := Lib.hid hl
  have HC0 := Lib.hid hc
  clear hw hl hc
  have s1 : (s.size : Int) ≤ 65536 := by omega
  have HB0 := Lib.hid (show Below w.heap.size w ((w.alloc (.cells #[.int .i64 l0, .int .i64 c0] 24)).alloc (.cells #[.int .i64 0, .int .i64 0] 24)) from ((Below.refl _ _).alloc (Nat.le_refl _) _).alloc (by simp) _)
  have HP0 := Lib.hid (show ((w.alloc (.cells #[.int .i64 l0, .int .i64 c0] 24)).alloc (.cells #[.int .i64 0, .int .i64 0] 24)).heap[w.heap.size]? = some (.cells #[.int .i64 l0, .int .i64 c0] 24 (0, 0)) by rw [Below.heap_alloc _ _ _ (by simp)]; exact heap_alloc_new w _)
  have HR0 := Lib.hid (show ((w.alloc (.cells #[.int .i64 l0, .int .i64 c0] 24)).alloc (.cells #[.int .i64 0, .int .i64 0] 24)).heap[w.heap.size + 1]? = some (.cells #[.int .i64 0, .int .i64 0] 24 (0, 0)) by
    have := heap_alloc_new (w.alloc (.cells #[.int .i64 l0, .int .i64 c0] 24)) (.cells #[.int .i64 0, .int .i64 0] 24)
    simpa using this)
  generalize hres : go 0 s s.size 0 l0 c0 = res
  have HRES := Lib.hid hres
  clear hres
  go_enter Tryd.func5, Tryd.ntmps5
  go_wp2_with (fail)
  go_loopw [5, 6, 7] (fun v5 v6 v7 wr => ∃ pos f l c : Nat, v5 = .int .i64 pos ∧ pos ≤ s.size ∧ s.size ≤ pos + f ∧ Hid (l ≤ 1073741824 + pos) ∧ Hid (c ≤ 1073741824 + 2 * pos) ∧ Hid (go 0 s f pos l c = res) ∧ Hid (wfb s f pos = true) ∧ Hid (wr.heap[w.heap.size]? = some (.cells #[.int .i64 l, .int .i64 c] 24 (0, 0))) ∧ Hid (wr.heap[w.heap.size + 1]? = some (.cells #[.int .i64 0, .int .i64 0] 24 (0, 0))) ∧ Hid (Below w.heap.size w wr)) (fun v5 _ _ _ => s.size - (intOf v5).toNat)
  case atStart => exact ⟨0, s.size, l0, c0, rfl, by omega, by omega, Lib.hid (by have := HL0.out; omega), Lib.hid (by have := HC0.out; omega), HRES, HW, HP0, HR0, HB0⟩
  case round =>
    clear HRES HW HP0 HR0 HB0
    obtain ⟨pos, f, l, c, rfl, hps, hf, HLL, HCC, HRES, HW, HP, HR, HB⟩ := hrel
    have p0 : (0 : Int) ≤ pos := by omega
    have l1 : (0 : Int) ≤ l := by omega
    have l2 : (l : Int) ≤ 2000000000 := by have := HLL.out; omega
    have c1 : (0 : Int) ≤ c := by omega
    have c2 : (c : Int) ≤ 2000000000 := by have := HCC.out; omega
    by_cases hp : pos < s.size
    · have hp' : (pos : Int) < s.size := by omega
      obtain ⟨f, rfl⟩ : ∃ g, f = g + 1 := ⟨f - 1, by omega⟩
      obtain ⟨r, n, hd, htold, n1, n2, r2, hw2⟩ := wf_step HW.out hp
      have HT := Lib.hid (show spec_Rune.f 10 s (pos : Int) = some ((r : Int), (n : Int)) by rw [rune_ge s pos 10 (by omega) (by omega) hp, htold])
      have HD := Lib.hid hd
      have HW2 := Lib.hid hw2
      clear hd htold hw2 HW
      have n0 : (0 : Int) ≤ n := by omega
      have n4 : (n : Int) ≤ 66000 := by omega
      have p1 : (pos : Int) ≤ 66000 := by omega
      have nz : ((n : Int) == 0) = false := by rw [beq_eq_false_iff_ne]; omega
      go_wp2_with (fail)
      refine (spec_Rune.calls 10 s pos r n _ HT.out).mono ?_
      rintro e w1 ⟨rfl, hd1⟩
      obtain ⟨m, rfl⟩ := hd1
      have hP : (wr.drewN m).heap[w.heap.size]? = some (.cells #[.int .i64 l, .int .i64 c] 24 (0, 0)) := HP.out
      have hR : (wr.drewN m).heap[w.heap.size + 1]? = some (.cells #[.int .i64 0, .int .i64 0] 24 (0, 0)) := HR.out
      have hB := below_drewN HB.out m
      generalize wr.drewN m = w1 at hP hR hB
      have HP1 := Lib.hid hP
      have HR1 := Lib.hid hR
      have HB1 := Lib.hid hB
      clear hP hR hB HP HR HB
      by_cases h13 : r = 13
      · subst h13
        obtain rfl := dec_one HD.out (by omega)
        by_cases hlt : pos + 1 < s.size
        · have t2 : (pos : Int) + 1 < s.size := by omega
          by_cases hlf : nb s (pos + 1) = 10
          · have HG := Lib.hid (go_crlf (k := 0) (f := f) (l := l) (c := c) hp HD.out rfl hlt hlf)
            have t3 : (((s[pos + 1]'hlt).toNat : Int) == 10) = true := by rw [← nb_in s _ hlt, hlf]; rfl
            go_wp2_with (fail)
            go_roundw
            case rel => exact ⟨pos + 1, f, l, c, by simp, by omega, by omega, Lib.hid (by have := HLL.out; omega), Lib.hid (by have := HCC.out; omega), Lib.hid (by rw [← HRES.out]; exact HG.out.symm), HW2, HP1, HR1, HB1⟩
            case measure =>
              simp only [intOf]
              omega
          · have HG := Lib.hid (go_end (k := 0) (f := f) (l := l) (c := c) hp HD.out (.inr (.inl rfl)) (fun h => hlf h.2.2))
            have t3 : (((s[pos + 1]'hlt).toNat : Int) == 10) = false := by
              have hne := hlf
              rw [nb_in s _ hlt] at hne
              rw [beq_eq_false_iff_ne]; omega
            go_wp2_with (fail)
            refine (spec_LineEnd.calls 13 true _ (by rfl)).mono ?_
            rintro e w2 ⟨rfl, hd2⟩
            obtain ⟨m2, rfl⟩ := hd2
            have hP : (w1.drewN m2).heap[w.heap.size]? = some (.cells #[.int .i64 l, .int .i64 c] 24 (0, 0)) := HP1.out
            have hR : (w1.drewN m2).heap[w.heap.size + 1]? = some (.cells #[.int .i64 0, .int .i64 0] 24 (0, 0)) := HR1.out
            have hB := below_drewN HB1.out m2
            generalize w1.drewN m2 = w2 at hP hR hB
            have HP2 := Lib.hid hP
            have HR2 := Lib.hid hR
            have HB2 := Lib.hid hB
            have y0 : w2.cell? ⟨w.heap.size, 0, none⟩ = some (.int .i64 l) := by rw [Lib.cell_of_heap hP]; rfl
            have y1 : w2.cell? ⟨w.heap.size, 1, none⟩ = some (.int .i64 c) := by rw [Lib.cell_of_heap hP]; rfl
            have z0 : w2.frozen? ⟨w.heap.size, 0, none⟩ = false := Lib.frozen_of_heap hP 0
            have z1 : w2.frozen? ⟨w.heap.size, 1, none⟩ = false := Lib.frozen_of_heap hP 1
            clear hP hR hB
            go_wp2_with (fail)
            go_roundw
            case rel => exact ⟨pos + 1, f, l + 1, 0, by simp, by omega, by omega, Lib.hid (by have := HLL.out; omega), Lib.hid (by omega), Lib.hid (by rw [← HRES.out]; exact HG.out.symm), HW2, Lib.hid (two HP2.out _ _), Lib.hid (by rw [Below.heap_setCell _ _ _ _ (by simp), Below.heap_setCell _ _ _ _ (by simp)]; exact HR2.out), Lib.hid ((HB2.out.setCell (by simp) _).setCell (by simp) _)⟩
            case measure =>
              simp only [intOf]
              omega
        · have t2 : ¬ (pos : Int) + 1 < s.size := by omega
          have HG := Lib.hid (go_end (k := 0) (f := f) (l := l) (c := c) hp HD.out (.inr (.inl rfl)) (fun h => hlt h.2.1))
          go_wp2_with (fail)
          refine (spec_LineEnd.calls 13 true _ (by rfl)).mono ?_
          rintro e w2 ⟨rfl, hd2⟩
          obtain ⟨m2, rfl⟩ := hd2
          have hP : (w1.drewN m2).heap[w.heap.size]? = some (.cells #[.int .i64 l, .int .i64 c] 24 (0, 0)) := HP1.out
          have hR : (w1.drewN m2).heap[w.heap.size + 1]? = some (.cells #[.int .i64 0, .int .i64 0] 24 (0, 0)) := HR1.out
          have hB := below_drewN HB1.out m2
          generalize w1.drewN m2 = w2 at hP hR hB
          have HP2 := Lib.hid hP
          have HR2 := Lib.hid hR
          have HB2 := Lib.hid hB
          have y0 : w2.cell? ⟨w.heap.size, 0, none⟩ = some (.int .i64 l) := by rw [Lib.cell_of_heap hP]; rfl
          have y1 : w2.cell? ⟨w.heap.size, 1, none⟩ = some (.int .i64 c) := by rw [Lib.cell_of_heap hP]; rfl
          have z0 : w2.frozen? ⟨w.heap.size, 0, none⟩ = false := Lib.frozen_of_heap hP 0
          have z1 : w2.frozen? ⟨w.heap.size, 1, none⟩ = false := Lib.frozen_of_heap hP 1
          clear hP hR hB
          go_wp2_with (fail)
          go_roundw
          case rel => exact ⟨pos + 1, f, l + 1, 0, by simp, by omega, by omega, Lib.hid (by have := HLL.out; omega), Lib.hid (by omega), Lib.hid (by rw [← HRES.out]; exact HG.out.symm), HW2, Lib.hid (two HP2.out _ _), Lib.hid (by rw [Below.heap_setCell _ _ _ _ (by simp), Below.heap_setCell _ _ _ _ (by simp)]; exact HR2.out), Lib.hid ((HB2.out.setCell (by simp) _).setCell (by simp) _)⟩
          case measure =>
            simp only [intOf]
            omega
      · have t1 : ((r : Int) == 13) = false := by rw [beq_eq_false_iff_ne]; omega
        by_cases he : isEnd r
        · have HG := Lib.hid (go_end (k := 0) (f := f) (l := l) (c := c) hp HD.out he (fun h => h13 h.1))
          go_wp2_with (fail)
          refine (spec_LineEnd.calls r true _ (by rw [lineEnd_f]; simp [he])).mono ?_
          rintro e w2 ⟨rfl, hd2⟩
          obtain ⟨m2, rfl⟩ := hd2
          have hP : (w1.drewN m2).heap[w.heap.size]? = some (.cells #[.int .i64 l, .int .i64 c] 24 (0, 0)) := HP1.out
          have hR : (w1.drewN m2).heap[w.heap.size + 1]? = some (.cells #[.int .i64 0, .int .i64 0] 24 (0, 0)) := HR1.out
          have hB := below_drewN HB1.out m2
          generalize w1.drewN m2 = w2 at hP hR hB
          have HP2 := Lib.hid hP
          have HR2 := Lib.hid hR
          have HB2 := Lib.hid hB
          have y0 : w2.cell? ⟨w.heap.size, 0, none⟩ = some (.int .i64 l) := by rw [Lib.cell_of_heap hP]; rfl
          have y1 : w2.cell? ⟨w.heap.size, 1, none⟩ = some (.int .i64 c) := by rw [Lib.cell_of_heap hP]; rfl
          have z0 : w2.frozen? ⟨w.heap.size, 0, none⟩ = false := Lib.frozen_of_heap hP 0
          have z1 : w2.frozen? ⟨w.heap.size, 1, none⟩ = false := Lib.frozen_of_heap hP 1
          clear hP hR hB
          go_wp2_with (fail)
          go_roundw
          case rel => exact ⟨pos + n, f, l + 1, 0, by simp, by omega, by omega, Lib.hid (by have := HLL.out; omega), Lib.hid (by omega), Lib.hid (by rw [← HRES.out]; exact HG.out.symm), HW2, Lib.hid (two HP2.out _ _), Lib.hid (by rw [Below.heap_setCell _ _ _ _ (by simp), Below.heap_setCell _ _ _ _ (by simp)]; exact HR2.out), Lib.hid ((HB2.out.setCell (by simp) _).setCell (by simp) _)⟩
          case measure =>
            simp only [intOf]
            omega
        · by_cases hw : r ≤ 65535
          · have HG := Lib.hid (go_one (k := 0) (f := f) (l := l) (c := c) hp HD.out he hw)
            have t5 : ¬ (65535 : Int) < r := by omega
            go_wp2_with (fail)
            refine (spec_LineEnd.calls r false _ (by rw [lineEnd_f]; simp [he])).mono ?_
            rintro e w2 ⟨rfl, hd2⟩
            obtain ⟨m2, rfl⟩ := hd2
            have hP : (w1.drewN m2).heap[w.heap.size]? = some (.cells #[.int .i64 l, .int .i64 c] 24 (0, 0)) := HP1.out
            have hR : (w1.drewN m2).heap[w.heap.size + 1]? = some (.cells #[.int .i64 0, .int .i64 0] 24 (0, 0)) := HR1.out
            have hB := below_drewN HB1.out m2
            generalize w1.drewN m2 = w2 at hP hR hB
            have HP2 := Lib.hid hP
            have HR2 := Lib.hid hR
            have HB2 := Lib.hid hB
            have y0 : w2.cell? ⟨w.heap.size, 0, none⟩ = some (.int .i64 l) := by rw [Lib.cell_of_heap hP]; rfl
            have y1 : w2.cell? ⟨w.heap.size, 1, none⟩ = some (.int .i64 c) := by rw [Lib.cell_of_heap hP]; rfl
            have z0 : w2.frozen? ⟨w.heap.size, 0, none⟩ = false := Lib.frozen_of_heap hP 0
            have z1 : w2.frozen? ⟨w.heap.size, 1, none⟩ = false := Lib.frozen_of_heap hP 1
            clear hP hR hB
            go_wp2_with (fail)
            go_roundw
            case rel => exact ⟨pos + n, f, l, c + 1, by simp, by omega, by omega, Lib.hid (by have := HLL.out; omega), Lib.hid (by have := HCC.out; omega), Lib.hid (by rw [← HRES.out]; exact HG.out.symm), HW2, Lib.hid (by have := HP2.out; simp [World.setCell, Array.getElem?_modify, this]), Lib.hid (by rw [Below.heap_setCell _ _ _ _ (by simp)]; exact HR2.out), Lib.hid (HB2.out.setCell (by simp) _)⟩
            case measure =>
              simp only [intOf]
              omega
          · have HG := Lib.hid (go_two (k := 0) (f := f) (l := l) (c := c) hp HD.out he hw)
            have t5 : (65535 : Int) < r := by omega
            go_wp2_with (fail)
            refine (spec_LineEnd.calls r false _ (by rw [lineEnd_f]; simp [he])).mono ?_
            rintro e w2 ⟨rfl, hd2⟩
            obtain ⟨m2, rfl⟩ := hd2
            have hP : (w1.drewN m2).heap[w.heap.size]? = some (.cells #[.int .i64 l, .int .i64 c] 24 (0, 0)) := HP1.out
            have hR : (w1.drewN m2).heap[w.heap.size + 1]? = some (.cells #[.int .i64 0, .int .i64 0] 24 (0, 0)) := HR1.out
            have hB := below_drewN HB1.out m2
            generalize w1.drewN m2 = w2 at hP hR hB
            have HP2 := Lib.hid hP
            have HR2 := Lib.hid hR
            have HB2 := Lib.hid hB
            have y0 : w2.cell? ⟨w.heap.size, 0, none⟩ = some (.int .i64 l) := by rw [Lib.cell_of_heap hP]; rfl
            have y1 : w2.cell? ⟨w.heap.size, 1, none⟩ = some (.int .i64 c) := by rw [Lib.cell_of_heap hP]; rfl
            have z0 : w2.frozen? ⟨w.heap.size, 0, none⟩ = false := Lib.frozen_of_heap hP 0
            have z1 : w2.frozen? ⟨w.heap.size, 1, none⟩ = false := Lib.frozen_of_heap hP 1
            clear hP hR hB
            go_wp2_with (fail)
            go_roundw
            case rel => exact ⟨pos + n, f, l, c + 2, by simp, by omega, by omega, Lib.hid (by have := HLL.out; omega), Lib.hid (by have := HCC.out; omega), Lib.hid (by rw [← HRES.out]; exact HG.out.symm), HW2, Lib.hid (by have := HP2.out; simp [World.setCell, Array.getElem?_modify, this]), Lib.hid (by rw [Below.heap_setCell _ _ _ _ (by simp)]; exact HR2.out), Lib.hid (HB2.out.setCell (by simp) _)⟩
            case measure =>
              simp only [intOf]
              omega
    · have hp' : ¬ (pos : Int) < s.size := by omega
      have HE := Lib.hid (show res = (l, c) by rw [← HRES.out]; exact go_stop _ _ _ _ _ _ hp)
      have hP := HP.out
      have y0 : wr.cell? ⟨w.heap.size, 0, none⟩ = some (.int .i64 l) := by rw [Lib.cell_of_heap hP]; rfl
      have y1 : wr.cell? ⟨w.heap.size, 1, none⟩ = some (.int .i64 c) := by rw [Lib.cell_of_heap hP]; rfl
      have z0 : ∀ k, wr.frozen? ⟨w.heap.size + 1, k, none⟩ = false := fun k => Lib.frozen_of_heap HR.out k
      have x0 : wr.cell? ⟨w.heap.size + 1, 0, none⟩ = some (.int .i64 0) := by rw [Lib.cell_of_heap HR.out]; rfl
      have x1 : wr.cell? ⟨w.heap.size + 1, 1, none⟩ = some (.int .i64 0) := by rw [Lib.cell_of_heap HR.out]; rfl
      clear hP
      go_wp2_with (fail)
      exact bodyPost_ret (results_cell_row rfl _ _ (w.heap.size + 1) 24 _ (0, 0) _ rfl (two HR.out _ _) Tryd.underlying24 rfl info24) rfl ⟨by rw [HE.out], (HB.out.setCell (by simp) _).setCell (by simp) _⟩
end Go.Proofs.YtbgghgibkjoopaaDoor.fnAdvance
