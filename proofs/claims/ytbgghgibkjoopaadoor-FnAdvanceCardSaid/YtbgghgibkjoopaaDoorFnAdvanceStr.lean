/-
  FnAdvance: the walk of (*LineColumnOffset).AdvanceString: it moves the place over the text as the plain function `go` says.
  Conditions: well-formed texts of at most 2^16 bytes, lines and columns of at most 2^30; the place in a block of its own.
-/
import Derived.Test.YtbgghgibkjoopaaDoorFnAdvancePure
import Derived.Test.YtbgghgibkjoopaaDoorRows
import Derived.WalkSmall
import Derived.Lib.Hide
import Derived.Lib.OthersKept
import Derived.Lib.RuneCount
namespace Go.Proofs.YtbgghgibkjoopaaDoor.fnAdvance
open Go.RowKit Go.Proofs.YtbgghgibkjoopaaDoorW.PrintWords Go.Proofs.YtbgghgibkjoopaaDoor.PFnAdvance Go.Proofs.YtbgghgibkjoopaaDoor.runes
set_option linter.unusedVariables false
set_option linter.unusedSimpArgs false

theorem dec_high (s : ByteArray) (i : Nat) (h : 128 ≤ nb s i) : 128 ≤ (Utf8.decode s i).1 := by
  have hlt := nb_lt s i
  by_cases h1 : nb s i < 194 ∨ 245 ≤ nb s i
  · rw [dec_bad s i (by omega)]; decide
  · by_cases h2 : nb s i ≤ 223
    · rw [dec2 s i (by omega)]
      split
      · simp only; omega
      · simp
    · by_cases h3 : nb s i ≤ 239
      · rw [dec3 s i (by omega)]
        split
        · split
          · rename_i hv; have := hv.1; simp only; omega
          · simp
        · simp
      · rw [dec4 s i (by omega)]
        split
        · split
          · rename_i hv; have := hv.1; simp only; omega
          · simp
        · simp
theorem dec_one {s : ByteArray} {i r n : Nat} (hd : Utf8.decode s i = (r, n)) (h : r < 128) : n = 1 := by
  have h0 : nb s i < 128 := by
    by_cases h' : nb s i < 128
    · exact h'
    · have := dec_high s i (by omega)
      rw [hd] at this
      simp only at this
      omega
  have := dec_low s i h0
  rw [hd] at this
  exact (Prod.mk.inj this).2
/-- what the call leaves: the place in block b moved on, all else below it as it was -/
def Moved (b : Nat) (r : Nat × Nat) (w w' : World) : Prop := w'.heap[b]? = some (.cells #[.int .i64 r.1, .int .i64 r.2] 32 (0, 0)) ∧ Below b w w'

set_option maxHeartbeats 16000000 in
set_option maxRecDepth 100000 in
theorem advString (s : ByteArray) (b l0 c0 : Nat) (w : World) (hs : s.size ≤ 65536) (hl : l0 ≤ 1073741824) (hc : c0 ≤ 1073741824) (hw : wfb s s.size 0 = true)
    (hb : w.heap[b]? = some (.cells #[.int .i64 l0, .int .i64 c0] 32 (0, 0))) :
    Calls Tryd.prog 10 #[.pointer (some ⟨b, 0, none⟩), .string s] w fun e w' => e = .returned (.tuple #[]) ∧ Moved b (go 1 s s.size 0 l0 c0) w w' := by
  have HW := Lib.hid hw
  have HL0 := Lib.hid hl
  have HC0 := Lib.hid hc
  clear hw hl hc
  have s1 : (s.size : Int) ≤ 65536 := by omega
  have hbl : b < w.heap.size := (Array.getElem?_eq_some_iff.1 hb).1
  have x0 : w.cell? ⟨b, 0, none⟩ = some (.int .i64 l0) := by rw [Lib.cell_of_heap hb]; rfl
  have x1 : w.cell? ⟨b, 1, none⟩ = some (.int .i64 c0) := by rw [Lib.cell_of_heap hb]; rfl
  have HI0 := Lib.hid (show (w.alloc (.stringIter s 0)).heap[w.heap.size]? = some (.stringIter s 0) from heap_alloc_new w _)
  have HP0 := Lib.hid (show (w.alloc (.stringIter s 0)).heap[b]? = some (.cells #[.int .i64 l0, .int .i64 c0] 32 (0, 0)) by rw [Below.heap_alloc _ _ _ hbl]; exact hb)
  have HB0 := Lib.hid (show Below b w (w.alloc (.stringIter s 0)) from (Below.refl _ _).alloc (by omega) _)
  clear hb
  generalize hres : go 1 s s.size 0 l0 c0 = res
  have HRES := Lib.hid hres
  clear hres
  go_enter Tryd.func10, Tryd.ntmps10
  go_wp2_with (fail)
  go_loopw [4, 5, 6] (fun v4 v5 v6 wr => ∃ pos f l c : Nat, v4 = .int .i64 c ∧ pos ≤ s.size ∧ s.size ≤ pos + f ∧ Hid (l ≤ 1073741824 + pos) ∧ Hid (c ≤ 1073741824 + 2 * pos) ∧ Hid (go 1 s f pos l c = res) ∧ Hid (wfb s f pos = true) ∧ Hid (wr.heap[w.heap.size]? = some (.stringIter s pos)) ∧ (∃ cc, Hid (wr.heap[b]? = some (.cells #[.int .i64 l, cc] 32 (0, 0)))) ∧ Hid (Below b w wr)) (fun _ _ _ wr => s.size - wr.iterPos w.heap.size)
  case atStart => exact ⟨0, s.size, l0, c0, rfl, by omega, by omega, Lib.hid (by have := HL0.out; omega), Lib.hid (by have := HC0.out; omega), HRES, HW, HI0, ⟨_, HP0⟩, HB0⟩
  case round =>
    clear HRES HW HP0 HI0 HB0 x0 x1
    obtain ⟨pos, f, l, c, rfl, hps, hf, HLL, HCC, HRES, HW, HI, ⟨cc, HP⟩, HB⟩ := hrel
    have l1 : (0 : Int) ≤ l := by omega
    have l2 : (l : Int) ≤ 2000000000 := by have := HLL.out; omega
    have c1 : (0 : Int) ≤ c := by omega
    have c2 : (c : Int) ≤ 2000000000 := by have := HCC.out; omega
    by_cases hp : pos < s.size
    · obtain ⟨f, rfl⟩ : ∃ g, f = g + 1 := ⟨f - 1, by omega⟩
      obtain ⟨r, n, hd, htold, n1, n2, r2, hw2⟩ := wf_step HW.out hp
      have hnx : ∀ ty, (Instr.next (.pointer (some ⟨w.heap.size, 0, none⟩)) true ty).run Tryd.prog wr = _ := fun ty => Lib.run_next_any_at wr w.heap.size s pos ty HI.out hp
      rw [hd] at hnx
      simp only at hnx
      have HD := Lib.hid hd
      have HW2 := Lib.hid hw2
      have hI := Lib.iterAt_heap wr w.heap.size s pos (pos + n) HI.out
      have hP : (wr.iterAt w.heap.size s (pos + n)).heap[b]? = some (.cells #[.int .i64 l, cc] 32 (0, 0)) := by rw [Lib.iterAt_other _ _ _ _ _ (by omega)]; exact HP.out
      have hB := Lib.below_iterAt HB.out (k := w.heap.size) (by omega) s (pos + n)
      clear hd htold hw2 HW
      have HI1 := Lib.hid hI
      have HB1 := Lib.hid hB
      have HP1 := Lib.hid hP
      have hm : (wr.iterAt w.heap.size s (pos + n)).iterPos w.heap.size = pos + n := iterPos_of hI
      have hm0 : wr.iterPos w.heap.size = pos := iterPos_of HI.out
      have y0 : (wr.iterAt w.heap.size s (pos + n)).cell? ⟨b, 0, none⟩ = some (.int .i64 l) := by rw [Lib.cell_of_heap hP]; rfl
      have z0 : (wr.iterAt w.heap.size s (pos + n)).frozen? ⟨b, 0, none⟩ = false := Lib.frozen_of_heap hP 0
      have HM := Lib.hid hm
      have HM0 := Lib.hid hm0
      clear hP hB hI HP HB HI hm hm0
      have p0 : (0 : Int) ≤ pos := by omega
      have p1 : (pos : Int) ≤ 66000 := by omega
      by_cases hcr : r = 13 ∧ pos + n < s.size ∧ nb s (pos + n) = 10
      · obtain ⟨h13, hlt, hlf⟩ := hcr
        obtain rfl := dec_one HD.out (by omega)
        have HG := Lib.hid (go_crlf (k := 1) (f := f) (l := l) (c := c) hp HD.out h13 hlt hlf)
        have t1 : ((r : Int) == 13) = true := by rw [h13]; rfl
        have t2 : (pos : Int) + 1 < s.size := by omega
        have t3 : (((s[pos + 1]'hlt).toNat : Int) == 10) = true := by rw [← nb_in s _ hlt, hlf]; rfl
        go_wp2_with (fail)
        go_roundw
        case rel => exact ⟨pos + 1, f, l, c + 1, by simp, by omega, by omega, Lib.hid (by have := HLL.out; omega), Lib.hid (by have := HCC.out; omega), Lib.hid (by rw [← HRES.out]; exact HG.out.symm), HW2, Lib.hid HI1.out, ⟨_, Lib.hid HP1.out⟩, Lib.hid HB1.out⟩
        case measure =>
          show s.size - World.iterPos _ w.heap.size < s.size - wr.iterPos w.heap.size
          rw [iterPos_of (k := w.heap.size) HI1.out, HM0.out]
          omega
      · by_cases he : isEnd r
        · have HG := Lib.hid (go_end (k := 1) (f := f) (l := l) (c := c) hp HD.out he hcr)
          by_cases hq : r = 13
          · obtain rfl := dec_one HD.out (by omega)
            have t1 : ((r : Int) == 13) = true := by rw [hq]; rfl
            by_cases hlt : pos + 1 < s.size
            · have t2 : (pos : Int) + 1 < s.size := by omega
              have t3 : (((s[pos + 1]'hlt).toNat : Int) == 10) = false := by
                have hne : nb s (pos + 1) ≠ 10 := fun h => hcr ⟨hq, hlt, h⟩
                rw [nb_in s _ hlt] at hne
                rw [beq_eq_false_iff_ne]; omega
              go_wp2_with (fail)
              go_roundw
              case rel => exact ⟨pos + 1, f, l + 1, 0, by simp, by omega, by omega, Lib.hid (by have := HLL.out; omega), Lib.hid (by have := HCC.out; omega), Lib.hid (by rw [← HRES.out]; exact HG.out.symm), HW2, Lib.hid (show ((wr.iterAt w.heap.size s (pos + 1)).setCell ⟨b, 0, none⟩ (.int .i64 ((l : Int) + 1))).heap[w.heap.size]? = some (.stringIter s (pos + 1)) by rw [Below.heap_setCell _ _ _ _ (by simp; omega)]; exact HI1.out), ⟨_, Lib.hid (show ((wr.iterAt w.heap.size s (pos + 1)).setCell ⟨b, 0, none⟩ (.int .i64 ((l : Int) + 1))).heap[b]? = some (.cells #[.int .i64 ((l + 1 : Nat) : Int), cc] 32 (0, 0)) by have := HP1.out; simp [World.setCell, Array.getElem?_modify, this])⟩, Lib.hid (HB1.out.setCell (by simp) _)⟩
              case measure =>
                show s.size - World.iterPos _ w.heap.size < s.size - wr.iterPos w.heap.size
                rw [iterPos_of (k := w.heap.size) (show ((wr.iterAt w.heap.size s (pos + 1)).setCell ⟨b, 0, none⟩ (.int .i64 ((l : Int) + 1))).heap[w.heap.size]? = some (.stringIter s (pos + 1)) by rw [Below.heap_setCell _ _ _ _ (by simp; omega)]; exact HI1.out), HM0.out]
                omega
            · have t2 : ¬ (pos : Int) + 1 < s.size := by omega
              go_wp2_with (fail)
              go_roundw
              case rel => exact ⟨pos + 1, f, l + 1, 0, by simp, by omega, by omega, Lib.hid (by have := HLL.out; omega), Lib.hid (by have := HCC.out; omega), Lib.hid (by rw [← HRES.out]; exact HG.out.symm), HW2, Lib.hid (show ((wr.iterAt w.heap.size s (pos + 1)).setCell ⟨b, 0, none⟩ (.int .i64 ((l : Int) + 1))).heap[w.heap.size]? = some (.stringIter s (pos + 1)) by rw [Below.heap_setCell _ _ _ _ (by simp; omega)]; exact HI1.out), ⟨_, Lib.hid (show ((wr.iterAt w.heap.size s (pos + 1)).setCell ⟨b, 0, none⟩ (.int .i64 ((l : Int) + 1))).heap[b]? = some (.cells #[.int .i64 ((l + 1 : Nat) : Int), cc] 32 (0, 0)) by have := HP1.out; simp [World.setCell, Array.getElem?_modify, this])⟩, Lib.hid (HB1.out.setCell (by simp) _)⟩
              case measure =>
                show s.size - World.iterPos _ w.heap.size < s.size - wr.iterPos w.heap.size
                rw [iterPos_of (k := w.heap.size) (show ((wr.iterAt w.heap.size s (pos + 1)).setCell ⟨b, 0, none⟩ (.int .i64 ((l : Int) + 1))).heap[w.heap.size]? = some (.stringIter s (pos + 1)) by rw [Below.heap_setCell _ _ _ _ (by simp; omega)]; exact HI1.out), HM0.out]
                omega
          · have q13 : ((r : Int) == 13) = false := by rw [beq_eq_false_iff_ne]; omega
            by_cases hq : r = 10
            · have t10 : ((r : Int) == 10) = true := by rw [hq]; rfl
              go_wp2_with (fail)
              go_roundw
              case rel => exact ⟨pos + n, f, l + 1, 0, by simp, by omega, by omega, Lib.hid (by have := HLL.out; omega), Lib.hid (by have := HCC.out; omega), Lib.hid (by rw [← HRES.out]; exact HG.out.symm), HW2, Lib.hid (show ((wr.iterAt w.heap.size s (pos + n)).setCell ⟨b, 0, none⟩ (.int .i64 ((l : Int) + 1))).heap[w.heap.size]? = some (.stringIter s (pos + n)) by rw [Below.heap_setCell _ _ _ _ (by simp; omega)]; exact HI1.out), ⟨_, Lib.hid (show ((wr.iterAt w.heap.size s (pos + n)).setCell ⟨b, 0, none⟩ (.int .i64 ((l : Int) + 1))).heap[b]? = some (.cells #[.int .i64 ((l + 1 : Nat) : Int), cc] 32 (0, 0)) by have := HP1.out; simp [World.setCell, Array.getElem?_modify, this])⟩, Lib.hid (HB1.out.setCell (by simp) _)⟩
              case measure =>
                show s.size - World.iterPos _ w.heap.size < s.size - wr.iterPos w.heap.size
                rw [iterPos_of (k := w.heap.size) (show ((wr.iterAt w.heap.size s (pos + n)).setCell ⟨b, 0, none⟩ (.int .i64 ((l : Int) + 1))).heap[w.heap.size]? = some (.stringIter s (pos + n)) by rw [Below.heap_setCell _ _ _ _ (by simp; omega)]; exact HI1.out), HM0.out]
                omega
            · have q10 : ((r : Int) == 10) = false := by rw [beq_eq_false_iff_ne]; omega
              by_cases hq : r = 8232
              · have t28 : ((r : Int) == 8232) = true := by rw [hq]; rfl
                go_wp2_with (fail)
                go_roundw
                case rel => exact ⟨pos + n, f, l + 1, 0, by simp, by omega, by omega, Lib.hid (by have := HLL.out; omega), Lib.hid (by have := HCC.out; omega), Lib.hid (by rw [← HRES.out]; exact HG.out.symm), HW2, Lib.hid (show ((wr.iterAt w.heap.size s (pos + n)).setCell ⟨b, 0, none⟩ (.int .i64 ((l : Int) + 1))).heap[w.heap.size]? = some (.stringIter s (pos + n)) by rw [Below.heap_setCell _ _ _ _ (by simp; omega)]; exact HI1.out), ⟨_, Lib.hid (show ((wr.iterAt w.heap.size s (pos + n)).setCell ⟨b, 0, none⟩ (.int .i64 ((l : Int) + 1))).heap[b]? = some (.cells #[.int .i64 ((l + 1 : Nat) : Int), cc] 32 (0, 0)) by have := HP1.out; simp [World.setCell, Array.getElem?_modify, this])⟩, Lib.hid (HB1.out.setCell (by simp) _)⟩
                case measure =>
                  show s.size - World.iterPos _ w.heap.size < s.size - wr.iterPos w.heap.size
                  rw [iterPos_of (k := w.heap.size) (show ((wr.iterAt w.heap.size s (pos + n)).setCell ⟨b, 0, none⟩ (.int .i64 ((l : Int) + 1))).heap[w.heap.size]? = some (.stringIter s (pos + n)) by rw [Below.heap_setCell _ _ _ _ (by simp; omega)]; exact HI1.out), HM0.out]
                  omega
              · have q28 : ((r : Int) == 8232) = false := by rw [beq_eq_false_iff_ne]; omega
                have hq : r = 8233 := by unfold isEnd at he; omega
                have t29 : ((r : Int) == 8233) = true := by rw [hq]; rfl
                go_wp2_with (fail)
                go_roundw
                case rel => exact ⟨pos + n, f, l + 1, 0, by simp, by omega, by omega, Lib.hid (by have := HLL.out; omega), Lib.hid (by have := HCC.out; omega), Lib.hid (by rw [← HRES.out]; exact HG.out.symm), HW2, Lib.hid (show ((wr.iterAt w.heap.size s (pos + n)).setCell ⟨b, 0, none⟩ (.int .i64 ((l : Int) + 1))).heap[w.heap.size]? = some (.stringIter s (pos + n)) by rw [Below.heap_setCell _ _ _ _ (by simp; omega)]; exact HI1.out), ⟨_, Lib.hid (show ((wr.iterAt w.heap.size s (pos + n)).setCell ⟨b, 0, none⟩ (.int .i64 ((l : Int) + 1))).heap[b]? = some (.cells #[.int .i64 ((l + 1 : Nat) : Int), cc] 32 (0, 0)) by have := HP1.out; simp [World.setCell, Array.getElem?_modify, this])⟩, Lib.hid (HB1.out.setCell (by simp) _)⟩
                case measure =>
                  show s.size - World.iterPos _ w.heap.size < s.size - wr.iterPos w.heap.size
                  rw [iterPos_of (k := w.heap.size) (show ((wr.iterAt w.heap.size s (pos + n)).setCell ⟨b, 0, none⟩ (.int .i64 ((l : Int) + 1))).heap[w.heap.size]? = some (.stringIter s (pos + n)) by rw [Below.heap_setCell _ _ _ _ (by simp; omega)]; exact HI1.out), HM0.out]
                  omega
        · have he' : r ≠ 10 ∧ r ≠ 13 ∧ r ≠ 8232 ∧ r ≠ 8233 := by unfold isEnd at he; omega
          have q13 : ((r : Int) == 13) = false := by rw [beq_eq_false_iff_ne]; omega
          have q10 : ((r : Int) == 10) = false := by rw [beq_eq_false_iff_ne]; omega
          have q28 : ((r : Int) == 8232) = false := by rw [beq_eq_false_iff_ne]; omega
          have q29 : ((r : Int) == 8233) = false := by rw [beq_eq_false_iff_ne]; omega
          by_cases hw : r ≤ 65535
          · have HG := Lib.hid (go_one (k := 1) (f := f) (l := l) (c := c) hp HD.out he hw)
            have t5 : (r : Int) ≤ 65535 := by omega
            go_wp2_with (fail)
            go_roundw
            case rel => exact ⟨pos + n, f, l, c + 1, by simp, by omega, by omega, Lib.hid (by have := HLL.out; omega), Lib.hid (by have := HCC.out; omega), Lib.hid (by rw [← HRES.out]; exact HG.out.symm), HW2, Lib.hid HI1.out, ⟨_, Lib.hid HP1.out⟩, Lib.hid HB1.out⟩
            case measure =>
              show s.size - World.iterPos _ w.heap.size < s.size - wr.iterPos w.heap.size
              rw [iterPos_of (k := w.heap.size) HI1.out, HM0.out]
              omega
          · have HG := Lib.hid (go_two (k := 1) (f := f) (l := l) (c := c) hp HD.out he hw)
            have t5 : ¬ (r : Int) ≤ 65535 := by omega
            go_wp2_with (fail)
            go_roundw
            case rel => exact ⟨pos + n, f, l, c + 2, by simp, by omega, by omega, Lib.hid (by have := HLL.out; omega), Lib.hid (by have := HCC.out; omega), Lib.hid (by rw [← HRES.out]; exact HG.out.symm), HW2, Lib.hid HI1.out, ⟨_, Lib.hid HP1.out⟩, Lib.hid HB1.out⟩
            case measure =>
              show s.size - World.iterPos _ w.heap.size < s.size - wr.iterPos w.heap.size
              rw [iterPos_of (k := w.heap.size) HI1.out, HM0.out]
              omega
    · have hnx : ∀ ty, (Instr.next (.pointer (some ⟨w.heap.size, 0, none⟩)) true ty).run Tryd.prog wr = _ := fun ty => Lib.run_next_end_at wr w.heap.size s pos ty HI.out hp
      have HE := Lib.hid (show res = (l, c) by rw [← HRES.out]; exact go_stop _ _ _ _ _ _ hp)
      have y1 : wr.cell? ⟨b, 1, none⟩ = some cc := by rw [Lib.cell_of_heap HP.out]; rfl
      have z1 : wr.frozen? ⟨b, 1, none⟩ = false := Lib.frozen_of_heap HP.out 1
      go_wp2_with (fail)
      go_end0
      rw [HE.out]
      refine ⟨rfl, ?_, HB.out.setCell (by simp) _⟩
      have := HP.out
      simp [World.setCell, Array.getElem?_modify, this]
end Go.Proofs.YtbgghgibkjoopaaDoor.fnAdvance
