/-
  FnAdvance: the walk of (*LineColumnOffset).AdvanceBytes: it moves the place over the bytes of a text as the plain function `go` says.
  Conditions: well-formed texts of at most 2^16 bytes, lines and columns of at most 2^30; the place in a block of its own.
-/
import Derived.Test.YtbgghgibkjoopaaDoorFnAdvanceRuneAt
namespace Go.Proofs.YtbgghgibkjoopaaDoor.fnAdvance
open Go.RowKit Go.Proofs.YtbgghgibkjoopaaDoorW.PrintWords Go.Proofs.YtbgghgibkjoopaaDoor.PFnAdvance Go.Proofs.YtbgghgibkjoopaaDoor.runes
set_option linter.unusedVariables false
set_option linter.unusedSimpArgs false

/-- all that was there stands, but block b -/
def Kept (b : Nat) (w w' : World) : Prop := Below b w w' ∧ ∀ k, k < w.heap.size → k ≠ b → w'.heap[k]? = w.heap[k]?
theorem Kept.refl (b : Nat) (w : World) : Kept b w w := ⟨Below.refl _ _, fun _ _ _ => rfl⟩
theorem Kept.below {b : Nat} {w w1 w2 : World} (h : Kept b w w1) (hb : Below w1.heap.size w1 w2) (hbl : b ≤ w1.heap.size) : Kept b w w2 :=
  ⟨h.1.trans (hb.mono hbl), fun k h1 h2 => (hb.block k (Nat.lt_of_lt_of_le h1 h.1.size)).trans (h.2 k h1 h2)⟩
theorem Kept.set {b : Nat} {w w1 : World} (h : Kept b w w1) (j : Nat) (v : Value) : Kept b w (w1.setCell ⟨b, j, none⟩ v) :=
  ⟨h.1.setCell (Nat.le_refl _) _, fun k h1 h2 => (Below.heap_setCell _ _ _ _ h2).trans (h.2 k h1 h2)⟩
theorem Kept.cell {b : Nat} {w w1 : World} (h : Kept b w w1) {g j : Nat} (h1 : g < w.heap.size) (h2 : g ≠ b) : w1.cell? ⟨g, j, none⟩ = w.cell? ⟨g, j, none⟩ :=
  World.cell?_of_block (h.2 g h1 h2)
theorem Tables.kept {b : Nat} {w w1 : World} (ht : Tables w) (h : Kept b w w1) (hb : 2 ≤ b) : Tables w1 := by
  obtain ⟨h2, hT, t⟩ := ht
  have e0 : ∀ j, w1.cell? ⟨0, j, none⟩ = w.cell? ⟨0, j, none⟩ := fun j => h.cell (by omega) (by omega)
  have e1 : ∀ j, w1.cell? ⟨1, j, none⟩ = w.cell? ⟨1, j, none⟩ := fun j => h.cell (by omega) (by omega)
  refine ⟨Nat.le_trans h2 h.1.size, fun b a1 a2 => (e0 b).trans (hT b a1 a2), ?_⟩
  simp only [e1]
  exact t

set_option maxHeartbeats 16000000 in
set_option maxRecDepth 100000 in
theorem advBytes (s : ByteArray) (b g l0 c0 cp0 : Nat) (w : World) (hs : s.size ≤ 65536) (hl : l0 ≤ 1073741824) (hc : c0 ≤ 1073741824) (hw : wfb s s.size 0 = true) (ht : Tables w) (hb2 : 2 ≤ b) (hgb : g ≠ b) (hg : g < w.heap.size) (hcp : s.size ≤ cp0)
    (hcell : ∀ i, i < s.size → w.cell? ⟨g, i, none⟩ = some (.int .u8 (nb s i)))
    (hb : w.heap[b]? = some (.cells #[.int .i64 l0, .int .i64 c0] 32 (0, 0))) (A : Option Addr) (hA : 0 < s.size → A = some ⟨g, 0, none⟩) :
    Calls Tryd.prog 9 #[.pointer (some ⟨b, 0, none⟩), .slice A s.size cp0] w fun e w' => e = .returned (.tuple #[]) ∧ w'.heap[b]? = some (.cells #[.int .i64 (go 1 s s.size 0 l0 c0).1, .int .i64 (go 1 s s.size 0 l0 c0).2] 32 (0, 0)) ∧ Kept b w w' := by
  have HW := Lib.hid hw
  have HL0 := Lib.hid hl
  have HC0 := Lib.hid hc
  have HT := Lib.hid ht
  have HCE := Lib.hid hcell
  have HA0 := Lib.hid hA
  clear hw hl hc ht hcell hA
  have s1 : (s.size : Int) ≤ 65536 := by omega
  have hbl : b < w.heap.size := (Array.getElem?_eq_some_iff.1 hb).1
  have x0 : w.cell? ⟨b, 0, none⟩ = some (.int .i64 l0) := by rw [Lib.cell_of_heap hb]; rfl
  have x1 : w.cell? ⟨b, 1, none⟩ = some (.int .i64 c0) := by rw [Lib.cell_of_heap hb]; rfl
  have HP0 := Lib.hid hb
  have HK0 := Lib.hid (Kept.refl b w)
  clear hb
  generalize hres : go 1 s s.size 0 l0 c0 = res
  have HRES := Lib.hid hres
  clear hres
  go_enter Tryd.func9, Tryd.ntmps9
  go_wp2_with (fail)
  go_loopw [1, 4, 5, 6] (fun v1 v4 v5 v6 wr => ∃ (pos f l c m cp : Nat) (A : Option Addr), v1 = .slice A m cp ∧ v4 = .int .i64 c ∧ s.size = pos + m ∧ m ≤ f ∧ m ≤ cp ∧ Hid (0 < m → A = some ⟨g, pos, none⟩) ∧ Hid (l ≤ 1073741824 + pos) ∧ Hid (c ≤ 1073741824 + 2 * pos) ∧ Hid (go 1 s f pos l c = res) ∧ Hid (wfb s f pos = true) ∧ (∃ cc, Hid (wr.heap[b]? = some (.cells #[.int .i64 l, cc] 32 (0, 0)))) ∧ Hid (Kept b w wr)) (fun v1 _ _ _ _ => match v1 with | .slice _ m _ => m | _ => 0)
  case atStart => exact ⟨0, s.size, l0, c0, s.size, cp0, A, rfl, rfl, by omega, by omega, hcp, HA0, Lib.hid (by have := HL0.out; omega), Lib.hid (by have := HC0.out; omega), HRES, HW, ⟨_, HP0⟩, HK0⟩
  case round =>
    clear HRES HW HP0 HK0 x0 x1 HA0 hcp
    obtain ⟨pos, f, l, c, m, cp, A, rfl, rfl, hsm, hmf, hmc, HA, HLL, HCC, HRES, HW, ⟨cc, HP⟩, HK⟩ := hrel
    have l1 : (0 : Int) ≤ l := by omega
    have l2 : (l : Int) ≤ 2000000000 := by have := HLL.out; omega
    have c1 : (0 : Int) ≤ c := by omega
    have c2 : (c : Int) ≤ 2000000000 := by have := HCC.out; omega
    have hblr : b < wr.heap.size := (Array.getElem?_eq_some_iff.1 HP.out).1
    by_cases hm : 0 < m
    · have hp : pos < s.size := by omega
      have hm' : (0 : Int) < m := by omega
      obtain ⟨f, rfl⟩ : ∃ h, f = h + 1 := ⟨f - 1, by omega⟩
      obtain ⟨r, n, hd, htold, n1, n2, r2, hw2⟩ := wf_step HW.out hp
      have hAe := HA.out hm
      subst hAe
      have hgr : g < wr.heap.size := Nat.lt_of_lt_of_le hg HK.out.1.size
      have HDR := Lib.hid (decodeRune s g pos m cp r n wr (HT.out.kept HK.out hb2) hgr hsm (by omega) (fun i hi => (HK.out.cell hg hgb).trans (HCE.out i hi)) hd htold n1 hp)
      have HD := Lib.hid hd
      have HW2 := Lib.hid hw2
      have HSM := Lib.hid hsm
      have n3 : n ≤ m := by omega
      clear hd htold hw2 HW hsm n2 hp
      have n0 : (0 : Int) ≤ n := by omega
      have n4 : (n : Int) ≤ m := by omega
      have n5 : (m : Int) ≤ cp := by omega
      go_wp2_with (fail)
      refine HDR.out.mono ?_
      rintro e w1 ⟨rfl, hb1⟩
      have hK1 := HK.out.below hb1 (by omega)
      have hP1 : w1.heap[b]? = some (.cells #[.int .i64 l, cc] 32 (0, 0)) := (hb1.block b hblr).trans HP.out
      have y0 : w1.cell? ⟨b, 0, none⟩ = some (.int .i64 l) := by rw [Lib.cell_of_heap hP1]; rfl
      have z0 : w1.frozen? ⟨b, 0, none⟩ = false := Lib.frozen_of_heap hP1 0
      have hrd : pos + n < s.size → w1.cell? ⟨g, pos + n, none⟩ = some (.int .u8 (nb s (pos + n))) := fun h => (hK1.cell hg hgb).trans (HCE.out _ h)
      have HK1 := Lib.hid hK1
      have HP1 := Lib.hid hP1
      have HRD := Lib.hid hrd
      clear hb1 hK1 hP1 hrd HP HK
      have hp := (show pos < s.size by have := HSM.out; omega)
      have HPP := Lib.hid hp
      clear hp
      by_cases h13 : r = 13
      · subst h13
        obtain rfl := dec_one HD.out (by omega)
        by_cases hlt : 0 < m - 1
        · have hlt' : (0 : Int) < ((m - 1 : Nat) : Int) := by omega
          have hm2 : (1 : Int) < m := by omega
          have hcp : cp ≠ 1 := by omega
          have hls : pos + 1 < s.size := by have := HSM.out; omega
          have hr1 := HRD.out hls
          have HLS := Lib.hid hls
          clear hls
          by_cases hlf : nb s (pos + 1) = 10
          · have HG := Lib.hid (go_crlf (k := 1) (f := f) (l := l) (c := c) HPP.out HD.out rfl HLS.out hlf)
            rw [hlf] at hr1
            have hr1 : w1.cell? ⟨g, pos + 1, none⟩ = some (.int .u8 10) := hr1
            go_wp2_with (fail)
            go_roundw
            case rel => exact ⟨pos + 1, f, l, c + 1, m - 1, cp - 1, _, rfl, by simp, by have := HSM.out; omega, by omega, by omega, Lib.hid (fun h => by first | rfl | (rw [if_neg (by omega)])), Lib.hid (by have := HLL.out; omega), Lib.hid (by have := HCC.out; omega), Lib.hid (by rw [← HRES.out]; exact HG.out.symm), HW2, ⟨_, Lib.hid HP1.out⟩, Lib.hid HK1.out⟩
            case measure =>
              show m - 1 < m
              omega
          · have HG := Lib.hid (go_end (k := 1) (f := f) (l := l) (c := c) HPP.out HD.out (.inr (.inl rfl)) (fun h => hlf h.2.2))
            have t3 : (((nb s (pos + 1) : Nat) : Int) == 10) = false := by rw [beq_eq_false_iff_ne]; omega
            generalize nb s (pos + 1) = bb at hr1 t3 hlf
            go_wp2_with (fail)
            go_roundw
            case rel => exact ⟨pos + 1, f, l + 1, 0, m - 1, cp - 1, _, rfl, by simp, by have := HSM.out; omega, by omega, by omega, Lib.hid (fun h => by first | rfl | (rw [if_neg (by omega)])), Lib.hid (by have := HLL.out; omega), Lib.hid (by have := HCC.out; omega), Lib.hid (by rw [← HRES.out]; exact HG.out.symm), HW2, ⟨_, Lib.hid (show (w1.setCell ⟨b, 0, none⟩ (.int .i64 ((l : Int) + 1))).heap[b]? = some (.cells #[.int .i64 ((l + 1 : Nat) : Int), cc] 32 (0, 0)) by have := HP1.out; simp [World.setCell, Array.getElem?_modify, this])⟩, Lib.hid (HK1.out.set 0 _)⟩
            case measure =>
              show m - 1 < m
              omega
        · have hlt' : ¬ (0 : Int) < ((m - 1 : Nat) : Int) := by omega
          have hm2 : ¬ (1 : Int) < m := by omega
          have HG := Lib.hid (go_end (k := 1) (f := f) (l := l) (c := c) HPP.out HD.out (.inr (.inl rfl)) (fun h => by have := HSM.out; omega))
          obtain rfl : m = 1 := by omega
          go_wp2_with (fail)
          go_roundw
          case rel => exact ⟨pos + 1, f, l + 1, 0, 1 - 1, cp - 1, _, rfl, by simp, by have := HSM.out; omega, by omega, by omega, Lib.hid (fun h => by first | rfl | (rw [if_neg (by omega)])), Lib.hid (by have := HLL.out; omega), Lib.hid (by have := HCC.out; omega), Lib.hid (by rw [← HRES.out]; exact HG.out.symm), HW2, ⟨_, Lib.hid (show (w1.setCell ⟨b, 0, none⟩ (.int .i64 ((l : Int) + 1))).heap[b]? = some (.cells #[.int .i64 ((l + 1 : Nat) : Int), cc] 32 (0, 0)) by have := HP1.out; simp [World.setCell, Array.getElem?_modify, this])⟩, Lib.hid (HK1.out.set 0 _)⟩
          case measure =>
            show 1 - 1 < 1
            omega
      · have q13 : ((r : Int) == 13) = false := by rw [beq_eq_false_iff_ne]; omega
        by_cases he : isEnd r
        · have HG := Lib.hid (go_end (k := 1) (f := f) (l := l) (c := c) HPP.out HD.out he (fun h => h13 h.1))
          by_cases hq : r = 10
          · have t10 : ((r : Int) == 10) = true := by rw [hq]; rfl
            go_wp2_with (fail)
            go_roundw
            case rel => exact ⟨pos + n, f, l + 1, 0, m - n, cp - n, _, rfl, by simp, by have := HSM.out; omega, by omega, by omega, Lib.hid (fun h => by first | rfl | (rw [if_neg (by omega)])), Lib.hid (by have := HLL.out; omega), Lib.hid (by have := HCC.out; omega), Lib.hid (by rw [← HRES.out]; exact HG.out.symm), HW2, ⟨_, Lib.hid (show (w1.setCell ⟨b, 0, none⟩ (.int .i64 ((l : Int) + 1))).heap[b]? = some (.cells #[.int .i64 ((l + 1 : Nat) : Int), cc] 32 (0, 0)) by have := HP1.out; simp [World.setCell, Array.getElem?_modify, this])⟩, Lib.hid (HK1.out.set 0 _)⟩
            case measure =>
              show m - n < m
              omega
          · have q10 : ((r : Int) == 10) = false := by rw [beq_eq_false_iff_ne]; omega
            by_cases hq : r = 8232
            · have t28 : ((r : Int) == 8232) = true := by rw [hq]; rfl
              go_wp2_with (fail)
              go_roundw
              case rel => exact ⟨pos + n, f, l + 1, 0, m - n, cp - n, _, rfl, by simp, by have := HSM.out; omega, by omega, by omega, Lib.hid (fun h => by first | rfl | (rw [if_neg (by omega)])), Lib.hid (by have := HLL.out; omega), Lib.hid (by have := HCC.out; omega), Lib.hid (by rw [← HRES.out]; exact HG.out.symm), HW2, ⟨_, Lib.hid (show (w1.setCell ⟨b, 0, none⟩ (.int .i64 ((l : Int) + 1))).heap[b]? = some (.cells #[.int .i64 ((l + 1 : Nat) : Int), cc] 32 (0, 0)) by have := HP1.out; simp [World.setCell, Array.getElem?_modify, this])⟩, Lib.hid (HK1.out.set 0 _)⟩
              case measure =>
                show m - n < m
                omega
            · have q28 : ((r : Int) == 8232) = false := by rw [beq_eq_false_iff_ne]; omega
              have hq : r = 8233 := by unfold isEnd at he; omega
              have t29 : ((r : Int) == 8233) = true := by rw [hq]; rfl
              go_wp2_with (fail)
              go_roundw
              case rel => exact ⟨pos + n, f, l + 1, 0, m - n, cp - n, _, rfl, by simp, by have := HSM.out; omega, by omega, by omega, Lib.hid (fun h => by first | rfl | (rw [if_neg (by omega)])), Lib.hid (by have := HLL.out; omega), Lib.hid (by have := HCC.out; omega), Lib.hid (by rw [← HRES.out]; exact HG.out.symm), HW2, ⟨_, Lib.hid (show (w1.setCell ⟨b, 0, none⟩ (.int .i64 ((l : Int) + 1))).heap[b]? = some (.cells #[.int .i64 ((l + 1 : Nat) : Int), cc] 32 (0, 0)) by have := HP1.out; simp [World.setCell, Array.getElem?_modify, this])⟩, Lib.hid (HK1.out.set 0 _)⟩
              case measure =>
                show m - n < m
                omega
        · have he' : r ≠ 10 ∧ r ≠ 13 ∧ r ≠ 8232 ∧ r ≠ 8233 := by unfold isEnd at he; omega
          have q10 : ((r : Int) == 10) = false := by rw [beq_eq_false_iff_ne]; omega
          have q28 : ((r : Int) == 8232) = false := by rw [beq_eq_false_iff_ne]; omega
          have q29 : ((r : Int) == 8233) = false := by rw [beq_eq_false_iff_ne]; omega
          by_cases hw : r ≤ 65535
          · have HG := Lib.hid (go_one (k := 1) (f := f) (l := l) (c := c) HPP.out HD.out he hw)
            have t5 : (r : Int) ≤ 65535 := by omega
            go_wp2_with (fail)
            go_roundw
            case rel => exact ⟨pos + n, f, l, c + 1, m - n, cp - n, _, rfl, by simp, by have := HSM.out; omega, by omega, by omega, Lib.hid (fun h => by first | rfl | (rw [if_neg (by omega)])), Lib.hid (by have := HLL.out; omega), Lib.hid (by have := HCC.out; omega), Lib.hid (by rw [← HRES.out]; exact HG.out.symm), HW2, ⟨_, Lib.hid HP1.out⟩, Lib.hid HK1.out⟩
            case measure =>
              show m - n < m
              omega
          · have HG := Lib.hid (go_two (k := 1) (f := f) (l := l) (c := c) HPP.out HD.out he hw)
            have t5 : ¬ (r : Int) ≤ 65535 := by omega
            go_wp2_with (fail)
            go_roundw
            case rel => exact ⟨pos + n, f, l, c + 2, m - n, cp - n, _, rfl, by simp, by have := HSM.out; omega, by omega, by omega, Lib.hid (fun h => by first | rfl | (rw [if_neg (by omega)])), Lib.hid (by have := HLL.out; omega), Lib.hid (by have := HCC.out; omega), Lib.hid (by rw [← HRES.out]; exact HG.out.symm), HW2, ⟨_, Lib.hid HP1.out⟩, Lib.hid HK1.out⟩
            case measure =>
              show m - n < m
              omega
    · obtain rfl : m = 0 := by omega
      have HE := Lib.hid (show res = (l, c) by rw [← HRES.out]; exact go_stop _ _ _ _ _ _ (by omega))
      have y1 : wr.cell? ⟨b, 1, none⟩ = some cc := by rw [Lib.cell_of_heap HP.out]; rfl
      have z1 : wr.frozen? ⟨b, 1, none⟩ = false := Lib.frozen_of_heap HP.out 1
      go_wp2_with (fail)
      go_end0
      rw [HE.out]
      refine ⟨rfl, ?_, HK.out.set 1 _⟩
      have := HP.out
      simp [World.setCell, Array.getElem?_modify, this]
end Go.Proofs.YtbgghgibkjoopaaDoor.fnAdvance
