/-
  FnRangeOfString: the walks of spec.StringAt, of logger's RangeOfString and of impl.RangeOfString.
  Conditions: texts of at most 2^12 bytes.
-/
import Derived.Test.YtnciphcnkbcncaaFnRangeOfStringNext
namespace Go.Proofs.Ytnciphcnkbcncaa.fnRangeOfString
open Go.RowKit Go.Proofs.YtnciphcnkbcncaaW.PrintWords Go.Proofs.YtnciphcnkbcncaaW.PrintLast Go.Proofs.YtnciphcnkbcncaaW.PrintMore Go.Proofs.Ytnciphcnkbcncaa.PFnRangeOfString Go.Proofs.Ytnciphcnkbcncaa.runes
set_option linter.unusedVariables false
set_option linter.unusedSimpArgs false

/-- a literal of so many bytes at a place; 0: there is none -/
def Lit (s : ByteArray) (at_ n : Int) : Prop := n = 0 ∨ ∃ a t : Nat, at_ = a ∧ n = (t : Int) - a ∧ a < t ∧ t ≤ s.size ∧ (nb s a = 34 ∨ nb s a = 39) ∧ nb s (t - 1) = nb s a ∧ Reach s (nb s a) (a + 1) (t - 1)
def StrAt (w : World) (s : ByteArray) (at_ : Int) (e : Ending) (w' : World) : Prop := ∃ n : Int, e = .returned (.int .i64 n) ∧ Lit s at_ n ∧ Below w.heap.size w w'
set_option maxHeartbeats 16000000 in
set_option maxRecDepth 100000 in
theorem stringAt (w : World) (s : ByteArray) (at_ : Int) (hs : s.size ≤ 4096) :
    Calls Try.prog 6 #[.string s, .int .i64 at_] w (StrAt w s at_) := by
  have s1 : (s.size : Int) ≤ 4096 := by omega
  by_cases h0 : at_ < 0
  · go_enter Try.func6, Try.ntmps6
    go_wp2_with (fail)
    go_ret
    exact ⟨0, rfl, .inl rfl, Below.refl _ _⟩
  by_cases h1 : (s.size : Int) ≤ at_
  · go_enter Try.func6, Try.ntmps6
    go_wp2_with (fail)
    go_ret
    exact ⟨0, rfl, .inl rfl, Below.refl _ _⟩
  obtain ⟨a, rfl⟩ : ∃ a : Nat, at_ = a := ⟨at_.toNat, by omega⟩
  have ha : a < s.size := by omega
  have a0 : (0 : Int) ≤ a := by omega
  have a1 : (a : Int) < s.size := by omega
  have hb := byte_nb s a ha
  clear h0 h1
  by_cases hq : nb s a = 34 ∨ nb s a = 39
  · have HQ := Lib.hid hq
    have hq2 : (s[a]'ha).toNat = 34 ∨ (s[a]'ha).toNat = 39 := by rw [hb]; exact hq
    clear hq hb
    rcases hq2 with hq2 | hq2
    all_goals
      first
        | (have e34 : ((s[a]'ha).toNat : Int) = 34 := by omega)
        | (have e34 : ((s[a]'ha).toNat : Int) = 39 := by omega)
      clear hq2
      go_enter Try.func6, Try.ntmps6
      go_wp2_with (fail)
      refine (next w s a hs ha HQ.out).mono ?_
      rintro e w2 ⟨k, txt, more, t, old, rfl, hk, hb⟩
      have HK := Lib.hid hk
      have HB := Lib.hid (hb.alloc hb.size (.cells (tk9 k txt more a t old) 45))
      have hh := heap_alloc_new w2 (.cells (tk9 k txt more a t old) 45)
      have x0 : (w2.alloc (.cells (tk9 k txt more a t old) 45)).cell? ⟨w2.heap.size, 0, none⟩ = some (.int .i64 k) := blk_cell hh 0
      have x4 : (w2.alloc (.cells (tk9 k txt more a t old) 45)).cell? ⟨w2.heap.size, 4, none⟩ = some (.int .i64 a) := blk_cell hh 4
      have x5 : (w2.alloc (.cells (tk9 k txt more a t old) 45)).cell? ⟨w2.heap.size, 5, none⟩ = some (.int .i64 t) := blk_cell hh 5
      have X0 := Lib.hid x0
      have X4 := Lib.hid x4
      have X5 := Lib.hid x5
      clear hk hb hh x0 x4 x5
      unfold tk9 at X0 X4 X5 HB ⊢
      by_cases h8 : k = 8
      · subst h8
        obtain ⟨g1, g2, g3, g4⟩ := HK.out rfl
        have G := Lib.hid (⟨g1, g2, g3, g4⟩ : a < t ∧ t ≤ s.size ∧ nb s (t - 1) = nb s a ∧ Reach s (nb s a) (a + 1) (t - 1))
        have t0 : (0 : Int) ≤ t := by omega
        have t1 : (t : Int) ≤ s.size := by omega
        clear HK g3 g4
        go_wp2_with (fail)
        go_ret
        exact ⟨_, rfl, .inr ⟨a, t, rfl, rfl, G.out.1, G.out.2.1, HQ.out, G.out.2.2⟩, HB.out⟩
      · have k8 : (k != 8) = true := by simpa using h8
        clear HK
        go_wp2_with (fail)
        go_ret
        exact ⟨0, rfl, .inl rfl, HB.out⟩
  · have n34 : (((s[a]'ha).toNat : Int) != 34) = true := by
      rw [bne_iff_ne]; omega
    have n39 : (((s[a]'ha).toNat : Int) != 39) = true := by
      rw [bne_iff_ne]; omega
    clear hq hb
    go_enter Try.func6, Try.ntmps6
    go_wp2_with (fail)
    go_ret
    exact ⟨0, rfl, .inl rfl, Below.refl _ _⟩
theorem cell_lt {w : World} {b i : Nat} {v : Value} (hc : w.cell? ⟨b, i, none⟩ = some v) : b < w.heap.size := by
  simp only [World.cell?] at hc
  cases hh : w.heap[b]? with
  | none => simp [hh] at hc
  | some o => exact (Array.getElem?_eq_some_iff.1 hh).1
theorem info41 : (Try.prog.info? 41).map (·.size) = some 2 := by kernel_rfl
theorem two {w : World} {g : Nat} {a b : Value} (h : w.heap[g]? = some (.cells #[a, b] 41 (0, 0))) (x y : Value) : ((w.setCell ⟨g, 0, none⟩ x).setCell ⟨g, 1, none⟩ y).heap[g]? = some (.cells #[x, y] 41 (0, 0)) :=
  blk_put (blk_put h 0 x (cs' := #[x, b]) rfl) 1 y (cs' := #[x, y]) rfl
def RangeIs (w : World) (a n : Int) (e : Ending) (w' : World) : Prop := e = .returned (.agg #[.int .i32 a, .int .i32 n]) ∧ Below w.heap.size w w'
theorem cells_of_reach {s : ByteArray} {q a i e : Nat} (h : Reach s q (a + i) e) (hne : a + i ≠ e) : a + i < s.size ∧ nb s (a + i) ≠ q ∧ (nb s (a + i) ≠ 92 ∧ Reach s q (a + (i + 1)) e ∨ nb s (a + i) = 92 ∧ Reach s q (a + (i + 2)) e) := by
  cases h with
  | refl => exact absurd rfl hne
  | plain h1 h2 h3 h4 => exact ⟨h1, h2, .inl ⟨h3, h4⟩⟩
  | esc h1 h2 h3 h4 => exact ⟨h1, h2, .inr ⟨h3, h4⟩⟩
set_option maxHeartbeats 16000000 in
set_option maxRecDepth 100000 in
theorem sourceRange (w : World) (g : Nat) (s : ByteArray) (a t : Nat) (hs : s.size ≤ 4096) (hc : w.cell? ⟨g, 3, none⟩ = some (.string s)) (h1 : a < t) (h2 : t ≤ s.size) (h3 : nb s a = 34 ∨ nb s a = 39) (h4 : nb s (t - 1) = nb s a) (h5 : Reach s (nb s a) (a + 1) (t - 1)) :
    Calls Try.prog 8 #[.pointer (some ⟨g, 0, none⟩), .agg #[.int .i32 a]] w (RangeIs w a ((t : Int) - a)) := by
  have hle := h5.le
  have s1 : (s.size : Int) ≤ 4096 := by omega
  have a0 : (0 : Int) ≤ a := by omega
  have a1 : (a : Int) ≤ s.size := by omega
  have a2 : (a : Int) ≤ 4096 := by omega
  have et : (a : Int).toNat = a := by omega
  have ew : IntKind.i64.wrap (a : Int) = a := IntWalk.i64_in _ (by omega)
  have hg := cell_lt hc
  have hT : ∀ i, nb (s.extract a s.size) i = nb s (a + i) := fun i => nb_extract s a i (by omega)
  have hTs : (s.extract a s.size).size = s.size - a := by simp
  have hN0 : ((w.alloc (.cells #[.int .i32 a] 39)).alloc (.cells #[.int .i32 0, .int .i32 0] 41)).heap[w.heap.size]? = some (.cells #[.int .i32 a] 39 (0, 0)) := by
    rw [Below.heap_alloc _ _ _ (by simp)]
    exact heap_alloc_new w _
  have hN1 : ((w.alloc (.cells #[.int .i32 a] 39)).alloc (.cells #[.int .i32 0, .int .i32 0] 41)).heap[w.heap.size + 1]? = some (.cells #[.int .i32 0, .int .i32 0] 41 (0, 0)) := by
    have := heap_alloc_new (w.alloc (.cells #[.int .i32 a] 39)) (.cells #[.int .i32 0, .int .i32 0] 41)
    rwa [show (w.alloc (.cells #[.int .i32 a] 39)).heap.size = w.heap.size + 1 by simp] at this
  have hB : Below w.heap.size w ((w.alloc (.cells #[.int .i32 a] 39)).alloc (.cells #[.int .i32 0, .int .i32 0] 41)) := ((Below.refl _ _).alloc (Nat.le_refl _) _).alloc (by simp) _
  have hcc := (hB.cell (p := ⟨g, 3, none⟩) hg).trans hc
  have H3 := Lib.hid h3
  have H4 := Lib.hid h4
  have H5 := Lib.hid h5
  have HT := Lib.hid hT
  have HTS := Lib.hid hTs
  have hall : ∀ n, Below w.heap.size w (((w.alloc (.cells #[.int .i32 a] 39)).alloc (.cells #[.int .i32 0, .int .i32 0] 41)).drewN n) ∧ (((w.alloc (.cells #[.int .i32 a] 39)).alloc (.cells #[.int .i32 0, .int .i32 0] 41)).drewN n).heap[w.heap.size]? = some (.cells #[.int .i32 a] 39 (0, 0)) ∧ (((w.alloc (.cells #[.int .i32 a] 39)).alloc (.cells #[.int .i32 0, .int .i32 0] 41)).drewN n).heap[w.heap.size + 1]? = some (.cells #[.int .i32 0, .int .i32 0] 41 (0, 0)) := fun n => ⟨pw_below_drewN hB n, hN0, hN1⟩
  have HALL := Lib.hid hall
  clear h3 h4 h5 hT hTs hN0 hN1 hB hc hall
  go_enter Try.func8, Try.ntmps8
  go_wp2_with (fail)
  go_quiet (fail)
  obtain ⟨hB1, hM0, hM1⟩ := HALL.out nq
  clear HALL hcc
  generalize World.drewN _ nq = W1 at hB1 hM0 hM1 ⊢
  have HB := Lib.hid hB1
  have HM0 := Lib.hid hM0
  have HM1 := Lib.hid hM1
  have l0 : W1.cell? ⟨w.heap.size, 0, none⟩ = some (.int .i32 a) := blk_cell hM0 0
  have r0 : W1.cell? ⟨w.heap.size + 1, 0, none⟩ = some (.int .i32 0) := blk_cell hM1 0
  have r1 : W1.cell? ⟨w.heap.size + 1, 1, none⟩ = some (.int .i32 0) := blk_cell hM1 1
  have f0 : W1.frozen? ⟨w.heap.size + 1, 0, none⟩ = false := Lib.frozen_of_heap hM1 0
  have f1 : W1.frozen? ⟨w.heap.size + 1, 1, none⟩ = false := Lib.frozen_of_heap hM1 1
  clear hB1 hM0 hM1
  generalize hTT : s.extract a s.size = T at HT HTS ⊢
  have HTT := Lib.hid hTT
  clear hTT et ew
  have hT0 : 0 < T.size := by rw [HTS.out]; omega
  have hT1 : (0 : Int) < T.size := by omega
  have hT2 : (T.size : Int) ≤ 4096 := by rw [HTS.out]; omega
  have hT3 : ¬ (T.size : Int) = 0 := by omega
  have hb0 : (T[0]'hT0).toNat = nb s a := by rw [byte_nb T 0 hT0, HT.out 0]; rfl
  rcases H3.out with hq | hq
  all_goals
    first
      | (have e0 : ((T[0]'hT0).toNat : Int) = 34 := by omega)
      | (have e0 : ((T[0]'hT0).toNat : Int) = 39 := by omega)
    have HQ := Lib.hid hq
    clear hb0 hq
    go_wp2_with (fail)
    go_loop [7] (fun v7 => ∃ i : Nat, v7 = .int .i64 i ∧ 1 ≤ i ∧ a + i ≤ t - 1 ∧ Hid (Reach s (nb s a) (a + i) (t - 1))) (fun v7 => t - a - (intOf v7).toNat)
    case atStart => exact ⟨1, rfl, Nat.le_refl _, hle, H5⟩
    case round =>
      clear H5
      obtain ⟨i, rfl, hi1, hi2, HR⟩ := hrel
      have hiT : i < T.size := by rw [HTS.out]; omega
      have hiT1 : (i : Int) < T.size := by omega
      have i0 : (0 : Int) ≤ i := by omega
      have i1 : (i : Int) ≤ 4096 := by omega
      have hbi : (T[i]'hiT).toNat = nb s (a + i) := by rw [byte_nb T i hiT, HT.out i]
      by_cases he : a + i = t - 1
      · have hqi : nb s (a + i) = nb s a := by rw [he]; exact H4.out
        first
          | (have ei : ((T[i]'hiT).toNat : Int) = 34 := by have := HQ.out; omega)
          | (have ei : ((T[i]'hiT).toNat : Int) = 39 := by have := HQ.out; omega)
        have HE := Lib.hid (show (i : Int) + 1 = (t : Int) - a by omega)
        have k1 : (i : Int) + 1 ≤ 4097 := by omega
        have k0 : 0 ≤ (i : Int) + 1 := by omega
        clear hbi hqi he HR
        go_wp2_with (fail)
        exact bodyPost_ret (results_cell_row rfl _ _ (w.heap.size + 1) 41 _ (0, 0) _ rfl (two HM1.out _ _) Try.underlying41 rfl (by rw [info41]; rfl)) rfl ⟨by rw [← HE.out], (HB.out.setCell (by simp) _).setCell (by simp) _⟩
      · obtain ⟨g1, g2, g3⟩ := cells_of_reach HR.out he
        have hne : ¬ ((T[i]'hiT).toNat : Int) = 34 ∨ True := .inr trivial
        first
          | (have hne : (((T[i]'hiT).toNat : Int) == 34) = false := by (rw [beq_eq_false_iff_ne]; have := HQ.out; omega))
          | (have hne : (((T[i]'hiT).toNat : Int) == 39) = false := by (rw [beq_eq_false_iff_ne]; have := HQ.out; omega))
        rcases g3 with ⟨g3, g4⟩ | ⟨g3, g4⟩
        · have h92 : (((T[i]'hiT).toNat : Int) == 92) = false := by rw [beq_eq_false_iff_ne]; omega
          have HG := Lib.hid g4
          have hl := g4.le
          clear g1 g2 g3 g4 hbi he HR
          go_wp2_with (fail)
          go_round
          case rel => exact ⟨i + 1, by go_num, by omega, by omega, Lib.hid HG.out⟩
          case measure => simp [intOf]; omega
        · have e92 : ((T[i]'hiT).toNat : Int) = 92 := by omega
          have HG := Lib.hid g4
          have hl := g4.le
          clear g1 g2 g3 g4 hbi he HR hne
          go_wp2_with (fail)
          go_round
          case rel => exact ⟨i + 2, by go_num, by omega, by omega, Lib.hid HG.out⟩
          case measure => simp [intOf]; omega
end Go.Proofs.Ytnciphcnkbcncaa.fnRangeOfString
