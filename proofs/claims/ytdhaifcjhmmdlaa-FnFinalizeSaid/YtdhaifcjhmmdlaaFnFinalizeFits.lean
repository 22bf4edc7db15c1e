/-
  FnFinalize: laws.shiftsFit tells of shifts that they are in order, small, and stay on their lines.
  Conditions: none.
-/
import Derived.Test.YtdhaifcjhmmdlaaFnFinalizeImpl
import Derived.Deep.RegionHeld3
import Derived.ChangeKeysEq
import Derived.BigQuiet
namespace Go.Proofs.Ytdhaifcjhmmdlaa.fnFinalize
open Go.RowKit Go.Proofs.YtdhaifcjhmmdlaaW.PrintWords Go.Proofs.YtdhaifcjhmmdlaaW.PrintLast Go.Proofs.YtdhaifcjhmmdlaaW.PrintMore Go.Proofs.Ytdhaifcjhmmdlaa.PFnFinalize
set_option linter.unusedVariables false
set_option linter.unusedSimpArgs false

theorem before (a b c d : Int) (W : World) :
    Calls Try.prog 11 #[.agg #[.int .i64 a, .int .i64 b], .agg #[.int .i64 c, .int .i64 d]] W fun e w' => e = .returned (.bool (bef ⟨a, b, 0, 0⟩ c d)) ∧ w' = (W.alloc (.cells #[.int .i64 a, .int .i64 b] 40)).alloc (.cells #[.int .i64 c, .int .i64 d] 40) := by
  go_enter Try.func11, Try.ntmps11
  go_wp2_with (fail)
  all_goals
    go_ret
    refine ⟨congrArg (fun x => Ending.returned (.bool x)) ?_, ?_⟩
    · have e : bef ⟨a, b, 0, 0⟩ c d = decide (a < c ∨ a = c ∧ b < d) := rfl
      rw [e]
      first
        | (apply decide_eq_decide.2; omega)
        | (symm; apply decide_eq_true; omega)
        | (symm; apply decide_eq_false; omega)
    · first | rfl | (rename_i h; rw [h])
theorem before2 (a b c d : Int) (W : World) :
    Calls Try.prog 11 #[.agg #[.int .i64 a, .int .i64 b], .agg #[.int .i64 c, .int .i64 d]] W fun e w' => e = .returned (.bool (bef ⟨a, b, 0, 0⟩ c d)) ∧ (∀ x v, W.cell? x = some v → w'.cell? x = some v) ∧ Below W.heap.size W w' := by
  refine (before a b c d W).mono ?_
  rintro e w' ⟨rfl, rfl⟩
  have hb := ((Below.refl W.heap.size W).alloc (Nat.le_refl _) (.cells #[.int .i64 a, .int .i64 b] 40)).alloc (by simp) (.cells #[.int .i64 c, .int .i64 d] 40)
  exact ⟨rfl, fun x v h => (World.cell?_of_block (hb.block x.block (World.block_lt_of_cell? W x h))).trans h, hb⟩
theorem cells3 : Try.prog.cellsOf 3 = 1 := by kernel_rfl
theorem eqA28 (w : World) (x0 x1 x2 x3 y0 y1 y2 y3 : Int) : (Op.equalIn 10000 28 (.agg #[.int .i64 x0, .int .i64 x1, .int .i64 x2, .int .i64 x3]) (.agg #[.int .i64 y0, .int .i64 y1, .int .i64 y2, .int .i64 y3])).run Try.prog w = .ok (x0 == y0 && (x1 == y1 && (x2 == y2 && x3 == y3))) w := by
  obtain ⟨i3, hi3, hz0, hz1, hz2⟩ := info_parts info3
  have h := run_equalIn_array (P := Try.prog) w 9999 (t := 28) (e := 3) (n := 4) (i := i3) #[.int .i64 x0, .int .i64 x1, .int .i64 x2, .int .i64 x3] #[.int .i64 y0, .int .i64 y1, .int .i64 y2, .int .i64 y3] Try.underlying28 hi3
  rw [show (10000 : Nat) = 9999 + 1 from rfl, h, show List.range 4 = [0, 1, 2, 3] from rfl, cells3]
  by_cases e0 : x0 = y0
  · by_cases e1 : x1 = y1
    · by_cases e2 : x2 = y2
      · by_cases e3 : x3 = y3
        · simp [Op.eqItems, go_sem, e0, e1, e2, e3]
        · simp [Op.eqItems, go_sem, e0, e1, e2, e3]
      · simp [Op.eqItems, go_sem, e0, e1, e2]
    · simp [Op.eqItems, go_sem, e0, e1]
  · simp [Op.eqItems, go_sem, e0]
attribute [local go_sem high] eqA28
theorem before3 (a b c d : Int) (r : Bool) (h : bef ⟨a, b, 0, 0⟩ c d = r) (W : World) :
    Calls Try.prog 11 #[.agg #[.int .i64 a, .int .i64 b], .agg #[.int .i64 c, .int .i64 d]] W fun e w' => e = .returned (.bool r) ∧ (∀ x v, W.cell? x = some v → w'.cell? x = some v) ∧ Below W.heap.size W w' := by
  subst h
  exact before2 a b c d W
/-- what shiftsFit has looked at, up to the i-th shift -/
structure Seen (SH : List Sh) (i : Nat) : Prop where
  small : ∀ j (hj : j < SH.length), j < i → 0 ≤ SH[j].line ∧ SH[j].line ≤ 1000 ∧ 0 ≤ SH[j].col ∧ SH[j].col ≤ 1048576 ∧ 0 ≤ SH[j].acol ∧ SH[j].acol ≤ 1048576 ∧ SH[j].aline = SH[j].line
  sort : ∀ j (hj : j < SH.length), j < i → 0 < j → bef (SH[j - 1]'(by omega)) SH[j].line SH[j].col = true
def Fp (W : World) (SH : List Sh) (e : Ending) (w' : World) : Prop := ∃ r, e = .returned (.bool r) ∧ (r = true → SH.length ≤ 100 ∧ (∃ s t, SH = s :: t ∧ s = z0) ∧ Seen SH SH.length) ∧ Below W.heap.size W w'
set_option maxHeartbeats 16000000 in
set_option maxRecDepth 100000 in
theorem shiftsFit (W : World) (vm vsh : Value) (A0 : Option Addr) (c0 : Nat) (L : List S27) (SH : List Sh) (hL : Kd.C k27 W A0 L.length L) (hc0 : L.length ≤ c0) (hsh : SH ≠ [] → Sl W W.heap.size vsh SH) (h0 : SH = [] → ∃ A c, vsh = .slice A 0 c) (hl : SH.length ≤ 9223372036854775807) :
    Calls Try.prog 5 #[.slice A0 L.length c0, vsh] W fun e w' => Fp W SH e w' := by
  by_cases hn : SH = []
  · subst hn
    obtain ⟨A, c, rfl⟩ := h0 rfl
    clear hsh h0 hL
    go_enter Try.func5, Try.ntmps5
    go_wp2_with (fail)
    go_ret
    exact ⟨_, rfl, fun h => by simp at h, Below.refl _ _⟩
  · have HSH := Lib.hid (hsh hn)
    obtain ⟨s, t, rfl⟩ : ∃ s t, SH = s :: t := by
      cases SH with
      | nil => exact absurd rfl hn
      | cons s t => exact ⟨s, t, rfl⟩
    obtain ⟨gh, oh, ch, rfl, hch, hgh, hcl⟩ := HSH.out
    clear hsh h0 hn
    have HLC := Lib.hid hL
    clear hL
    obtain ⟨k0, k1, k2, k3⟩ := hcl 0 (by simp)
    have k0 : W.cell? ⟨gh, oh, none⟩ = some (.int .i64 s.line) := by simpa using k0
    have k1 : W.cell? ⟨gh, oh + 1, none⟩ = some (.int .i64 s.col) := by simpa using k1
    have k2 : W.cell? ⟨gh, oh + 2, none⟩ = some (.int .i64 s.aline) := by simpa using k2
    have k3 : W.cell? ⟨gh, oh + 3, none⟩ = some (.int .i64 s.acol) := by simpa using k3
    obtain ⟨n, hn⟩ : ∃ n, n = (s :: t).length := ⟨_, rfl⟩
    have HN := Lib.hid hn
    rw [← hn] at hch hl ⊢
    have n0 : ((n : Int) == 0) = false := beq_eq_false_iff_ne.mpr (by rw [hn, List.length_cons]; omega)
    have n1 : (0 : Int) < (n : Int) := by rw [hn, List.length_cons]; omega
    clear hcl hn
    by_cases h100 : n ≤ 100
    · have q1 : decide ((100 : Int) < (n : Int)) = false := decide_eq_false (by omega)
      go_enter Try.func5, Try.ntmps5
      go_upto_if 23 with (fail)
      obtain ⟨zz, hzz⟩ : ∃ zz, zz = (!(s.line == 0) || (!(s.col == 0) || (!(s.aline == 0) || !(s.acol == 0)))) := ⟨_, rfl⟩
      rw [← hzz]
      have HZZ := Lib.hid hzz
      clear hzz k0 k1 k2 k3
      cases zz with
      | true =>
        go_wp2_with (fail)
        go_ret
        exact ⟨_, rfl, fun h => by simp at h, Below.refl _ _⟩
      | false =>
        go_wp2_with (fail)
        go_loopw [26] (fun v26 wr => ∃ i : Nat, v26 = .int .i64 (i : Int) ∧ i ≤ n ∧ Hid (Seen (s :: t) i) ∧ Hid (Below W.heap.size W wr)) (fun v26 _ => n - (intOf v26).toNat)
        case atStart => exact ⟨0, rfl, Nat.zero_le _, Lib.hid ⟨fun j _ hj => by omega, fun j _ hj => by omega⟩, Lib.hid (Below.refl _ _)⟩
        case round =>
          obtain ⟨i, rfl, hi, HSN, HBW⟩ := hrel
          by_cases hlt : i < n
          · have x0 : (0 : Int) ≤ (i : Int) := by omega
            have x1 : (i : Int) < (n : Int) := by omega
            have wi : wrap64 ((i : Int) + 1) = (i : Int) + 1 := wrap_up hlt (by omega)
            have hlt2 : i < (s :: t).length := by rw [← HN.out]; exact hlt
            have hcell : ∀ j (hj : j < (s :: t).length), wr.cell? ⟨gh, oh + j * 4, none⟩ = some (.int .i64 (s :: t)[j].line) ∧ wr.cell? ⟨gh, oh + j * 4 + 1, none⟩ = some (.int .i64 (s :: t)[j].col) ∧ wr.cell? ⟨gh, oh + j * 4 + 2, none⟩ = some (.int .i64 (s :: t)[j].aline) ∧ wr.cell? ⟨gh, oh + j * 4 + 3, none⟩ = some (.int .i64 (s :: t)[j].acol) := by
              obtain ⟨g, o, cap, e, _, _, h⟩ := HSH.out.below HBW.out
              cases e
              exact h
            obtain ⟨k0, k1, k2, k3⟩ := hcell i hlt2
            have HCE := Lib.hid hcell
            obtain ⟨x, hx⟩ : ∃ x, x = (s :: t)[i] := ⟨_, rfl⟩
            rw [← hx] at k0 k1 k2 k3
            have HXX := Lib.hid hx
            have HLT := Lib.hid hlt2
            have HWI := Lib.hid wi
            clear hcell hx hlt hi wi
            go_upto_region 6 with (fail)
            have hD := heap_alloc_new wr (.cells #[.int .i64 x.line, .int .i64 x.col, .int .i64 x.aline, .int .i64 x.acol] 28)
            have hDb := (Below.refl wr.heap.size wr).alloc (Nat.le_refl _) (.cells #[.int .i64 x.line, .int .i64 x.col, .int .i64 x.aline, .int .i64 x.acol] 28)
            have hDs : (wr.alloc (.cells #[.int .i64 x.line, .int .i64 x.col, .int .i64 x.aline, .int .i64 x.acol] 28)).heap.size = wr.heap.size + 1 := by simp
            generalize wr.alloc (.cells #[.int .i64 x.line, .int .i64 x.col, .int .i64 x.aline, .int .i64 x.acol] 28) = w1 at hD hDb hDs ⊢
            have d0 : w1.cell? ⟨wr.heap.size, 0, none⟩ = some (.int .i64 x.line) := blk_cell hD 0
            have d1 : w1.cell? ⟨wr.heap.size, 1, none⟩ = some (.int .i64 x.col) := blk_cell hD 1
            have d2 : w1.cell? ⟨wr.heap.size, 2, none⟩ = some (.int .i64 x.aline) := blk_cell hD 2
            have d3 : w1.cell? ⟨wr.heap.size, 3, none⟩ = some (.int .i64 x.acol) := blk_cell hD 3
            have H1 := Lib.hid (⟨hD, hDb, hDs⟩ : _ ∧ _ ∧ _)
            clear hD hDb hDs k0 k1 k2 k3
            go_cut [65] from 28 to 64 (fun v65 wd => ∃ b, v65 = .bool b ∧ Hid (b = false → 0 ≤ x.line ∧ x.line ≤ 1000 ∧ 0 ≤ x.col ∧ x.col ≤ 1048576 ∧ 0 ≤ x.acol ∧ x.acol ≤ 1048576 ∧ x.aline = x.line) ∧ wd = w1)
            case first =>
              by_cases c0 : x.line < 0
              · have e0 : decide (x.line < 0) = true := decide_eq_true c0
                have HG := Lib.hid (show True from trivial)
                clear c0
                go_wp2_with (fail)
                go_meet
                case rel => exact ⟨_, rfl, Lib.hid (fun h => absurd h (by simp)), rfl⟩
              · have e0 : decide (x.line < 0) = false := decide_eq_false c0
                by_cases c1 : 1000 < x.line
                · have e1 : decide (1000 < x.line) = true := decide_eq_true c1
                  have HG := Lib.hid (show True from trivial)
                  clear c0 c1
                  go_wp2_with (fail)
                  go_meet
                  case rel => exact ⟨_, rfl, Lib.hid (fun h => absurd h (by simp)), rfl⟩
                · have e1 : decide (1000 < x.line) = false := decide_eq_false c1
                  by_cases c2 : x.line = x.aline
                  · rw [← c2] at d2
                    by_cases c3 : x.col < 0
                    · have e3 : decide (x.col < 0) = true := decide_eq_true c3
                      have HG := Lib.hid (show True from trivial)
                      clear c0 c1 c2 c3
                      go_wp2_with (fail)
                      go_meet
                      case rel => exact ⟨_, rfl, Lib.hid (fun h => absurd h (by simp)), rfl⟩
                    · have e3 : decide (x.col < 0) = false := decide_eq_false c3
                      by_cases c4 : 1048576 < x.col
                      · have e4 : decide (1048576 < x.col) = true := decide_eq_true c4
                        have HG := Lib.hid (show True from trivial)
                        clear c0 c1 c2 c3 c4
                        go_wp2_with (fail)
                        go_meet
                        case rel => exact ⟨_, rfl, Lib.hid (fun h => absurd h (by simp)), rfl⟩
                      · have e4 : decide (1048576 < x.col) = false := decide_eq_false c4
                        by_cases c5 : x.acol < 0
                        · have e5 : decide (x.acol < 0) = true := decide_eq_true c5
                          have HG := Lib.hid (show True from trivial)
                          clear c0 c1 c2 c3 c4 c5
                          go_wp2_with (fail)
                          go_meet
                          case rel => exact ⟨_, rfl, Lib.hid (fun h => absurd h (by simp)), rfl⟩
                        · have e5 : decide (x.acol < 0) = false := decide_eq_false c5
                          by_cases c6 : 1048576 < x.acol
                          · have e6 : decide (1048576 < x.acol) = true := decide_eq_true c6
                            have HG := Lib.hid (show True from trivial)
                            clear c0 c1 c2 c3 c4 c5 c6
                            go_wp2_with (fail)
                            go_meet
                            case rel => exact ⟨_, rfl, Lib.hid (fun h => absurd h (by simp)), rfl⟩
                          · have e6 : decide (1048576 < x.acol) = false := decide_eq_false c6
                            have HG := Lib.hid (show 0 ≤ x.line ∧ x.line ≤ 1000 ∧ 0 ≤ x.col ∧ x.col ≤ 1048576 ∧ 0 ≤ x.acol ∧ x.acol ≤ 1048576 ∧ x.aline = x.line from ⟨by omega, by omega, by omega, by omega, by omega, by omega, c2.symm⟩)
                            clear c0 c1 c2 c3 c4 c5 c6
                            go_wp2_with (fail)
                            go_meet
                            case rel => exact ⟨_, rfl, Lib.hid (fun _ => HG.out), rfl⟩
                  · skip
                    have HG := Lib.hid (show True from trivial)
                    clear c0 c1
                    go_wp2_with (fail)
                    go_meet
                    case rel => exact ⟨_, rfl, Lib.hid (fun h => absurd h (by simp)), rfl⟩
            case rest =>
            obtain ⟨b6, rfl, HB6, rfl⟩ := hcut
            cases b6 with
            | true =>
              clear d0 d1 d2 d3
              go_wp2_with (fail)
              go_ret
              exact ⟨false, rfl, fun h => by simp at h, HBW.out.trans (H1.out.2.1.mono HBW.out.size)⟩
            | false =>
            go_wp2_with (fail)
            go_cut [111] from 66 to 110 (fun v111 wd => ∃ b, v111 = .bool b ∧ Hid (b = false → ∀ h : 0 < i, bef ((s :: t)[i - 1]'(by omega)) x.line x.col = true) ∧ Hid (Below wc.heap.size wc wd))
            case first =>
              cases i with
              | zero =>
                have q0 : decide ((0 : Int) < ((0 : Nat) : Int)) = false := by decide
                clear d0 d1 d2 d3 x0 x1
                go_quiet (fail)
                go_wp2_with (fail)
                go_meet
                case rel => exact ⟨_, rfl, Lib.hid (fun _ h => absurd h (by omega)), Lib.hid ⟨rfl, rfl, rfl, Nat.le_refl _, fun _ _ => rfl⟩⟩
              | succ m =>
                have q0 : decide ((0 : Int) < ((m + 1 : Nat) : Int)) = true := decide_eq_true (by omega)
                have wm : wrap64 (((m + 1 : Nat) : Int) - 1) = (m : Int) := by unfold wrap64; omega
                have wm2 : wrap64 (m : Int) = (m : Int) := by unfold wrap64; omega
                have wm3 : wrap64 ((m : Int) + 1 - 1) = (m : Int) := by unfold wrap64; omega
                have wm4 : IntKind.i64.wrap (((m + 1 : Nat) : Int) - 1) = (m : Int) := by rw [IntKind.wrap_i64]; omega
                have wm5 : IntKind.i64.wrap (m : Int) = (m : Int) := by rw [IntKind.wrap_i64]; omega
                have wm6 : IntKind.i64.wrap ((m : Int) + 1 - 1) = (m : Int) := by rw [IntKind.wrap_i64]; omega
                obtain ⟨y0, y1, y2, y3⟩ := HCE.out m (by omega)
                obtain ⟨y, hy⟩ : ∃ y, y = (s :: t)[m]'(by omega) := ⟨_, rfl⟩
                rw [← hy] at y0 y1 y2 y3
                have z0 := (H1.out.2.1.cell (World.block_lt_of_cell? _ _ y0)).trans y0
                have z1 := (H1.out.2.1.cell (World.block_lt_of_cell? _ _ y1)).trans y1
                have z2 := (H1.out.2.1.cell (World.block_lt_of_cell? _ _ y2)).trans y2
                have z3 := (H1.out.2.1.cell (World.block_lt_of_cell? _ _ y3)).trans y3
                have HY := Lib.hid hy
                have p0 : (0 : Int) ≤ (m : Int) := by omega
                have p1 : (m : Int) < (n : Int) := by omega
                clear y0 y1 y2 y3 hy x0 x1
                cases hb1 : bef ⟨y.line, y.col, 0, 0⟩ x.line x.col with
                | false =>
                  clear HSH HLC HN HZZ HSN HBW HCE HXX HLT HWI HB6 HY
                  refine start_ (n := 46) (S := (fun w' => w'.cell? ⟨wr.heap.size, 0, none⟩ = some (.int .i64 x.line) ∧ w'.cell? ⟨wr.heap.size, 1, none⟩ = some (.int .i64 x.col) ∧ w'.cell? ⟨wr.heap.size, 2, none⟩ = some (.int .i64 x.aline) ∧ w'.cell? ⟨wr.heap.size, 3, none⟩ = some (.int .i64 x.acol) ∧ w'.cell? ⟨gh, oh + m * 4, none⟩ = some (.int .i64 y.line) ∧ w'.cell? ⟨gh, oh + m * 4 + 1, none⟩ = some (.int .i64 y.col) ∧ w'.cell? ⟨gh, oh + m * 4 + 2, none⟩ = some (.int .i64 y.aline) ∧ w'.cell? ⟨gh, oh + m * 4 + 3, none⟩ = some (.int .i64 y.acol))) (ds := []) #[false, false, false, false, false, false, false, false, false, false, false, false, false, false, false, false, false, false, false, false, false, false, false, false, false, false, false, false, false, false, false, false, false, false, false, false, false, false, false, false, false, false, false, false, false, false] (by kernel_rfl) rfl rfl ?_ (fun hHeld => ?_)
                  · go_keep
                  refine pure_ (i := 0) (N := some 66) (v := ?_) (a' := ?_) #[true, false, false, false, false, false, false, false, false, false, false, false, false, false, false, false, false, false, false, false, false, false, false, false, false, false, false, false, false, false, false, false, false, false, false, false, false, false, false, false, false, false, false, false, false, false] rfl rfl (by kernel_rfl) (fun _ _ _ h => h) (Or.inl ⟨by rfl, ?_⟩) ?_ ?_
                  rotate_left
                  · intro w'
                    go_simp
                    with_reducible rfl
                  rotate_left
                  · simp only [Act.put, List.setIfInBounds_toArray, List.set_cons_zero, List.set_cons_succ]
                    rfl
                  refine pure_ (i := 1) (N := some 67) (v := ?_) (a' := ?_) #[true, true, false, false, false, false, false, false, false, false, false, false, false, false, false, false, false, false, false, false, false, false, false, false, false, false, false, false, false, false, false, false, false, false, false, false, false, false, false, false, false, false, false, false, false, false] rfl rfl (by kernel_rfl) (fun _ _ _ h => h) (Or.inl ⟨by rfl, ?_⟩) ?_ ?_
                  rotate_left
                  · intro w'
                    go_simp
                    with_reducible rfl
                  rotate_left
                  · simp only [Act.put, List.setIfInBounds_toArray, List.set_cons_zero, List.set_cons_succ]
                    rfl
                  refine pure_ (i := 2) (N := some 68) (v := ?_) (a' := ?_) #[true, true, true, false, false, false, false, false, false, false, false, false, false, false, false, false, false, false, false, false, false, false, false, false, false, false, false, false, false, false, false, false, false, false, false, false, false, false, false, false, false, false, false, false, false, false] rfl rfl (by kernel_rfl) (fun _ _ _ h => h) (Or.inl ⟨by rfl, ?_⟩) ?_ ?_
                  rotate_left
                  · intro w'
                    go_simp
                    with_reducible rfl
                  rotate_left
                  · simp only [Act.put, List.setIfInBounds_toArray, List.set_cons_zero, List.set_cons_succ]
                    rfl
                  refine pure_ (i := 3) (N := some 69) (v := ?_) (a' := ?_) #[true, true, true, true, false, false, false, false, false, false, false, false, false, false, false, false, false, false, false, false, false, false, false, false, false, false, false, false, false, false, false, false, false, false, false, false, false, false, false, false, false, false, false, false, false, false] rfl rfl (by kernel_rfl) (fun _ _ _ h => h) (Or.inl ⟨by rfl, ?_⟩) ?_ ?_
                  rotate_left
                  · intro w'
                    go_simp
                    with_reducible rfl
                  rotate_left
                  · simp only [Act.put, List.setIfInBounds_toArray, List.set_cons_zero, List.set_cons_succ]
                    rfl
                  refine pure_ (i := 4) (N := some 70) (v := ?_) (a' := ?_) #[true, true, true, true, true, false, false, false, false, false, false, false, false, false, false, false, false, false, false, false, false, false, false, false, false, false, false, false, false, false, false, false, false, false, false, false, false, false, false, false, false, false, false, false, false, false] rfl rfl (by kernel_rfl) (fun _ _ _ h => h) (Or.inl ⟨by rfl, ?_⟩) ?_ ?_
                  rotate_left
                  · intro w'
                    go_simp
                    with_reducible rfl
                  rotate_left
                  · simp only [Act.put, List.setIfInBounds_toArray, List.set_cons_zero, List.set_cons_succ]
                    rfl
                  refine pure_ (i := 5) (N := some 71) (v := ?_) (a' := ?_) #[true, true, true, true, true, true, false, false, false, false, false, false, false, false, false, false, false, false, false, false, false, false, false, false, false, false, false, false, false, false, false, false, false, false, false, false, false, false, false, false, false, false, false, false, false, false] rfl rfl (by kernel_rfl) (fun _ _ _ h => h) (Or.inl ⟨by rfl, ?_⟩) ?_ ?_
                  rotate_left
                  · intro w'
                    go_simp
                    with_reducible rfl
                  rotate_left
                  · simp only [Act.put, List.setIfInBounds_toArray, List.set_cons_zero, List.set_cons_succ]
                    rfl
                  refine pure_ (i := 6) (N := some 72) (v := ?_) (a' := ?_) #[true, true, true, true, true, true, true, false, false, false, false, false, false, false, false, false, false, false, false, false, false, false, false, false, false, false, false, false, false, false, false, false, false, false, false, false, false, false, false, false, false, false, false, false, false, false] rfl rfl (by kernel_rfl) (fun _ _ _ h => h) (Or.inl ⟨by rfl, ?_⟩) ?_ ?_
                  rotate_left
                  · intro w'
                    go_simp
                    with_reducible rfl
                  rotate_left
                  · simp only [Act.put, List.setIfInBounds_toArray, List.set_cons_zero, List.set_cons_succ]
                    rfl
                  refine pure_ (i := 7) (N := some 73) (v := ?_) (a' := ?_) #[true, true, true, true, true, true, true, true, false, false, false, false, false, false, false, false, false, false, false, false, false, false, false, false, false, false, false, false, false, false, false, false, false, false, false, false, false, false, false, false, false, false, false, false, false, false] rfl rfl (by kernel_rfl) (fun _ _ _ h => h) (Or.inl ⟨by rfl, ?_⟩) ?_ ?_
                  rotate_left
                  · intro w'
                    go_simp
                    with_reducible rfl
                  rotate_left
                  · simp only [Act.put, List.setIfInBounds_toArray, List.set_cons_zero, List.set_cons_succ]
                    rfl
                  refine take_ (i := 8) (N := some 74) (v := ?_) (a' := ?_) #[true, true, true, true, true, true, true, true, true, false, false, false, false, false, false, false, false, false, false, false, false, false, false, false, false, false, false, false, false, false, false, false, false, false, false, false, false, false, false, false, false, false, false, false, false, false] rfl rfl (by kernel_rfl) (fun _ _ _ h => h) (Or.inl ⟨by rfl, ?_⟩) hHeld ?_ ?_
                  rotate_left
                  · rintro w' ⟨s0, s1, s2, s3, s4, s5, s6, s7⟩
                    go_simp
                    with_reducible rfl
                  rotate_left
                  · simp only [Act.put, List.setIfInBounds_toArray, List.set_cons_zero, List.set_cons_succ]
                    rfl
                  refine pure_ (i := 9) (N := some 75) (v := ?_) (a' := ?_) #[true, true, true, true, true, true, true, true, true, true, false, false, false, false, false, false, false, false, false, false, false, false, false, false, false, false, false, false, false, false, false, false, false, false, false, false, false, false, false, false, false, false, false, false, false, false] rfl rfl (by kernel_rfl) (fun _ _ _ h => h) (Or.inl ⟨by rfl, ?_⟩) ?_ ?_
                  rotate_left
                  · intro w'
                    go_simp
                    with_reducible rfl
                  rotate_left
                  · simp only [Act.put, List.setIfInBounds_toArray, List.set_cons_zero, List.set_cons_succ]
                    rfl
                  refine pure_ (i := 10) (N := some 76) (v := ?_) (a' := ?_) #[true, true, true, true, true, true, true, true, true, true, true, false, false, false, false, false, false, false, false, false, false, false, false, false, false, false, false, false, false, false, false, false, false, false, false, false, false, false, false, false, false, false, false, false, false, false] rfl rfl (by kernel_rfl) (fun _ _ _ h => h) (Or.inl ⟨by rfl, ?_⟩) ?_ ?_
                  rotate_left
                  · intro w'
                    go_simp
                    with_reducible rfl
                  rotate_left
                  · simp only [Act.put, List.setIfInBounds_toArray, List.set_cons_zero, List.set_cons_succ]
                    rfl
                  refine pure_ (i := 11) (N := some 77) (v := ?_) (a' := ?_) #[true, true, true, true, true, true, true, true, true, true, true, true, false, false, false, false, false, false, false, false, false, false, false, false, false, false, false, false, false, false, false, false, false, false, false, false, false, false, false, false, false, false, false, false, false, false] rfl rfl (by kernel_rfl) (fun _ _ _ h => h) (Or.inl ⟨by rfl, ?_⟩) ?_ ?_
                  rotate_left
                  · intro w'
                    go_simp
                    with_reducible rfl
                  rotate_left
                  · simp only [Act.put, List.setIfInBounds_toArray, List.set_cons_zero, List.set_cons_succ]
                    rfl
                  refine pure_ (i := 12) (N := some 78) (v := ?_) (a' := ?_) #[true, true, true, true, true, true, true, true, true, true, true, true, true, false, false, false, false, false, false, false, false, false, false, false, false, false, false, false, false, false, false, false, false, false, false, false, false, false, false, false, false, false, false, false, false, false] rfl rfl (by kernel_rfl) (fun _ _ _ h => h) (Or.inl ⟨by rfl, ?_⟩) ?_ ?_
                  rotate_left
                  · intro w'
                    go_simp
                    with_reducible rfl
                  rotate_left
                  · simp only [Act.put, List.setIfInBounds_toArray, List.set_cons_zero, List.set_cons_succ]
                    rfl
                  refine pure_ (i := 13) (N := some 79) (v := ?_) (a' := ?_) #[true, true, true, true, true, true, true, true, true, true, true, true, true, true, false, false, false, false, false, false, false, false, false, false, false, false, false, false, false, false, false, false, false, false, false, false, false, false, false, false, false, false, false, false, false, false] rfl rfl (by kernel_rfl) (fun _ _ _ h => h) (Or.inl ⟨by rfl, ?_⟩) ?_ ?_
                  rotate_left
                  · intro w'
                    go_simp
                    with_reducible rfl
                  rotate_left
                  · simp only [Act.put, List.setIfInBounds_toArray, List.set_cons_zero, List.set_cons_succ]
                    rfl
                  refine take_ (i := 14) (N := some 80) (v := ?_) (a' := ?_) #[true, true, true, true, true, true, true, true, true, true, true, true, true, true, true, false, false, false, false, false, false, false, false, false, false, false, false, false, false, false, false, false, false, false, false, false, false, false, false, false, false, false, false, false, false, false] rfl rfl (by kernel_rfl) (fun _ _ _ h => h) (Or.inl ⟨by rfl, ?_⟩) hHeld ?_ ?_
                  rotate_left
                  · rintro w' ⟨s0, s1, s2, s3, s4, s5, s6, s7⟩
                    go_simp
                    with_reducible rfl
                  rotate_left
                  · simp only [Act.put, List.setIfInBounds_toArray, List.set_cons_zero, List.set_cons_succ]
                    rfl
                  refine pure_ (i := 15) (N := some 81) (v := ?_) (a' := ?_) #[true, true, true, true, true, true, true, true, true, true, true, true, true, true, true, true, false, false, false, false, false, false, false, false, false, false, false, false, false, false, false, false, false, false, false, false, false, false, false, false, false, false, false, false, false, false] rfl rfl (by kernel_rfl) (fun _ _ _ h => h) (Or.inl ⟨by rfl, ?_⟩) ?_ ?_
                  rotate_left
                  · intro w'
                    go_simp
                    with_reducible rfl
                  rotate_left
                  · simp only [Act.put, List.setIfInBounds_toArray, List.set_cons_zero, List.set_cons_succ]
                    rfl
                  refine pure_ (i := 16) (N := some 82) (v := ?_) (a' := ?_) #[true, true, true, true, true, true, true, true, true, true, true, true, true, true, true, true, true, false, false, false, false, false, false, false, false, false, false, false, false, false, false, false, false, false, false, false, false, false, false, false, false, false, false, false, false, false] rfl rfl (by kernel_rfl) (fun _ _ _ h => h) (Or.inl ⟨by rfl, ?_⟩) ?_ ?_
                  rotate_left
                  · intro w'
                    go_simp
                    with_reducible rfl
                  rotate_left
                  · simp only [Act.put, List.setIfInBounds_toArray, List.set_cons_zero, List.set_cons_succ]
                    rfl
                  refine take_ (i := 17) (N := some 83) (v := ?_) (a' := ?_) #[true, true, true, true, true, true, true, true, true, true, true, true, true, true, true, true, true, true, false, false, false, false, false, false, false, false, false, false, false, false, false, false, false, false, false, false, false, false, false, false, false, false, false, false, false, false] rfl rfl (by kernel_rfl) (fun _ _ _ h => h) (Or.inl ⟨by rfl, ?_⟩) hHeld ?_ ?_
                  rotate_left
                  · rintro w' ⟨s0, s1, s2, s3, s4, s5, s6, s7⟩
                    go_simp
                    with_reducible rfl
                  rotate_left
                  · simp only [Act.put, List.setIfInBounds_toArray, List.set_cons_zero, List.set_cons_succ]
                    rfl
                  refine pure_ (i := 18) (N := some 84) (v := ?_) (a' := ?_) #[true, true, true, true, true, true, true, true, true, true, true, true, true, true, true, true, true, true, true, false, false, false, false, false, false, false, false, false, false, false, false, false, false, false, false, false, false, false, false, false, false, false, false, false, false, false] rfl rfl (by kernel_rfl) (fun _ _ _ h => h) (Or.inl ⟨by rfl, ?_⟩) ?_ ?_
                  rotate_left
                  · intro w'
                    go_simp
                    with_reducible rfl
                  rotate_left
                  · simp only [Act.put, List.setIfInBounds_toArray, List.set_cons_zero, List.set_cons_succ]
                    rfl
                  refine take_ (i := 19) (N := some 85) (v := ?_) (a' := ?_) #[true, true, true, true, true, true, true, true, true, true, true, true, true, true, true, true, true, true, true, true, false, false, false, false, false, false, false, false, false, false, false, false, false, false, false, false, false, false, false, false, false, false, false, false, false, false] rfl rfl (by kernel_rfl) (fun _ _ _ h => h) (Or.inl ⟨by rfl, ?_⟩) hHeld ?_ ?_
                  rotate_left
                  · rintro w' ⟨s0, s1, s2, s3, s4, s5, s6, s7⟩
                    go_simp
                    with_reducible rfl
                  rotate_left
                  · simp only [Act.put, List.setIfInBounds_toArray, List.set_cons_zero, List.set_cons_succ]
                    rfl
                  refine pure_ (i := 20) (N := some 86) (v := ?_) (a' := ?_) #[true, true, true, true, true, true, true, true, true, true, true, true, true, true, true, true, true, true, true, true, true, false, false, false, false, false, false, false, false, false, false, false, false, false, false, false, false, false, false, false, false, false, false, false, false, false] rfl rfl (by kernel_rfl) (fun _ _ _ h => h) (Or.inl ⟨by rfl, ?_⟩) ?_ ?_
                  rotate_left
                  · intro w'
                    go_simp
                    with_reducible rfl
                  rotate_left
                  · simp only [Act.put, List.setIfInBounds_toArray, List.set_cons_zero, List.set_cons_succ]
                    rfl
                  refine one_ (i := 21) (N := some 87) #[true, true, true, true, true, true, true, true, true, true, true, true, true, true, true, true, true, true, true, true, true, true, false, false, false, false, false, false, false, false, false, false, false, false, false, false, false, false, false, false, false, false, false, false, false, false] rfl rfl (by kernel_rfl) (by decide) (fun K hK => ?_)
                  go_simp
                  go_at_call 11
                  refine (before3 _ _ _ _ _ hb1 _).mono ?_
                  rintro e wx ⟨rfl, hk, hb⟩
                  refine hK.out _ _ ⟨hk _ _ hHeld.1, hk _ _ hHeld.2.1, hk _ _ hHeld.2.2.1, hk _ _ hHeld.2.2.2.1, hk _ _ hHeld.2.2.2.2.1, hk _ _ hHeld.2.2.2.2.2.1, hk _ _ hHeld.2.2.2.2.2.2.1, hk _ _ hHeld.2.2.2.2.2.2.2⟩ (fun hHeld2 => ?_)
                  clear hK K hHeld
                  refine pure_ (i := 22) (N := some 88) (v := ?_) (a' := ?_) #[true, true, true, true, true, true, true, true, true, true, true, true, true, true, true, true, true, true, true, true, true, true, true, false, false, false, false, false, false, false, false, false, false, false, false, false, false, false, false, false, false, false, false, false, false, false] rfl rfl (by kernel_rfl) (fun _ _ _ h => h) (Or.inl ⟨by rfl, ?_⟩) ?_ ?_
                  rotate_left
                  · intro w'
                    go_simp
                    with_reducible rfl
                  rotate_left
                  · simp only [Act.put, List.setIfInBounds_toArray, List.set_cons_zero, List.set_cons_succ]
                    rfl
                  refine pure_ (i := 23) (N := some 89) (v := ?_) (a' := ?_) #[true, true, true, true, true, true, true, true, true, true, true, true, true, true, true, true, true, true, true, true, true, true, true, true, false, false, false, false, false, false, false, false, false, false, false, false, false, false, false, false, false, false, false, false, false, false] rfl rfl (by kernel_rfl) (fun _ _ _ h => h) (Or.inl ⟨by rfl, ?_⟩) ?_ ?_
                  rotate_left
                  · intro w'
                    go_simp
                    with_reducible rfl
                  rotate_left
                  · simp only [Act.put, List.setIfInBounds_toArray, List.set_cons_zero, List.set_cons_succ]
                    rfl
                  refine pure_ (i := 24) (N := some 90) (v := undef) (a' := ?_) #[true, true, true, true, true, true, true, true, true, true, true, true, true, true, true, true, true, true, true, true, true, true, true, true, true, false, false, false, false, false, false, false, false, false, false, false, false, false, false, false, false, false, false, false, false, false] rfl rfl (by kernel_rfl) (fun _ _ _ h => h) (Or.inr ⟨by rfl, rfl⟩) ?_ ?_
                  rotate_left
                  · simp only [Act.put, List.setIfInBounds_toArray, List.set_cons_zero, List.set_cons_succ]
                    rfl
                  refine pure_ (i := 25) (N := some 91) (v := undef) (a' := ?_) #[true, true, true, true, true, true, true, true, true, true, true, true, true, true, true, true, true, true, true, true, true, true, true, true, true, true, false, false, false, false, false, false, false, false, false, false, false, false, false, false, false, false, false, false, false, false] rfl rfl (by kernel_rfl) (fun _ _ _ h => h) (Or.inr ⟨by rfl, rfl⟩) ?_ ?_
                  rotate_left
                  · simp only [Act.put, List.setIfInBounds_toArray, List.set_cons_zero, List.set_cons_succ]
                    rfl
                  refine pure_ (i := 26) (N := some 92) (v := undef) (a' := ?_) #[true, true, true, true, true, true, true, true, true, true, true, true, true, true, true, true, true, true, true, true, true, true, true, true, true, true, true, false, false, false, false, false, false, false, false, false, false, false, false, false, false, false, false, false, false, false] rfl rfl (by kernel_rfl) (fun _ _ _ h => h) (Or.inr ⟨by rfl, rfl⟩) ?_ ?_
                  rotate_left
                  · simp only [Act.put, List.setIfInBounds_toArray, List.set_cons_zero, List.set_cons_succ]
                    rfl
                  refine pure_ (i := 27) (N := some 93) (v := undef) (a' := ?_) #[true, true, true, true, true, true, true, true, true, true, true, true, true, true, true, true, true, true, true, true, true, true, true, true, true, true, true, true, false, false, false, false, false, false, false, false, false, false, false, false, false, false, false, false, false, false] rfl rfl (by kernel_rfl) (fun _ _ _ h => h) (Or.inr ⟨by rfl, rfl⟩) ?_ ?_
                  rotate_left
                  · simp only [Act.put, List.setIfInBounds_toArray, List.set_cons_zero, List.set_cons_succ]
                    rfl
                  refine pure_ (i := 28) (N := some 94) (v := undef) (a' := ?_) #[true, true, true, true, true, true, true, true, true, true, true, true, true, true, true, true, true, true, true, true, true, true, true, true, true, true, true, true, true, false, false, false, false, false, false, false, false, false, false, false, false, false, false, false, false, false] rfl rfl (by kernel_rfl) (fun _ _ _ h => h) (Or.inr ⟨by rfl, rfl⟩) ?_ ?_
                  rotate_left
                  · simp only [Act.put, List.setIfInBounds_toArray, List.set_cons_zero, List.set_cons_succ]
                    rfl
                  refine pure_ (i := 29) (N := some 95) (v := undef) (a' := ?_) #[true, true, true, true, true, true, true, true, true, true, true, true, true, true, true, true, true, true, true, true, true, true, true, true, true, true, true, true, true, true, false, false, false, false, false, false, false, false, false, false, false, false, false, false, false, false] rfl rfl (by kernel_rfl) (fun _ _ _ h => h) (Or.inr ⟨by rfl, rfl⟩) ?_ ?_
                  rotate_left
                  · simp only [Act.put, List.setIfInBounds_toArray, List.set_cons_zero, List.set_cons_succ]
                    rfl
                  refine pure_ (i := 30) (N := some 96) (v := undef) (a' := ?_) #[true, true, true, true, true, true, true, true, true, true, true, true, true, true, true, true, true, true, true, true, true, true, true, true, true, true, true, true, true, true, true, false, false, false, false, false, false, false, false, false, false, false, false, false, false, false] rfl rfl (by kernel_rfl) (fun _ _ _ h => h) (Or.inr ⟨by rfl, rfl⟩) ?_ ?_
                  rotate_left
                  · simp only [Act.put, List.setIfInBounds_toArray, List.set_cons_zero, List.set_cons_succ]
                    rfl
                  refine pure_ (i := 31) (N := some 97) (v := undef) (a' := ?_) #[true, true, true, true, true, true, true, true, true, true, true, true, true, true, true, true, true, true, true, true, true, true, true, true, true, true, true, true, true, true, true, true, false, false, false, false, false, false, false, false, false, false, false, false, false, false] rfl rfl (by kernel_rfl) (fun _ _ _ h => h) (Or.inr ⟨by rfl, rfl⟩) ?_ ?_
                  rotate_left
                  · simp only [Act.put, List.setIfInBounds_toArray, List.set_cons_zero, List.set_cons_succ]
                    rfl
                  refine pure_ (i := 32) (N := some 98) (v := undef) (a' := ?_) #[true, true, true, true, true, true, true, true, true, true, true, true, true, true, true, true, true, true, true, true, true, true, true, true, true, true, true, true, true, true, true, true, true, false, false, false, false, false, false, false, false, false, false, false, false, false] rfl rfl (by kernel_rfl) (fun _ _ _ h => h) (Or.inr ⟨by rfl, rfl⟩) ?_ ?_
                  rotate_left
                  · simp only [Act.put, List.setIfInBounds_toArray, List.set_cons_zero, List.set_cons_succ]
                    rfl
                  refine pure_ (i := 33) (N := some 99) (v := undef) (a' := ?_) #[true, true, true, true, true, true, true, true, true, true, true, true, true, true, true, true, true, true, true, true, true, true, true, true, true, true, true, true, true, true, true, true, true, true, false, false, false, false, false, false, false, false, false, false, false, false] rfl rfl (by kernel_rfl) (fun _ _ _ h => h) (Or.inr ⟨by rfl, rfl⟩) ?_ ?_
                  rotate_left
                  · simp only [Act.put, List.setIfInBounds_toArray, List.set_cons_zero, List.set_cons_succ]
                    rfl
                  refine pure_ (i := 34) (N := some 100) (v := undef) (a' := ?_) #[true, true, true, true, true, true, true, true, true, true, true, true, true, true, true, true, true, true, true, true, true, true, true, true, true, true, true, true, true, true, true, true, true, true, true, false, false, false, false, false, false, false, false, false, false, false] rfl rfl (by kernel_rfl) (fun _ _ _ h => h) (Or.inr ⟨by rfl, rfl⟩) ?_ ?_
                  rotate_left
                  · simp only [Act.put, List.setIfInBounds_toArray, List.set_cons_zero, List.set_cons_succ]
                    rfl
                  refine pure_ (i := 35) (N := some 101) (v := undef) (a' := ?_) #[true, true, true, true, true, true, true, true, true, true, true, true, true, true, true, true, true, true, true, true, true, true, true, true, true, true, true, true, true, true, true, true, true, true, true, true, false, false, false, false, false, false, false, false, false, false] rfl rfl (by kernel_rfl) (fun _ _ _ h => h) (Or.inr ⟨by rfl, rfl⟩) ?_ ?_
                  rotate_left
                  · simp only [Act.put, List.setIfInBounds_toArray, List.set_cons_zero, List.set_cons_succ]
                    rfl
                  refine pure_ (i := 36) (N := some 102) (v := undef) (a' := ?_) #[true, true, true, true, true, true, true, true, true, true, true, true, true, true, true, true, true, true, true, true, true, true, true, true, true, true, true, true, true, true, true, true, true, true, true, true, true, false, false, false, false, false, false, false, false, false] rfl rfl (by kernel_rfl) (fun _ _ _ h => h) (Or.inr ⟨by rfl, rfl⟩) ?_ ?_
                  rotate_left
                  · simp only [Act.put, List.setIfInBounds_toArray, List.set_cons_zero, List.set_cons_succ]
                    rfl
                  refine pure_ (i := 37) (N := some 103) (v := undef) (a' := ?_) #[true, true, true, true, true, true, true, true, true, true, true, true, true, true, true, true, true, true, true, true, true, true, true, true, true, true, true, true, true, true, true, true, true, true, true, true, true, true, false, false, false, false, false, false, false, false] rfl rfl (by kernel_rfl) (fun _ _ _ h => h) (Or.inr ⟨by rfl, rfl⟩) ?_ ?_
                  rotate_left
                  · simp only [Act.put, List.setIfInBounds_toArray, List.set_cons_zero, List.set_cons_succ]
                    rfl
                  refine pure_ (i := 38) (N := some 104) (v := undef) (a' := ?_) #[true, true, true, true, true, true, true, true, true, true, true, true, true, true, true, true, true, true, true, true, true, true, true, true, true, true, true, true, true, true, true, true, true, true, true, true, true, true, true, false, false, false, false, false, false, false] rfl rfl (by kernel_rfl) (fun _ _ _ h => h) (Or.inr ⟨by rfl, rfl⟩) ?_ ?_
                  rotate_left
                  · simp only [Act.put, List.setIfInBounds_toArray, List.set_cons_zero, List.set_cons_succ]
                    rfl
                  refine pure_ (i := 39) (N := some 105) (v := undef) (a' := ?_) #[true, true, true, true, true, true, true, true, true, true, true, true, true, true, true, true, true, true, true, true, true, true, true, true, true, true, true, true, true, true, true, true, true, true, true, true, true, true, true, true, false, false, false, false, false, false] rfl rfl (by kernel_rfl) (fun _ _ _ h => h) (Or.inr ⟨by rfl, rfl⟩) ?_ ?_
                  rotate_left
                  · simp only [Act.put, List.setIfInBounds_toArray, List.set_cons_zero, List.set_cons_succ]
                    rfl
                  refine pure_ (i := 40) (N := some 106) (v := undef) (a' := ?_) #[true, true, true, true, true, true, true, true, true, true, true, true, true, true, true, true, true, true, true, true, true, true, true, true, true, true, true, true, true, true, true, true, true, true, true, true, true, true, true, true, true, false, false, false, false, false] rfl rfl (by kernel_rfl) (fun _ _ _ h => h) (Or.inr ⟨by rfl, rfl⟩) ?_ ?_
                  rotate_left
                  · simp only [Act.put, List.setIfInBounds_toArray, List.set_cons_zero, List.set_cons_succ]
                    rfl
                  refine pure_ (i := 41) (N := some 107) (v := undef) (a' := ?_) #[true, true, true, true, true, true, true, true, true, true, true, true, true, true, true, true, true, true, true, true, true, true, true, true, true, true, true, true, true, true, true, true, true, true, true, true, true, true, true, true, true, true, false, false, false, false] rfl rfl (by kernel_rfl) (fun _ _ _ h => h) (Or.inr ⟨by rfl, rfl⟩) ?_ ?_
                  rotate_left
                  · simp only [Act.put, List.setIfInBounds_toArray, List.set_cons_zero, List.set_cons_succ]
                    rfl
                  refine pure_ (i := 42) (N := some 108) (v := undef) (a' := ?_) #[true, true, true, true, true, true, true, true, true, true, true, true, true, true, true, true, true, true, true, true, true, true, true, true, true, true, true, true, true, true, true, true, true, true, true, true, true, true, true, true, true, true, true, false, false, false] rfl rfl (by kernel_rfl) (fun _ _ _ h => h) (Or.inr ⟨by rfl, rfl⟩) ?_ ?_
                  rotate_left
                  · simp only [Act.put, List.setIfInBounds_toArray, List.set_cons_zero, List.set_cons_succ]
                    rfl
                  refine pure_ (i := 43) (N := some 109) (v := undef) (a' := ?_) #[true, true, true, true, true, true, true, true, true, true, true, true, true, true, true, true, true, true, true, true, true, true, true, true, true, true, true, true, true, true, true, true, true, true, true, true, true, true, true, true, true, true, true, true, false, false] rfl rfl (by kernel_rfl) (fun _ _ _ h => h) (Or.inr ⟨by rfl, rfl⟩) ?_ ?_
                  rotate_left
                  · simp only [Act.put, List.setIfInBounds_toArray, List.set_cons_zero, List.set_cons_succ]
                    rfl
                  refine pure_ (i := 44) (N := some 110) (v := ?_) (a' := ?_) #[true, true, true, true, true, true, true, true, true, true, true, true, true, true, true, true, true, true, true, true, true, true, true, true, true, true, true, true, true, true, true, true, true, true, true, true, true, true, true, true, true, true, true, true, true, false] rfl rfl (by kernel_rfl) (fun _ _ _ h => h) (Or.inl ⟨by rfl, ?_⟩) ?_ ?_
                  rotate_left
                  · intro w'
                    go_simp
                    with_reducible rfl
                  rotate_left
                  · simp only [Act.put, List.setIfInBounds_toArray, List.set_cons_zero, List.set_cons_succ]
                    rfl
                  refine pure_ (i := 45) (N := some 111) (v := ?_) (a' := ?_) #[true, true, true, true, true, true, true, true, true, true, true, true, true, true, true, true, true, true, true, true, true, true, true, true, true, true, true, true, true, true, true, true, true, true, true, true, true, true, true, true, true, true, true, true, true, true] rfl rfl (by kernel_rfl) (fun _ _ _ h => h) (Or.inl ⟨by rfl, ?_⟩) ?_ ?_
                  rotate_left
                  · intro w'
                    go_simp
                    with_reducible rfl
                  rotate_left
                  · simp only [Act.put, List.setIfInBounds_toArray, List.set_cons_zero, List.set_cons_succ]
                    rfl
                  refine done_ (by kernel_rfl) ?_
                  all_goals
                    go_wp2_with (fail)
                    go_meet
                    case rel => exact ⟨_, rfl, Lib.hid (fun h => absurd h (by simp)), Lib.hid ⟨hb.os, hb.tape, hb.output, hb.size, hb.block⟩⟩
                | true =>
                  have HB1 := Lib.hid (show bef ((s :: t)[m]'(by omega)) x.line x.col = true from by rw [← HY.out]; exact hb1)
                  clear HSH HLC HN HZZ HSN HBW HCE HXX HLT HWI HB6 HY
                  cases hb2 : bef ⟨y.aline, y.acol, 0, 0⟩ x.aline x.acol with
                  | false =>
                    refine start_ (n := 46) (S := (fun w' => w'.cell? ⟨wr.heap.size, 0, none⟩ = some (.int .i64 x.line) ∧ w'.cell? ⟨wr.heap.size, 1, none⟩ = some (.int .i64 x.col) ∧ w'.cell? ⟨wr.heap.size, 2, none⟩ = some (.int .i64 x.aline) ∧ w'.cell? ⟨wr.heap.size, 3, none⟩ = some (.int .i64 x.acol) ∧ w'.cell? ⟨gh, oh + m * 4, none⟩ = some (.int .i64 y.line) ∧ w'.cell? ⟨gh, oh + m * 4 + 1, none⟩ = some (.int .i64 y.col) ∧ w'.cell? ⟨gh, oh + m * 4 + 2, none⟩ = some (.int .i64 y.aline) ∧ w'.cell? ⟨gh, oh + m * 4 + 3, none⟩ = some (.int .i64 y.acol))) (ds := []) #[false, false, false, false, false, false, false, false, false, false, false, false, false, false, false, false, false, false, false, false, false, false, false, false, false, false, false, false, false, false, false, false, false, false, false, false, false, false, false, false, false, false, false, false, false, false] (by kernel_rfl) rfl rfl ?_ (fun hHeld => ?_)
                    · go_keep
                    refine pure_ (i := 0) (N := some 66) (v := ?_) (a' := ?_) #[true, false, false, false, false, false, false, false, false, false, false, false, false, false, false, false, false, false, false, false, false, false, false, false, false, false, false, false, false, false, false, false, false, false, false, false, false, false, false, false, false, false, false, false, false, false] rfl rfl (by kernel_rfl) (fun _ _ _ h => h) (Or.inl ⟨by rfl, ?_⟩) ?_ ?_
                    rotate_left
                    · intro w'
                      go_simp
                      with_reducible rfl
                    rotate_left
                    · simp only [Act.put, List.setIfInBounds_toArray, List.set_cons_zero, List.set_cons_succ]
                      rfl
                    refine pure_ (i := 1) (N := some 67) (v := ?_) (a' := ?_) #[true, true, false, false, false, false, false, false, false, false, false, false, false, false, false, false, false, false, false, false, false, false, false, false, false, false, false, false, false, false, false, false, false, false, false, false, false, false, false, false, false, false, false, false, false, false] rfl rfl (by kernel_rfl) (fun _ _ _ h => h) (Or.inl ⟨by rfl, ?_⟩) ?_ ?_
                    rotate_left
                    · intro w'
                      go_simp
                      with_reducible rfl
                    rotate_left
                    · simp only [Act.put, List.setIfInBounds_toArray, List.set_cons_zero, List.set_cons_succ]
                      rfl
                    refine pure_ (i := 2) (N := some 68) (v := ?_) (a' := ?_) #[true, true, true, false, false, false, false, false, false, false, false, false, false, false, false, false, false, false, false, false, false, false, false, false, false, false, false, false, false, false, false, false, false, false, false, false, false, false, false, false, false, false, false, false, false, false] rfl rfl (by kernel_rfl) (fun _ _ _ h => h) (Or.inl ⟨by rfl, ?_⟩) ?_ ?_
                    rotate_left
                    · intro w'
                      go_simp
                      with_reducible rfl
                    rotate_left
                    · simp only [Act.put, List.setIfInBounds_toArray, List.set_cons_zero, List.set_cons_succ]
                      rfl
                    refine pure_ (i := 3) (N := some 69) (v := ?_) (a' := ?_) #[true, true, true, true, false, false, false, false, false, false, false, false, false, false, false, false, false, false, false, false, false, false, false, false, false, false, false, false, false, false, false, false, false, false, false, false, false, false, false, false, false, false, false, false, false, false] rfl rfl (by kernel_rfl) (fun _ _ _ h => h) (Or.inl ⟨by rfl, ?_⟩) ?_ ?_
                    rotate_left
                    · intro w'
                      go_simp
                      with_reducible rfl
                    rotate_left
                    · simp only [Act.put, List.setIfInBounds_toArray, List.set_cons_zero, List.set_cons_succ]
                      rfl
                    refine pure_ (i := 4) (N := some 70) (v := ?_) (a' := ?_) #[true, true, true, true, true, false, false, false, false, false, false, false, false, false, false, false, false, false, false, false, false, false, false, false, false, false, false, false, false, false, false, false, false, false, false, false, false, false, false, false, false, false, false, false, false, false] rfl rfl (by kernel_rfl) (fun _ _ _ h => h) (Or.inl ⟨by rfl, ?_⟩) ?_ ?_
                    rotate_left
                    · intro w'
                      go_simp
                      with_reducible rfl
                    rotate_left
                    · simp only [Act.put, List.setIfInBounds_toArray, List.set_cons_zero, List.set_cons_succ]
                      rfl
                    refine pure_ (i := 5) (N := some 71) (v := ?_) (a' := ?_) #[true, true, true, true, true, true, false, false, false, false, false, false, false, false, false, false, false, false, false, false, false, false, false, false, false, false, false, false, false, false, false, false, false, false, false, false, false, false, false, false, false, false, false, false, false, false] rfl rfl (by kernel_rfl) (fun _ _ _ h => h) (Or.inl ⟨by rfl, ?_⟩) ?_ ?_
                    rotate_left
                    · intro w'
                      go_simp
                      with_reducible rfl
                    rotate_left
                    · simp only [Act.put, List.setIfInBounds_toArray, List.set_cons_zero, List.set_cons_succ]
                      rfl
                    refine pure_ (i := 6) (N := some 72) (v := ?_) (a' := ?_) #[true, true, true, true, true, true, true, false, false, false, false, false, false, false, false, false, false, false, false, false, false, false, false, false, false, false, false, false, false, false, false, false, false, false, false, false, false, false, false, false, false, false, false, false, false, false] rfl rfl (by kernel_rfl) (fun _ _ _ h => h) (Or.inl ⟨by rfl, ?_⟩) ?_ ?_
                    rotate_left
                    · intro w'
                      go_simp
                      with_reducible rfl
                    rotate_left
                    · simp only [Act.put, List.setIfInBounds_toArray, List.set_cons_zero, List.set_cons_succ]
                      rfl
                    refine pure_ (i := 7) (N := some 73) (v := ?_) (a' := ?_) #[true, true, true, true, true, true, true, true, false, false, false, false, false, false, false, false, false, false, false, false, false, false, false, false, false, false, false, false, false, false, false, false, false, false, false, false, false, false, false, false, false, false, false, false, false, false] rfl rfl (by kernel_rfl) (fun _ _ _ h => h) (Or.inl ⟨by rfl, ?_⟩) ?_ ?_
                    rotate_left
                    · intro w'
                      go_simp
                      with_reducible rfl
                    rotate_left
                    · simp only [Act.put, List.setIfInBounds_toArray, List.set_cons_zero, List.set_cons_succ]
                      rfl
                    refine take_ (i := 8) (N := some 74) (v := ?_) (a' := ?_) #[true, true, true, true, true, true, true, true, true, false, false, false, false, false, false, false, false, false, false, false, false, false, false, false, false, false, false, false, false, false, false, false, false, false, false, false, false, false, false, false, false, false, false, false, false, false] rfl rfl (by kernel_rfl) (fun _ _ _ h => h) (Or.inl ⟨by rfl, ?_⟩) hHeld ?_ ?_
                    rotate_left
                    · rintro w' ⟨s0, s1, s2, s3, s4, s5, s6, s7⟩
                      go_simp
                      with_reducible rfl
                    rotate_left
                    · simp only [Act.put, List.setIfInBounds_toArray, List.set_cons_zero, List.set_cons_succ]
                      rfl
                    refine pure_ (i := 9) (N := some 75) (v := ?_) (a' := ?_) #[true, true, true, true, true, true, true, true, true, true, false, false, false, false, false, false, false, false, false, false, false, false, false, false, false, false, false, false, false, false, false, false, false, false, false, false, false, false, false, false, false, false, false, false, false, false] rfl rfl (by kernel_rfl) (fun _ _ _ h => h) (Or.inl ⟨by rfl, ?_⟩) ?_ ?_
                    rotate_left
                    · intro w'
                      go_simp
                      with_reducible rfl
                    rotate_left
                    · simp only [Act.put, List.setIfInBounds_toArray, List.set_cons_zero, List.set_cons_succ]
                      rfl
                    refine pure_ (i := 10) (N := some 76) (v := ?_) (a' := ?_) #[true, true, true, true, true, true, true, true, true, true, true, false, false, false, false, false, false, false, false, false, false, false, false, false, false, false, false, false, false, false, false, false, false, false, false, false, false, false, false, false, false, false, false, false, false, false] rfl rfl (by kernel_rfl) (fun _ _ _ h => h) (Or.inl ⟨by rfl, ?_⟩) ?_ ?_
                    rotate_left
                    · intro w'
                      go_simp
                      with_reducible rfl
                    rotate_left
                    · simp only [Act.put, List.setIfInBounds_toArray, List.set_cons_zero, List.set_cons_succ]
                      rfl
                    refine pure_ (i := 11) (N := some 77) (v := ?_) (a' := ?_) #[true, true, true, true, true, true, true, true, true, true, true, true, false, false, false, false, false, false, false, false, false, false, false, false, false, false, false, false, false, false, false, false, false, false, false, false, false, false, false, false, false, false, false, false, false, false] rfl rfl (by kernel_rfl) (fun _ _ _ h => h) (Or.inl ⟨by rfl, ?_⟩) ?_ ?_
                    rotate_left
                    · intro w'
                      go_simp
                      with_reducible rfl
                    rotate_left
                    · simp only [Act.put, List.setIfInBounds_toArray, List.set_cons_zero, List.set_cons_succ]
                      rfl
                    refine pure_ (i := 12) (N := some 78) (v := ?_) (a' := ?_) #[true, true, true, true, true, true, true, true, true, true, true, true, true, false, false, false, false, false, false, false, false, false, false, false, false, false, false, false, false, false, false, false, false, false, false, false, false, false, false, false, false, false, false, false, false, false] rfl rfl (by kernel_rfl) (fun _ _ _ h => h) (Or.inl ⟨by rfl, ?_⟩) ?_ ?_
                    rotate_left
                    · intro w'
                      go_simp
                      with_reducible rfl
                    rotate_left
                    · simp only [Act.put, List.setIfInBounds_toArray, List.set_cons_zero, List.set_cons_succ]
                      rfl
                    refine pure_ (i := 13) (N := some 79) (v := ?_) (a' := ?_) #[true, true, true, true, true, true, true, true, true, true, true, true, true, true, false, false, false, false, false, false, false, false, false, false, false, false, false, false, false, false, false, false, false, false, false, false, false, false, false, false, false, false, false, false, false, false] rfl rfl (by kernel_rfl) (fun _ _ _ h => h) (Or.inl ⟨by rfl, ?_⟩) ?_ ?_
                    rotate_left
                    · intro w'
                      go_simp
                      with_reducible rfl
                    rotate_left
                    · simp only [Act.put, List.setIfInBounds_toArray, List.set_cons_zero, List.set_cons_succ]
                      rfl
                    refine take_ (i := 14) (N := some 80) (v := ?_) (a' := ?_) #[true, true, true, true, true, true, true, true, true, true, true, true, true, true, true, false, false, false, false, false, false, false, false, false, false, false, false, false, false, false, false, false, false, false, false, false, false, false, false, false, false, false, false, false, false, false] rfl rfl (by kernel_rfl) (fun _ _ _ h => h) (Or.inl ⟨by rfl, ?_⟩) hHeld ?_ ?_
                    rotate_left
                    · rintro w' ⟨s0, s1, s2, s3, s4, s5, s6, s7⟩
                      go_simp
                      with_reducible rfl
                    rotate_left
                    · simp only [Act.put, List.setIfInBounds_toArray, List.set_cons_zero, List.set_cons_succ]
                      rfl
                    refine pure_ (i := 15) (N := some 81) (v := ?_) (a' := ?_) #[true, true, true, true, true, true, true, true, true, true, true, true, true, true, true, true, false, false, false, false, false, false, false, false, false, false, false, false, false, false, false, false, false, false, false, false, false, false, false, false, false, false, false, false, false, false] rfl rfl (by kernel_rfl) (fun _ _ _ h => h) (Or.inl ⟨by rfl, ?_⟩) ?_ ?_
                    rotate_left
                    · intro w'
                      go_simp
                      with_reducible rfl
                    rotate_left
                    · simp only [Act.put, List.setIfInBounds_toArray, List.set_cons_zero, List.set_cons_succ]
                      rfl
                    refine pure_ (i := 16) (N := some 82) (v := ?_) (a' := ?_) #[true, true, true, true, true, true, true, true, true, true, true, true, true, true, true, true, true, false, false, false, false, false, false, false, false, false, false, false, false, false, false, false, false, false, false, false, false, false, false, false, false, false, false, false, false, false] rfl rfl (by kernel_rfl) (fun _ _ _ h => h) (Or.inl ⟨by rfl, ?_⟩) ?_ ?_
                    rotate_left
                    · intro w'
                      go_simp
                      with_reducible rfl
                    rotate_left
                    · simp only [Act.put, List.setIfInBounds_toArray, List.set_cons_zero, List.set_cons_succ]
                      rfl
                    refine take_ (i := 17) (N := some 83) (v := ?_) (a' := ?_) #[true, true, true, true, true, true, true, true, true, true, true, true, true, true, true, true, true, true, false, false, false, false, false, false, false, false, false, false, false, false, false, false, false, false, false, false, false, false, false, false, false, false, false, false, false, false] rfl rfl (by kernel_rfl) (fun _ _ _ h => h) (Or.inl ⟨by rfl, ?_⟩) hHeld ?_ ?_
                    rotate_left
                    · rintro w' ⟨s0, s1, s2, s3, s4, s5, s6, s7⟩
                      go_simp
                      with_reducible rfl
                    rotate_left
                    · simp only [Act.put, List.setIfInBounds_toArray, List.set_cons_zero, List.set_cons_succ]
                      rfl
                    refine pure_ (i := 18) (N := some 84) (v := ?_) (a' := ?_) #[true, true, true, true, true, true, true, true, true, true, true, true, true, true, true, true, true, true, true, false, false, false, false, false, false, false, false, false, false, false, false, false, false, false, false, false, false, false, false, false, false, false, false, false, false, false] rfl rfl (by kernel_rfl) (fun _ _ _ h => h) (Or.inl ⟨by rfl, ?_⟩) ?_ ?_
                    rotate_left
                    · intro w'
                      go_simp
                      with_reducible rfl
                    rotate_left
                    · simp only [Act.put, List.setIfInBounds_toArray, List.set_cons_zero, List.set_cons_succ]
                      rfl
                    refine take_ (i := 19) (N := some 85) (v := ?_) (a' := ?_) #[true, true, true, true, true, true, true, true, true, true, true, true, true, true, true, true, true, true, true, true, false, false, false, false, false, false, false, false, false, false, false, false, false, false, false, false, false, false, false, false, false, false, false, false, false, false] rfl rfl (by kernel_rfl) (fun _ _ _ h => h) (Or.inl ⟨by rfl, ?_⟩) hHeld ?_ ?_
                    rotate_left
                    · rintro w' ⟨s0, s1, s2, s3, s4, s5, s6, s7⟩
                      go_simp
                      with_reducible rfl
                    rotate_left
                    · simp only [Act.put, List.setIfInBounds_toArray, List.set_cons_zero, List.set_cons_succ]
                      rfl
                    refine pure_ (i := 20) (N := some 86) (v := ?_) (a' := ?_) #[true, true, true, true, true, true, true, true, true, true, true, true, true, true, true, true, true, true, true, true, true, false, false, false, false, false, false, false, false, false, false, false, false, false, false, false, false, false, false, false, false, false, false, false, false, false] rfl rfl (by kernel_rfl) (fun _ _ _ h => h) (Or.inl ⟨by rfl, ?_⟩) ?_ ?_
                    rotate_left
                    · intro w'
                      go_simp
                      with_reducible rfl
                    rotate_left
                    · simp only [Act.put, List.setIfInBounds_toArray, List.set_cons_zero, List.set_cons_succ]
                      rfl
                    refine one_ (i := 21) (N := some 87) #[true, true, true, true, true, true, true, true, true, true, true, true, true, true, true, true, true, true, true, true, true, true, false, false, false, false, false, false, false, false, false, false, false, false, false, false, false, false, false, false, false, false, false, false, false, false] rfl rfl (by kernel_rfl) (by decide) (fun K hK => ?_)
                    go_simp
                    go_at_call 11
                    refine (before3 _ _ _ _ _ hb1 _).mono ?_
                    rintro e wx ⟨rfl, hk, hb⟩
                    refine hK.out _ _ ⟨hk _ _ hHeld.1, hk _ _ hHeld.2.1, hk _ _ hHeld.2.2.1, hk _ _ hHeld.2.2.2.1, hk _ _ hHeld.2.2.2.2.1, hk _ _ hHeld.2.2.2.2.2.1, hk _ _ hHeld.2.2.2.2.2.2.1, hk _ _ hHeld.2.2.2.2.2.2.2⟩ (fun hHeld2 => ?_)
                    clear hK K hHeld
                    refine pure_ (i := 22) (N := some 88) (v := ?_) (a' := ?_) #[true, true, true, true, true, true, true, true, true, true, true, true, true, true, true, true, true, true, true, true, true, true, true, false, false, false, false, false, false, false, false, false, false, false, false, false, false, false, false, false, false, false, false, false, false, false] rfl rfl (by kernel_rfl) (fun _ _ _ h => h) (Or.inl ⟨by rfl, ?_⟩) ?_ ?_
                    rotate_left
                    · intro w'
                      go_simp
                      with_reducible rfl
                    rotate_left
                    · simp only [Act.put, List.setIfInBounds_toArray, List.set_cons_zero, List.set_cons_succ]
                      rfl
                    refine pure_ (i := 23) (N := some 89) (v := ?_) (a' := ?_) #[true, true, true, true, true, true, true, true, true, true, true, true, true, true, true, true, true, true, true, true, true, true, true, true, false, false, false, false, false, false, false, false, false, false, false, false, false, false, false, false, false, false, false, false, false, false] rfl rfl (by kernel_rfl) (fun _ _ _ h => h) (Or.inl ⟨by rfl, ?_⟩) ?_ ?_
                    rotate_left
                    · intro w'
                      go_simp
                      with_reducible rfl
                    rotate_left
                    · simp only [Act.put, List.setIfInBounds_toArray, List.set_cons_zero, List.set_cons_succ]
                      rfl
                    refine pure_ (i := 24) (N := some 90) (v := ?_) (a' := ?_) #[true, true, true, true, true, true, true, true, true, true, true, true, true, true, true, true, true, true, true, true, true, true, true, true, true, false, false, false, false, false, false, false, false, false, false, false, false, false, false, false, false, false, false, false, false, false] rfl rfl (by kernel_rfl) (fun _ _ _ h => h) (Or.inl ⟨by rfl, ?_⟩) ?_ ?_
                    rotate_left
                    · intro w'
                      go_simp
                      with_reducible rfl
                    rotate_left
                    · simp only [Act.put, List.setIfInBounds_toArray, List.set_cons_zero, List.set_cons_succ]
                      rfl
                    refine pure_ (i := 25) (N := some 91) (v := ?_) (a' := ?_) #[true, true, true, true, true, true, true, true, true, true, true, true, true, true, true, true, true, true, true, true, true, true, true, true, true, true, false, false, false, false, false, false, false, false, false, false, false, false, false, false, false, false, false, false, false, false] rfl rfl (by kernel_rfl) (fun _ _ _ h => h) (Or.inl ⟨by rfl, ?_⟩) ?_ ?_
                    rotate_left
                    · intro w'
                      go_simp
                      with_reducible rfl
                    rotate_left
                    · simp only [Act.put, List.setIfInBounds_toArray, List.set_cons_zero, List.set_cons_succ]
                      rfl
                    refine pure_ (i := 26) (N := some 92) (v := ?_) (a' := ?_) #[true, true, true, true, true, true, true, true, true, true, true, true, true, true, true, true, true, true, true, true, true, true, true, true, true, true, true, false, false, false, false, false, false, false, false, false, false, false, false, false, false, false, false, false, false, false] rfl rfl (by kernel_rfl) (fun _ _ _ h => h) (Or.inl ⟨by rfl, ?_⟩) ?_ ?_
                    rotate_left
                    · intro w'
                      go_simp
                      with_reducible rfl
                    rotate_left
                    · simp only [Act.put, List.setIfInBounds_toArray, List.set_cons_zero, List.set_cons_succ]
                      rfl
                    refine pure_ (i := 27) (N := some 93) (v := ?_) (a' := ?_) #[true, true, true, true, true, true, true, true, true, true, true, true, true, true, true, true, true, true, true, true, true, true, true, true, true, true, true, true, false, false, false, false, false, false, false, false, false, false, false, false, false, false, false, false, false, false] rfl rfl (by kernel_rfl) (fun _ _ _ h => h) (Or.inl ⟨by rfl, ?_⟩) ?_ ?_
                    rotate_left
                    · intro w'
                      go_simp
                      with_reducible rfl
                    rotate_left
                    · simp only [Act.put, List.setIfInBounds_toArray, List.set_cons_zero, List.set_cons_succ]
                      rfl
                    refine pure_ (i := 28) (N := some 94) (v := ?_) (a' := ?_) #[true, true, true, true, true, true, true, true, true, true, true, true, true, true, true, true, true, true, true, true, true, true, true, true, true, true, true, true, true, false, false, false, false, false, false, false, false, false, false, false, false, false, false, false, false, false] rfl rfl (by kernel_rfl) (fun _ _ _ h => h) (Or.inl ⟨by rfl, ?_⟩) ?_ ?_
                    rotate_left
                    · intro w'
                      go_simp
                      with_reducible rfl
                    rotate_left
                    · simp only [Act.put, List.setIfInBounds_toArray, List.set_cons_zero, List.set_cons_succ]
                      rfl
                    refine take_ (i := 29) (N := some 95) (v := ?_) (a' := ?_) #[true, true, true, true, true, true, true, true, true, true, true, true, true, true, true, true, true, true, true, true, true, true, true, true, true, true, true, true, true, true, false, false, false, false, false, false, false, false, false, false, false, false, false, false, false, false] rfl rfl (by kernel_rfl) (fun _ _ _ h => h) (Or.inl ⟨by rfl, ?_⟩) hHeld2 ?_ ?_
                    rotate_left
                    · rintro w' ⟨s0, s1, s2, s3, s4, s5, s6, s7⟩
                      go_simp
                      with_reducible rfl
                    rotate_left
                    · simp only [Act.put, List.setIfInBounds_toArray, List.set_cons_zero, List.set_cons_succ]
                      rfl
                    refine pure_ (i := 30) (N := some 96) (v := ?_) (a' := ?_) #[true, true, true, true, true, true, true, true, true, true, true, true, true, true, true, true, true, true, true, true, true, true, true, true, true, true, true, true, true, true, true, false, false, false, false, false, false, false, false, false, false, false, false, false, false, false] rfl rfl (by kernel_rfl) (fun _ _ _ h => h) (Or.inl ⟨by rfl, ?_⟩) ?_ ?_
                    rotate_left
                    · intro w'
                      go_simp
                      with_reducible rfl
                    rotate_left
                    · simp only [Act.put, List.setIfInBounds_toArray, List.set_cons_zero, List.set_cons_succ]
                      rfl
                    refine pure_ (i := 31) (N := some 97) (v := ?_) (a' := ?_) #[true, true, true, true, true, true, true, true, true, true, true, true, true, true, true, true, true, true, true, true, true, true, true, true, true, true, true, true, true, true, true, true, false, false, false, false, false, false, false, false, false, false, false, false, false, false] rfl rfl (by kernel_rfl) (fun _ _ _ h => h) (Or.inl ⟨by rfl, ?_⟩) ?_ ?_
                    rotate_left
                    · intro w'
                      go_simp
                      with_reducible rfl
                    rotate_left
                    · simp only [Act.put, List.setIfInBounds_toArray, List.set_cons_zero, List.set_cons_succ]
                      rfl
                    refine pure_ (i := 32) (N := some 98) (v := ?_) (a' := ?_) #[true, true, true, true, true, true, true, true, true, true, true, true, true, true, true, true, true, true, true, true, true, true, true, true, true, true, true, true, true, true, true, true, true, false, false, false, false, false, false, false, false, false, false, false, false, false] rfl rfl (by kernel_rfl) (fun _ _ _ h => h) (Or.inl ⟨by rfl, ?_⟩) ?_ ?_
                    rotate_left
                    · intro w'
                      go_simp
                      with_reducible rfl
                    rotate_left
                    · simp only [Act.put, List.setIfInBounds_toArray, List.set_cons_zero, List.set_cons_succ]
                      rfl
                    refine pure_ (i := 33) (N := some 99) (v := ?_) (a' := ?_) #[true, true, true, true, true, true, true, true, true, true, true, true, true, true, true, true, true, true, true, true, true, true, true, true, true, true, true, true, true, true, true, true, true, true, false, false, false, false, false, false, false, false, false, false, false, false] rfl rfl (by kernel_rfl) (fun _ _ _ h => h) (Or.inl ⟨by rfl, ?_⟩) ?_ ?_
                    rotate_left
                    · intro w'
                      go_simp
                      with_reducible rfl
                    rotate_left
                    · simp only [Act.put, List.setIfInBounds_toArray, List.set_cons_zero, List.set_cons_succ]
                      rfl
                    refine pure_ (i := 34) (N := some 100) (v := ?_) (a' := ?_) #[true, true, true, true, true, true, true, true, true, true, true, true, true, true, true, true, true, true, true, true, true, true, true, true, true, true, true, true, true, true, true, true, true, true, true, false, false, false, false, false, false, false, false, false, false, false] rfl rfl (by kernel_rfl) (fun _ _ _ h => h) (Or.inl ⟨by rfl, ?_⟩) ?_ ?_
                    rotate_left
                    · intro w'
                      go_simp
                      with_reducible rfl
                    rotate_left
                    · simp only [Act.put, List.setIfInBounds_toArray, List.set_cons_zero, List.set_cons_succ]
                      rfl
                    refine take_ (i := 35) (N := some 101) (v := ?_) (a' := ?_) #[true, true, true, true, true, true, true, true, true, true, true, true, true, true, true, true, true, true, true, true, true, true, true, true, true, true, true, true, true, true, true, true, true, true, true, true, false, false, false, false, false, false, false, false, false, false] rfl rfl (by kernel_rfl) (fun _ _ _ h => h) (Or.inl ⟨by rfl, ?_⟩) hHeld2 ?_ ?_
                    rotate_left
                    · rintro w' ⟨s0, s1, s2, s3, s4, s5, s6, s7⟩
                      go_simp
                      with_reducible rfl
                    rotate_left
                    · simp only [Act.put, List.setIfInBounds_toArray, List.set_cons_zero, List.set_cons_succ]
                      rfl
                    refine pure_ (i := 36) (N := some 102) (v := ?_) (a' := ?_) #[true, true, true, true, true, true, true, true, true, true, true, true, true, true, true, true, true, true, true, true, true, true, true, true, true, true, true, true, true, true, true, true, true, true, true, true, true, false, false, false, false, false, false, false, false, false] rfl rfl (by kernel_rfl) (fun _ _ _ h => h) (Or.inl ⟨by rfl, ?_⟩) ?_ ?_
                    rotate_left
                    · intro w'
                      go_simp
                      with_reducible rfl
                    rotate_left
                    · simp only [Act.put, List.setIfInBounds_toArray, List.set_cons_zero, List.set_cons_succ]
                      rfl
                    refine pure_ (i := 37) (N := some 103) (v := ?_) (a' := ?_) #[true, true, true, true, true, true, true, true, true, true, true, true, true, true, true, true, true, true, true, true, true, true, true, true, true, true, true, true, true, true, true, true, true, true, true, true, true, true, false, false, false, false, false, false, false, false] rfl rfl (by kernel_rfl) (fun _ _ _ h => h) (Or.inl ⟨by rfl, ?_⟩) ?_ ?_
                    rotate_left
                    · intro w'
                      go_simp
                      with_reducible rfl
                    rotate_left
                    · simp only [Act.put, List.setIfInBounds_toArray, List.set_cons_zero, List.set_cons_succ]
                      rfl
                    refine take_ (i := 38) (N := some 104) (v := ?_) (a' := ?_) #[true, true, true, true, true, true, true, true, true, true, true, true, true, true, true, true, true, true, true, true, true, true, true, true, true, true, true, true, true, true, true, true, true, true, true, true, true, true, true, false, false, false, false, false, false, false] rfl rfl (by kernel_rfl) (fun _ _ _ h => h) (Or.inl ⟨by rfl, ?_⟩) hHeld2 ?_ ?_
                    rotate_left
                    · rintro w' ⟨s0, s1, s2, s3, s4, s5, s6, s7⟩
                      go_simp
                      with_reducible rfl
                    rotate_left
                    · simp only [Act.put, List.setIfInBounds_toArray, List.set_cons_zero, List.set_cons_succ]
                      rfl
                    refine pure_ (i := 39) (N := some 105) (v := ?_) (a' := ?_) #[true, true, true, true, true, true, true, true, true, true, true, true, true, true, true, true, true, true, true, true, true, true, true, true, true, true, true, true, true, true, true, true, true, true, true, true, true, true, true, true, false, false, false, false, false, false] rfl rfl (by kernel_rfl) (fun _ _ _ h => h) (Or.inl ⟨by rfl, ?_⟩) ?_ ?_
                    rotate_left
                    · intro w'
                      go_simp
                      with_reducible rfl
                    rotate_left
                    · simp only [Act.put, List.setIfInBounds_toArray, List.set_cons_zero, List.set_cons_succ]
                      rfl
                    refine take_ (i := 40) (N := some 106) (v := ?_) (a' := ?_) #[true, true, true, true, true, true, true, true, true, true, true, true, true, true, true, true, true, true, true, true, true, true, true, true, true, true, true, true, true, true, true, true, true, true, true, true, true, true, true, true, true, false, false, false, false, false] rfl rfl (by kernel_rfl) (fun _ _ _ h => h) (Or.inl ⟨by rfl, ?_⟩) hHeld2 ?_ ?_
                    rotate_left
                    · rintro w' ⟨s0, s1, s2, s3, s4, s5, s6, s7⟩
                      go_simp
                      with_reducible rfl
                    rotate_left
                    · simp only [Act.put, List.setIfInBounds_toArray, List.set_cons_zero, List.set_cons_succ]
                      rfl
                    refine pure_ (i := 41) (N := some 107) (v := ?_) (a' := ?_) #[true, true, true, true, true, true, true, true, true, true, true, true, true, true, true, true, true, true, true, true, true, true, true, true, true, true, true, true, true, true, true, true, true, true, true, true, true, true, true, true, true, true, false, false, false, false] rfl rfl (by kernel_rfl) (fun _ _ _ h => h) (Or.inl ⟨by rfl, ?_⟩) ?_ ?_
                    rotate_left
                    · intro w'
                      go_simp
                      with_reducible rfl
                    rotate_left
                    · simp only [Act.put, List.setIfInBounds_toArray, List.set_cons_zero, List.set_cons_succ]
                      rfl
                    refine one_ (i := 42) (N := some 108) #[true, true, true, true, true, true, true, true, true, true, true, true, true, true, true, true, true, true, true, true, true, true, true, true, true, true, true, true, true, true, true, true, true, true, true, true, true, true, true, true, true, true, true, false, false, false] rfl rfl (by kernel_rfl) (by decide) (fun K hK => ?_)
                    go_simp
                    go_at_call 11
                    refine (before3 _ _ _ _ _ hb2 _).mono ?_
                    rintro e wy ⟨rfl, hk2, hb5⟩
                    refine hK.out _ _ ⟨hk2 _ _ hHeld2.1, hk2 _ _ hHeld2.2.1, hk2 _ _ hHeld2.2.2.1, hk2 _ _ hHeld2.2.2.2.1, hk2 _ _ hHeld2.2.2.2.2.1, hk2 _ _ hHeld2.2.2.2.2.2.1, hk2 _ _ hHeld2.2.2.2.2.2.2.1, hk2 _ _ hHeld2.2.2.2.2.2.2.2⟩ (fun hHeld3 => ?_)
                    clear hK K hHeld2
                    refine pure_ (i := 43) (N := some 109) (v := ?_) (a' := ?_) #[true, true, true, true, true, true, true, true, true, true, true, true, true, true, true, true, true, true, true, true, true, true, true, true, true, true, true, true, true, true, true, true, true, true, true, true, true, true, true, true, true, true, true, true, false, false] rfl rfl (by kernel_rfl) (fun _ _ _ h => h) (Or.inl ⟨by rfl, ?_⟩) ?_ ?_
                    rotate_left
                    · intro w'
                      go_simp
                      with_reducible rfl
                    rotate_left
                    · simp only [Act.put, List.setIfInBounds_toArray, List.set_cons_zero, List.set_cons_succ]
                      rfl
                    refine pure_ (i := 44) (N := some 110) (v := ?_) (a' := ?_) #[true, true, true, true, true, true, true, true, true, true, true, true, true, true, true, true, true, true, true, true, true, true, true, true, true, true, true, true, true, true, true, true, true, true, true, true, true, true, true, true, true, true, true, true, true, false] rfl rfl (by kernel_rfl) (fun _ _ _ h => h) (Or.inl ⟨by rfl, ?_⟩) ?_ ?_
                    rotate_left
                    · intro w'
                      go_simp
                      with_reducible rfl
                    rotate_left
                    · simp only [Act.put, List.setIfInBounds_toArray, List.set_cons_zero, List.set_cons_succ]
                      rfl
                    refine pure_ (i := 45) (N := some 111) (v := ?_) (a' := ?_) #[true, true, true, true, true, true, true, true, true, true, true, true, true, true, true, true, true, true, true, true, true, true, true, true, true, true, true, true, true, true, true, true, true, true, true, true, true, true, true, true, true, true, true, true, true, true] rfl rfl (by kernel_rfl) (fun _ _ _ h => h) (Or.inl ⟨by rfl, ?_⟩) ?_ ?_
                    rotate_left
                    · intro w'
                      go_simp
                      with_reducible rfl
                    rotate_left
                    · simp only [Act.put, List.setIfInBounds_toArray, List.set_cons_zero, List.set_cons_succ]
                      rfl
                    refine done_ (by kernel_rfl) ?_
                    all_goals
                      go_wp2_with (fail)
                      go_meet
                      case rel => exact ⟨_, rfl, Lib.hid (fun h => absurd h (by simp)), Lib.hid (Below.trans (b := wx) ⟨hb.os, hb.tape, hb.output, hb.size, hb.block⟩ (hb5.mono hb.size))⟩
                  | true =>
                    refine start_ (n := 46) (S := (fun w' => w'.cell? ⟨wr.heap.size, 0, none⟩ = some (.int .i64 x.line) ∧ w'.cell? ⟨wr.heap.size, 1, none⟩ = some (.int .i64 x.col) ∧ w'.cell? ⟨wr.heap.size, 2, none⟩ = some (.int .i64 x.aline) ∧ w'.cell? ⟨wr.heap.size, 3, none⟩ = some (.int .i64 x.acol) ∧ w'.cell? ⟨gh, oh + m * 4, none⟩ = some (.int .i64 y.line) ∧ w'.cell? ⟨gh, oh + m * 4 + 1, none⟩ = some (.int .i64 y.col) ∧ w'.cell? ⟨gh, oh + m * 4 + 2, none⟩ = some (.int .i64 y.aline) ∧ w'.cell? ⟨gh, oh + m * 4 + 3, none⟩ = some (.int .i64 y.acol))) (ds := []) #[false, false, false, false, false, false, false, false, false, false, false, false, false, false, false, false, false, false, false, false, false, false, false, false, false, false, false, false, false, false, false, false, false, false, false, false, false, false, false, false, false, false, false, false, false, false] (by kernel_rfl) rfl rfl ?_ (fun hHeld => ?_)
                    · go_keep
                    refine pure_ (i := 0) (N := some 66) (v := ?_) (a' := ?_) #[true, false, false, false, false, false, false, false, false, false, false, false, false, false, false, false, false, false, false, false, false, false, false, false, false, false, false, false, false, false, false, false, false, false, false, false, false, false, false, false, false, false, false, false, false, false] rfl rfl (by kernel_rfl) (fun _ _ _ h => h) (Or.inl ⟨by rfl, ?_⟩) ?_ ?_
                    rotate_left
                    · intro w'
                      go_simp
                      with_reducible rfl
                    rotate_left
                    · simp only [Act.put, List.setIfInBounds_toArray, List.set_cons_zero, List.set_cons_succ]
                      rfl
                    refine pure_ (i := 1) (N := some 67) (v := ?_) (a' := ?_) #[true, true, false, false, false, false, false, false, false, false, false, false, false, false, false, false, false, false, false, false, false, false, false, false, false, false, false, false, false, false, false, false, false, false, false, false, false, false, false, false, false, false, false, false, false, false] rfl rfl (by kernel_rfl) (fun _ _ _ h => h) (Or.inl ⟨by rfl, ?_⟩) ?_ ?_
                    rotate_left
                    · intro w'
                      go_simp
                      with_reducible rfl
                    rotate_left
                    · simp only [Act.put, List.setIfInBounds_toArray, List.set_cons_zero, List.set_cons_succ]
                      rfl
                    refine pure_ (i := 2) (N := some 68) (v := ?_) (a' := ?_) #[true, true, true, false, false, false, false, false, false, false, false, false, false, false, false, false, false, false, false, false, false, false, false, false, false, false, false, false, false, false, false, false, false, false, false, false, false, false, false, false, false, false, false, false, false, false] rfl rfl (by kernel_rfl) (fun _ _ _ h => h) (Or.inl ⟨by rfl, ?_⟩) ?_ ?_
                    rotate_left
                    · intro w'
                      go_simp
                      with_reducible rfl
                    rotate_left
                    · simp only [Act.put, List.setIfInBounds_toArray, List.set_cons_zero, List.set_cons_succ]
                      rfl
                    refine pure_ (i := 3) (N := some 69) (v := ?_) (a' := ?_) #[true, true, true, true, false, false, false, false, false, false, false, false, false, false, false, false, false, false, false, false, false, false, false, false, false, false, false, false, false, false, false, false, false, false, false, false, false, false, false, false, false, false, false, false, false, false] rfl rfl (by kernel_rfl) (fun _ _ _ h => h) (Or.inl ⟨by rfl, ?_⟩) ?_ ?_
                    rotate_left
                    · intro w'
                      go_simp
                      with_reducible rfl
                    rotate_left
                    · simp only [Act.put, List.setIfInBounds_toArray, List.set_cons_zero, List.set_cons_succ]
                      rfl
                    refine pure_ (i := 4) (N := some 70) (v := ?_) (a' := ?_) #[true, true, true, true, true, false, false, false, false, false, false, false, false, false, false, false, false, false, false, false, false, false, false, false, false, false, false, false, false, false, false, false, false, false, false, false, false, false, false, false, false, false, false, false, false, false] rfl rfl (by kernel_rfl) (fun _ _ _ h => h) (Or.inl ⟨by rfl, ?_⟩) ?_ ?_
                    rotate_left
                    · intro w'
                      go_simp
                      with_reducible rfl
                    rotate_left
                    · simp only [Act.put, List.setIfInBounds_toArray, List.set_cons_zero, List.set_cons_succ]
                      rfl
                    refine pure_ (i := 5) (N := some 71) (v := ?_) (a' := ?_) #[true, true, true, true, true, true, false, false, false, false, false, false, false, false, false, false, false, false, false, false, false, false, false, false, false, false, false, false, false, false, false, false, false, false, false, false, false, false, false, false, false, false, false, false, false, false] rfl rfl (by kernel_rfl) (fun _ _ _ h => h) (Or.inl ⟨by rfl, ?_⟩) ?_ ?_
                    rotate_left
                    · intro w'
                      go_simp
                      with_reducible rfl
                    rotate_left
                    · simp only [Act.put, List.setIfInBounds_toArray, List.set_cons_zero, List.set_cons_succ]
                      rfl
                    refine pure_ (i := 6) (N := some 72) (v := ?_) (a' := ?_) #[true, true, true, true, true, true, true, false, false, false, false, false, false, false, false, false, false, false, false, false, false, false, false, false, false, false, false, false, false, false, false, false, false, false, false, false, false, false, false, false, false, false, false, false, false, false] rfl rfl (by kernel_rfl) (fun _ _ _ h => h) (Or.inl ⟨by rfl, ?_⟩) ?_ ?_
                    rotate_left
                    · intro w'
                      go_simp
                      with_reducible rfl
                    rotate_left
                    · simp only [Act.put, List.setIfInBounds_toArray, List.set_cons_zero, List.set_cons_succ]
                      rfl
                    refine pure_ (i := 7) (N := some 73) (v := ?_) (a' := ?_) #[true, true, true, true, true, true, true, true, false, false, false, false, false, false, false, false, false, false, false, false, false, false, false, false, false, false, false, false, false, false, false, false, false, false, false, false, false, false, false, false, false, false, false, false, false, false] rfl rfl (by kernel_rfl) (fun _ _ _ h => h) (Or.inl ⟨by rfl, ?_⟩) ?_ ?_
                    rotate_left
                    · intro w'
                      go_simp
                      with_reducible rfl
                    rotate_left
                    · simp only [Act.put, List.setIfInBounds_toArray, List.set_cons_zero, List.set_cons_succ]
                      rfl
                    refine take_ (i := 8) (N := some 74) (v := ?_) (a' := ?_) #[true, true, true, true, true, true, true, true, true, false, false, false, false, false, false, false, false, false, false, false, false, false, false, false, false, false, false, false, false, false, false, false, false, false, false, false, false, false, false, false, false, false, false, false, false, false] rfl rfl (by kernel_rfl) (fun _ _ _ h => h) (Or.inl ⟨by rfl, ?_⟩) hHeld ?_ ?_
                    rotate_left
                    · rintro w' ⟨s0, s1, s2, s3, s4, s5, s6, s7⟩
                      go_simp
                      with_reducible rfl
                    rotate_left
                    · simp only [Act.put, List.setIfInBounds_toArray, List.set_cons_zero, List.set_cons_succ]
                      rfl
                    refine pure_ (i := 9) (N := some 75) (v := ?_) (a' := ?_) #[true, true, true, true, true, true, true, true, true, true, false, false, false, false, false, false, false, false, false, false, false, false, false, false, false, false, false, false, false, false, false, false, false, false, false, false, false, false, false, false, false, false, false, false, false, false] rfl rfl (by kernel_rfl) (fun _ _ _ h => h) (Or.inl ⟨by rfl, ?_⟩) ?_ ?_
                    rotate_left
                    · intro w'
                      go_simp
                      with_reducible rfl
                    rotate_left
                    · simp only [Act.put, List.setIfInBounds_toArray, List.set_cons_zero, List.set_cons_succ]
                      rfl
                    refine pure_ (i := 10) (N := some 76) (v := ?_) (a' := ?_) #[true, true, true, true, true, true, true, true, true, true, true, false, false, false, false, false, false, false, false, false, false, false, false, false, false, false, false, false, false, false, false, false, false, false, false, false, false, false, false, false, false, false, false, false, false, false] rfl rfl (by kernel_rfl) (fun _ _ _ h => h) (Or.inl ⟨by rfl, ?_⟩) ?_ ?_
                    rotate_left
                    · intro w'
                      go_simp
                      with_reducible rfl
                    rotate_left
                    · simp only [Act.put, List.setIfInBounds_toArray, List.set_cons_zero, List.set_cons_succ]
                      rfl
                    refine pure_ (i := 11) (N := some 77) (v := ?_) (a' := ?_) #[true, true, true, true, true, true, true, true, true, true, true, true, false, false, false, false, false, false, false, false, false, false, false, false, false, false, false, false, false, false, false, false, false, false, false, false, false, false, false, false, false, false, false, false, false, false] rfl rfl (by kernel_rfl) (fun _ _ _ h => h) (Or.inl ⟨by rfl, ?_⟩) ?_ ?_
                    rotate_left
                    · intro w'
                      go_simp
                      with_reducible rfl
                    rotate_left
                    · simp only [Act.put, List.setIfInBounds_toArray, List.set_cons_zero, List.set_cons_succ]
                      rfl
                    refine pure_ (i := 12) (N := some 78) (v := ?_) (a' := ?_) #[true, true, true, true, true, true, true, true, true, true, true, true, true, false, false, false, false, false, false, false, false, false, false, false, false, false, false, false, false, false, false, false, false, false, false, false, false, false, false, false, false, false, false, false, false, false] rfl rfl (by kernel_rfl) (fun _ _ _ h => h) (Or.inl ⟨by rfl, ?_⟩) ?_ ?_
                    rotate_left
                    · intro w'
                      go_simp
                      with_reducible rfl
                    rotate_left
                    · simp only [Act.put, List.setIfInBounds_toArray, List.set_cons_zero, List.set_cons_succ]
                      rfl
                    refine pure_ (i := 13) (N := some 79) (v := ?_) (a' := ?_) #[true, true, true, true, true, true, true, true, true, true, true, true, true, true, false, false, false, false, false, false, false, false, false, false, false, false, false, false, false, false, false, false, false, false, false, false, false, false, false, false, false, false, false, false, false, false] rfl rfl (by kernel_rfl) (fun _ _ _ h => h) (Or.inl ⟨by rfl, ?_⟩) ?_ ?_
                    rotate_left
                    · intro w'
                      go_simp
                      with_reducible rfl
                    rotate_left
                    · simp only [Act.put, List.setIfInBounds_toArray, List.set_cons_zero, List.set_cons_succ]
                      rfl
                    refine take_ (i := 14) (N := some 80) (v := ?_) (a' := ?_) #[true, true, true, true, true, true, true, true, true, true, true, true, true, true, true, false, false, false, false, false, false, false, false, false, false, false, false, false, false, false, false, false, false, false, false, false, false, false, false, false, false, false, false, false, false, false] rfl rfl (by kernel_rfl) (fun _ _ _ h => h) (Or.inl ⟨by rfl, ?_⟩) hHeld ?_ ?_
                    rotate_left
                    · rintro w' ⟨s0, s1, s2, s3, s4, s5, s6, s7⟩
                      go_simp
                      with_reducible rfl
                    rotate_left
                    · simp only [Act.put, List.setIfInBounds_toArray, List.set_cons_zero, List.set_cons_succ]
                      rfl
                    refine pure_ (i := 15) (N := some 81) (v := ?_) (a' := ?_) #[true, true, true, true, true, true, true, true, true, true, true, true, true, true, true, true, false, false, false, false, false, false, false, false, false, false, false, false, false, false, false, false, false, false, false, false, false, false, false, false, false, false, false, false, false, false] rfl rfl (by kernel_rfl) (fun _ _ _ h => h) (Or.inl ⟨by rfl, ?_⟩) ?_ ?_
                    rotate_left
                    · intro w'
                      go_simp
                      with_reducible rfl
                    rotate_left
                    · simp only [Act.put, List.setIfInBounds_toArray, List.set_cons_zero, List.set_cons_succ]
                      rfl
                    refine pure_ (i := 16) (N := some 82) (v := ?_) (a' := ?_) #[true, true, true, true, true, true, true, true, true, true, true, true, true, true, true, true, true, false, false, false, false, false, false, false, false, false, false, false, false, false, false, false, false, false, false, false, false, false, false, false, false, false, false, false, false, false] rfl rfl (by kernel_rfl) (fun _ _ _ h => h) (Or.inl ⟨by rfl, ?_⟩) ?_ ?_
                    rotate_left
                    · intro w'
                      go_simp
                      with_reducible rfl
                    rotate_left
                    · simp only [Act.put, List.setIfInBounds_toArray, List.set_cons_zero, List.set_cons_succ]
                      rfl
                    refine take_ (i := 17) (N := some 83) (v := ?_) (a' := ?_) #[true, true, true, true, true, true, true, true, true, true, true, true, true, true, true, true, true, true, false, false, false, false, false, false, false, false, false, false, false, false, false, false, false, false, false, false, false, false, false, false, false, false, false, false, false, false] rfl rfl (by kernel_rfl) (fun _ _ _ h => h) (Or.inl ⟨by rfl, ?_⟩) hHeld ?_ ?_
                    rotate_left
                    · rintro w' ⟨s0, s1, s2, s3, s4, s5, s6, s7⟩
                      go_simp
                      with_reducible rfl
                    rotate_left
                    · simp only [Act.put, List.setIfInBounds_toArray, List.set_cons_zero, List.set_cons_succ]
                      rfl
                    refine pure_ (i := 18) (N := some 84) (v := ?_) (a' := ?_) #[true, true, true, true, true, true, true, true, true, true, true, true, true, true, true, true, true, true, true, false, false, false, false, false, false, false, false, false, false, false, false, false, false, false, false, false, false, false, false, false, false, false, false, false, false, false] rfl rfl (by kernel_rfl) (fun _ _ _ h => h) (Or.inl ⟨by rfl, ?_⟩) ?_ ?_
                    rotate_left
                    · intro w'
                      go_simp
                      with_reducible rfl
                    rotate_left
                    · simp only [Act.put, List.setIfInBounds_toArray, List.set_cons_zero, List.set_cons_succ]
                      rfl
                    refine take_ (i := 19) (N := some 85) (v := ?_) (a' := ?_) #[true, true, true, true, true, true, true, true, true, true, true, true, true, true, true, true, true, true, true, true, false, false, false, false, false, false, false, false, false, false, false, false, false, false, false, false, false, false, false, false, false, false, false, false, false, false] rfl rfl (by kernel_rfl) (fun _ _ _ h => h) (Or.inl ⟨by rfl, ?_⟩) hHeld ?_ ?_
                    rotate_left
                    · rintro w' ⟨s0, s1, s2, s3, s4, s5, s6, s7⟩
                      go_simp
                      with_reducible rfl
                    rotate_left
                    · simp only [Act.put, List.setIfInBounds_toArray, List.set_cons_zero, List.set_cons_succ]
                      rfl
                    refine pure_ (i := 20) (N := some 86) (v := ?_) (a' := ?_) #[true, true, true, true, true, true, true, true, true, true, true, true, true, true, true, true, true, true, true, true, true, false, false, false, false, false, false, false, false, false, false, false, false, false, false, false, false, false, false, false, false, false, false, false, false, false] rfl rfl (by kernel_rfl) (fun _ _ _ h => h) (Or.inl ⟨by rfl, ?_⟩) ?_ ?_
                    rotate_left
                    · intro w'
                      go_simp
                      with_reducible rfl
                    rotate_left
                    · simp only [Act.put, List.setIfInBounds_toArray, List.set_cons_zero, List.set_cons_succ]
                      rfl
                    refine one_ (i := 21) (N := some 87) #[true, true, true, true, true, true, true, true, true, true, true, true, true, true, true, true, true, true, true, true, true, true, false, false, false, false, false, false, false, false, false, false, false, false, false, false, false, false, false, false, false, false, false, false, false, false] rfl rfl (by kernel_rfl) (by decide) (fun K hK => ?_)
                    go_simp
                    go_at_call 11
                    refine (before3 _ _ _ _ _ hb1 _).mono ?_
                    rintro e wx ⟨rfl, hk, hb⟩
                    refine hK.out _ _ ⟨hk _ _ hHeld.1, hk _ _ hHeld.2.1, hk _ _ hHeld.2.2.1, hk _ _ hHeld.2.2.2.1, hk _ _ hHeld.2.2.2.2.1, hk _ _ hHeld.2.2.2.2.2.1, hk _ _ hHeld.2.2.2.2.2.2.1, hk _ _ hHeld.2.2.2.2.2.2.2⟩ (fun hHeld2 => ?_)
                    clear hK K hHeld
                    refine pure_ (i := 22) (N := some 88) (v := ?_) (a' := ?_) #[true, true, true, true, true, true, true, true, true, true, true, true, true, true, true, true, true, true, true, true, true, true, true, false, false, false, false, false, false, false, false, false, false, false, false, false, false, false, false, false, false, false, false, false, false, false] rfl rfl (by kernel_rfl) (fun _ _ _ h => h) (Or.inl ⟨by rfl, ?_⟩) ?_ ?_
                    rotate_left
                    · intro w'
                      go_simp
                      with_reducible rfl
                    rotate_left
                    · simp only [Act.put, List.setIfInBounds_toArray, List.set_cons_zero, List.set_cons_succ]
                      rfl
                    refine pure_ (i := 23) (N := some 89) (v := ?_) (a' := ?_) #[true, true, true, true, true, true, true, true, true, true, true, true, true, true, true, true, true, true, true, true, true, true, true, true, false, false, false, false, false, false, false, false, false, false, false, false, false, false, false, false, false, false, false, false, false, false] rfl rfl (by kernel_rfl) (fun _ _ _ h => h) (Or.inl ⟨by rfl, ?_⟩) ?_ ?_
                    rotate_left
                    · intro w'
                      go_simp
                      with_reducible rfl
                    rotate_left
                    · simp only [Act.put, List.setIfInBounds_toArray, List.set_cons_zero, List.set_cons_succ]
                      rfl
                    refine pure_ (i := 24) (N := some 90) (v := ?_) (a' := ?_) #[true, true, true, true, true, true, true, true, true, true, true, true, true, true, true, true, true, true, true, true, true, true, true, true, true, false, false, false, false, false, false, false, false, false, false, false, false, false, false, false, false, false, false, false, false, false] rfl rfl (by kernel_rfl) (fun _ _ _ h => h) (Or.inl ⟨by rfl, ?_⟩) ?_ ?_
                    rotate_left
                    · intro w'
                      go_simp
                      with_reducible rfl
                    rotate_left
                    · simp only [Act.put, List.setIfInBounds_toArray, List.set_cons_zero, List.set_cons_succ]
                      rfl
                    refine pure_ (i := 25) (N := some 91) (v := ?_) (a' := ?_) #[true, true, true, true, true, true, true, true, true, true, true, true, true, true, true, true, true, true, true, true, true, true, true, true, true, true, false, false, false, false, false, false, false, false, false, false, false, false, false, false, false, false, false, false, false, false] rfl rfl (by kernel_rfl) (fun _ _ _ h => h) (Or.inl ⟨by rfl, ?_⟩) ?_ ?_
                    rotate_left
                    · intro w'
                      go_simp
                      with_reducible rfl
                    rotate_left
                    · simp only [Act.put, List.setIfInBounds_toArray, List.set_cons_zero, List.set_cons_succ]
                      rfl
                    refine pure_ (i := 26) (N := some 92) (v := ?_) (a' := ?_) #[true, true, true, true, true, true, true, true, true, true, true, true, true, true, true, true, true, true, true, true, true, true, true, true, true, true, true, false, false, false, false, false, false, false, false, false, false, false, false, false, false, false, false, false, false, false] rfl rfl (by kernel_rfl) (fun _ _ _ h => h) (Or.inl ⟨by rfl, ?_⟩) ?_ ?_
                    rotate_left
                    · intro w'
                      go_simp
                      with_reducible rfl
                    rotate_left
                    · simp only [Act.put, List.setIfInBounds_toArray, List.set_cons_zero, List.set_cons_succ]
                      rfl
                    refine pure_ (i := 27) (N := some 93) (v := ?_) (a' := ?_) #[true, true, true, true, true, true, true, true, true, true, true, true, true, true, true, true, true, true, true, true, true, true, true, true, true, true, true, true, false, false, false, false, false, false, false, false, false, false, false, false, false, false, false, false, false, false] rfl rfl (by kernel_rfl) (fun _ _ _ h => h) (Or.inl ⟨by rfl, ?_⟩) ?_ ?_
                    rotate_left
                    · intro w'
                      go_simp
                      with_reducible rfl
                    rotate_left
                    · simp only [Act.put, List.setIfInBounds_toArray, List.set_cons_zero, List.set_cons_succ]
                      rfl
                    refine pure_ (i := 28) (N := some 94) (v := ?_) (a' := ?_) #[true, true, true, true, true, true, true, true, true, true, true, true, true, true, true, true, true, true, true, true, true, true, true, true, true, true, true, true, true, false, false, false, false, false, false, false, false, false, false, false, false, false, false, false, false, false] rfl rfl (by kernel_rfl) (fun _ _ _ h => h) (Or.inl ⟨by rfl, ?_⟩) ?_ ?_
                    rotate_left
                    · intro w'
                      go_simp
                      with_reducible rfl
                    rotate_left
                    · simp only [Act.put, List.setIfInBounds_toArray, List.set_cons_zero, List.set_cons_succ]
                      rfl
                    refine take_ (i := 29) (N := some 95) (v := ?_) (a' := ?_) #[true, true, true, true, true, true, true, true, true, true, true, true, true, true, true, true, true, true, true, true, true, true, true, true, true, true, true, true, true, true, false, false, false, false, false, false, false, false, false, false, false, false, false, false, false, false] rfl rfl (by kernel_rfl) (fun _ _ _ h => h) (Or.inl ⟨by rfl, ?_⟩) hHeld2 ?_ ?_
                    rotate_left
                    · rintro w' ⟨s0, s1, s2, s3, s4, s5, s6, s7⟩
                      go_simp
                      with_reducible rfl
                    rotate_left
                    · simp only [Act.put, List.setIfInBounds_toArray, List.set_cons_zero, List.set_cons_succ]
                      rfl
                    refine pure_ (i := 30) (N := some 96) (v := ?_) (a' := ?_) #[true, true, true, true, true, true, true, true, true, true, true, true, true, true, true, true, true, true, true, true, true, true, true, true, true, true, true, true, true, true, true, false, false, false, false, false, false, false, false, false, false, false, false, false, false, false] rfl rfl (by kernel_rfl) (fun _ _ _ h => h) (Or.inl ⟨by rfl, ?_⟩) ?_ ?_
                    rotate_left
                    · intro w'
                      go_simp
                      with_reducible rfl
                    rotate_left
                    · simp only [Act.put, List.setIfInBounds_toArray, List.set_cons_zero, List.set_cons_succ]
                      rfl
                    refine pure_ (i := 31) (N := some 97) (v := ?_) (a' := ?_) #[true, true, true, true, true, true, true, true, true, true, true, true, true, true, true, true, true, true, true, true, true, true, true, true, true, true, true, true, true, true, true, true, false, false, false, false, false, false, false, false, false, false, false, false, false, false] rfl rfl (by kernel_rfl) (fun _ _ _ h => h) (Or.inl ⟨by rfl, ?_⟩) ?_ ?_
                    rotate_left
                    · intro w'
                      go_simp
                      with_reducible rfl
                    rotate_left
                    · simp only [Act.put, List.setIfInBounds_toArray, List.set_cons_zero, List.set_cons_succ]
                      rfl
                    refine pure_ (i := 32) (N := some 98) (v := ?_) (a' := ?_) #[true, true, true, true, true, true, true, true, true, true, true, true, true, true, true, true, true, true, true, true, true, true, true, true, true, true, true, true, true, true, true, true, true, false, false, false, false, false, false, false, false, false, false, false, false, false] rfl rfl (by kernel_rfl) (fun _ _ _ h => h) (Or.inl ⟨by rfl, ?_⟩) ?_ ?_
                    rotate_left
                    · intro w'
                      go_simp
                      with_reducible rfl
                    rotate_left
                    · simp only [Act.put, List.setIfInBounds_toArray, List.set_cons_zero, List.set_cons_succ]
                      rfl
                    refine pure_ (i := 33) (N := some 99) (v := ?_) (a' := ?_) #[true, true, true, true, true, true, true, true, true, true, true, true, true, true, true, true, true, true, true, true, true, true, true, true, true, true, true, true, true, true, true, true, true, true, false, false, false, false, false, false, false, false, false, false, false, false] rfl rfl (by kernel_rfl) (fun _ _ _ h => h) (Or.inl ⟨by rfl, ?_⟩) ?_ ?_
                    rotate_left
                    · intro w'
                      go_simp
                      with_reducible rfl
                    rotate_left
                    · simp only [Act.put, List.setIfInBounds_toArray, List.set_cons_zero, List.set_cons_succ]
                      rfl
                    refine pure_ (i := 34) (N := some 100) (v := ?_) (a' := ?_) #[true, true, true, true, true, true, true, true, true, true, true, true, true, true, true, true, true, true, true, true, true, true, true, true, true, true, true, true, true, true, true, true, true, true, true, false, false, false, false, false, false, false, false, false, false, false] rfl rfl (by kernel_rfl) (fun _ _ _ h => h) (Or.inl ⟨by rfl, ?_⟩) ?_ ?_
                    rotate_left
                    · intro w'
                      go_simp
                      with_reducible rfl
                    rotate_left
                    · simp only [Act.put, List.setIfInBounds_toArray, List.set_cons_zero, List.set_cons_succ]
                      rfl
                    refine take_ (i := 35) (N := some 101) (v := ?_) (a' := ?_) #[true, true, true, true, true, true, true, true, true, true, true, true, true, true, true, true, true, true, true, true, true, true, true, true, true, true, true, true, true, true, true, true, true, true, true, true, false, false, false, false, false, false, false, false, false, false] rfl rfl (by kernel_rfl) (fun _ _ _ h => h) (Or.inl ⟨by rfl, ?_⟩) hHeld2 ?_ ?_
                    rotate_left
                    · rintro w' ⟨s0, s1, s2, s3, s4, s5, s6, s7⟩
                      go_simp
                      with_reducible rfl
                    rotate_left
                    · simp only [Act.put, List.setIfInBounds_toArray, List.set_cons_zero, List.set_cons_succ]
                      rfl
                    refine pure_ (i := 36) (N := some 102) (v := ?_) (a' := ?_) #[true, true, true, true, true, true, true, true, true, true, true, true, true, true, true, true, true, true, true, true, true, true, true, true, true, true, true, true, true, true, true, true, true, true, true, true, true, false, false, false, false, false, false, false, false, false] rfl rfl (by kernel_rfl) (fun _ _ _ h => h) (Or.inl ⟨by rfl, ?_⟩) ?_ ?_
                    rotate_left
                    · intro w'
                      go_simp
                      with_reducible rfl
                    rotate_left
                    · simp only [Act.put, List.setIfInBounds_toArray, List.set_cons_zero, List.set_cons_succ]
                      rfl
                    refine pure_ (i := 37) (N := some 103) (v := ?_) (a' := ?_) #[true, true, true, true, true, true, true, true, true, true, true, true, true, true, true, true, true, true, true, true, true, true, true, true, true, true, true, true, true, true, true, true, true, true, true, true, true, true, false, false, false, false, false, false, false, false] rfl rfl (by kernel_rfl) (fun _ _ _ h => h) (Or.inl ⟨by rfl, ?_⟩) ?_ ?_
                    rotate_left
                    · intro w'
                      go_simp
                      with_reducible rfl
                    rotate_left
                    · simp only [Act.put, List.setIfInBounds_toArray, List.set_cons_zero, List.set_cons_succ]
                      rfl
                    refine take_ (i := 38) (N := some 104) (v := ?_) (a' := ?_) #[true, true, true, true, true, true, true, true, true, true, true, true, true, true, true, true, true, true, true, true, true, true, true, true, true, true, true, true, true, true, true, true, true, true, true, true, true, true, true, false, false, false, false, false, false, false] rfl rfl (by kernel_rfl) (fun _ _ _ h => h) (Or.inl ⟨by rfl, ?_⟩) hHeld2 ?_ ?_
                    rotate_left
                    · rintro w' ⟨s0, s1, s2, s3, s4, s5, s6, s7⟩
                      go_simp
                      with_reducible rfl
                    rotate_left
                    · simp only [Act.put, List.setIfInBounds_toArray, List.set_cons_zero, List.set_cons_succ]
                      rfl
                    refine pure_ (i := 39) (N := some 105) (v := ?_) (a' := ?_) #[true, true, true, true, true, true, true, true, true, true, true, true, true, true, true, true, true, true, true, true, true, true, true, true, true, true, true, true, true, true, true, true, true, true, true, true, true, true, true, true, false, false, false, false, false, false] rfl rfl (by kernel_rfl) (fun _ _ _ h => h) (Or.inl ⟨by rfl, ?_⟩) ?_ ?_
                    rotate_left
                    · intro w'
                      go_simp
                      with_reducible rfl
                    rotate_left
                    · simp only [Act.put, List.setIfInBounds_toArray, List.set_cons_zero, List.set_cons_succ]
                      rfl
                    refine take_ (i := 40) (N := some 106) (v := ?_) (a' := ?_) #[true, true, true, true, true, true, true, true, true, true, true, true, true, true, true, true, true, true, true, true, true, true, true, true, true, true, true, true, true, true, true, true, true, true, true, true, true, true, true, true, true, false, false, false, false, false] rfl rfl (by kernel_rfl) (fun _ _ _ h => h) (Or.inl ⟨by rfl, ?_⟩) hHeld2 ?_ ?_
                    rotate_left
                    · rintro w' ⟨s0, s1, s2, s3, s4, s5, s6, s7⟩
                      go_simp
                      with_reducible rfl
                    rotate_left
                    · simp only [Act.put, List.setIfInBounds_toArray, List.set_cons_zero, List.set_cons_succ]
                      rfl
                    refine pure_ (i := 41) (N := some 107) (v := ?_) (a' := ?_) #[true, true, true, true, true, true, true, true, true, true, true, true, true, true, true, true, true, true, true, true, true, true, true, true, true, true, true, true, true, true, true, true, true, true, true, true, true, true, true, true, true, true, false, false, false, false] rfl rfl (by kernel_rfl) (fun _ _ _ h => h) (Or.inl ⟨by rfl, ?_⟩) ?_ ?_
                    rotate_left
                    · intro w'
                      go_simp
                      with_reducible rfl
                    rotate_left
                    · simp only [Act.put, List.setIfInBounds_toArray, List.set_cons_zero, List.set_cons_succ]
                      rfl
                    refine one_ (i := 42) (N := some 108) #[true, true, true, true, true, true, true, true, true, true, true, true, true, true, true, true, true, true, true, true, true, true, true, true, true, true, true, true, true, true, true, true, true, true, true, true, true, true, true, true, true, true, true, false, false, false] rfl rfl (by kernel_rfl) (by decide) (fun K hK => ?_)
                    go_simp
                    go_at_call 11
                    refine (before3 _ _ _ _ _ hb2 _).mono ?_
                    rintro e wy ⟨rfl, hk2, hb5⟩
                    refine hK.out _ _ ⟨hk2 _ _ hHeld2.1, hk2 _ _ hHeld2.2.1, hk2 _ _ hHeld2.2.2.1, hk2 _ _ hHeld2.2.2.2.1, hk2 _ _ hHeld2.2.2.2.2.1, hk2 _ _ hHeld2.2.2.2.2.2.1, hk2 _ _ hHeld2.2.2.2.2.2.2.1, hk2 _ _ hHeld2.2.2.2.2.2.2.2⟩ (fun hHeld3 => ?_)
                    clear hK K hHeld2
                    refine pure_ (i := 43) (N := some 109) (v := ?_) (a' := ?_) #[true, true, true, true, true, true, true, true, true, true, true, true, true, true, true, true, true, true, true, true, true, true, true, true, true, true, true, true, true, true, true, true, true, true, true, true, true, true, true, true, true, true, true, true, false, false] rfl rfl (by kernel_rfl) (fun _ _ _ h => h) (Or.inl ⟨by rfl, ?_⟩) ?_ ?_
                    rotate_left
                    · intro w'
                      go_simp
                      with_reducible rfl
                    rotate_left
                    · simp only [Act.put, List.setIfInBounds_toArray, List.set_cons_zero, List.set_cons_succ]
                      rfl
                    refine pure_ (i := 44) (N := some 110) (v := ?_) (a' := ?_) #[true, true, true, true, true, true, true, true, true, true, true, true, true, true, true, true, true, true, true, true, true, true, true, true, true, true, true, true, true, true, true, true, true, true, true, true, true, true, true, true, true, true, true, true, true, false] rfl rfl (by kernel_rfl) (fun _ _ _ h => h) (Or.inl ⟨by rfl, ?_⟩) ?_ ?_
                    rotate_left
                    · intro w'
                      go_simp
                      with_reducible rfl
                    rotate_left
                    · simp only [Act.put, List.setIfInBounds_toArray, List.set_cons_zero, List.set_cons_succ]
                      rfl
                    refine pure_ (i := 45) (N := some 111) (v := ?_) (a' := ?_) #[true, true, true, true, true, true, true, true, true, true, true, true, true, true, true, true, true, true, true, true, true, true, true, true, true, true, true, true, true, true, true, true, true, true, true, true, true, true, true, true, true, true, true, true, true, true] rfl rfl (by kernel_rfl) (fun _ _ _ h => h) (Or.inl ⟨by rfl, ?_⟩) ?_ ?_
                    rotate_left
                    · intro w'
                      go_simp
                      with_reducible rfl
                    rotate_left
                    · simp only [Act.put, List.setIfInBounds_toArray, List.set_cons_zero, List.set_cons_succ]
                      rfl
                    refine done_ (by kernel_rfl) ?_
                    all_goals
                      go_wp2_with (fail)
                      go_meet
                      case rel => exact ⟨_, rfl, Lib.hid (fun _ _ => HB1.out), Lib.hid (Below.trans (b := wx) ⟨hb.os, hb.tape, hb.output, hb.size, hb.block⟩ (hb5.mono hb.size))⟩
            case rest =>
            obtain ⟨b8, rfl, HB8, HBB⟩ := hcut
            have hbl8 := (HBW.out.trans (H1.out.2.1.mono HBW.out.size)).trans (HBB.out.mono (by have := HBW.out.size; have := H1.out.2.2; omega))
            have HBL := Lib.hid hbl8
            have h98 := (HBB.out.block _ (blk_lt H1.out.1)).trans H1.out.1
            have H98 := Lib.hid h98
            clear hbl8 h98
            cases b8 with
            | true =>
              go_wp2_with (fail)
              go_ret
              exact ⟨false, rfl, fun h => by simp at h, HBL.out⟩
            | false =>
            go_wp2_with (fail)
            clear d0 d1 d2 d3 x0 x1
            generalize wr.heap.size = bB at H98 ⊢
            go_loopw [114] (fun v114 wq => ∃ j : Nat, v114 = .int .i64 (j : Int) ∧ j ≤ L.length ∧ Hid (Below wc.heap.size wc wq)) (fun v114 _ => L.length - (intOf v114).toNat)
            case atStart => exact ⟨0, rfl, Nat.zero_le _, Lib.hid (Below.refl _ _)⟩
            case round =>
              obtain ⟨j, rfl, hj, HBQ⟩ := hrel
              have hLl : L.length ≤ 9223372036854775807 := HLC.out.2.1
              by_cases hjl : j < L.length
              · have p0 : (0 : Int) ≤ (j : Int) := by omega
                have p1 : (j : Int) < (L.length : Int) := by omega
                have wj : wrap64 ((j : Int) + 1) = ((j + 1 : Nat) : Int) := by unfold wrap64; omega
                obtain ⟨ad, e, hx0, hx1, hx2, hx3, hx4, hx5⟩ := at_T27 HLC.out (j : Int) p0 p1
                cases e
                rw [Int.toNat_natCast] at hx0 hx1 hx2 hx3 hx4 hx5
                have hbq := HBL.out.trans (HBQ.out.mono HBL.out.size)
                have y0 := (hbq.cell (World.block_lt_of_cell? _ _ hx0)).trans hx0
                have y1 := (hbq.cell (World.block_lt_of_cell? _ _ hx1)).trans hx1
                have y2 := (hbq.cell (World.block_lt_of_cell? _ _ hx2)).trans hx2
                have y3 := (hbq.cell (World.block_lt_of_cell? _ _ hx3)).trans hx3
                have y4 := (hbq.cell (World.block_lt_of_cell? _ _ hx4)).trans hx4
                have y5 := (hbq.cell (World.block_lt_of_cell? _ _ hx5)).trans hx5
                have h9q := (HBQ.out.block _ (blk_lt H98.out)).trans H98.out
                have H9Q := Lib.hid h9q
                have HJ := Lib.hid (⟨hjl, hLl, wj⟩ : _ ∧ _ ∧ _)
                clear hbq hx0 hx1 hx2 hx3 hx4 hx5 h9q hjl hj hLl wj
                generalize rd_T27 L (j : Int) = row at y0 y1 y2 y3 y4 y5
                go_upto_region 13 with (fail)
                have hbE := (Below.refl wr.heap.size wr).alloc (Nat.le_refl _) (.cells #[.int .i64 row.f0, .int .i64 row.f1, .int .i64 row.f2, .int .i64 row.f3, .int .i64 row.f4, .int .i64 row.f5] 27)
                have hE := heap_alloc_new wr (.cells #[.int .i64 row.f0, .int .i64 row.f1, .int .i64 row.f2, .int .i64 row.f3, .int .i64 row.f4, .int .i64 row.f5] 27)
                clear y0 y1 y2 y3 y4 y5
                generalize wr.alloc (.cells #[.int .i64 row.f0, .int .i64 row.f1, .int .i64 row.f2, .int .i64 row.f3, .int .i64 row.f4, .int .i64 row.f5] 27) = wt at hbE hE ⊢
                have e0 : wt.cell? ⟨wr.heap.size, 0, none⟩ = some (.int .i64 row.f0) := blk_cell hE 0
                have e1 : wt.cell? ⟨wr.heap.size, 1, none⟩ = some (.int .i64 row.f1) := blk_cell hE 1
                have h9t := (hbE.block _ (blk_lt H9Q.out)).trans H9Q.out
                have d0 : wt.cell? ⟨bB, 0, none⟩ = some (.int .i64 x.line) := blk_cell h9t 0
                have d1 : wt.cell? ⟨bB, 1, none⟩ = some (.int .i64 x.col) := blk_cell h9t 1
                have HBT := Lib.hid (HBQ.out.trans (hbE.mono HBQ.out.size))
                clear hbE hE h9t
                go_cut [133] from 116 to 132 (fun v133 wd => ∃ b, v133 = .bool b ∧ wd = wt)
                case first =>
                  go_wp2_with (fail)
                  all_goals
                    go_meet
                    case rel => exact ⟨_, rfl, rfl⟩
                case rest =>
                obtain ⟨b13, rfl, rfl⟩ := hcut
                clear e0 e1 d0 d1
                cases b13 with
                | true =>
                  go_wp2_with (fail)
                  go_ret
                  exact ⟨false, rfl, fun h => by simp at h, HBL.out.trans (HBT.out.mono HBL.out.size)⟩
                | false =>
                  go_wp2_with (fail)
                  refine ⟨⟨j + 1, by rw [HJ.out.2.2], HJ.out.1, HBT⟩, ?_⟩
                  rw [HJ.out.2.2]
                  have := HJ.out.1
                  simp only [intOf]
                  omega
              · obtain rfl : j = L.length := by omega
                have hlt' : ¬ ((L.length : Int) < (L.length : Int)) := by omega
                have wi := HWI.out
                clear hjl hj
                go_wp2_with (fail)
                refine ⟨⟨i + 1, by rw [HWI.out]; rfl, ?_, Lib.hid ?_, Lib.hid (HBL.out.trans (HBQ.out.mono HBL.out.size))⟩, ?_⟩
                · have := HLT.out
                  rw [← HN.out] at this
                  exact this
                · have hs := HB6.out (by first | rfl | trivial)
                  refine ⟨fun k hk hki => ?_, fun k hk hki h0 => ?_⟩
                  · by_cases e : k = i
                    · subst e
                      rw [← HXX.out]
                      exact hs
                    · exact HSN.out.small k hk (by omega)
                  · by_cases e : k = i
                    · subst e
                      rw [← HXX.out]
                      exact HB8.out (by first | rfl | trivial) h0
                    · exact HSN.out.sort k hk (by omega) h0
                · have hlt2 := HLT.out
                  rw [← HN.out] at hlt2
                  rw [HWI.out]
                  clear wi
                  simp only [intOf]
                  omega
          · obtain rfl : i = n := by omega
            have hlt' : ¬ ((i : Int) < (i : Int)) := by omega
            clear hlt hi
            go_wp2_with (fail)
            go_ret
            refine ⟨true, rfl, fun _ => ⟨by rw [← HN.out]; exact h100, ⟨s, t, rfl, ?_⟩, by rw [← HN.out]; exact HSN.out⟩, HBW.out⟩
            have hz := HZZ.out.symm
            simp at hz
            obtain ⟨a, b, c, d⟩ := hz
            cases s
            simp only at a b c d
            rw [a, b, c, d]
            rfl
    · have q1 : decide ((100 : Int) < (n : Int)) = true := decide_eq_true (by omega)
      go_enter Try.func5, Try.ntmps5
      go_wp2_with (fail)
      go_ret
      exact ⟨_, rfl, fun h => by simp at h, Below.refl _ _⟩
end Go.Proofs.Ytdhaifcjhmmdlaa.fnFinalize

