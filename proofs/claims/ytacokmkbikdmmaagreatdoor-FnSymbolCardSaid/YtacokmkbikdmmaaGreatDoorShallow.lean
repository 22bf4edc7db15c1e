/-
  spec.shallow: it tells of a tree that its lists are short.
  Conditions: none.
-/
import Derived.Test.YtacokmkbikdmmaaGreatDoorTrees
import Derived.Lib.Hide
import Derived.Laws.Rows
import Derived.BigQuiet
import Derived.Deep.CutBlock
import Derived.Deep.DeepCutAuto
import Derived.Deep.LoopGhost
import Derived.KernelRfl
import Derived.OwnWalk
import Derived.Tactics
import Derived.WideLaws
import Derived.RowKit3
import Derived.RowKit
namespace Go.Proofs.YtacokmkbikdmmaaGreatDoor.trees
open Go Go.RowKit
set_option linter.unusedVariables false
set_option linter.unusedSimpArgs false

theorem blk_cell {w : World} {g : Nat} {t : TypeId} {cs : Array Value} (h : w.heap[g]? = some (.cells cs t (0, 0))) (i : Nat) : w.cell? ⟨g, i, none⟩ = cs[i]? := by
  unfold World.cell?
  rw [h]
  rfl
theorem blk_lt {w : World} {g : Nat} {o : Obj} (h : w.heap[g]? = some o) : g < w.heap.size := (Array.getElem?_eq_some_iff.1 h).1
theorem wrap_up {i n : Nat} (h : i < n) (hn : n ≤ 9223372036854775807) : wrap64 ((i : Int) + 1) = (i : Int) + 1 := by unfold wrap64; omega
def intOf : Value → Int | .int _ q => q | _ => 0
def Pb (W : World) (p : Prop) (e : Ending) (w' : World) : Prop := ∃ b, e = .returned (.bool b) ∧ (b = true → p) ∧ Below W.heap.size W w'
set_option maxHeartbeats 4000000 in
set_option maxRecDepth 100000 in
theorem shallow : ∀ (n : Nat) (x : X) (N : Nat) (W W1 : World) (lv : Int), Ex C0 N W n x.cells → Below N W W1 → N ≤ W.heap.size → Calls Tryz.prog 14 #[.agg #[.int .i64 x.kind, .int .i64 x.op, .int .i64 x.ref, .int .i64 x.chain, .int .i64 x.flags, .float .f64 x.num, .slice x.sa x.sn x.sc, .string x.text, .slice x.ka x.kn x.kc, .slice x.pa x.pn x.pc, .slice x.qa x.qn x.qc, .slice x.fa x.fn x.fc, .slice x.ca x.cn x.cc], .int .i64 lv] W1 (fun e w' => Pb W1 (Ex C1 N W n x.cells) e w') := by
  intro n
  induction n with
  | zero => intro x N W W1 lv h; exact h.elim
  | succ n ih =>
    intro x N W W1 lv h h0 hN
    have H0 := Lib.hid h0
    obtain ⟨hz, hs, hk, hp, hq⟩ := Ex_x.1 h
    have lk := hk.lt
    have lp := hp.lt
    have lq := hq.lt
    have HH := Lib.hid (⟨hs, hk, hp, hq⟩ : _ ∧ _ ∧ _ ∧ _)
    have IH := Lib.hid ih
    clear h hs hk hp hq ih h0
    go_enter Tryz.func14, Tryz.ntmps14
    go_upto_region 1 with (fail)
    have hD := heap_alloc_new W1 (.cells #[.int .i64 x.kind, .int .i64 x.op, .int .i64 x.ref, .int .i64 x.chain, .int .i64 x.flags, .float .f64 x.num, .slice x.sa x.sn x.sc, .string x.text, .slice x.ka x.kn x.kc, .slice x.pa x.pn x.pc, .slice x.qa x.qn x.qc, .slice x.fa x.fn x.fc, .slice x.ca x.cn x.cc] 30)
    have hDb := (Below.refl W1.heap.size W1).alloc (Nat.le_refl _) (.cells #[.int .i64 x.kind, .int .i64 x.op, .int .i64 x.ref, .int .i64 x.chain, .int .i64 x.flags, .float .f64 x.num, .slice x.sa x.sn x.sc, .string x.text, .slice x.ka x.kn x.kc, .slice x.pa x.pn x.pc, .slice x.qa x.qn x.qc, .slice x.fa x.fn x.fc, .slice x.ca x.cn x.cc] 30)
    have hDs : (W1.alloc (.cells #[.int .i64 x.kind, .int .i64 x.op, .int .i64 x.ref, .int .i64 x.chain, .int .i64 x.flags, .float .f64 x.num, .slice x.sa x.sn x.sc, .string x.text, .slice x.ka x.kn x.kc, .slice x.pa x.pn x.pc, .slice x.qa x.qn x.qc, .slice x.fa x.fn x.fc, .slice x.ca x.cn x.cc] 30)).heap.size = W1.heap.size + 1 := by simp
    generalize W1.alloc (.cells #[.int .i64 x.kind, .int .i64 x.op, .int .i64 x.ref, .int .i64 x.chain, .int .i64 x.flags, .float .f64 x.num, .slice x.sa x.sn x.sc, .string x.text, .slice x.ka x.kn x.kc, .slice x.pa x.pn x.pc, .slice x.qa x.qn x.qc, .slice x.fa x.fn x.fc, .slice x.ca x.cn x.cc] 30) = w1 at hD hDb hDs ⊢
    have d6 : w1.cell? ⟨W1.heap.size, 6, none⟩ = some (.slice x.sa x.sn x.sc) := blk_cell hD 6
    have d7 : w1.cell? ⟨W1.heap.size, 7, none⟩ = some (.string x.text) := blk_cell hD 7
    have d8 : w1.cell? ⟨W1.heap.size, 8, none⟩ = some (.slice x.ka x.kn x.kc) := blk_cell hD 8
    have d9 : w1.cell? ⟨W1.heap.size, 9, none⟩ = some (.slice x.pa x.pn x.pc) := blk_cell hD 9
    have d10 : w1.cell? ⟨W1.heap.size, 10, none⟩ = some (.slice x.qa x.qn x.qc) := blk_cell hD 10
    have HD := Lib.hid (⟨hD, hDb, hDs⟩ : _ ∧ _ ∧ _)
    clear hD hDb hDs
    go_cut [41] from 10 to 40 (fun v41 wd => ∃ b, v41 = .bool b ∧ Hid (b = false → Short x) ∧ wd = w1)
    case first =>
      by_cases c0 : lv = 0
      · have e0 : (lv == 0) = true := by first | exact decide_eq_true c0 | exact beq_iff_eq.mpr c0
        have HG := Lib.hid (show True from trivial)
        clear c0
        go_wp2_with (fail)
        go_meet
        case rel => exact ⟨_, rfl, Lib.hid (fun h => absurd h (by simp)), rfl⟩
      · have e0 : (lv == 0) = false := by first | exact decide_eq_false c0 | exact beq_eq_false_iff_ne.mpr c0
        by_cases c1 : (200 : Int) < (x.kn : Int)
        · have e1 : decide ((200 : Int) < (x.kn : Int)) = true := by first | exact decide_eq_true c1 | exact beq_iff_eq.mpr c1
          have HG := Lib.hid (show True from trivial)
          clear c0 c1
          go_wp2_with (fail)
          go_meet
          case rel => exact ⟨_, rfl, Lib.hid (fun h => absurd h (by simp)), rfl⟩
        · have e1 : decide ((200 : Int) < (x.kn : Int)) = false := by first | exact decide_eq_false c1 | exact beq_eq_false_iff_ne.mpr c1
          by_cases c2 : (200 : Int) < (x.pn : Int)
          · have e2 : decide ((200 : Int) < (x.pn : Int)) = true := by first | exact decide_eq_true c2 | exact beq_iff_eq.mpr c2
            have HG := Lib.hid (show True from trivial)
            clear c0 c1 c2
            go_wp2_with (fail)
            go_meet
            case rel => exact ⟨_, rfl, Lib.hid (fun h => absurd h (by simp)), rfl⟩
          · have e2 : decide ((200 : Int) < (x.pn : Int)) = false := by first | exact decide_eq_false c2 | exact beq_eq_false_iff_ne.mpr c2
            by_cases c3 : (200 : Int) < (x.qn : Int)
            · have e3 : decide ((200 : Int) < (x.qn : Int)) = true := by first | exact decide_eq_true c3 | exact beq_iff_eq.mpr c3
              have HG := Lib.hid (show True from trivial)
              clear c0 c1 c2 c3
              go_wp2_with (fail)
              go_meet
              case rel => exact ⟨_, rfl, Lib.hid (fun h => absurd h (by simp)), rfl⟩
            · have e3 : decide ((200 : Int) < (x.qn : Int)) = false := by first | exact decide_eq_false c3 | exact beq_eq_false_iff_ne.mpr c3
              by_cases c4 : (1000 : Int) < (x.sn : Int)
              · have e4 : decide ((1000 : Int) < (x.sn : Int)) = true := by first | exact decide_eq_true c4 | exact beq_iff_eq.mpr c4
                have HG := Lib.hid (show True from trivial)
                clear c0 c1 c2 c3 c4
                go_wp2_with (fail)
                go_meet
                case rel => exact ⟨_, rfl, Lib.hid (fun h => absurd h (by simp)), rfl⟩
              · have e4 : decide ((1000 : Int) < (x.sn : Int)) = false := by first | exact decide_eq_false c4 | exact beq_eq_false_iff_ne.mpr c4
                by_cases c5 : (1000 : Int) < (x.text.size : Int)
                · have e5 : decide ((1000 : Int) < (x.text.size : Int)) = true := by first | exact decide_eq_true c5 | exact beq_iff_eq.mpr c5
                  have HG := Lib.hid (show True from trivial)
                  clear c0 c1 c2 c3 c4 c5
                  go_wp2_with (fail)
                  go_meet
                  case rel => exact ⟨_, rfl, Lib.hid (fun h => absurd h (by simp)), rfl⟩
                · have e5 : decide ((1000 : Int) < (x.text.size : Int)) = false := by first | exact decide_eq_false c5 | exact beq_eq_false_iff_ne.mpr c5
                  have HG := Lib.hid (show Short x from ⟨hz, by omega, by omega, by omega, by omega, by omega⟩)
                  clear c0 c1 c2 c3 c4 c5
                  go_wp2_with (fail)
                  go_meet
                  case rel => exact ⟨_, rfl, Lib.hid (fun _ => HG.out), rfl⟩
    case rest =>
    obtain ⟨b1, rfl, HB1, rfl⟩ := hcut
    cases b1 with
    | true =>
      go_wp2_with (fail)
      go_ret
      exact ⟨false, rfl, fun h => by simp at h, HD.out.2.1⟩
    | false =>
      have SH := Lib.hid (HB1.out rfl)
      go_wp2_with (fail)
      go_loopw [5] (fun v5 wr => ∃ i : Nat, v5 = .int .i64 (i : Int) ∧ i ≤ x.kn ∧ Hid (Below wc.heap.size wc wr) ∧ Hid (rows W N 13 x.ka i x.kc (Ex C1 N W n))) (fun v5 _ => x.kn - (intOf v5).toNat)
      case atStart => exact ⟨0, rfl, Nat.zero_le _, Lib.hid (Below.refl _ _), Lib.hid (rows.nil HH.out.2.1.2.1)⟩
      case round =>
        obtain ⟨i, rfl, hi, HB, HR⟩ := hrel
        have hbb := bl2 HD.out.2.1 HB.out
        have hbi := bl H0.out hN hbb
        replace d8 := (HB.out.cell (World.block_lt_of_cell? _ _ d8)).trans d8
        replace d9 := (HB.out.cell (World.block_lt_of_cell? _ _ d9)).trans d9
        replace d10 := (HB.out.cell (World.block_lt_of_cell? _ _ d10)).trans d10
        have HBB := Lib.hid (⟨hbb, hbi⟩ : _ ∧ _)
        clear hbb hbi
        by_cases hlt : i < x.kn
        · have x0 : (0 : Int) ≤ (i : Int) := by omega
          have x1 : (i : Int) < (x.kn : Int) := by omega
          have wi : wrap64 ((i : Int) + 1) = ((i + 1 : Nat) : Int) := by unfold wrap64; omega
          obtain ⟨gk, ok, csk, eAk, hgk, _, hEk, hck, hstk⟩ := (HH.out.2.1).at hlt
          obtain ⟨y, rfl⟩ := hEk.cells
          have k0 := inp HBB.out.2 hgk (hck 0 _ rfl)
          rw [Nat.add_zero] at k0
          have k1 := inp HBB.out.2 hgk (hck 1 _ rfl)
          have k2 := inp HBB.out.2 hgk (hck 2 _ rfl)
          have k3 := inp HBB.out.2 hgk (hck 3 _ rfl)
          have k4 := inp HBB.out.2 hgk (hck 4 _ rfl)
          have k5 := inp HBB.out.2 hgk (hck 5 _ rfl)
          have k6 := inp HBB.out.2 hgk (hck 6 _ rfl)
          have k7 := inp HBB.out.2 hgk (hck 7 _ rfl)
          have k8 := inp HBB.out.2 hgk (hck 8 _ rfl)
          have k9 := inp HBB.out.2 hgk (hck 9 _ rfl)
          have k10 := inp HBB.out.2 hgk (hck 10 _ rfl)
          have k11 := inp HBB.out.2 hgk (hck 11 _ rfl)
          have k12 := inp HBB.out.2 hgk (hck 12 _ rfl)
          rw [eAk] at d8
          have HE := Lib.hid (⟨hEk, hstk, eAk⟩ : _ ∧ _ ∧ _)
          have HI := Lib.hid (⟨hlt, wi, hi⟩ : _ ∧ _ ∧ _)
          clear hck hEk hstk hi hlt wi eAk
          go_wp2_with (fail)
          refine (IH.out y N W _ _ HE.out.1 HBB.out.2 hN).mono ?_
          rintro e w2 ⟨b, rfl, hb, hbel⟩
          have HBE := Lib.hid (⟨hb, hbel⟩ : _ ∧ _)
          clear hb hbel
          cases b with
          | false =>
            go_wp2_with (fail)
            go_ret
            exact ⟨false, rfl, fun h => by simp at h, bl2 HBB.out.1 HBE.out.2⟩
          | true =>
            have wi := HI.out.2.1
            go_wp2_with (fail)
            refine ⟨⟨i + 1, rfl, HI.out.1, Lib.hid (bl2 HB.out HBE.out.2), Lib.hid (HE.out.2.1 _ (HBE.out.1 (by first | rfl | trivial)) HR.out)⟩, ?_⟩
            have := HI.out.1
            simp only [intOf]
            omega
        · obtain rfl : i = x.kn := by omega
          have hlt2 : ¬ ((x.kn : Int) < (x.kn : Int)) := by omega
          have HK := Lib.hid HR.out
          clear hlt hi HR
          go_wp2_with (fail)
          obtain ⟨wz, hwz⟩ : ∃ wz, wz = wr := ⟨_, rfl⟩
          subst hwz
          go_loopw [6] (fun v6 wq => ∃ i : Nat, v6 = .int .i64 (i : Int) ∧ i ≤ x.pn ∧ Hid (Below wz.heap.size wz wq) ∧ Hid (rows W N 4 x.pa i x.pc (PropR C1 N W n))) (fun v6 _ => x.pn - (intOf v6).toNat)
          case atStart => exact ⟨0, rfl, Nat.zero_le _, Lib.hid (Below.refl _ _), Lib.hid (rows.nil HH.out.2.2.1.2.1)⟩
          case round =>
            obtain ⟨i, rfl, hi, HC, HR⟩ := hrel
            have hbb := bl2 HBB.out.1 HC.out
            have hbi := bl H0.out hN hbb
            replace d8 := (HC.out.cell (World.block_lt_of_cell? _ _ d8)).trans d8
            replace d9 := (HC.out.cell (World.block_lt_of_cell? _ _ d9)).trans d9
            replace d10 := (HC.out.cell (World.block_lt_of_cell? _ _ d10)).trans d10
            by_cases hlt : i < x.pn
            · have x0 : (0 : Int) ≤ (i : Int) := by omega
              have x1 : (i : Int) < (x.pn : Int) := by omega
              have wi : wrap64 ((i : Int) + 1) = ((i + 1 : Nat) : Int) := by unfold wrap64; omega
              obtain ⟨gk, ok, csk, eAk, hgk, _, hEk, hck, hstk⟩ := (HH.out.2.2.1).at hlt
              obtain ⟨pk, pf, ka1, kn1, kc1, va1, vn1, vc1, rfl, _, hrk, hrv⟩ := hEk
              have k0 := inp hbi hgk (hck 0 _ rfl)
              rw [Nat.add_zero] at k0
              have k1 := inp hbi hgk (hck 1 _ rfl)
              have k2 := inp hbi hgk (hck 2 _ rfl)
              have k3 := inp hbi hgk (hck 3 _ rfl)
              rw [eAk] at d9
              have HE := Lib.hid (⟨hstk, eAk, hrk, hrv⟩ : _ ∧ _ ∧ _ ∧ _)
              have HI := Lib.hid (⟨hlt, wi, hi, hbb, hbi⟩ : _ ∧ _ ∧ _ ∧ _ ∧ _)
              clear hck hstk hi hlt wi eAk hrk hrv hbb hbi
              go_upto_region 12 with (fail)
              have hP := heap_alloc_new wr (.cells #[.int .i64 pk, .int .i64 pf, .slice ka1 kn1 kc1, .slice va1 vn1 vc1] 53)
              have hPb := (Below.refl wr.heap.size wr).alloc (Nat.le_refl _) (.cells #[.int .i64 pk, .int .i64 pf, .slice ka1 kn1 kc1, .slice va1 vn1 vc1] 53)
              generalize wr.alloc (.cells #[.int .i64 pk, .int .i64 pf, .slice ka1 kn1 kc1, .slice va1 vn1 vc1] 53) = wt at hP hPb ⊢
              have p2 : wt.cell? ⟨wr.heap.size, 2, none⟩ = some (.slice ka1 kn1 kc1) := blk_cell hP 2
              have p3 : wt.cell? ⟨wr.heap.size, 3, none⟩ = some (.slice va1 vn1 vc1) := blk_cell hP 3
              have hbt := bl2 HI.out.2.2.2.1 hPb
              have hbti := bl H0.out hN hbt
              have HT := Lib.hid (⟨hPb, hbt, hbti⟩ : _ ∧ _ ∧ _)
              clear hP hPb hbt hbti
              clear k0 k1 k2 k3 x0 x1
              by_cases c0 : 1 < kn1
              · have e0 : decide ((1 : Int) < (kn1 : Int)) = true := decide_eq_true (by omega)
                clear c0
                go_wp2_with (fail)
                go_ret
                exact ⟨false, rfl, fun h => by simp at h, HT.out.2.1⟩
              · have e0 : decide ((1 : Int) < (kn1 : Int)) = false := decide_eq_false (by omega)
                by_cases c1 : vn1 = 1
                · subst c1
                  obtain ⟨gv, ov, csv, eAv, hgv, _, hEv, hcv, hstv⟩ := (HE.out.2.2.2).at (show 0 < 1 from Nat.one_pos)
                  obtain ⟨y, rfl⟩ := hEv.cells
                  have v0 := inp HT.out.2.2 hgv (hcv 0 _ rfl)
                  rw [show ov + 0 * 13 + 0 = ov by omega] at v0
                  have v1 := inp HT.out.2.2 hgv (hcv 1 _ rfl)
                  rw [show ov + 0 * 13 + 1 = ov + 1 by omega] at v1
                  have v2 := inp HT.out.2.2 hgv (hcv 2 _ rfl)
                  rw [show ov + 0 * 13 + 2 = ov + 2 by omega] at v2
                  have v3 := inp HT.out.2.2 hgv (hcv 3 _ rfl)
                  rw [show ov + 0 * 13 + 3 = ov + 3 by omega] at v3
                  have v4 := inp HT.out.2.2 hgv (hcv 4 _ rfl)
                  rw [show ov + 0 * 13 + 4 = ov + 4 by omega] at v4
                  have v5 := inp HT.out.2.2 hgv (hcv 5 _ rfl)
                  rw [show ov + 0 * 13 + 5 = ov + 5 by omega] at v5
                  have v6 := inp HT.out.2.2 hgv (hcv 6 _ rfl)
                  rw [show ov + 0 * 13 + 6 = ov + 6 by omega] at v6
                  have v7 := inp HT.out.2.2 hgv (hcv 7 _ rfl)
                  rw [show ov + 0 * 13 + 7 = ov + 7 by omega] at v7
                  have v8 := inp HT.out.2.2 hgv (hcv 8 _ rfl)
                  rw [show ov + 0 * 13 + 8 = ov + 8 by omega] at v8
                  have v9 := inp HT.out.2.2 hgv (hcv 9 _ rfl)
                  rw [show ov + 0 * 13 + 9 = ov + 9 by omega] at v9
                  have v10 := inp HT.out.2.2 hgv (hcv 10 _ rfl)
                  rw [show ov + 0 * 13 + 10 = ov + 10 by omega] at v10
                  have v11 := inp HT.out.2.2 hgv (hcv 11 _ rfl)
                  rw [show ov + 0 * 13 + 11 = ov + 11 by omega] at v11
                  have v12 := inp HT.out.2.2 hgv (hcv 12 _ rfl)
                  rw [show ov + 0 * 13 + 12 = ov + 12 by omega] at v12
                  rw [eAv] at p3
                  have HV := Lib.hid (⟨hEv, hstv, eAv⟩ : _ ∧ _ ∧ _)
                  clear hEv hstv eAv hcv
                  obtain rfl | rfl : kn1 = 0 ∨ kn1 = 1 := by omega
                  · clear c0 e0
                    go_wp2_with (fail)
                    refine (IH.out y N W _ _ HV.out.1 HT.out.2.2 hN).mono ?_
                    rintro e w3 ⟨b, rfl, hb, hbel⟩
                    have H3 := Lib.hid (⟨hb, bl2 HT.out.2.1 hbel, hbel⟩ : _ ∧ _ ∧ _)
                    clear hb hbel
                    cases b with
                    | false =>
                      go_wp2_with (fail)
                      go_ret
                      exact ⟨false, rfl, fun h => by simp at h, H3.out.2.1⟩
                    | true =>
                      replace p2 := (H3.out.2.2.cell (World.block_lt_of_cell? _ _ p2)).trans p2
                      have wi := HI.out.2.1
                      go_wp2_with (fail)
                      refine ⟨⟨i + 1, (by first | rfl | rw [HI.out.2.1]), HI.out.1, Lib.hid (bl2 HC.out (bl2 HT.out.1 H3.out.2.2)), Lib.hid (HE.out.1 _ ⟨_, _, _, _, _, _, _, _, rfl, ⟨by decide, rfl⟩, rows.nil HE.out.2.2.1.2.1, HV.out.2.1 _ (H3.out.1 (by first | rfl | trivial)) (rows.nil HE.out.2.2.2.2.1)⟩ HR.out)⟩, ?_⟩
                      have := HI.out.1
                      first | rw [HI.out.2.1] | skip
                      simp only [intOf]
                      omega
                  · clear c0 e0
                    obtain ⟨gq, oq, csq, eAq, hgq, _, hEq, hcq, hstq⟩ := (HE.out.2.2.1).at (show 0 < 1 from Nat.one_pos)
                    obtain ⟨z, rfl⟩ := hEq.cells
                    have q0 := inp HT.out.2.2 hgq (hcq 0 _ rfl)
                    rw [show oq + 0 * 13 + 0 = oq by omega] at q0
                    have q1 := inp HT.out.2.2 hgq (hcq 1 _ rfl)
                    rw [show oq + 0 * 13 + 1 = oq + 1 by omega] at q1
                    have q2 := inp HT.out.2.2 hgq (hcq 2 _ rfl)
                    rw [show oq + 0 * 13 + 2 = oq + 2 by omega] at q2
                    have q3 := inp HT.out.2.2 hgq (hcq 3 _ rfl)
                    rw [show oq + 0 * 13 + 3 = oq + 3 by omega] at q3
                    have q4 := inp HT.out.2.2 hgq (hcq 4 _ rfl)
                    rw [show oq + 0 * 13 + 4 = oq + 4 by omega] at q4
                    have q5 := inp HT.out.2.2 hgq (hcq 5 _ rfl)
                    rw [show oq + 0 * 13 + 5 = oq + 5 by omega] at q5
                    have q6 := inp HT.out.2.2 hgq (hcq 6 _ rfl)
                    rw [show oq + 0 * 13 + 6 = oq + 6 by omega] at q6
                    have q7 := inp HT.out.2.2 hgq (hcq 7 _ rfl)
                    rw [show oq + 0 * 13 + 7 = oq + 7 by omega] at q7
                    have q8 := inp HT.out.2.2 hgq (hcq 8 _ rfl)
                    rw [show oq + 0 * 13 + 8 = oq + 8 by omega] at q8
                    have q9 := inp HT.out.2.2 hgq (hcq 9 _ rfl)
                    rw [show oq + 0 * 13 + 9 = oq + 9 by omega] at q9
                    have q10 := inp HT.out.2.2 hgq (hcq 10 _ rfl)
                    rw [show oq + 0 * 13 + 10 = oq + 10 by omega] at q10
                    have q11 := inp HT.out.2.2 hgq (hcq 11 _ rfl)
                    rw [show oq + 0 * 13 + 11 = oq + 11 by omega] at q11
                    have q12 := inp HT.out.2.2 hgq (hcq 12 _ rfl)
                    rw [show oq + 0 * 13 + 12 = oq + 12 by omega] at q12
                    rw [eAq] at p2
                    have HQ := Lib.hid (⟨hEq, hstq, eAq⟩ : _ ∧ _ ∧ _)
                    clear hEq hstq eAq hcq
                    go_wp2_with (fail)
                    refine (IH.out y N W _ _ HV.out.1 HT.out.2.2 hN).mono ?_
                    rintro e w3 ⟨b, rfl, hb, hbel⟩
                    have H3 := Lib.hid (⟨hb, bl2 HT.out.2.1 hbel, hbel⟩ : _ ∧ _ ∧ _)
                    clear hb hbel
                    cases b with
                    | false =>
                      go_wp2_with (fail)
                      go_ret
                      exact ⟨false, rfl, fun h => by simp at h, H3.out.2.1⟩
                    | true =>
                      replace p2 := (H3.out.2.2.cell (World.block_lt_of_cell? _ _ p2)).trans p2
                      replace q0 := (H3.out.2.2.cell (World.block_lt_of_cell? _ _ q0)).trans q0
                      replace q1 := (H3.out.2.2.cell (World.block_lt_of_cell? _ _ q1)).trans q1
                      replace q2 := (H3.out.2.2.cell (World.block_lt_of_cell? _ _ q2)).trans q2
                      replace q3 := (H3.out.2.2.cell (World.block_lt_of_cell? _ _ q3)).trans q3
                      replace q4 := (H3.out.2.2.cell (World.block_lt_of_cell? _ _ q4)).trans q4
                      replace q5 := (H3.out.2.2.cell (World.block_lt_of_cell? _ _ q5)).trans q5
                      replace q6 := (H3.out.2.2.cell (World.block_lt_of_cell? _ _ q6)).trans q6
                      replace q7 := (H3.out.2.2.cell (World.block_lt_of_cell? _ _ q7)).trans q7
                      replace q8 := (H3.out.2.2.cell (World.block_lt_of_cell? _ _ q8)).trans q8
                      replace q9 := (H3.out.2.2.cell (World.block_lt_of_cell? _ _ q9)).trans q9
                      replace q10 := (H3.out.2.2.cell (World.block_lt_of_cell? _ _ q10)).trans q10
                      replace q11 := (H3.out.2.2.cell (World.block_lt_of_cell? _ _ q11)).trans q11
                      replace q12 := (H3.out.2.2.cell (World.block_lt_of_cell? _ _ q12)).trans q12
                      go_wp2_with (fail)
                      refine (IH.out z N W _ _ HQ.out.1 (bl H0.out hN H3.out.2.1) hN).mono ?_
                      rintro e w4 ⟨b, rfl, hb, hbel⟩
                      have H4 := Lib.hid (⟨hb, bl2 H3.out.2.1 hbel, hbel⟩ : _ ∧ _ ∧ _)
                      clear hb hbel
                      cases b with
                      | false =>
                        go_wp2_with (fail)
                        go_ret
                        exact ⟨false, rfl, fun h => by simp at h, H4.out.2.1⟩
                      | true =>
                        have wi := HI.out.2.1
                        go_wp2_with (fail)
                        refine ⟨⟨i + 1, (by first | rfl | rw [HI.out.2.1]), HI.out.1, Lib.hid (bl2 HC.out (bl2 HT.out.1 (bl2 H3.out.2.2 H4.out.2.2))), Lib.hid (HE.out.1 _ ⟨_, _, _, _, _, _, _, _, rfl, ⟨by decide, rfl⟩, HQ.out.2.1 _ (H4.out.1 (by first | rfl | trivial)) (rows.nil HE.out.2.2.1.2.1), HV.out.2.1 _ (H3.out.1 (by first | rfl | trivial)) (rows.nil HE.out.2.2.2.2.1)⟩ HR.out)⟩, ?_⟩
                        have := HI.out.1
                        first | rw [HI.out.2.1] | skip
                        simp only [intOf]
                        omega
                · have e1 : ¬ ((vn1 : Int) = 1) := by omega
                  clear c0 c1
                  go_wp2_with (fail)
                  go_ret
                  exact ⟨false, rfl, fun h => by simp at h, HT.out.2.1⟩
            · obtain rfl : i = x.pn := by omega
              have hlt2 : ¬ ((x.pn : Int) < (x.pn : Int)) := by omega
              have HPP := Lib.hid HR.out
              have HCC := Lib.hid (⟨hbb, hbi⟩ : _ ∧ _)
              clear hlt hi HR hbb hbi
              go_wp2_with (fail)
              obtain ⟨wy, hwy⟩ : ∃ wy, wy = wr := ⟨_, rfl⟩
              subst hwy
              go_loopw [8] (fun v8 wq => ∃ i : Nat, v8 = .int .i64 (i : Int) ∧ i ≤ x.qn ∧ Hid (Below wy.heap.size wy wq) ∧ Hid (rows W N 3 x.qa i x.qc (PartR C1 N W n))) (fun v8 _ => x.qn - (intOf v8).toNat)
              case atStart => exact ⟨0, rfl, Nat.zero_le _, Lib.hid (Below.refl _ _), Lib.hid (rows.nil HH.out.2.2.2.2.1)⟩
              case round =>
                obtain ⟨i, rfl, hi, HQ, HR⟩ := hrel
                have hbb := bl2 HCC.out.1 HQ.out
                have hbi := bl H0.out hN hbb
                replace d10 := (HQ.out.cell (World.block_lt_of_cell? _ _ d10)).trans d10
                by_cases hlt : i < x.qn
                · have x0 : (0 : Int) ≤ (i : Int) := by omega
                  have x1 : (i : Int) < (x.qn : Int) := by omega
                  have wi : wrap64 ((i : Int) + 1) = ((i + 1 : Nat) : Int) := by unfold wrap64; omega
                  obtain ⟨gk, ok, csk, eAk, hgk, _, hEk, hck, hstk⟩ := (HH.out.2.2.2).at hlt
                  obtain ⟨va1, vn1, vc1, sa1, sn1, sc1, t1, rfl, _, hrv, hrs⟩ := hEk
                  have k0 := inp hbi hgk (hck 0 _ rfl)
                  rw [Nat.add_zero] at k0
                  have k1 := inp hbi hgk (hck 1 _ rfl)
                  have k2 := inp hbi hgk (hck 2 _ rfl)
                  rw [eAk] at d10
                  have HE := Lib.hid (⟨hstk, eAk, hrv, hrs⟩ : _ ∧ _ ∧ _ ∧ _)
                  have HI := Lib.hid (⟨hlt, wi, hi, hbb, hbi⟩ : _ ∧ _ ∧ _ ∧ _ ∧ _)
                  clear hck hstk hi hlt wi eAk hrs hrv hbb hbi
                  go_upto_region 18 with (fail)
                  have hP := heap_alloc_new wr (.cells #[.slice va1 vn1 vc1, .slice sa1 sn1 sc1, .string t1] 55)
                  have hPb := (Below.refl wr.heap.size wr).alloc (Nat.le_refl _) (.cells #[.slice va1 vn1 vc1, .slice sa1 sn1 sc1, .string t1] 55)
                  generalize wr.alloc (.cells #[.slice va1 vn1 vc1, .slice sa1 sn1 sc1, .string t1] 55) = wt at hP hPb ⊢
                  have p0 : wt.cell? ⟨wr.heap.size, 0, none⟩ = some (.slice va1 vn1 vc1) := blk_cell hP 0
                  have p1 : wt.cell? ⟨wr.heap.size, 1, none⟩ = some (.slice sa1 sn1 sc1) := blk_cell hP 1
                  have p2 : wt.cell? ⟨wr.heap.size, 2, none⟩ = some (.string t1) := blk_cell hP 2
                  have hbt := bl2 HI.out.2.2.2.1 hPb
                  have hbti := bl H0.out hN hbt
                  have HT := Lib.hid (⟨hPb, hbt, hbti⟩ : _ ∧ _ ∧ _)
                  clear hP hPb hbt hbti
                  clear k0 k1 k2 x0 x1
                  by_cases c0 : vn1 = 1
                  · subst c0
                    by_cases c1 : 1000 < sn1
                    · have e1 : decide ((1000 : Int) < (sn1 : Int)) = true := decide_eq_true (by omega)
                      clear c1
                      go_wp2_with (fail)
                      go_ret
                      exact ⟨false, rfl, fun h => by simp at h, HT.out.2.1⟩
                    · have e1 : decide ((1000 : Int) < (sn1 : Int)) = false := decide_eq_false (by omega)
                      have C1_ := Lib.hid c1
                      clear c1
                      by_cases c2 : 1000 < t1.size
                      · have e2 : decide ((1000 : Int) < (t1.size : Int)) = true := decide_eq_true (by omega)
                        clear c2
                        go_wp2_with (fail)
                        go_ret
                        exact ⟨false, rfl, fun h => by simp at h, HT.out.2.1⟩
                      · have e2 : decide ((1000 : Int) < (t1.size : Int)) = false := decide_eq_false (by omega)
                        clear c2
                        obtain ⟨gv, ov, csv, eAv, hgv, _, hEv, hcv, hstv⟩ := (HE.out.2.2.1).at (show 0 < 1 from Nat.one_pos)
                        obtain ⟨y, rfl⟩ := hEv.cells
                        have v0 := inp HT.out.2.2 hgv (hcv 0 _ rfl)
                        rw [show ov + 0 * 13 + 0 = ov by omega] at v0
                        have v1 := inp HT.out.2.2 hgv (hcv 1 _ rfl)
                        rw [show ov + 0 * 13 + 1 = ov + 1 by omega] at v1
                        have v2 := inp HT.out.2.2 hgv (hcv 2 _ rfl)
                        rw [show ov + 0 * 13 + 2 = ov + 2 by omega] at v2
                        have v3 := inp HT.out.2.2 hgv (hcv 3 _ rfl)
                        rw [show ov + 0 * 13 + 3 = ov + 3 by omega] at v3
                        have v4 := inp HT.out.2.2 hgv (hcv 4 _ rfl)
                        rw [show ov + 0 * 13 + 4 = ov + 4 by omega] at v4
                        have v5 := inp HT.out.2.2 hgv (hcv 5 _ rfl)
                        rw [show ov + 0 * 13 + 5 = ov + 5 by omega] at v5
                        have v6 := inp HT.out.2.2 hgv (hcv 6 _ rfl)
                        rw [show ov + 0 * 13 + 6 = ov + 6 by omega] at v6
                        have v7 := inp HT.out.2.2 hgv (hcv 7 _ rfl)
                        rw [show ov + 0 * 13 + 7 = ov + 7 by omega] at v7
                        have v8 := inp HT.out.2.2 hgv (hcv 8 _ rfl)
                        rw [show ov + 0 * 13 + 8 = ov + 8 by omega] at v8
                        have v9 := inp HT.out.2.2 hgv (hcv 9 _ rfl)
                        rw [show ov + 0 * 13 + 9 = ov + 9 by omega] at v9
                        have v10 := inp HT.out.2.2 hgv (hcv 10 _ rfl)
                        rw [show ov + 0 * 13 + 10 = ov + 10 by omega] at v10
                        have v11 := inp HT.out.2.2 hgv (hcv 11 _ rfl)
                        rw [show ov + 0 * 13 + 11 = ov + 11 by omega] at v11
                        have v12 := inp HT.out.2.2 hgv (hcv 12 _ rfl)
                        rw [show ov + 0 * 13 + 12 = ov + 12 by omega] at v12
                        rw [eAv] at p0
                        have HV := Lib.hid (⟨hEv, hstv, eAv⟩ : _ ∧ _ ∧ _)
                        clear hEv hstv eAv hcv
                        go_wp2_with (fail)
                        refine (IH.out y N W _ _ HV.out.1 HT.out.2.2 hN).mono ?_
                        rintro e w3 ⟨b, rfl, hb, hbel⟩
                        have H3 := Lib.hid (⟨hb, bl2 HT.out.2.1 hbel, hbel⟩ : _ ∧ _ ∧ _)
                        clear hb hbel
                        cases b with
                        | false =>
                          go_wp2_with (fail)
                          go_ret
                          exact ⟨false, rfl, fun h => by simp at h, H3.out.2.1⟩
                        | true =>
                          have wi := HI.out.2.1
                          go_wp2_with (fail)
                          refine ⟨⟨i + 1, (by first | rfl | rw [HI.out.2.1]), HI.out.1, Lib.hid (bl2 HQ.out (bl2 HT.out.1 H3.out.2.2)), Lib.hid (HE.out.1 _ ⟨_, _, _, _, _, _, _, rfl, ⟨rfl, Nat.not_lt.1 C1_.out⟩, HV.out.2.1 _ (H3.out.1 (by first | rfl | trivial)) (rows.nil HE.out.2.2.1.2.1), HE.out.2.2.2⟩ HR.out)⟩, ?_⟩
                          have := HI.out.1
                          first | rw [HI.out.2.1] | skip
                          simp only [intOf]
                          omega
                  · have e0 : ¬ ((vn1 : Int) = 1) := by omega
                    clear c0
                    go_wp2_with (fail)
                    go_ret
                    exact ⟨false, rfl, fun h => by simp at h, HT.out.2.1⟩
                · obtain rfl : i = x.qn := by omega
                  have hlt2 : ¬ ((x.qn : Int) < (x.qn : Int)) := by omega
                  clear hlt hi
                  go_wp2_with (fail)
                  go_ret
                  exact ⟨true, rfl, fun _ => Ex_x.2 ⟨SH.out, HH.out.1, HK.out, HPP.out, HR.out⟩, hbb⟩
end Go.Proofs.YtacokmkbikdmmaaGreatDoor.trees
