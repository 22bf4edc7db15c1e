/-
  spec.meanValid: an expression whose fields are right has as many parts as its kind asks, and so have those in it.
  Conditions: none.
-/
import Derived.Test.YtacokmkbikdmmaaGreatDoorListed
namespace Go.Proofs.YtacokmkbikdmmaaGreatDoor.trees
open Go Go.RowKit
set_option linter.unusedVariables false
set_option linter.unusedSimpArgs false

attribute [local go_sem] run_store_float
theorem kc_of {x : X} (h : Kn x) (p : Pr x) : Kc x := ⟨h.lo, h.hi, p.1, p.2.1, fun e => absurd e h.odd.2.1, h.unary, h.binary, h.test, h.dot, h.index, h.call, h.new, h.templ, fun e => absurd e h.odd.2.2, h.enum, p.2.2⟩
set_option maxHeartbeats 8000000 in
set_option maxRecDepth 100000 in
theorem meanValid : ∀ n, MV n := by
  intro n
  induction n using Nat.strongRecOn with
  | _ n ih =>
  intro x N W W1 h h0 hN
  cases n with
  | zero => exact h.elim
  | succ n =>
  have H0 := Lib.hid h0
  have EX := Lib.hid h
  obtain ⟨hsh, hs, hk, hp, hq⟩ := Ex_x.1 h
  have lk := hk.lt
  have lp := hp.lt
  have lq := hq.lt
  have HH := Lib.hid (⟨hs, hk, hp, hq⟩ : _ ∧ _ ∧ _ ∧ _)
  have SH := Lib.hid hsh
  have IH := Lib.hid ih
  clear h hsh hs hk hp hq ih h0
  go_enter Tryz.func16, Tryz.ntmps16
  go_upto_region 1 with (fail)
  have hD := heap_alloc_new W1 (.cells #[.int .i64 x.kind, .int .i64 x.op, .int .i64 x.ref, .int .i64 x.chain, .int .i64 x.flags, .float .f64 x.num, .slice x.sa x.sn x.sc, .string x.text, .slice x.ka x.kn x.kc, .slice x.pa x.pn x.pc, .slice x.qa x.qn x.qc, .slice x.fa x.fn x.fc, .slice x.ca x.cn x.cc] 30)
  have hDb := (Below.refl W1.heap.size W1).alloc (Nat.le_refl _) (.cells #[.int .i64 x.kind, .int .i64 x.op, .int .i64 x.ref, .int .i64 x.chain, .int .i64 x.flags, .float .f64 x.num, .slice x.sa x.sn x.sc, .string x.text, .slice x.ka x.kn x.kc, .slice x.pa x.pn x.pc, .slice x.qa x.qn x.qc, .slice x.fa x.fn x.fc, .slice x.ca x.cn x.cc] 30)
  have hDs : (W1.alloc (.cells #[.int .i64 x.kind, .int .i64 x.op, .int .i64 x.ref, .int .i64 x.chain, .int .i64 x.flags, .float .f64 x.num, .slice x.sa x.sn x.sc, .string x.text, .slice x.ka x.kn x.kc, .slice x.pa x.pn x.pc, .slice x.qa x.qn x.qc, .slice x.fa x.fn x.fc, .slice x.ca x.cn x.cc] 30)).heap.size = W1.heap.size + 1 := by simp
  generalize W1.alloc (.cells #[.int .i64 x.kind, .int .i64 x.op, .int .i64 x.ref, .int .i64 x.chain, .int .i64 x.flags, .float .f64 x.num, .slice x.sa x.sn x.sc, .string x.text, .slice x.ka x.kn x.kc, .slice x.pa x.pn x.pc, .slice x.qa x.qn x.qc, .slice x.fa x.fn x.fc, .slice x.ca x.cn x.cc] 30) = w1 at hD hDb hDs ⊢
  have d0 : w1.cell? ⟨W1.heap.size, 0, none⟩ = some (.int .i64 x.kind) := blk_cell hD 0
  have HD := Lib.hid (⟨hD, hDb, hDs⟩ : _ ∧ _ ∧ _)
  clear hD hDb hDs
  obtain ⟨r1, r2, r3, r4, hu⟩ := uses_some x.kind
  have HU := Lib.hid hu
  clear hu
  go_upto_region 2 with (go_at_call 25; refine (PFnChains.spec_uses.calls 5 _ _ _ _ _ _ HU.out).mono ?_; rintro e w2 ⟨rfl, hdr⟩)
  have hB := hdr.below
  clear hdr
  have HB := Lib.hid (⟨hB, bl2 HD.out.2.1 hB⟩ : _ ∧ _)
  clear hB d0
  generalize Value.agg #[.int .i64 x.kind, .int .i64 x.op, .int .i64 x.ref, .int .i64 x.chain, .int .i64 x.flags, .float .f64 x.num, .slice x.sa x.sn x.sc, .string x.text, .slice x.ka x.kn x.kc, .slice x.pa x.pn x.pc, .slice x.qa x.qn x.qc, .slice x.fa x.fn x.fc, .slice x.ca x.cn x.cc] = arg
  have d0 : w2.cell? ⟨W1.heap.size, 0, none⟩ = some (.int .i64 x.kind) := blk_cell ((HB.out.1.block _ (blk_lt HD.out.1)).trans HD.out.1) 0
  have d4 : w2.cell? ⟨W1.heap.size, 4, none⟩ = some (.int .i64 x.flags) := blk_cell ((HB.out.1.block _ (blk_lt HD.out.1)).trans HD.out.1) 4
  have d8 : w2.cell? ⟨W1.heap.size, 8, none⟩ = some (.slice x.ka x.kn x.kc) := blk_cell ((HB.out.1.block _ (blk_lt HD.out.1)).trans HD.out.1) 8
  go_cut [52] from 19 to 51 (fun v wd => ∃ b, v = .bool b ∧ Hid (b = false → 0 ≤ x.kind ∧ x.kind ≤ 26 ∧ r2 ≤ (x.kn : Int) ∧ (x.kn : Int) ≤ r3 ∧ bits .andNot .i64 x.flags r4 = 0 ∧ 0 ≤ x.flags) ∧ wd = w2)
  case first =>
    as_aux_lemma =>
      by_cases c0 : x.kind < 0
      · have e0 : decide (x.kind < 0) = true := by first | exact decide_eq_true c0 | exact beq_iff_eq.mpr c0 | exact bne_iff_ne.mpr c0
        clear c0
        go_wp2_with (fail)
        go_meet
        case rel => exact ⟨_, rfl, Lib.hid (fun h => absurd h (by simp)), rfl⟩
      · have e0 : decide (x.kind < 0) = false := by first | exact decide_eq_false c0 | exact beq_eq_false_iff_ne.mpr c0 | exact bne_eq_false_iff_eq.mpr (Decidable.not_not.1 c0)
        by_cases c1 : (27 : Int) ≤ x.kind
        · have e1 : decide ((27 : Int) ≤ x.kind) = true := by first | exact decide_eq_true c1 | exact beq_iff_eq.mpr c1 | exact bne_iff_ne.mpr c1
          clear c0 c1
          go_wp2_with (fail)
          go_meet
          case rel => exact ⟨_, rfl, Lib.hid (fun h => absurd h (by simp)), rfl⟩
        · have e1 : decide ((27 : Int) ≤ x.kind) = false := by first | exact decide_eq_false c1 | exact beq_eq_false_iff_ne.mpr c1 | exact bne_eq_false_iff_eq.mpr (Decidable.not_not.1 c1)
          by_cases c2 : (x.kn : Int) < r2
          · have e2 : decide ((x.kn : Int) < r2) = true := by first | exact decide_eq_true c2 | exact beq_iff_eq.mpr c2 | exact bne_iff_ne.mpr c2
            clear c0 c1 c2
            go_wp2_with (fail)
            go_meet
            case rel => exact ⟨_, rfl, Lib.hid (fun h => absurd h (by simp)), rfl⟩
          · have e2 : decide ((x.kn : Int) < r2) = false := by first | exact decide_eq_false c2 | exact beq_eq_false_iff_ne.mpr c2 | exact bne_eq_false_iff_eq.mpr (Decidable.not_not.1 c2)
            by_cases c3 : r3 < (x.kn : Int)
            · have e3 : decide (r3 < (x.kn : Int)) = true := by first | exact decide_eq_true c3 | exact beq_iff_eq.mpr c3 | exact bne_iff_ne.mpr c3
              clear c0 c1 c2 c3
              go_wp2_with (fail)
              go_meet
              case rel => exact ⟨_, rfl, Lib.hid (fun h => absurd h (by simp)), rfl⟩
            · have e3 : decide (r3 < (x.kn : Int)) = false := by first | exact decide_eq_false c3 | exact beq_eq_false_iff_ne.mpr c3 | exact bne_eq_false_iff_eq.mpr (Decidable.not_not.1 c3)
              by_cases c4 : bits .andNot .i64 x.flags r4 ≠ 0
              · have e4 : (bits .andNot .i64 x.flags r4 != 0) = true := by first | exact decide_eq_true c4 | exact beq_iff_eq.mpr c4 | exact bne_iff_ne.mpr c4
                clear c0 c1 c2 c3 c4
                go_wp2_with (fail)
                go_meet
                case rel => exact ⟨_, rfl, Lib.hid (fun h => absurd h (by simp)), rfl⟩
              · have e4 : (bits .andNot .i64 x.flags r4 != 0) = false := by first | exact decide_eq_false c4 | exact beq_eq_false_iff_ne.mpr c4 | exact bne_eq_false_iff_eq.mpr (Decidable.not_not.1 c4)
                by_cases c5 : x.flags < 0
                · have e5 : decide (x.flags < 0) = true := by first | exact decide_eq_true c5 | exact beq_iff_eq.mpr c5 | exact bne_iff_ne.mpr c5
                  clear c0 c1 c2 c3 c4 c5
                  go_wp2_with (fail)
                  go_meet
                  case rel => exact ⟨_, rfl, Lib.hid (fun h => absurd h (by simp)), rfl⟩
                · have e5 : decide (x.flags < 0) = false := by first | exact decide_eq_false c5 | exact beq_eq_false_iff_ne.mpr c5 | exact bne_eq_false_iff_eq.mpr (Decidable.not_not.1 c5)
                  have HG := Lib.hid (show 0 ≤ x.kind ∧ x.kind ≤ 26 ∧ r2 ≤ (x.kn : Int) ∧ (x.kn : Int) ≤ r3 ∧ bits .andNot .i64 x.flags r4 = 0 ∧ 0 ≤ x.flags from ⟨by omega, by omega, by omega, by omega, Decidable.not_not.1 c4, by omega⟩)
                  clear c0 c1 c2 c3 c4 c5
                  go_wp2_with (fail)
                  go_meet
                  case rel => exact ⟨_, rfl, Lib.hid (fun _ => HG.out), rfl⟩
  case rest =>
  obtain ⟨b1, rfl, FAh, hw⟩ := hcut
  have hw := hw.symm
  subst hw
  cases b1 with
  | true =>
    go_wp2_with (fail)
    go_ret
    exact ⟨false, rfl, fun h => by simp at h, HB.out.2⟩
  | false =>
    have FA := Lib.hid (FAh.out (by first | rfl | trivial))
    clear FAh
    clear d0 d4 d8
    go_upto_region 4 with (fail)
    have d1 : w2.cell? ⟨W1.heap.size, 1, none⟩ = some (.int .i64 x.op) := blk_cell ((HB.out.1.block _ (blk_lt HD.out.1)).trans HD.out.1) 1
    have d2 : w2.cell? ⟨W1.heap.size, 2, none⟩ = some (.int .i64 x.ref) := blk_cell ((HB.out.1.block _ (blk_lt HD.out.1)).trans HD.out.1) 2
    have d3 : w2.cell? ⟨W1.heap.size, 3, none⟩ = some (.int .i64 x.chain) := blk_cell ((HB.out.1.block _ (blk_lt HD.out.1)).trans HD.out.1) 3
    have d5 : w2.cell? ⟨W1.heap.size, 5, none⟩ = some (.float .f64 x.num) := blk_cell ((HB.out.1.block _ (blk_lt HD.out.1)).trans HD.out.1) 5
    go_cut [91] from 53 to 90 (fun v wd => ∃ b, v = .bool b ∧ Hid (b = false → (bits .and .i64 r1 1 = 0 → x.op = 0) ∧ (bits .and .i64 r1 2 = 0 → x.ref = 0) ∧ (bits .and .i64 r1 4 = 0 → x.chain = 0) ∧ (bits .and .i64 r1 8 = 0 → x.num = 0)) ∧ wd = w2)
    case first =>
      as_aux_lemma =>
        by_cases a0 : bits .and .i64 r1 1 = 0
        · have ea0 : (bits .and .i64 r1 1 == 0) = true := beq_iff_eq.mpr a0
          clear a0
          by_cases z0 : x.op = 0
          · have ez0 : (x.op != 0) = false := bne_eq_false_iff_eq.mpr z0
            have Z0 := Lib.hid (fun _ => z0 : bits .and .i64 r1 1 = 0 → x.op = 0)
            clear z0
            by_cases a1 : bits .and .i64 r1 2 = 0
            · have ea1 : (bits .and .i64 r1 2 == 0) = true := beq_iff_eq.mpr a1
              clear a1
              by_cases z1 : x.ref = 0
              · have ez1 : (x.ref != 0) = false := bne_eq_false_iff_eq.mpr z1
                have Z1 := Lib.hid (fun _ => z1 : bits .and .i64 r1 2 = 0 → x.ref = 0)
                clear z1
                by_cases a2 : bits .and .i64 r1 4 = 0
                · have ea2 : (bits .and .i64 r1 4 == 0) = true := beq_iff_eq.mpr a2
                  clear a2
                  by_cases z2 : x.chain = 0
                  · have ez2 : (x.chain != 0) = false := bne_eq_false_iff_eq.mpr z2
                    have Z2 := Lib.hid (fun _ => z2 : bits .and .i64 r1 4 = 0 → x.chain = 0)
                    clear z2
                    by_cases a3 : bits .and .i64 r1 8 = 0
                    · have ea3 : (bits .and .i64 r1 8 == 0) = true := beq_iff_eq.mpr a3
                      clear a3
                      go_wp2_with (fail)
                      refine (plainZero _ _).mono ?_
                      rintro e w3 ⟨r, rfl, rfl, hr⟩
                      have HRR := Lib.hid hr
                      clear hr
                      go_wp2_with (fail)
                      all_goals
                        go_meet
                        case rel => exact ⟨_, rfl, Lib.hid (fun h => ⟨Z0.out, Z1.out, Z2.out, fun _ => HRR.out.1 (by simpa using h)⟩), rfl⟩
                    · have ea3 : (bits .and .i64 r1 8 == 0) = false := beq_eq_false_iff_ne.mpr a3
                      have Z3 := Lib.hid a3
                      clear a3
                      go_wp2_with (fail)
                      go_meet
                      case rel => exact ⟨_, rfl, Lib.hid (fun _ => ⟨Z0.out, Z1.out, Z2.out, fun h => absurd h Z3.out⟩), rfl⟩
                  · have ez2 : (x.chain != 0) = true := bne_iff_ne.mpr z2
                    clear z2
                    go_wp2_with (fail)
                    go_meet
                    case rel => exact ⟨_, rfl, Lib.hid (fun h => absurd h (by simp)), rfl⟩
                · have ea2 : (bits .and .i64 r1 4 == 0) = false := beq_eq_false_iff_ne.mpr a2
                  have Z2 := Lib.hid (fun h => absurd h a2 : bits .and .i64 r1 4 = 0 → x.chain = 0)
                  clear a2
                  by_cases a3 : bits .and .i64 r1 8 = 0
                  · have ea3 : (bits .and .i64 r1 8 == 0) = true := beq_iff_eq.mpr a3
                    clear a3
                    go_wp2_with (fail)
                    refine (plainZero _ _).mono ?_
                    rintro e w3 ⟨r, rfl, rfl, hr⟩
                    have HRR := Lib.hid hr
                    clear hr
                    go_wp2_with (fail)
                    all_goals
                      go_meet
                      case rel => exact ⟨_, rfl, Lib.hid (fun h => ⟨Z0.out, Z1.out, Z2.out, fun _ => HRR.out.1 (by simpa using h)⟩), rfl⟩
                  · have ea3 : (bits .and .i64 r1 8 == 0) = false := beq_eq_false_iff_ne.mpr a3
                    have Z3 := Lib.hid a3
                    clear a3
                    go_wp2_with (fail)
                    go_meet
                    case rel => exact ⟨_, rfl, Lib.hid (fun _ => ⟨Z0.out, Z1.out, Z2.out, fun h => absurd h Z3.out⟩), rfl⟩
              · have ez1 : (x.ref != 0) = true := bne_iff_ne.mpr z1
                clear z1
                go_wp2_with (fail)
                go_meet
                case rel => exact ⟨_, rfl, Lib.hid (fun h => absurd h (by simp)), rfl⟩
            · have ea1 : (bits .and .i64 r1 2 == 0) = false := beq_eq_false_iff_ne.mpr a1
              have Z1 := Lib.hid (fun h => absurd h a1 : bits .and .i64 r1 2 = 0 → x.ref = 0)
              clear a1
              by_cases a2 : bits .and .i64 r1 4 = 0
              · have ea2 : (bits .and .i64 r1 4 == 0) = true := beq_iff_eq.mpr a2
                clear a2
                by_cases z2 : x.chain = 0
                · have ez2 : (x.chain != 0) = false := bne_eq_false_iff_eq.mpr z2
                  have Z2 := Lib.hid (fun _ => z2 : bits .and .i64 r1 4 = 0 → x.chain = 0)
                  clear z2
                  by_cases a3 : bits .and .i64 r1 8 = 0
                  · have ea3 : (bits .and .i64 r1 8 == 0) = true := beq_iff_eq.mpr a3
                    clear a3
                    go_wp2_with (fail)
                    refine (plainZero _ _).mono ?_
                    rintro e w3 ⟨r, rfl, rfl, hr⟩
                    have HRR := Lib.hid hr
                    clear hr
                    go_wp2_with (fail)
                    all_goals
                      go_meet
                      case rel => exact ⟨_, rfl, Lib.hid (fun h => ⟨Z0.out, Z1.out, Z2.out, fun _ => HRR.out.1 (by simpa using h)⟩), rfl⟩
                  · have ea3 : (bits .and .i64 r1 8 == 0) = false := beq_eq_false_iff_ne.mpr a3
                    have Z3 := Lib.hid a3
                    clear a3
                    go_wp2_with (fail)
                    go_meet
                    case rel => exact ⟨_, rfl, Lib.hid (fun _ => ⟨Z0.out, Z1.out, Z2.out, fun h => absurd h Z3.out⟩), rfl⟩
                · have ez2 : (x.chain != 0) = true := bne_iff_ne.mpr z2
                  clear z2
                  go_wp2_with (fail)
                  go_meet
                  case rel => exact ⟨_, rfl, Lib.hid (fun h => absurd h (by simp)), rfl⟩
              · have ea2 : (bits .and .i64 r1 4 == 0) = false := beq_eq_false_iff_ne.mpr a2
                have Z2 := Lib.hid (fun h => absurd h a2 : bits .and .i64 r1 4 = 0 → x.chain = 0)
                clear a2
                by_cases a3 : bits .and .i64 r1 8 = 0
                · have ea3 : (bits .and .i64 r1 8 == 0) = true := beq_iff_eq.mpr a3
                  clear a3
                  go_wp2_with (fail)
                  refine (plainZero _ _).mono ?_
                  rintro e w3 ⟨r, rfl, rfl, hr⟩
                  have HRR := Lib.hid hr
                  clear hr
                  go_wp2_with (fail)
                  all_goals
                    go_meet
                    case rel => exact ⟨_, rfl, Lib.hid (fun h => ⟨Z0.out, Z1.out, Z2.out, fun _ => HRR.out.1 (by simpa using h)⟩), rfl⟩
                · have ea3 : (bits .and .i64 r1 8 == 0) = false := beq_eq_false_iff_ne.mpr a3
                  have Z3 := Lib.hid a3
                  clear a3
                  go_wp2_with (fail)
                  go_meet
                  case rel => exact ⟨_, rfl, Lib.hid (fun _ => ⟨Z0.out, Z1.out, Z2.out, fun h => absurd h Z3.out⟩), rfl⟩
          · have ez0 : (x.op != 0) = true := bne_iff_ne.mpr z0
            clear z0
            go_wp2_with (fail)
            go_meet
            case rel => exact ⟨_, rfl, Lib.hid (fun h => absurd h (by simp)), rfl⟩
        · have ea0 : (bits .and .i64 r1 1 == 0) = false := beq_eq_false_iff_ne.mpr a0
          have Z0 := Lib.hid (fun h => absurd h a0 : bits .and .i64 r1 1 = 0 → x.op = 0)
          clear a0
          by_cases a1 : bits .and .i64 r1 2 = 0
          · have ea1 : (bits .and .i64 r1 2 == 0) = true := beq_iff_eq.mpr a1
            clear a1
            by_cases z1 : x.ref = 0
            · have ez1 : (x.ref != 0) = false := bne_eq_false_iff_eq.mpr z1
              have Z1 := Lib.hid (fun _ => z1 : bits .and .i64 r1 2 = 0 → x.ref = 0)
              clear z1
              by_cases a2 : bits .and .i64 r1 4 = 0
              · have ea2 : (bits .and .i64 r1 4 == 0) = true := beq_iff_eq.mpr a2
                clear a2
                by_cases z2 : x.chain = 0
                · have ez2 : (x.chain != 0) = false := bne_eq_false_iff_eq.mpr z2
                  have Z2 := Lib.hid (fun _ => z2 : bits .and .i64 r1 4 = 0 → x.chain = 0)
                  clear z2
                  by_cases a3 : bits .and .i64 r1 8 = 0
                  · have ea3 : (bits .and .i64 r1 8 == 0) = true := beq_iff_eq.mpr a3
                    clear a3
                    go_wp2_with (fail)
                    refine (plainZero _ _).mono ?_
                    rintro e w3 ⟨r, rfl, rfl, hr⟩
                    have HRR := Lib.hid hr
                    clear hr
                    go_wp2_with (fail)
                    all_goals
                      go_meet
                      case rel => exact ⟨_, rfl, Lib.hid (fun h => ⟨Z0.out, Z1.out, Z2.out, fun _ => HRR.out.1 (by simpa using h)⟩), rfl⟩
                  · have ea3 : (bits .and .i64 r1 8 == 0) = false := beq_eq_false_iff_ne.mpr a3
                    have Z3 := Lib.hid a3
                    clear a3
                    go_wp2_with (fail)
                    go_meet
                    case rel => exact ⟨_, rfl, Lib.hid (fun _ => ⟨Z0.out, Z1.out, Z2.out, fun h => absurd h Z3.out⟩), rfl⟩
                · have ez2 : (x.chain != 0) = true := bne_iff_ne.mpr z2
                  clear z2
                  go_wp2_with (fail)
                  go_meet
                  case rel => exact ⟨_, rfl, Lib.hid (fun h => absurd h (by simp)), rfl⟩
              · have ea2 : (bits .and .i64 r1 4 == 0) = false := beq_eq_false_iff_ne.mpr a2
                have Z2 := Lib.hid (fun h => absurd h a2 : bits .and .i64 r1 4 = 0 → x.chain = 0)
                clear a2
                by_cases a3 : bits .and .i64 r1 8 = 0
                · have ea3 : (bits .and .i64 r1 8 == 0) = true := beq_iff_eq.mpr a3
                  clear a3
                  go_wp2_with (fail)
                  refine (plainZero _ _).mono ?_
                  rintro e w3 ⟨r, rfl, rfl, hr⟩
                  have HRR := Lib.hid hr
                  clear hr
                  go_wp2_with (fail)
                  all_goals
                    go_meet
                    case rel => exact ⟨_, rfl, Lib.hid (fun h => ⟨Z0.out, Z1.out, Z2.out, fun _ => HRR.out.1 (by simpa using h)⟩), rfl⟩
                · have ea3 : (bits .and .i64 r1 8 == 0) = false := beq_eq_false_iff_ne.mpr a3
                  have Z3 := Lib.hid a3
                  clear a3
                  go_wp2_with (fail)
                  go_meet
                  case rel => exact ⟨_, rfl, Lib.hid (fun _ => ⟨Z0.out, Z1.out, Z2.out, fun h => absurd h Z3.out⟩), rfl⟩
            · have ez1 : (x.ref != 0) = true := bne_iff_ne.mpr z1
              clear z1
              go_wp2_with (fail)
              go_meet
              case rel => exact ⟨_, rfl, Lib.hid (fun h => absurd h (by simp)), rfl⟩
          · have ea1 : (bits .and .i64 r1 2 == 0) = false := beq_eq_false_iff_ne.mpr a1
            have Z1 := Lib.hid (fun h => absurd h a1 : bits .and .i64 r1 2 = 0 → x.ref = 0)
            clear a1
            by_cases a2 : bits .and .i64 r1 4 = 0
            · have ea2 : (bits .and .i64 r1 4 == 0) = true := beq_iff_eq.mpr a2
              clear a2
              by_cases z2 : x.chain = 0
              · have ez2 : (x.chain != 0) = false := bne_eq_false_iff_eq.mpr z2
                have Z2 := Lib.hid (fun _ => z2 : bits .and .i64 r1 4 = 0 → x.chain = 0)
                clear z2
                by_cases a3 : bits .and .i64 r1 8 = 0
                · have ea3 : (bits .and .i64 r1 8 == 0) = true := beq_iff_eq.mpr a3
                  clear a3
                  go_wp2_with (fail)
                  refine (plainZero _ _).mono ?_
                  rintro e w3 ⟨r, rfl, rfl, hr⟩
                  have HRR := Lib.hid hr
                  clear hr
                  go_wp2_with (fail)
                  all_goals
                    go_meet
                    case rel => exact ⟨_, rfl, Lib.hid (fun h => ⟨Z0.out, Z1.out, Z2.out, fun _ => HRR.out.1 (by simpa using h)⟩), rfl⟩
                · have ea3 : (bits .and .i64 r1 8 == 0) = false := beq_eq_false_iff_ne.mpr a3
                  have Z3 := Lib.hid a3
                  clear a3
                  go_wp2_with (fail)
                  go_meet
                  case rel => exact ⟨_, rfl, Lib.hid (fun _ => ⟨Z0.out, Z1.out, Z2.out, fun h => absurd h Z3.out⟩), rfl⟩
              · have ez2 : (x.chain != 0) = true := bne_iff_ne.mpr z2
                clear z2
                go_wp2_with (fail)
                go_meet
                case rel => exact ⟨_, rfl, Lib.hid (fun h => absurd h (by simp)), rfl⟩
            · have ea2 : (bits .and .i64 r1 4 == 0) = false := beq_eq_false_iff_ne.mpr a2
              have Z2 := Lib.hid (fun h => absurd h a2 : bits .and .i64 r1 4 = 0 → x.chain = 0)
              clear a2
              by_cases a3 : bits .and .i64 r1 8 = 0
              · have ea3 : (bits .and .i64 r1 8 == 0) = true := beq_iff_eq.mpr a3
                clear a3
                go_wp2_with (fail)
                refine (plainZero _ _).mono ?_
                rintro e w3 ⟨r, rfl, rfl, hr⟩
                have HRR := Lib.hid hr
                clear hr
                go_wp2_with (fail)
                all_goals
                  go_meet
                  case rel => exact ⟨_, rfl, Lib.hid (fun h => ⟨Z0.out, Z1.out, Z2.out, fun _ => HRR.out.1 (by simpa using h)⟩), rfl⟩
              · have ea3 : (bits .and .i64 r1 8 == 0) = false := beq_eq_false_iff_ne.mpr a3
                have Z3 := Lib.hid a3
                clear a3
                go_wp2_with (fail)
                go_meet
                case rel => exact ⟨_, rfl, Lib.hid (fun _ => ⟨Z0.out, Z1.out, Z2.out, fun h => absurd h Z3.out⟩), rfl⟩
    case rest =>
    obtain ⟨b1, rfl, FBh, hw⟩ := hcut
    have hw := hw.symm
    subst hw
    cases b1 with
    | true =>
      go_wp2_with (fail)
      go_ret
      exact ⟨false, rfl, fun h => by simp at h, HB.out.2⟩
    | false =>
      have FB := Lib.hid (FBh.out (by first | rfl | trivial))
      clear FBh
      clear d1 d2 d3 d5
      go_upto_region 6 with (fail)
      have d6 : w2.cell? ⟨W1.heap.size, 6, none⟩ = some (.slice x.sa x.sn x.sc) := blk_cell ((HB.out.1.block _ (blk_lt HD.out.1)).trans HD.out.1) 6
      have d7 : w2.cell? ⟨W1.heap.size, 7, none⟩ = some (.string x.text) := blk_cell ((HB.out.1.block _ (blk_lt HD.out.1)).trans HD.out.1) 7
      have d9 : w2.cell? ⟨W1.heap.size, 9, none⟩ = some (.slice x.pa x.pn x.pc) := blk_cell ((HB.out.1.block _ (blk_lt HD.out.1)).trans HD.out.1) 9
      have d10 : w2.cell? ⟨W1.heap.size, 10, none⟩ = some (.slice x.qa x.qn x.qc) := blk_cell ((HB.out.1.block _ (blk_lt HD.out.1)).trans HD.out.1) 10
      go_cut [132] from 92 to 131 (fun v wd => ∃ b, v = .bool b ∧ Hid (b = false → (bits .and .i64 r1 16 = 0 → x.sn = 0) ∧ (bits .and .i64 r1 32 = 0 → x.text.toList.isEmpty = true) ∧ (bits .and .i64 r1 64 = 0 → x.pn = 0) ∧ (bits .and .i64 r1 128 = 0 → x.qn = 0)) ∧ wd = w2)
      case first =>
        as_aux_lemma =>
          by_cases a0 : bits .and .i64 r1 16 = 0
          · have ea0 : (bits .and .i64 r1 16 == 0) = true := beq_iff_eq.mpr a0
            clear a0
            by_cases z0 : x.sn = 0
            · have ez0 : True := trivial
              rw [z0] at d6
              have Z0 := Lib.hid (fun _ => z0 : bits .and .i64 r1 16 = 0 → x.sn = 0)
              clear z0
              by_cases a1 : bits .and .i64 r1 32 = 0
              · have ea1 : (bits .and .i64 r1 32 == 0) = true := beq_iff_eq.mpr a1
                clear a1
                by_cases z1 : x.text.toList.isEmpty = true
                · have ez1 : (!x.text.toList.isEmpty) = false := by rw [z1]; rfl
                  have Z1 := Lib.hid (fun _ => z1 : bits .and .i64 r1 32 = 0 → x.text.toList.isEmpty = true)
                  clear z1
                  by_cases a2 : bits .and .i64 r1 64 = 0
                  · have ea2 : (bits .and .i64 r1 64 == 0) = true := beq_iff_eq.mpr a2
                    clear a2
                    by_cases z2 : x.pn = 0
                    · have ez2 : True := trivial
                      rw [z2] at d9
                      have Z2 := Lib.hid (fun _ => z2 : bits .and .i64 r1 64 = 0 → x.pn = 0)
                      clear z2
                      by_cases a3 : bits .and .i64 r1 128 = 0
                      · have ea3 : (bits .and .i64 r1 128 == 0) = true := beq_iff_eq.mpr a3
                        clear a3
                        by_cases z3 : x.qn = 0
                        · have ez3 : True := trivial
                          rw [z3] at d10
                          have Z3 := Lib.hid (fun _ => z3 : bits .and .i64 r1 128 = 0 → x.qn = 0)
                          clear z3
                          go_wp2_with (fail)
                          go_meet
                          case rel => exact ⟨_, rfl, Lib.hid (fun _ => ⟨Z0.out, Z1.out, Z2.out, Z3.out⟩), rfl⟩
                        · have ez3 : ¬ x.qn = 0 ∧ 0 < x.qn := ⟨z3, by omega⟩
                          obtain ⟨ey3, ez3⟩ := ez3
                          clear z3
                          go_wp2_with (fail)
                          go_meet
                          case rel => exact ⟨_, rfl, Lib.hid (fun h => absurd h (by simp)), rfl⟩
                      · have ea3 : (bits .and .i64 r1 128 == 0) = false := beq_eq_false_iff_ne.mpr a3
                        have Z3 := Lib.hid (fun h => absurd h a3 : bits .and .i64 r1 128 = 0 → x.qn = 0)
                        clear a3
                        go_wp2_with (fail)
                        go_meet
                        case rel => exact ⟨_, rfl, Lib.hid (fun _ => ⟨Z0.out, Z1.out, Z2.out, Z3.out⟩), rfl⟩
                    · have ez2 : ¬ x.pn = 0 ∧ 0 < x.pn := ⟨z2, by omega⟩
                      obtain ⟨ey2, ez2⟩ := ez2
                      clear z2
                      go_wp2_with (fail)
                      go_meet
                      case rel => exact ⟨_, rfl, Lib.hid (fun h => absurd h (by simp)), rfl⟩
                  · have ea2 : (bits .and .i64 r1 64 == 0) = false := beq_eq_false_iff_ne.mpr a2
                    have Z2 := Lib.hid (fun h => absurd h a2 : bits .and .i64 r1 64 = 0 → x.pn = 0)
                    clear a2
                    by_cases a3 : bits .and .i64 r1 128 = 0
                    · have ea3 : (bits .and .i64 r1 128 == 0) = true := beq_iff_eq.mpr a3
                      clear a3
                      by_cases z3 : x.qn = 0
                      · have ez3 : True := trivial
                        rw [z3] at d10
                        have Z3 := Lib.hid (fun _ => z3 : bits .and .i64 r1 128 = 0 → x.qn = 0)
                        clear z3
                        go_wp2_with (fail)
                        go_meet
                        case rel => exact ⟨_, rfl, Lib.hid (fun _ => ⟨Z0.out, Z1.out, Z2.out, Z3.out⟩), rfl⟩
                      · have ez3 : ¬ x.qn = 0 ∧ 0 < x.qn := ⟨z3, by omega⟩
                        obtain ⟨ey3, ez3⟩ := ez3
                        clear z3
                        go_wp2_with (fail)
                        go_meet
                        case rel => exact ⟨_, rfl, Lib.hid (fun h => absurd h (by simp)), rfl⟩
                    · have ea3 : (bits .and .i64 r1 128 == 0) = false := beq_eq_false_iff_ne.mpr a3
                      have Z3 := Lib.hid (fun h => absurd h a3 : bits .and .i64 r1 128 = 0 → x.qn = 0)
                      clear a3
                      go_wp2_with (fail)
                      go_meet
                      case rel => exact ⟨_, rfl, Lib.hid (fun _ => ⟨Z0.out, Z1.out, Z2.out, Z3.out⟩), rfl⟩
                · have ez1 : (!x.text.toList.isEmpty) = true := by simpa using z1
                  clear z1
                  go_wp2_with (fail)
                  go_meet
                  case rel => exact ⟨_, rfl, Lib.hid (fun h => absurd h (by simp)), rfl⟩
              · have ea1 : (bits .and .i64 r1 32 == 0) = false := beq_eq_false_iff_ne.mpr a1
                have Z1 := Lib.hid (fun h => absurd h a1 : bits .and .i64 r1 32 = 0 → x.text.toList.isEmpty = true)
                clear a1
                by_cases a2 : bits .and .i64 r1 64 = 0
                · have ea2 : (bits .and .i64 r1 64 == 0) = true := beq_iff_eq.mpr a2
                  clear a2
                  by_cases z2 : x.pn = 0
                  · have ez2 : True := trivial
                    rw [z2] at d9
                    have Z2 := Lib.hid (fun _ => z2 : bits .and .i64 r1 64 = 0 → x.pn = 0)
                    clear z2
                    by_cases a3 : bits .and .i64 r1 128 = 0
                    · have ea3 : (bits .and .i64 r1 128 == 0) = true := beq_iff_eq.mpr a3
                      clear a3
                      by_cases z3 : x.qn = 0
                      · have ez3 : True := trivial
                        rw [z3] at d10
                        have Z3 := Lib.hid (fun _ => z3 : bits .and .i64 r1 128 = 0 → x.qn = 0)
                        clear z3
                        go_wp2_with (fail)
                        go_meet
                        case rel => exact ⟨_, rfl, Lib.hid (fun _ => ⟨Z0.out, Z1.out, Z2.out, Z3.out⟩), rfl⟩
                      · have ez3 : ¬ x.qn = 0 ∧ 0 < x.qn := ⟨z3, by omega⟩
                        obtain ⟨ey3, ez3⟩ := ez3
                        clear z3
                        go_wp2_with (fail)
                        go_meet
                        case rel => exact ⟨_, rfl, Lib.hid (fun h => absurd h (by simp)), rfl⟩
                    · have ea3 : (bits .and .i64 r1 128 == 0) = false := beq_eq_false_iff_ne.mpr a3
                      have Z3 := Lib.hid (fun h => absurd h a3 : bits .and .i64 r1 128 = 0 → x.qn = 0)
                      clear a3
                      go_wp2_with (fail)
                      go_meet
                      case rel => exact ⟨_, rfl, Lib.hid (fun _ => ⟨Z0.out, Z1.out, Z2.out, Z3.out⟩), rfl⟩
                  · have ez2 : ¬ x.pn = 0 ∧ 0 < x.pn := ⟨z2, by omega⟩
                    obtain ⟨ey2, ez2⟩ := ez2
                    clear z2
                    go_wp2_with (fail)
                    go_meet
                    case rel => exact ⟨_, rfl, Lib.hid (fun h => absurd h (by simp)), rfl⟩
                · have ea2 : (bits .and .i64 r1 64 == 0) = false := beq_eq_false_iff_ne.mpr a2
                  have Z2 := Lib.hid (fun h => absurd h a2 : bits .and .i64 r1 64 = 0 → x.pn = 0)
                  clear a2
                  by_cases a3 : bits .and .i64 r1 128 = 0
                  · have ea3 : (bits .and .i64 r1 128 == 0) = true := beq_iff_eq.mpr a3
                    clear a3
                    by_cases z3 : x.qn = 0
                    · have ez3 : True := trivial
                      rw [z3] at d10
                      have Z3 := Lib.hid (fun _ => z3 : bits .and .i64 r1 128 = 0 → x.qn = 0)
                      clear z3
                      go_wp2_with (fail)
                      go_meet
                      case rel => exact ⟨_, rfl, Lib.hid (fun _ => ⟨Z0.out, Z1.out, Z2.out, Z3.out⟩), rfl⟩
                    · have ez3 : ¬ x.qn = 0 ∧ 0 < x.qn := ⟨z3, by omega⟩
                      obtain ⟨ey3, ez3⟩ := ez3
                      clear z3
                      go_wp2_with (fail)
                      go_meet
                      case rel => exact ⟨_, rfl, Lib.hid (fun h => absurd h (by simp)), rfl⟩
                  · have ea3 : (bits .and .i64 r1 128 == 0) = false := beq_eq_false_iff_ne.mpr a3
                    have Z3 := Lib.hid (fun h => absurd h a3 : bits .and .i64 r1 128 = 0 → x.qn = 0)
                    clear a3
                    go_wp2_with (fail)
                    go_meet
                    case rel => exact ⟨_, rfl, Lib.hid (fun _ => ⟨Z0.out, Z1.out, Z2.out, Z3.out⟩), rfl⟩
            · have ez0 : ¬ x.sn = 0 ∧ 0 < x.sn := ⟨z0, by omega⟩
              obtain ⟨ey0, ez0⟩ := ez0
              clear z0
              go_wp2_with (fail)
              go_meet
              case rel => exact ⟨_, rfl, Lib.hid (fun h => absurd h (by simp)), rfl⟩
          · have ea0 : (bits .and .i64 r1 16 == 0) = false := beq_eq_false_iff_ne.mpr a0
            have Z0 := Lib.hid (fun h => absurd h a0 : bits .and .i64 r1 16 = 0 → x.sn = 0)
            clear a0
            by_cases a1 : bits .and .i64 r1 32 = 0
            · have ea1 : (bits .and .i64 r1 32 == 0) = true := beq_iff_eq.mpr a1
              clear a1
              by_cases z1 : x.text.toList.isEmpty = true
              · have ez1 : (!x.text.toList.isEmpty) = false := by rw [z1]; rfl
                have Z1 := Lib.hid (fun _ => z1 : bits .and .i64 r1 32 = 0 → x.text.toList.isEmpty = true)
                clear z1
                by_cases a2 : bits .and .i64 r1 64 = 0
                · have ea2 : (bits .and .i64 r1 64 == 0) = true := beq_iff_eq.mpr a2
                  clear a2
                  by_cases z2 : x.pn = 0
                  · have ez2 : True := trivial
                    rw [z2] at d9
                    have Z2 := Lib.hid (fun _ => z2 : bits .and .i64 r1 64 = 0 → x.pn = 0)
                    clear z2
                    by_cases a3 : bits .and .i64 r1 128 = 0
                    · have ea3 : (bits .and .i64 r1 128 == 0) = true := beq_iff_eq.mpr a3
                      clear a3
                      by_cases z3 : x.qn = 0
                      · have ez3 : True := trivial
                        rw [z3] at d10
                        have Z3 := Lib.hid (fun _ => z3 : bits .and .i64 r1 128 = 0 → x.qn = 0)
                        clear z3
                        go_wp2_with (fail)
                        go_meet
                        case rel => exact ⟨_, rfl, Lib.hid (fun _ => ⟨Z0.out, Z1.out, Z2.out, Z3.out⟩), rfl⟩
                      · have ez3 : ¬ x.qn = 0 ∧ 0 < x.qn := ⟨z3, by omega⟩
                        obtain ⟨ey3, ez3⟩ := ez3
                        clear z3
                        go_wp2_with (fail)
                        go_meet
                        case rel => exact ⟨_, rfl, Lib.hid (fun h => absurd h (by simp)), rfl⟩
                    · have ea3 : (bits .and .i64 r1 128 == 0) = false := beq_eq_false_iff_ne.mpr a3
                      have Z3 := Lib.hid (fun h => absurd h a3 : bits .and .i64 r1 128 = 0 → x.qn = 0)
                      clear a3
                      go_wp2_with (fail)
                      go_meet
                      case rel => exact ⟨_, rfl, Lib.hid (fun _ => ⟨Z0.out, Z1.out, Z2.out, Z3.out⟩), rfl⟩
                  · have ez2 : ¬ x.pn = 0 ∧ 0 < x.pn := ⟨z2, by omega⟩
                    obtain ⟨ey2, ez2⟩ := ez2
                    clear z2
                    go_wp2_with (fail)
                    go_meet
                    case rel => exact ⟨_, rfl, Lib.hid (fun h => absurd h (by simp)), rfl⟩
                · have ea2 : (bits .and .i64 r1 64 == 0) = false := beq_eq_false_iff_ne.mpr a2
                  have Z2 := Lib.hid (fun h => absurd h a2 : bits .and .i64 r1 64 = 0 → x.pn = 0)
                  clear a2
                  by_cases a3 : bits .and .i64 r1 128 = 0
                  · have ea3 : (bits .and .i64 r1 128 == 0) = true := beq_iff_eq.mpr a3
                    clear a3
                    by_cases z3 : x.qn = 0
                    · have ez3 : True := trivial
                      rw [z3] at d10
                      have Z3 := Lib.hid (fun _ => z3 : bits .and .i64 r1 128 = 0 → x.qn = 0)
                      clear z3
                      go_wp2_with (fail)
                      go_meet
                      case rel => exact ⟨_, rfl, Lib.hid (fun _ => ⟨Z0.out, Z1.out, Z2.out, Z3.out⟩), rfl⟩
                    · have ez3 : ¬ x.qn = 0 ∧ 0 < x.qn := ⟨z3, by omega⟩
                      obtain ⟨ey3, ez3⟩ := ez3
                      clear z3
                      go_wp2_with (fail)
                      go_meet
                      case rel => exact ⟨_, rfl, Lib.hid (fun h => absurd h (by simp)), rfl⟩
                  · have ea3 : (bits .and .i64 r1 128 == 0) = false := beq_eq_false_iff_ne.mpr a3
                    have Z3 := Lib.hid (fun h => absurd h a3 : bits .and .i64 r1 128 = 0 → x.qn = 0)
                    clear a3
                    go_wp2_with (fail)
                    go_meet
                    case rel => exact ⟨_, rfl, Lib.hid (fun _ => ⟨Z0.out, Z1.out, Z2.out, Z3.out⟩), rfl⟩
              · have ez1 : (!x.text.toList.isEmpty) = true := by simpa using z1
                clear z1
                go_wp2_with (fail)
                go_meet
                case rel => exact ⟨_, rfl, Lib.hid (fun h => absurd h (by simp)), rfl⟩
            · have ea1 : (bits .and .i64 r1 32 == 0) = false := beq_eq_false_iff_ne.mpr a1
              have Z1 := Lib.hid (fun h => absurd h a1 : bits .and .i64 r1 32 = 0 → x.text.toList.isEmpty = true)
              clear a1
              by_cases a2 : bits .and .i64 r1 64 = 0
              · have ea2 : (bits .and .i64 r1 64 == 0) = true := beq_iff_eq.mpr a2
                clear a2
                by_cases z2 : x.pn = 0
                · have ez2 : True := trivial
                  rw [z2] at d9
                  have Z2 := Lib.hid (fun _ => z2 : bits .and .i64 r1 64 = 0 → x.pn = 0)
                  clear z2
                  by_cases a3 : bits .and .i64 r1 128 = 0
                  · have ea3 : (bits .and .i64 r1 128 == 0) = true := beq_iff_eq.mpr a3
                    clear a3
                    by_cases z3 : x.qn = 0
                    · have ez3 : True := trivial
                      rw [z3] at d10
                      have Z3 := Lib.hid (fun _ => z3 : bits .and .i64 r1 128 = 0 → x.qn = 0)
                      clear z3
                      go_wp2_with (fail)
                      go_meet
                      case rel => exact ⟨_, rfl, Lib.hid (fun _ => ⟨Z0.out, Z1.out, Z2.out, Z3.out⟩), rfl⟩
                    · have ez3 : ¬ x.qn = 0 ∧ 0 < x.qn := ⟨z3, by omega⟩
                      obtain ⟨ey3, ez3⟩ := ez3
                      clear z3
                      go_wp2_with (fail)
                      go_meet
                      case rel => exact ⟨_, rfl, Lib.hid (fun h => absurd h (by simp)), rfl⟩
                  · have ea3 : (bits .and .i64 r1 128 == 0) = false := beq_eq_false_iff_ne.mpr a3
                    have Z3 := Lib.hid (fun h => absurd h a3 : bits .and .i64 r1 128 = 0 → x.qn = 0)
                    clear a3
                    go_wp2_with (fail)
                    go_meet
                    case rel => exact ⟨_, rfl, Lib.hid (fun _ => ⟨Z0.out, Z1.out, Z2.out, Z3.out⟩), rfl⟩
                · have ez2 : ¬ x.pn = 0 ∧ 0 < x.pn := ⟨z2, by omega⟩
                  obtain ⟨ey2, ez2⟩ := ez2
                  clear z2
                  go_wp2_with (fail)
                  go_meet
                  case rel => exact ⟨_, rfl, Lib.hid (fun h => absurd h (by simp)), rfl⟩
              · have ea2 : (bits .and .i64 r1 64 == 0) = false := beq_eq_false_iff_ne.mpr a2
                have Z2 := Lib.hid (fun h => absurd h a2 : bits .and .i64 r1 64 = 0 → x.pn = 0)
                clear a2
                by_cases a3 : bits .and .i64 r1 128 = 0
                · have ea3 : (bits .and .i64 r1 128 == 0) = true := beq_iff_eq.mpr a3
                  clear a3
                  by_cases z3 : x.qn = 0
                  · have ez3 : True := trivial
                    rw [z3] at d10
                    have Z3 := Lib.hid (fun _ => z3 : bits .and .i64 r1 128 = 0 → x.qn = 0)
                    clear z3
                    go_wp2_with (fail)
                    go_meet
                    case rel => exact ⟨_, rfl, Lib.hid (fun _ => ⟨Z0.out, Z1.out, Z2.out, Z3.out⟩), rfl⟩
                  · have ez3 : ¬ x.qn = 0 ∧ 0 < x.qn := ⟨z3, by omega⟩
                    obtain ⟨ey3, ez3⟩ := ez3
                    clear z3
                    go_wp2_with (fail)
                    go_meet
                    case rel => exact ⟨_, rfl, Lib.hid (fun h => absurd h (by simp)), rfl⟩
                · have ea3 : (bits .and .i64 r1 128 == 0) = false := beq_eq_false_iff_ne.mpr a3
                  have Z3 := Lib.hid (fun h => absurd h a3 : bits .and .i64 r1 128 = 0 → x.qn = 0)
                  clear a3
                  go_wp2_with (fail)
                  go_meet
                  case rel => exact ⟨_, rfl, Lib.hid (fun _ => ⟨Z0.out, Z1.out, Z2.out, Z3.out⟩), rfl⟩
      case rest =>
      obtain ⟨b1, rfl, FCh, hw⟩ := hcut
      have hw := hw.symm
      subst hw
      cases b1 with
      | true =>
        go_wp2_with (fail)
        go_ret
        exact ⟨false, rfl, fun h => by simp at h, HB.out.2⟩
      | false =>
        have FC := Lib.hid (FCh.out (by first | rfl | trivial))
        clear FCh
        clear d6 d7 d9 d10
        have KN := Lib.hid (uses_kind x r1 r2 r3 r4 HU.out FA.out.1 FA.out.2.1 FA.out.2.2.1 FA.out.2.2.2.1 FA.out.2.2.2.2.2 FA.out.2.2.2.2.1 FB.out.1 FB.out.2.1 FB.out.2.2.1 FB.out.2.2.2 FC.out.1 FC.out.2.1 FC.out.2.2.1 FC.out.2.2.2)
        clear FA FB FC HU
        have d0 : w2.cell? ⟨W1.heap.size, 0, none⟩ = some (.int .i64 x.kind) := blk_cell ((HB.out.1.block _ (blk_lt HD.out.1)).trans HD.out.1) 0
        have d1 : w2.cell? ⟨W1.heap.size, 1, none⟩ = some (.int .i64 x.op) := blk_cell ((HB.out.1.block _ (blk_lt HD.out.1)).trans HD.out.1) 1
        have d2 : w2.cell? ⟨W1.heap.size, 2, none⟩ = some (.int .i64 x.ref) := blk_cell ((HB.out.1.block _ (blk_lt HD.out.1)).trans HD.out.1) 2
        have d3 : w2.cell? ⟨W1.heap.size, 3, none⟩ = some (.int .i64 x.chain) := blk_cell ((HB.out.1.block _ (blk_lt HD.out.1)).trans HD.out.1) 3
        have d4 : w2.cell? ⟨W1.heap.size, 4, none⟩ = some (.int .i64 x.flags) := blk_cell ((HB.out.1.block _ (blk_lt HD.out.1)).trans HD.out.1) 4
        have d5 : w2.cell? ⟨W1.heap.size, 5, none⟩ = some (.float .f64 x.num) := blk_cell ((HB.out.1.block _ (blk_lt HD.out.1)).trans HD.out.1) 5
        have d6 : w2.cell? ⟨W1.heap.size, 6, none⟩ = some (.slice x.sa x.sn x.sc) := blk_cell ((HB.out.1.block _ (blk_lt HD.out.1)).trans HD.out.1) 6
        have d7 : w2.cell? ⟨W1.heap.size, 7, none⟩ = some (.string x.text) := blk_cell ((HB.out.1.block _ (blk_lt HD.out.1)).trans HD.out.1) 7
        have d8 : w2.cell? ⟨W1.heap.size, 8, none⟩ = some (.slice x.ka x.kn x.kc) := blk_cell ((HB.out.1.block _ (blk_lt HD.out.1)).trans HD.out.1) 8
        have d9 : w2.cell? ⟨W1.heap.size, 9, none⟩ = some (.slice x.pa x.pn x.pc) := blk_cell ((HB.out.1.block _ (blk_lt HD.out.1)).trans HD.out.1) 9
        have d10 : w2.cell? ⟨W1.heap.size, 10, none⟩ = some (.slice x.qa x.qn x.qc) := blk_cell ((HB.out.1.block _ (blk_lt HD.out.1)).trans HD.out.1) 10
        have d11 : w2.cell? ⟨W1.heap.size, 11, none⟩ = some (.slice x.fa x.fn x.fc) := blk_cell ((HB.out.1.block _ (blk_lt HD.out.1)).trans HD.out.1) 11
        have d12 : w2.cell? ⟨W1.heap.size, 12, none⟩ = some (.slice x.ca x.cn x.cc) := blk_cell ((HB.out.1.block _ (blk_lt HD.out.1)).trans HD.out.1) 12
        go_wp2_with (fail)
        refine (proper x N n W _ EX.out (bl H0.out hN HB.out.2) hN KN.out.1).mono ?_
        rintro e w3 ⟨b, rfl, hb, hbel⟩
        have HPR := Lib.hid (⟨hb, bl2 HB.out.1 hbel, bl2 HB.out.2 hbel⟩ : _ ∧ _ ∧ _)
        clear hb hbel
        clear d0 d1 d2 d3 d4 d5 d6 d7 d8 d9 d10 d11 d12
        cases b with
        | false =>
          go_wp2_with (fail)
          go_ret
          exact ⟨false, rfl, fun h => by simp at h, HPR.out.2.2⟩
        | true =>
          have PR := Lib.hid (HPR.out.1 (by first | rfl | trivial))
          have HA := Lib.hid HPR.out.2
          clear HPR HB
          go_wp2_with (fail)
          go_loopw [7] (fun v7 wq => ∃ i : Nat, v7 = .int .i64 (i : Int) ∧ i ≤ x.kn ∧ Hid (Below w3.heap.size w3 wq) ∧ Hid (rows W N 13 x.ka i x.kc (Ex C2 N W n))) (fun v7 _ => x.kn - (intOf v7).toNat)
          case atStart => exact ⟨0, rfl, Nat.zero_le _, Lib.hid (Below.refl _ _), Lib.hid (rows.nil HH.out.2.1.2.1)⟩
          case round =>
            as_aux_lemma =>
              obtain ⟨i, rfl, hi, HBr, HR⟩ := hrel
              have HBB := Lib.hid (⟨bl2 HA.out.1 HBr.out, bl2 HA.out.2 HBr.out, bl H0.out hN (bl2 HA.out.2 HBr.out)⟩ : _ ∧ _ ∧ _)
              by_cases hlt : i < x.kn
              · have x0 : (0 : Int) ≤ (i : Int) := by omega
                have d0 : wr.cell? ⟨W1.heap.size, 0, none⟩ = some (.int .i64 x.kind) := blk_cell ((HBB.out.1.block _ (blk_lt HD.out.1)).trans HD.out.1) 0
                have d1 : wr.cell? ⟨W1.heap.size, 1, none⟩ = some (.int .i64 x.op) := blk_cell ((HBB.out.1.block _ (blk_lt HD.out.1)).trans HD.out.1) 1
                have d2 : wr.cell? ⟨W1.heap.size, 2, none⟩ = some (.int .i64 x.ref) := blk_cell ((HBB.out.1.block _ (blk_lt HD.out.1)).trans HD.out.1) 2
                have d3 : wr.cell? ⟨W1.heap.size, 3, none⟩ = some (.int .i64 x.chain) := blk_cell ((HBB.out.1.block _ (blk_lt HD.out.1)).trans HD.out.1) 3
                have d4 : wr.cell? ⟨W1.heap.size, 4, none⟩ = some (.int .i64 x.flags) := blk_cell ((HBB.out.1.block _ (blk_lt HD.out.1)).trans HD.out.1) 4
                have d5 : wr.cell? ⟨W1.heap.size, 5, none⟩ = some (.float .f64 x.num) := blk_cell ((HBB.out.1.block _ (blk_lt HD.out.1)).trans HD.out.1) 5
                have d6 : wr.cell? ⟨W1.heap.size, 6, none⟩ = some (.slice x.sa x.sn x.sc) := blk_cell ((HBB.out.1.block _ (blk_lt HD.out.1)).trans HD.out.1) 6
                have d7 : wr.cell? ⟨W1.heap.size, 7, none⟩ = some (.string x.text) := blk_cell ((HBB.out.1.block _ (blk_lt HD.out.1)).trans HD.out.1) 7
                have d8 : wr.cell? ⟨W1.heap.size, 8, none⟩ = some (.slice x.ka x.kn x.kc) := blk_cell ((HBB.out.1.block _ (blk_lt HD.out.1)).trans HD.out.1) 8
                have d9 : wr.cell? ⟨W1.heap.size, 9, none⟩ = some (.slice x.pa x.pn x.pc) := blk_cell ((HBB.out.1.block _ (blk_lt HD.out.1)).trans HD.out.1) 9
                have d10 : wr.cell? ⟨W1.heap.size, 10, none⟩ = some (.slice x.qa x.qn x.qc) := blk_cell ((HBB.out.1.block _ (blk_lt HD.out.1)).trans HD.out.1) 10
                have d11 : wr.cell? ⟨W1.heap.size, 11, none⟩ = some (.slice x.fa x.fn x.fc) := blk_cell ((HBB.out.1.block _ (blk_lt HD.out.1)).trans HD.out.1) 11
                have d12 : wr.cell? ⟨W1.heap.size, 12, none⟩ = some (.slice x.ca x.cn x.cc) := blk_cell ((HBB.out.1.block _ (blk_lt HD.out.1)).trans HD.out.1) 12
                have x1 : (i : Int) < (x.kn : Int) := by omega
                have wi : wrap64 ((i : Int) + 1) = ((i + 1 : Nat) : Int) := by unfold wrap64; omega
                obtain ⟨gk, ok, csk, eAk, hgk, _, hEk, hck, hstk⟩ := (HH.out.2.1).at hlt
                obtain ⟨y, rfl⟩ := hEk.cells
                have k0 := inp HBB.out.2.2 hgk (hck 0 _ rfl)
                rw [Nat.add_zero] at k0
                have k1 := inp HBB.out.2.2 hgk (hck 1 _ rfl)
                have k2 := inp HBB.out.2.2 hgk (hck 2 _ rfl)
                have k3 := inp HBB.out.2.2 hgk (hck 3 _ rfl)
                have k4 := inp HBB.out.2.2 hgk (hck 4 _ rfl)
                have k5 := inp HBB.out.2.2 hgk (hck 5 _ rfl)
                have k6 := inp HBB.out.2.2 hgk (hck 6 _ rfl)
                have k7 := inp HBB.out.2.2 hgk (hck 7 _ rfl)
                have k8 := inp HBB.out.2.2 hgk (hck 8 _ rfl)
                have k9 := inp HBB.out.2.2 hgk (hck 9 _ rfl)
                have k10 := inp HBB.out.2.2 hgk (hck 10 _ rfl)
                have k11 := inp HBB.out.2.2 hgk (hck 11 _ rfl)
                have k12 := inp HBB.out.2.2 hgk (hck 12 _ rfl)
                have hl : ∀ w, Below N W w → Calls Tryz.prog 28 #[.agg #[.int .i64 x.kind, .int .i64 x.op, .int .i64 x.ref, .int .i64 x.chain, .int .i64 x.flags, .float .f64 x.num, .slice x.sa x.sn x.sc, .string x.text, .slice (some ⟨gk, ok, none⟩) x.kn x.kc, .slice x.pa x.pn x.pc, .slice x.qa x.qn x.qc, .slice x.fa x.fn x.fc, .slice x.ca x.cn x.cc], .int .i64 i] w (fun e w' => Pb w (Ex C2 N W n y.cells) e w') := by
                  intro w hb
                  have := listed n (fun m hm => IH.out m (by omega)) x y i gk ok N W w hlt SH.out.kids eAk hgk hEk hck hb hN
                  rw [eAk] at this
                  exact this
                have HLL := Lib.hid hl
                rw [eAk] at d8
                have HE := Lib.hid (⟨hEk, hstk⟩ : _ ∧ _)
                have HI := Lib.hid (⟨hlt, wi⟩ : _ ∧ _)
                clear hck hEk hstk hi hlt wi eAk hl
                go_wp2_with (fail)
                refine (IH.out n (Nat.lt_succ_self n) y N W _ HE.out.1 HBB.out.2.2 hN).mono ?_
                rintro e w4 ⟨b, rfl, hb, hbel⟩
                have HB4 := Lib.hid (⟨hb, hbel, bl2 HBr.out hbel, bl2 HBB.out.2.1 hbel⟩ : _ ∧ _ ∧ _ ∧ _)
                clear k0 k1 k2 k3 k4 k5 k6 k7 k8 k9 k10 k11 k12
                cases b with
                | true =>
                  clear d0 d1 d2 d3 d4 d5 d6 d7 d8 d9 d10 d11 d12
                  clear x0 x1 hb hbel
                  as_aux_lemma =>
                    have wi := HI.out.2
                    go_wp2_with (fail)
                    clear wi
                    refine ⟨⟨i + 1, (by first | rfl | rw [HI.out.2]), HI.out.1, Lib.hid (HB4.out.2.2.1), Lib.hid (HE.out.2 _ (HB4.out.1 (by first | rfl | trivial)) HR.out)⟩, ?_⟩
                    have := HI.out.1
                    first | rw [HI.out.2] | skip
                    simp only [intOf]
                    clear HI
                    omega
                | false =>
                  replace d0 := (hbel.cell (World.block_lt_of_cell? _ _ d0)).trans d0
                  replace d1 := (hbel.cell (World.block_lt_of_cell? _ _ d1)).trans d1
                  replace d2 := (hbel.cell (World.block_lt_of_cell? _ _ d2)).trans d2
                  replace d3 := (hbel.cell (World.block_lt_of_cell? _ _ d3)).trans d3
                  replace d4 := (hbel.cell (World.block_lt_of_cell? _ _ d4)).trans d4
                  replace d5 := (hbel.cell (World.block_lt_of_cell? _ _ d5)).trans d5
                  replace d6 := (hbel.cell (World.block_lt_of_cell? _ _ d6)).trans d6
                  replace d7 := (hbel.cell (World.block_lt_of_cell? _ _ d7)).trans d7
                  replace d8 := (hbel.cell (World.block_lt_of_cell? _ _ d8)).trans d8
                  replace d9 := (hbel.cell (World.block_lt_of_cell? _ _ d9)).trans d9
                  replace d10 := (hbel.cell (World.block_lt_of_cell? _ _ d10)).trans d10
                  replace d11 := (hbel.cell (World.block_lt_of_cell? _ _ d11)).trans d11
                  replace d12 := (hbel.cell (World.block_lt_of_cell? _ _ d12)).trans d12
                  clear hb hbel x0 x1
                  go_wp2_with (fail)
                  refine (HLL.out _ (bl H0.out hN HB4.out.2.2.2)).mono ?_
                  rintro e w5 ⟨b, rfl, hb, hbel⟩
                  have HB5 := Lib.hid (⟨hb, bl2 HB4.out.2.2.1 hbel, bl2 HB4.out.2.2.2 hbel⟩ : _ ∧ _ ∧ _)
                  clear hb hbel
                  clear d0 d1 d2 d3 d4 d5 d6 d7 d8 d9 d10 d11 d12
                  cases b with
                  | false =>
                    go_wp2_with (fail)
                    go_ret
                    exact ⟨false, rfl, fun h => by simp at h, HB5.out.2.2⟩
                  | true =>
                    as_aux_lemma =>
                      have wi := HI.out.2
                      go_wp2_with (fail)
                      clear wi
                      refine ⟨⟨i + 1, (by first | rfl | rw [HI.out.2]), HI.out.1, Lib.hid (HB5.out.2.1), Lib.hid (HE.out.2 _ (HB5.out.1 (by first | rfl | trivial)) HR.out)⟩, ?_⟩
                      have := HI.out.1
                      first | rw [HI.out.2] | skip
                      simp only [intOf]
                      clear HI
                      omega
              · obtain rfl : i = x.kn := by omega
                have d8 : wr.cell? ⟨W1.heap.size, 8, none⟩ = some (.slice x.ka x.kn x.kc) := blk_cell ((HBB.out.1.block _ (blk_lt HD.out.1)).trans HD.out.1) 8
                have hlt2 : ¬ ((x.kn : Int) < (x.kn : Int)) := by omega
                have HK := Lib.hid HR.out
                clear hlt hi HR
                go_upto_region 15 with (fail)
                clear d8 hlt2 HBr HA
                rename_i kk2 aa2 kk1 aa1 kk0 aa0
                clear aa2
                go_wp2_with (fail)
                obtain ⟨wz, hwz⟩ : ∃ wz, wz = wr := ⟨_, rfl⟩
                subst hwz
                go_loopw [8] (fun v8 wq => ∃ i : Nat, v8 = .int .i64 (i : Int) ∧ i ≤ x.pn ∧ Hid (Below wz.heap.size wz wq) ∧ Hid (rows W N 4 x.pa i x.pc (PropR C2 N W n))) (fun v8 _ => x.pn - (intOf v8).toNat)
                case atStart => exact ⟨0, rfl, Nat.zero_le _, Lib.hid (Below.refl _ _), Lib.hid (rows.nil HH.out.2.2.1.2.1)⟩
                case round =>
                  as_aux_lemma =>
                    obtain ⟨i, rfl, hi, HBr, HR⟩ := hrel
                    have HBC := Lib.hid (⟨bl2 HBB.out.1 HBr.out, bl2 HBB.out.2.1 HBr.out, bl H0.out hN (bl2 HBB.out.2.1 HBr.out)⟩ : _ ∧ _ ∧ _)
                    have d9 : wr.cell? ⟨W1.heap.size, 9, none⟩ = some (.slice x.pa x.pn x.pc) := blk_cell ((HBC.out.1.block _ (blk_lt HD.out.1)).trans HD.out.1) 9
                    by_cases hlt : i < x.pn
                    · have x0 : (0 : Int) ≤ (i : Int) := by omega
                      have x1 : (i : Int) < (x.pn : Int) := by omega
                      have wi : wrap64 ((i : Int) + 1) = ((i + 1 : Nat) : Int) := by unfold wrap64; omega
                      obtain ⟨gk, ok, csk, eAk, hgk, _, hEk, hck, hstk⟩ := (HH.out.2.2.1).at hlt
                      obtain ⟨pk, pf, ka1, kn1, kc1, va1, vn1, vc1, rfl, hpp, hrk, hrv⟩ := hEk
                      have k0 := inp HBC.out.2.2 hgk (hck 0 _ rfl)
                      rw [Nat.add_zero] at k0
                      have k1 := inp HBC.out.2.2 hgk (hck 1 _ rfl)
                      have k2 := inp HBC.out.2.2 hgk (hck 2 _ rfl)
                      have k3 := inp HBC.out.2.2 hgk (hck 3 _ rfl)
                      obtain ⟨hk1, rfl⟩ : kn1 ≤ 1 ∧ vn1 = 1 := hpp
                      rw [eAk] at d9
                      have HE := Lib.hid (⟨hstk, hrk, hrv⟩ : _ ∧ _ ∧ _)
                      have HI := Lib.hid (⟨hlt, wi⟩ : _ ∧ _)
                      clear hck hstk hi hlt wi eAk hrk hrv
                      go_upto_region 19 with (fail)
                      have hP := heap_alloc_new wr (.cells #[.int .i64 pk, .int .i64 pf, .slice ka1 kn1 kc1, .slice va1 1 vc1] 53)
                      have hPb := (Below.refl wr.heap.size wr).alloc (Nat.le_refl _) (.cells #[.int .i64 pk, .int .i64 pf, .slice ka1 kn1 kc1, .slice va1 1 vc1] 53)
                      generalize wr.alloc (.cells #[.int .i64 pk, .int .i64 pf, .slice ka1 kn1 kc1, .slice va1 1 vc1] 53) = wt at hP hPb ⊢
                      have p0 : wt.cell? ⟨wr.heap.size, 0, none⟩ = some (.int .i64 pk) := blk_cell hP 0
                      have p1 : wt.cell? ⟨wr.heap.size, 1, none⟩ = some (.int .i64 pf) := blk_cell hP 1
                      have p2 : wt.cell? ⟨wr.heap.size, 2, none⟩ = some (.slice ka1 kn1 kc1) := blk_cell hP 2
                      have p3 : wt.cell? ⟨wr.heap.size, 3, none⟩ = some (.slice va1 1 vc1) := blk_cell hP 3
                      have HT := Lib.hid (⟨hP, hPb, bl2 HBC.out.2.1 hPb, bl H0.out hN (bl2 HBC.out.2.1 hPb), bl2 HBr.out hPb⟩ : _ ∧ _ ∧ _ ∧ _ ∧ _)
                      clear hP hPb x0 x1 d9 k0 k1 k2 k3
                      obtain ⟨gv, ov, csv, eAv, hgv, _, hEv, hcv, hstv⟩ := (HE.out.2.2).at (show 0 < 1 from Nat.one_pos)
                      obtain ⟨z, rfl⟩ := hEv.cells
                      have HV := Lib.hid (⟨hEv, hstv, eAv, hgv, hcv⟩ : _ ∧ _ ∧ _ ∧ _ ∧ _)
                      clear hEv hstv eAv hcv hgv
                      by_cases c5 : pk = 5
                      · have e5 : (pk == 5) = true := beq_iff_eq.mpr c5
                        have e6 : (pk != 5) = false := bne_eq_false_iff_eq.mpr c5
                        by_cases ck : kn1 = 0
                        · subst ck
                          by_cases cf : pf = 0
                          · have ef : (pf != 0) = false := bne_eq_false_iff_eq.mpr cf
                            have HG := Lib.hid (⟨c5, cf⟩ : pk = 5 ∧ pf = 0)
                            clear c5 cf
                            have v0 := inp HT.out.2.2.2.1 HV.out.2.2.2.1 (HV.out.2.2.2.2 0 _ rfl)
                            rw [show ov + 0 * 13 + 0 = ov by omega] at v0
                            have v1 := inp HT.out.2.2.2.1 HV.out.2.2.2.1 (HV.out.2.2.2.2 1 _ rfl)
                            rw [show ov + 0 * 13 + 1 = ov + 1 by omega] at v1
                            have v2 := inp HT.out.2.2.2.1 HV.out.2.2.2.1 (HV.out.2.2.2.2 2 _ rfl)
                            rw [show ov + 0 * 13 + 2 = ov + 2 by omega] at v2
                            have v3 := inp HT.out.2.2.2.1 HV.out.2.2.2.1 (HV.out.2.2.2.2 3 _ rfl)
                            rw [show ov + 0 * 13 + 3 = ov + 3 by omega] at v3
                            have v4 := inp HT.out.2.2.2.1 HV.out.2.2.2.1 (HV.out.2.2.2.2 4 _ rfl)
                            rw [show ov + 0 * 13 + 4 = ov + 4 by omega] at v4
                            have v5 := inp HT.out.2.2.2.1 HV.out.2.2.2.1 (HV.out.2.2.2.2 5 _ rfl)
                            rw [show ov + 0 * 13 + 5 = ov + 5 by omega] at v5
                            have v6 := inp HT.out.2.2.2.1 HV.out.2.2.2.1 (HV.out.2.2.2.2 6 _ rfl)
                            rw [show ov + 0 * 13 + 6 = ov + 6 by omega] at v6
                            have v7 := inp HT.out.2.2.2.1 HV.out.2.2.2.1 (HV.out.2.2.2.2 7 _ rfl)
                            rw [show ov + 0 * 13 + 7 = ov + 7 by omega] at v7
                            have v8 := inp HT.out.2.2.2.1 HV.out.2.2.2.1 (HV.out.2.2.2.2 8 _ rfl)
                            rw [show ov + 0 * 13 + 8 = ov + 8 by omega] at v8
                            have v9 := inp HT.out.2.2.2.1 HV.out.2.2.2.1 (HV.out.2.2.2.2 9 _ rfl)
                            rw [show ov + 0 * 13 + 9 = ov + 9 by omega] at v9
                            have v10 := inp HT.out.2.2.2.1 HV.out.2.2.2.1 (HV.out.2.2.2.2 10 _ rfl)
                            rw [show ov + 0 * 13 + 10 = ov + 10 by omega] at v10
                            have v11 := inp HT.out.2.2.2.1 HV.out.2.2.2.1 (HV.out.2.2.2.2 11 _ rfl)
                            rw [show ov + 0 * 13 + 11 = ov + 11 by omega] at v11
                            have v12 := inp HT.out.2.2.2.1 HV.out.2.2.2.1 (HV.out.2.2.2.2 12 _ rfl)
                            rw [show ov + 0 * 13 + 12 = ov + 12 by omega] at v12
                            rw [HV.out.2.2.1] at p3
                            go_wp2_with (fail)
                            refine (IH.out n (Nat.lt_succ_self n) z N W _ HV.out.1 HT.out.2.2.2.1 hN).mono ?_
                            rintro e w6 ⟨b, rfl, hb, hbel⟩
                            have HB6 := Lib.hid (⟨hb, bl2 (Below.refl wt.heap.size wt) hbel, hbel⟩ : _ ∧ _ ∧ _)
                            clear hb hbel p3 v0 v1 v2 v3 v4 v5 v6 v7 v8 v9 v10 v11 v12
                            cases b with
                            | false =>
                              go_wp2_with (fail)
                              go_ret
                              exact ⟨false, rfl, fun h => by simp at h, bl2 HBC.out.2.1 (bl2 HT.out.2.1 HB6.out.2.1)⟩
                            | true =>
                              as_aux_lemma =>
                                have wi := HI.out.2
                                go_wp2_with (fail)
                                clear wi
                                refine ⟨⟨i + 1, (by first | rfl | rw [HI.out.2]), HI.out.1, Lib.hid (bl2 HT.out.2.2.2.2 HB6.out.2.1), Lib.hid (HE.out.1 _ ⟨_, _, _, _, _, _, _, _, rfl, ⟨Nat.zero_le _, rfl, .inl ⟨HG.out.1, HG.out.2, rfl⟩⟩, rows.nil HE.out.2.1.2.1, HV.out.2.1 _ (HB6.out.1 (by first | rfl | trivial)) (rows.nil HE.out.2.2.2.1)⟩ HR.out)⟩, ?_⟩
                                have := HI.out.1
                                first | rw [HI.out.2] | skip
                                simp only [intOf]
                                clear HI
                                omega
                          · have ef : (pf != 0) = true := bne_iff_ne.mpr cf
                            clear c5 cf
                            go_wp2_with (fail)
                            go_ret
                            exact ⟨false, rfl, fun h => by simp at h, HT.out.2.2.1⟩
                        · have ek : 0 < kn1 := by omega
                          clear c5
                          go_wp2_with (fail)
                          go_ret
                          exact ⟨false, rfl, fun h => by simp at h, HT.out.2.2.1⟩
                      · have e5 : (pk == 5) = false := beq_eq_false_iff_ne.mpr c5
                        have e6 : (pk != 5) = true := bne_iff_ne.mpr c5
                        clear c5
                        by_cases c0 : pk = 0
                        · have e0 : (pk != 0) = false := bne_eq_false_iff_eq.mpr c0
                          have HG := Lib.hid c0
                          clear c0
                          by_cases ck : kn1 = 1
                          · subst ck
                            go_wp2_with (fail)
                            refine (keyed pk pf ka1 1 kc1 va1 1 vc1 N W _ (HE.out.2.1.imp (Nat.le_refl _) (fun _ _ _ _ h => h) (fun _ h => h.cells)) HT.out.2.2.2.1 hN rfl).mono ?_
                            rintro e w3 ⟨b, rfl, hb, hbel⟩
                            have HY := Lib.hid (⟨hb, hbel, bl2 HT.out.2.2.1 hbel, bl H0.out hN (bl2 HT.out.2.2.1 hbel)⟩ : _ ∧ _ ∧ _ ∧ _)
                            replace p2 := (hbel.cell (World.block_lt_of_cell? _ _ p2)).trans p2
                            replace p3 := (hbel.cell (World.block_lt_of_cell? _ _ p3)).trans p3
                            clear hb hbel p0 p1
                            cases b with
                            | false =>
                              go_wp2_with (fail)
                              go_ret
                              exact ⟨false, rfl, fun h => by simp at h, HY.out.2.2.1⟩
                            | true =>
                              obtain ⟨gq, oq, csq, eAq, hgq, _, hEq, hcq, hstq⟩ := (HE.out.2.1).at (show 0 < 1 from Nat.one_pos)
                              obtain ⟨u, rfl⟩ := hEq.cells
                              have HQ := Lib.hid (⟨hEq, hstq⟩ : _ ∧ _)
                              have q0 := inp HY.out.2.2.2 hgq (hcq 0 _ rfl)
                              rw [show oq + 0 * 13 + 0 = oq by omega] at q0
                              have q1 := inp HY.out.2.2.2 hgq (hcq 1 _ rfl)
                              rw [show oq + 0 * 13 + 1 = oq + 1 by omega] at q1
                              have q2 := inp HY.out.2.2.2 hgq (hcq 2 _ rfl)
                              rw [show oq + 0 * 13 + 2 = oq + 2 by omega] at q2
                              have q3 := inp HY.out.2.2.2 hgq (hcq 3 _ rfl)
                              rw [show oq + 0 * 13 + 3 = oq + 3 by omega] at q3
                              have q4 := inp HY.out.2.2.2 hgq (hcq 4 _ rfl)
                              rw [show oq + 0 * 13 + 4 = oq + 4 by omega] at q4
                              have q5 := inp HY.out.2.2.2 hgq (hcq 5 _ rfl)
                              rw [show oq + 0 * 13 + 5 = oq + 5 by omega] at q5
                              have q6 := inp HY.out.2.2.2 hgq (hcq 6 _ rfl)
                              rw [show oq + 0 * 13 + 6 = oq + 6 by omega] at q6
                              have q7 := inp HY.out.2.2.2 hgq (hcq 7 _ rfl)
                              rw [show oq + 0 * 13 + 7 = oq + 7 by omega] at q7
                              have q8 := inp HY.out.2.2.2 hgq (hcq 8 _ rfl)
                              rw [show oq + 0 * 13 + 8 = oq + 8 by omega] at q8
                              have q9 := inp HY.out.2.2.2 hgq (hcq 9 _ rfl)
                              rw [show oq + 0 * 13 + 9 = oq + 9 by omega] at q9
                              have q10 := inp HY.out.2.2.2 hgq (hcq 10 _ rfl)
                              rw [show oq + 0 * 13 + 10 = oq + 10 by omega] at q10
                              have q11 := inp HY.out.2.2.2 hgq (hcq 11 _ rfl)
                              rw [show oq + 0 * 13 + 11 = oq + 11 by omega] at q11
                              have q12 := inp HY.out.2.2.2 hgq (hcq 12 _ rfl)
                              rw [show oq + 0 * 13 + 12 = oq + 12 by omega] at q12
                              rw [eAq] at p2
                              clear hEq hstq hcq hgq eAq
                              go_wp2_with (fail)
                              refine (IH.out n (Nat.lt_succ_self n) u N W _ HQ.out.1 HY.out.2.2.2 hN).mono ?_
                              rintro e w7 ⟨b, rfl, hb, hbel⟩
                              have HB7 := Lib.hid (⟨hb, bl2 HY.out.2.1 hbel, bl H0.out hN (bl2 HY.out.2.2.1 hbel)⟩ : _ ∧ _ ∧ _)
                              replace p3 := (hbel.cell (World.block_lt_of_cell? _ _ p3)).trans p3
                              clear hb hbel p2 q0 q1 q2 q3 q4 q5 q6 q7 q8 q9 q10 q11 q12
                              cases b with
                              | false =>
                                go_wp2_with (fail)
                                go_ret
                                exact ⟨false, rfl, fun h => by simp at h, bl2 HT.out.2.2.1 HB7.out.2.1⟩
                              | true =>
                                have v0 := inp HB7.out.2.2 HV.out.2.2.2.1 (HV.out.2.2.2.2 0 _ rfl)
                                rw [show ov + 0 * 13 + 0 = ov by omega] at v0
                                have v1 := inp HB7.out.2.2 HV.out.2.2.2.1 (HV.out.2.2.2.2 1 _ rfl)
                                rw [show ov + 0 * 13 + 1 = ov + 1 by omega] at v1
                                have v2 := inp HB7.out.2.2 HV.out.2.2.2.1 (HV.out.2.2.2.2 2 _ rfl)
                                rw [show ov + 0 * 13 + 2 = ov + 2 by omega] at v2
                                have v3 := inp HB7.out.2.2 HV.out.2.2.2.1 (HV.out.2.2.2.2 3 _ rfl)
                                rw [show ov + 0 * 13 + 3 = ov + 3 by omega] at v3
                                have v4 := inp HB7.out.2.2 HV.out.2.2.2.1 (HV.out.2.2.2.2 4 _ rfl)
                                rw [show ov + 0 * 13 + 4 = ov + 4 by omega] at v4
                                have v5 := inp HB7.out.2.2 HV.out.2.2.2.1 (HV.out.2.2.2.2 5 _ rfl)
                                rw [show ov + 0 * 13 + 5 = ov + 5 by omega] at v5
                                have v6 := inp HB7.out.2.2 HV.out.2.2.2.1 (HV.out.2.2.2.2 6 _ rfl)
                                rw [show ov + 0 * 13 + 6 = ov + 6 by omega] at v6
                                have v7 := inp HB7.out.2.2 HV.out.2.2.2.1 (HV.out.2.2.2.2 7 _ rfl)
                                rw [show ov + 0 * 13 + 7 = ov + 7 by omega] at v7
                                have v8 := inp HB7.out.2.2 HV.out.2.2.2.1 (HV.out.2.2.2.2 8 _ rfl)
                                rw [show ov + 0 * 13 + 8 = ov + 8 by omega] at v8
                                have v9 := inp HB7.out.2.2 HV.out.2.2.2.1 (HV.out.2.2.2.2 9 _ rfl)
                                rw [show ov + 0 * 13 + 9 = ov + 9 by omega] at v9
                                have v10 := inp HB7.out.2.2 HV.out.2.2.2.1 (HV.out.2.2.2.2 10 _ rfl)
                                rw [show ov + 0 * 13 + 10 = ov + 10 by omega] at v10
                                have v11 := inp HB7.out.2.2 HV.out.2.2.2.1 (HV.out.2.2.2.2 11 _ rfl)
                                rw [show ov + 0 * 13 + 11 = ov + 11 by omega] at v11
                                have v12 := inp HB7.out.2.2 HV.out.2.2.2.1 (HV.out.2.2.2.2 12 _ rfl)
                                rw [show ov + 0 * 13 + 12 = ov + 12 by omega] at v12
                                rw [HV.out.2.2.1] at p3
                                go_wp2_with (fail)
                                refine (IH.out n (Nat.lt_succ_self n) z N W _ HV.out.1 HB7.out.2.2 hN).mono ?_
                                rintro e w6 ⟨b, rfl, hb, hbel⟩
                                have HB6 := Lib.hid (⟨hb, bl2 (HB7.out.2.1) hbel, hbel⟩ : _ ∧ _ ∧ _)
                                clear hb hbel p3 v0 v1 v2 v3 v4 v5 v6 v7 v8 v9 v10 v11 v12
                                cases b with
                                | false =>
                                  go_wp2_with (fail)
                                  go_ret
                                  exact ⟨false, rfl, fun h => by simp at h, bl2 HBC.out.2.1 (bl2 HT.out.2.1 HB6.out.2.1)⟩
                                | true =>
                                  as_aux_lemma =>
                                    have wi := HI.out.2
                                    go_wp2_with (fail)
                                    clear wi
                                    refine ⟨⟨i + 1, (by first | rfl | rw [HI.out.2]), HI.out.1, Lib.hid (bl2 HT.out.2.2.2.2 HB6.out.2.1), Lib.hid (HE.out.1 _ ⟨_, _, _, _, _, _, _, _, rfl, ⟨Nat.le_refl _, rfl, .inr ⟨HG.out, rfl, HY.out.1 (by first | rfl | trivial)⟩⟩, HQ.out.2 _ (HB7.out.1 (by first | rfl | trivial)) (rows.nil HE.out.2.1.2.1), HV.out.2.1 _ (HB6.out.1 (by first | rfl | trivial)) (rows.nil HE.out.2.2.2.1)⟩ HR.out)⟩, ?_⟩
                                    have := HI.out.1
                                    first | rw [HI.out.2] | skip
                                    simp only [intOf]
                                    clear HI
                                    omega
                          · have ek : ¬ ((kn1 : Int) = 1) := by omega
                            clear ck
                            go_wp2_with (fail)
                            go_ret
                            exact ⟨false, rfl, fun h => by simp at h, HT.out.2.2.1⟩
                        · have e0 : (pk != 0) = true := bne_iff_ne.mpr c0
                          clear c0
                          go_wp2_with (fail)
                          go_ret
                          exact ⟨false, rfl, fun h => by simp at h, HT.out.2.2.1⟩
                    · obtain rfl : i = x.pn := by omega
                      have hlt2 : ¬ ((x.pn : Int) < (x.pn : Int)) := by omega
                      have HPP := Lib.hid HR.out
                      clear hlt hi HR
                      go_upto_region 23 with (fail)
                      clear d9 hlt2 HBr HBB
                      rename_i ll2 bb2 ll1 bb1 ll0 bb0
                      clear bb2
                      go_wp2_with (fail)
                      obtain ⟨wy, hwy⟩ : ∃ wy, wy = wr := ⟨_, rfl⟩
                      subst hwy
                      go_loopw [10] (fun v10 wq => ∃ i : Nat, v10 = .int .i64 (i : Int) ∧ i ≤ x.qn ∧ Hid (Below wy.heap.size wy wq) ∧ Hid (rows W N 3 x.qa i x.qc (PartR C2 N W n))) (fun v10 _ => x.qn - (intOf v10).toNat)
                      case atStart => exact ⟨0, rfl, Nat.zero_le _, Lib.hid (Below.refl _ _), Lib.hid (rows.nil HH.out.2.2.2.2.1)⟩
                      case round =>
                        as_aux_lemma =>
                          obtain ⟨i, rfl, hi, HBr, HR⟩ := hrel
                          have HBD := Lib.hid (⟨bl2 HBC.out.1 HBr.out, bl2 HBC.out.2.1 HBr.out, bl H0.out hN (bl2 HBC.out.2.1 HBr.out)⟩ : _ ∧ _ ∧ _)
                          have d8 : wr.cell? ⟨W1.heap.size, 8, none⟩ = some (.slice x.ka x.kn x.kc) := blk_cell ((HBD.out.1.block _ (blk_lt HD.out.1)).trans HD.out.1) 8
                          have d10 : wr.cell? ⟨W1.heap.size, 10, none⟩ = some (.slice x.qa x.qn x.qc) := blk_cell ((HBD.out.1.block _ (blk_lt HD.out.1)).trans HD.out.1) 10
                          by_cases hlt : i < x.qn
                          · have x0 : (0 : Int) ≤ (i : Int) := by omega
                            have x1 : (i : Int) < (x.qn : Int) := by omega
                            have wi : wrap64 ((i : Int) + 1) = ((i + 1 : Nat) : Int) := by unfold wrap64; omega
                            obtain ⟨gk, ok, csk, eAk, hgk, _, hEk, hck, hstk⟩ := (HH.out.2.2.2).at hlt
                            obtain ⟨va1, vn1, vc1, sa1, sn1, sc1, t1, rfl, hqq, hrv, hrs⟩ := hEk
                            obtain ⟨rfl, hs1⟩ : vn1 = 1 ∧ sn1 ≤ 1000 := hqq
                            have k0 := inp HBD.out.2.2 hgk (hck 0 _ rfl)
                            rw [Nat.add_zero] at k0
                            have k1 := inp HBD.out.2.2 hgk (hck 1 _ rfl)
                            have k2 := inp HBD.out.2.2 hgk (hck 2 _ rfl)
                            obtain ⟨gv, ov, csv, eAv, hgv, _, hEv, hcv, hstv⟩ := hrv.at (show 0 < 1 from Nat.one_pos)
                            obtain ⟨z, rfl⟩ := hEv.cells
                            have v0 := inp HBD.out.2.2 hgv (hcv 0 _ rfl)
                            rw [show ov + 0 * 13 + 0 = ov by omega] at v0
                            have v1 := inp HBD.out.2.2 hgv (hcv 1 _ rfl)
                            rw [show ov + 0 * 13 + 1 = ov + 1 by omega] at v1
                            have v2 := inp HBD.out.2.2 hgv (hcv 2 _ rfl)
                            rw [show ov + 0 * 13 + 2 = ov + 2 by omega] at v2
                            have v3 := inp HBD.out.2.2 hgv (hcv 3 _ rfl)
                            rw [show ov + 0 * 13 + 3 = ov + 3 by omega] at v3
                            have v4 := inp HBD.out.2.2 hgv (hcv 4 _ rfl)
                            rw [show ov + 0 * 13 + 4 = ov + 4 by omega] at v4
                            have v5 := inp HBD.out.2.2 hgv (hcv 5 _ rfl)
                            rw [show ov + 0 * 13 + 5 = ov + 5 by omega] at v5
                            have v6 := inp HBD.out.2.2 hgv (hcv 6 _ rfl)
                            rw [show ov + 0 * 13 + 6 = ov + 6 by omega] at v6
                            have v7 := inp HBD.out.2.2 hgv (hcv 7 _ rfl)
                            rw [show ov + 0 * 13 + 7 = ov + 7 by omega] at v7
                            have v8 := inp HBD.out.2.2 hgv (hcv 8 _ rfl)
                            rw [show ov + 0 * 13 + 8 = ov + 8 by omega] at v8
                            have v9 := inp HBD.out.2.2 hgv (hcv 9 _ rfl)
                            rw [show ov + 0 * 13 + 9 = ov + 9 by omega] at v9
                            have v10 := inp HBD.out.2.2 hgv (hcv 10 _ rfl)
                            rw [show ov + 0 * 13 + 10 = ov + 10 by omega] at v10
                            have v11 := inp HBD.out.2.2 hgv (hcv 11 _ rfl)
                            rw [show ov + 0 * 13 + 11 = ov + 11 by omega] at v11
                            have v12 := inp HBD.out.2.2 hgv (hcv 12 _ rfl)
                            rw [show ov + 0 * 13 + 12 = ov + 12 by omega] at v12
                            rw [eAv] at k0
                            rw [eAk] at d10
                            have HV := Lib.hid (⟨hEv, hstv⟩ : _ ∧ _)
                            have HE := Lib.hid (⟨hstk, hs1, hrv, hrs⟩ : _ ∧ _ ∧ _ ∧ _)
                            have HI := Lib.hid (⟨hlt, wi⟩ : _ ∧ _)
                            have EV := Lib.hid eAv
                            clear hck hstk hi hlt wi eAk hrv hrs hs1 hEv hstv hcv eAv
                            go_wp2_with (fail)
                            refine (IH.out n (Nat.lt_succ_self n) z N W _ HV.out.1 HBD.out.2.2 hN).mono ?_
                            rintro e w6 ⟨b, rfl, hb, hbel⟩
                            have HB6 := Lib.hid (⟨hb, bl2 HBr.out hbel, bl2 HBD.out.2.1 hbel⟩ : _ ∧ _ ∧ _)
                            replace k0 := (hbel.cell (World.block_lt_of_cell? _ _ k0)).trans k0
                            replace k1 := (hbel.cell (World.block_lt_of_cell? _ _ k1)).trans k1
                            replace k2 := (hbel.cell (World.block_lt_of_cell? _ _ k2)).trans k2
                            replace d8 := (hbel.cell (World.block_lt_of_cell? _ _ d8)).trans d8
                            replace d10 := (hbel.cell (World.block_lt_of_cell? _ _ d10)).trans d10
                            clear hb hbel v0 v1 v2 v3 v4 v5 v6 v7 v8 v9 v10 v11 v12
                            cases b with
                            | false =>
                              go_wp2_with (fail)
                              go_ret
                              exact ⟨false, rfl, fun h => by simp at h, HB6.out.2.2⟩
                            | true =>
                              by_cases ck : x.kn = 0
                              · rw [ck] at d8
                                clear ck
                                cases ct : (!t1.toList.isEmpty) with
                                | true =>
                                  go_wp2_with (fail)
                                  go_ret
                                  exact ⟨false, rfl, fun h => by simp at h, HB6.out.2.2⟩
                                | false =>
                                  go_upto_region 25 with (fail)
                                  clear k0 k1 k2 d8 d10 x0 x1
                                  as_aux_lemma =>
                                    have wi := HI.out.2
                                    go_wp2_with (fail)
                                    clear wi
                                    refine ⟨⟨i + 1, (by first | rfl | rw [HI.out.2]), HI.out.1, Lib.hid (HB6.out.2.1), Lib.hid (HE.out.1 _ ⟨_, _, _, _, _, _, _, rfl, ⟨rfl, HE.out.2.1⟩, HV.out.2 _ (HB6.out.1 (by first | rfl | trivial)) (rows.nil HE.out.2.2.1.2.1), HE.out.2.2.2⟩ HR.out)⟩, ?_⟩
                                    have := HI.out.1
                                    first | rw [HI.out.2] | skip
                                    simp only [intOf]
                                    clear HI
                                    omega
                              · have e0 : ¬ ((x.kn : Int) = 0) := by omega
                                clear ck
                                by_cases ck : x.kn = 1
                                · rw [ck] at d8
                                  clear ck e0
                                  by_cases cs : sn1 = 0
                                  · rw [cs] at k1
                                    have HCS := Lib.hid cs
                                    clear cs
                                    go_upto_region 25 with (fail)
                                    clear k0 k1 k2 d8 d10 x0 x1
                                    as_aux_lemma =>
                                      have wi := HI.out.2
                                      go_wp2_with (fail)
                                      clear wi
                                      refine ⟨⟨i + 1, (by first | rfl | rw [HI.out.2]), HI.out.1, Lib.hid (HB6.out.2.1), Lib.hid (HE.out.1 _ ⟨_, _, _, _, _, _, _, rfl, ⟨rfl, HE.out.2.1⟩, HV.out.2 _ (HB6.out.1 (by first | rfl | trivial)) (rows.nil HE.out.2.2.1.2.1), HE.out.2.2.2⟩ HR.out)⟩, ?_⟩
                                      have := HI.out.1
                                      first | rw [HI.out.2] | skip
                                      simp only [intOf]
                                      clear HI
                                      omega
                                  · have es : 0 < sn1 := by omega
                                    go_wp2_with (fail)
                                    go_ret
                                    exact ⟨false, rfl, fun h => by simp at h, HB6.out.2.2⟩
                                · have e1 : ¬ ((x.kn : Int) = 1) := by omega
                                  clear ck
                                  go_upto_region 25 with (fail)
                                  clear k0 k1 k2 d8 d10 x0 x1
                                  as_aux_lemma =>
                                    have wi := HI.out.2
                                    go_wp2_with (fail)
                                    clear wi
                                    refine ⟨⟨i + 1, (by first | rfl | rw [HI.out.2]), HI.out.1, Lib.hid (HB6.out.2.1), Lib.hid (HE.out.1 _ ⟨_, _, _, _, _, _, _, rfl, ⟨rfl, HE.out.2.1⟩, HV.out.2 _ (HB6.out.1 (by first | rfl | trivial)) (rows.nil HE.out.2.2.1.2.1), HE.out.2.2.2⟩ HR.out)⟩, ?_⟩
                                    have := HI.out.1
                                    first | rw [HI.out.2] | skip
                                    simp only [intOf]
                                    clear HI
                                    omega
                          · obtain rfl : i = x.qn := by omega
                            have hlt2 : ¬ ((x.qn : Int) < (x.qn : Int)) := by omega
                            have HQQ := Lib.hid HR.out
                            clear hlt hi HR d8
                            go_wp2_with (fail)
                            go_ret
                            exact ⟨true, rfl, fun _ => Ex_x.2 ⟨⟨SH.out, kc_of KN.out.1 PR.out, KN.out.2⟩, HH.out.1, HK.out, HPP.out, HQQ.out⟩, HBD.out.2.1⟩
end Go.Proofs.YtacokmkbikdmmaaGreatDoor.trees

