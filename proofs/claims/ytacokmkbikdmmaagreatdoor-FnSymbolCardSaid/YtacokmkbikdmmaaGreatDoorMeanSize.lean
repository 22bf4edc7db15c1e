/-
  spec.MeanSizeOf: it ends.
  Conditions: none.
-/
import Derived.Test.YtacokmkbikdmmaaGreatDoorShallow
namespace Go.Proofs.YtacokmkbikdmmaaGreatDoor.trees
open Go Go.RowKit
set_option linter.unusedVariables false
set_option linter.unusedSimpArgs false

def Pn (W : World) (e : Ending) (w' : World) : Prop := ∃ m : Int, e = .returned (.int .i64 m) ∧ Below W.heap.size W w'
set_option maxHeartbeats 8000000 in
set_option maxRecDepth 100000 in
theorem meanSize : ∀ (n : Nat) (x : X) (N : Nat) (W W1 : World) (mo : Int), Ex C0 N W n x.cells → Below N W W1 → N ≤ W.heap.size → Calls Tryz.prog 15 #[.agg #[.int .i64 x.kind, .int .i64 x.op, .int .i64 x.ref, .int .i64 x.chain, .int .i64 x.flags, .float .f64 x.num, .slice x.sa x.sn x.sc, .string x.text, .slice x.ka x.kn x.kc, .slice x.pa x.pn x.pc, .slice x.qa x.qn x.qc, .slice x.fa x.fn x.fc, .slice x.ca x.cn x.cc], .int .i64 mo] W1 (fun e w' => Pn W1 e w') := by
  intro n
  induction n with
  | zero => intro x N W W1 mo h; exact h.elim
  | succ n ih =>
    intro x N W W1 mo h h0 hN
    have H0 := Lib.hid h0
    obtain ⟨_, hs, hk, hp, hq⟩ := Ex_x.1 h
    have lk := hk.lt
    have lp := hp.lt
    have lq := hq.lt
    have HH := Lib.hid (⟨hs, hk, hp, hq⟩ : _ ∧ _ ∧ _ ∧ _)
    have IH := Lib.hid ih
    clear h hs hk hp hq ih h0
    go_enter Tryz.func15, Tryz.ntmps15
    go_upto_region 1 with (fail)
    have hD := heap_alloc_new W1 (.cells #[.int .i64 x.kind, .int .i64 x.op, .int .i64 x.ref, .int .i64 x.chain, .int .i64 x.flags, .float .f64 x.num, .slice x.sa x.sn x.sc, .string x.text, .slice x.ka x.kn x.kc, .slice x.pa x.pn x.pc, .slice x.qa x.qn x.qc, .slice x.fa x.fn x.fc, .slice x.ca x.cn x.cc] 30)
    have hDb := (Below.refl W1.heap.size W1).alloc (Nat.le_refl _) (.cells #[.int .i64 x.kind, .int .i64 x.op, .int .i64 x.ref, .int .i64 x.chain, .int .i64 x.flags, .float .f64 x.num, .slice x.sa x.sn x.sc, .string x.text, .slice x.ka x.kn x.kc, .slice x.pa x.pn x.pc, .slice x.qa x.qn x.qc, .slice x.fa x.fn x.fc, .slice x.ca x.cn x.cc] 30)
    have hDs : (W1.alloc (.cells #[.int .i64 x.kind, .int .i64 x.op, .int .i64 x.ref, .int .i64 x.chain, .int .i64 x.flags, .float .f64 x.num, .slice x.sa x.sn x.sc, .string x.text, .slice x.ka x.kn x.kc, .slice x.pa x.pn x.pc, .slice x.qa x.qn x.qc, .slice x.fa x.fn x.fc, .slice x.ca x.cn x.cc] 30)).heap.size = W1.heap.size + 1 := by simp
    generalize W1.alloc (.cells #[.int .i64 x.kind, .int .i64 x.op, .int .i64 x.ref, .int .i64 x.chain, .int .i64 x.flags, .float .f64 x.num, .slice x.sa x.sn x.sc, .string x.text, .slice x.ka x.kn x.kc, .slice x.pa x.pn x.pc, .slice x.qa x.qn x.qc, .slice x.fa x.fn x.fc, .slice x.ca x.cn x.cc] 30) = w1 at hD hDb hDs ⊢
    have HD := Lib.hid (⟨hD, hDb, hDs⟩ : _ ∧ _ ∧ _)
    clear hD hDb hDs
    go_wp2_with (fail)
    go_loopw [5, 6] (fun v5 v6 wq => ∃ (i : Nat) (m : Int), v6 = .int .i64 (i : Int) ∧ v5 = .int .i64 m ∧ i ≤ x.kn ∧ Hid (Below w1.heap.size w1 wq)) (fun _ v6 _ => x.kn - (intOf v6).toNat)
    case atStart => exact ⟨0, _, rfl, rfl, Nat.zero_le _, Lib.hid (Below.refl _ _)⟩
    case round =>
      obtain ⟨i, m, rfl, rfl, hi, HB⟩ := hrel
      have d8 : wr.cell? ⟨W1.heap.size, 8, none⟩ = some (.slice x.ka x.kn x.kc) := blk_cell ((HB.out.block _ (blk_lt HD.out.1)).trans HD.out.1) 8
      go_upto_region 3 with (fail)
      go_cut [22] from 13 to 21 (fun v wd => ∃ b, v = .bool b ∧ Hid (b = true → i < x.kn) ∧ wd = wr)
      case first =>
        by_cases hlt : i < x.kn
        · have e0 : decide ((i : Int) < (x.kn : Int)) = true := decide_eq_true (by omega)
          have HL := Lib.hid hlt
          clear hlt hi
          by_cases hm : m ≤ mo
          · have e1 : decide (m ≤ mo) = true := decide_eq_true hm
            clear hm
            go_wp2_with (fail)
            go_meet
            case rel => exact ⟨_, rfl, Lib.hid (fun _ => HL.out), rfl⟩
          · have e1 : decide (m ≤ mo) = false := decide_eq_false hm
            clear hm
            go_wp2_with (fail)
            go_meet
            case rel => exact ⟨_, rfl, Lib.hid (fun _ => HL.out), rfl⟩
        · have e0 : ¬ ((i : Int) < (x.kn : Int)) := by omega
          clear hlt hi
          go_wp2_with (fail)
          all_goals
            go_meet
            case rel => exact ⟨_, rfl, Lib.hid (fun h => absurd h (by simp)), rfl⟩
      case rest =>
      obtain ⟨bb, rfl, HL, hw⟩ := hcut
      have hw := hw.symm
      subst hw
      cases bb with
      | true =>
        have HBI := Lib.hid (bl H0.out hN (bl2 HD.out.2.1 HB.out))
        have hlt := HL.out (by first | rfl | trivial)
        have x0 : (0 : Int) ≤ (i : Int) := by omega
        have x1 : (i : Int) < (x.kn : Int) := by omega
        have wi : wrap64 ((i : Int) + 1) = ((i + 1 : Nat) : Int) := by unfold wrap64; omega
        obtain ⟨gk, ok, csk, eAk, hgk, _, hEk, hck, hstk⟩ := (HH.out.2.1).at hlt
        obtain ⟨y, rfl⟩ := hEk.cells
        have k0 := inp HBI.out hgk (hck 0 _ rfl)
        rw [Nat.add_zero] at k0
        have k1 := inp HBI.out hgk (hck 1 _ rfl)
        have k2 := inp HBI.out hgk (hck 2 _ rfl)
        have k3 := inp HBI.out hgk (hck 3 _ rfl)
        have k4 := inp HBI.out hgk (hck 4 _ rfl)
        have k5 := inp HBI.out hgk (hck 5 _ rfl)
        have k6 := inp HBI.out hgk (hck 6 _ rfl)
        have k7 := inp HBI.out hgk (hck 7 _ rfl)
        have k8 := inp HBI.out hgk (hck 8 _ rfl)
        have k9 := inp HBI.out hgk (hck 9 _ rfl)
        have k10 := inp HBI.out hgk (hck 10 _ rfl)
        have k11 := inp HBI.out hgk (hck 11 _ rfl)
        have k12 := inp HBI.out hgk (hck 12 _ rfl)
        rw [eAk] at d8
        have HE := Lib.hid hEk
        have HI := Lib.hid (⟨hlt, wi⟩ : _ ∧ _)
        clear hck hEk hstk hlt wi eAk
        go_wp2_with (fail)
        refine (IH.out y N W _ _ HE.out HBI.out hN).mono ?_
        rintro e w2 ⟨r, rfl, hbel⟩
        have HBE := Lib.hid hbel
        clear hbel
        have wi := HI.out.2
        clear k0 k1 k2 k3 k4 k5 k6 k7 k8 k9 k10 k11 k12 x0 x1
        go_wp2_with (fail)
        clear wi
        refine ⟨⟨i + 1, _, (by first | rfl | rw [HI.out.2]), rfl, HI.out.1, Lib.hid (bl2 HB.out HBE.out)⟩, ?_⟩
        have := HI.out.1
        first | rw [HI.out.2] | skip
        simp only [intOf]
        clear HI
        omega
      | false =>
        go_wp2_with (fail)
        obtain ⟨wz, hwz⟩ : ∃ wz, wz = wr := ⟨_, rfl⟩
        subst hwz
        have HBZ := Lib.hid (⟨HB.out, bl2 HD.out.2.1 HB.out⟩ : _ ∧ _)
        clear HL HB d8 hi
        go_loopw [5, 7] (fun v5 v7 wq => ∃ (i : Nat) (m : Int), v7 = .int .i64 (i : Int) ∧ v5 = .int .i64 m ∧ i ≤ x.pn ∧ Hid (Below wz.heap.size wz wq)) (fun _ v7 _ => x.pn - (intOf v7).toNat)
        case atStart => exact ⟨0, _, rfl, rfl, Nat.zero_le _, Lib.hid (Below.refl _ _)⟩
        case round =>
          obtain ⟨i, m, rfl, rfl, hi, HB⟩ := hrel
          have HBX := Lib.hid (⟨bl2 HBZ.out.1 HB.out, bl2 HBZ.out.2 HB.out, HB.out⟩ : _ ∧ _ ∧ _)
          have d9 : wr.cell? ⟨W1.heap.size, 9, none⟩ = some (.slice x.pa x.pn x.pc) := blk_cell ((HBX.out.1.block _ (blk_lt HD.out.1)).trans HD.out.1) 9
          go_upto_region 7 with (fail)
          go_cut [43] from 34 to 42 (fun v wd => ∃ b, v = .bool b ∧ Hid (b = true → i < x.pn) ∧ wd = wr)
          case first =>
            by_cases hlt : i < x.pn
            · have e0 : decide ((i : Int) < (x.pn : Int)) = true := decide_eq_true (by omega)
              have HL := Lib.hid hlt
              clear hlt hi
              by_cases hm : m ≤ mo
              · have e1 : decide (m ≤ mo) = true := decide_eq_true hm
                clear hm
                go_wp2_with (fail)
                go_meet
                case rel => exact ⟨_, rfl, Lib.hid (fun _ => HL.out), rfl⟩
              · have e1 : decide (m ≤ mo) = false := decide_eq_false hm
                clear hm
                go_wp2_with (fail)
                go_meet
                case rel => exact ⟨_, rfl, Lib.hid (fun _ => HL.out), rfl⟩
            · have e0 : ¬ ((i : Int) < (x.pn : Int)) := by omega
              clear hlt hi
              go_wp2_with (fail)
              all_goals
                go_meet
                case rel => exact ⟨_, rfl, Lib.hid (fun h => absurd h (by simp)), rfl⟩
          case rest =>
          obtain ⟨bb, rfl, HL, hw⟩ := hcut
          have hw := hw.symm
          subst hw
          cases bb with
          | true =>
            have HBI := Lib.hid (bl H0.out hN HBX.out.2.1)
            have hlt := HL.out (by first | rfl | trivial)
            have x0 : (0 : Int) ≤ (i : Int) := by omega
            have x1 : (i : Int) < (x.pn : Int) := by omega
            have wi : wrap64 ((i : Int) + 1) = ((i + 1 : Nat) : Int) := by unfold wrap64; omega
            obtain ⟨gk, ok, csk, eAk, hgk, _, hEk, hck, hstk⟩ := (HH.out.2.2.1).at hlt
            obtain ⟨pk, pf, ka1, kn1, kc1, va1, vn1, vc1, rfl, _, hrk, hrv⟩ := hEk
            have k0 := inp HBI.out hgk (hck 0 _ rfl)
            rw [Nat.add_zero] at k0
            have k1 := inp HBI.out hgk (hck 1 _ rfl)
            have k2 := inp HBI.out hgk (hck 2 _ rfl)
            have k3 := inp HBI.out hgk (hck 3 _ rfl)
            rw [eAk] at d9
            have lk1 := hrk.lt
            have lv1 := hrv.lt
            have HE := Lib.hid (⟨hrk, hrv⟩ : _ ∧ _)
            have HI := Lib.hid (⟨hlt, wi⟩ : _ ∧ _)
            clear hck hstk hlt wi eAk hrk hrv HL hi
            go_upto_region 10 with (fail)
            have hP := heap_alloc_new wr (.cells #[.int .i64 pk, .int .i64 pf, .slice ka1 kn1 kc1, .slice va1 vn1 vc1] 53)
            have hPb := (Below.refl wr.heap.size wr).alloc (Nat.le_refl _) (.cells #[.int .i64 pk, .int .i64 pf, .slice ka1 kn1 kc1, .slice va1 vn1 vc1] 53)
            generalize wr.alloc (.cells #[.int .i64 pk, .int .i64 pf, .slice ka1 kn1 kc1, .slice va1 vn1 vc1] 53) = wt at hP hPb ⊢
            have HP := Lib.hid (⟨hP, hPb⟩ : _ ∧ _)
            clear hP hPb d9 k0 k1 k2 k3 x0 x1
            obtain ⟨wo, hwo⟩ : ∃ wo, wo = wr := ⟨_, rfl⟩
            subst hwo
            go_wp2_with (fail)
            obtain ⟨io, hio⟩ : ∃ io, io = i := ⟨_, rfl⟩
            subst hio
            go_loopw [5, 9] (fun v5 v9 wq => ∃ (i : Nat) (m : Int), v9 = .int .i64 (i : Int) ∧ v5 = .int .i64 m ∧ i ≤ kn1 ∧ Hid (Below wt.heap.size wt wq)) (fun _ v9 _ => kn1 - (intOf v9).toNat)
            case atStart => exact ⟨0, _, rfl, rfl, Nat.zero_le _, Lib.hid (Below.refl _ _)⟩
            case round =>
              obtain ⟨i, m, rfl, rfl, hi, HB⟩ := hrel
              have p2 : wr.cell? ⟨wo.heap.size, 2, none⟩ = some (.slice ka1 kn1 kc1) := blk_cell ((HB.out.block _ (blk_lt HP.out.1)).trans HP.out.1) 2
              go_upto_region 11 with (fail)
              go_cut [60] from 51 to 59 (fun v wd => ∃ b, v = .bool b ∧ Hid (b = true → i < kn1) ∧ wd = wr)
              case first =>
                by_cases hlt : i < kn1
                · have e0 : decide ((i : Int) < (kn1 : Int)) = true := decide_eq_true (by omega)
                  have HL := Lib.hid hlt
                  clear hlt hi
                  by_cases hm : m ≤ mo
                  · have e1 : decide (m ≤ mo) = true := decide_eq_true hm
                    clear hm
                    go_wp2_with (fail)
                    go_meet
                    case rel => exact ⟨_, rfl, Lib.hid (fun _ => HL.out), rfl⟩
                  · have e1 : decide (m ≤ mo) = false := decide_eq_false hm
                    clear hm
                    go_wp2_with (fail)
                    go_meet
                    case rel => exact ⟨_, rfl, Lib.hid (fun _ => HL.out), rfl⟩
                · have e0 : ¬ ((i : Int) < (kn1 : Int)) := by omega
                  clear hlt hi
                  go_wp2_with (fail)
                  all_goals
                    go_meet
                    case rel => exact ⟨_, rfl, Lib.hid (fun h => absurd h (by simp)), rfl⟩
              case rest =>
              obtain ⟨bb, rfl, HL, hw⟩ := hcut
              have hw := hw.symm
              subst hw
              cases bb with
              | true =>
                have HBI := Lib.hid (bl H0.out hN (bl2 HBX.out.2.1 (bl2 HP.out.2 HB.out)))
                have HIo := HI
                have hlt := HL.out (by first | rfl | trivial)
                have x0 : (0 : Int) ≤ (i : Int) := by omega
                have x1 : (i : Int) < (kn1 : Int) := by omega
                have wi : wrap64 ((i : Int) + 1) = ((i + 1 : Nat) : Int) := by unfold wrap64; omega
                obtain ⟨gk, ok, csk, eAk, hgk, _, hEk, hck, hstk⟩ := (HE.out.1).at hlt
                obtain ⟨y, rfl⟩ := hEk.cells
                have k0 := inp HBI.out hgk (hck 0 _ rfl)
                rw [Nat.add_zero] at k0
                have k1 := inp HBI.out hgk (hck 1 _ rfl)
                have k2 := inp HBI.out hgk (hck 2 _ rfl)
                have k3 := inp HBI.out hgk (hck 3 _ rfl)
                have k4 := inp HBI.out hgk (hck 4 _ rfl)
                have k5 := inp HBI.out hgk (hck 5 _ rfl)
                have k6 := inp HBI.out hgk (hck 6 _ rfl)
                have k7 := inp HBI.out hgk (hck 7 _ rfl)
                have k8 := inp HBI.out hgk (hck 8 _ rfl)
                have k9 := inp HBI.out hgk (hck 9 _ rfl)
                have k10 := inp HBI.out hgk (hck 10 _ rfl)
                have k11 := inp HBI.out hgk (hck 11 _ rfl)
                have k12 := inp HBI.out hgk (hck 12 _ rfl)
                rw [eAk] at p2
                have HE := Lib.hid hEk
                have HI := Lib.hid (⟨hlt, wi⟩ : _ ∧ _)
                clear hck hEk hstk hlt wi eAk
                go_wp2_with (fail)
                refine (IH.out y N W _ _ HE.out HBI.out hN).mono ?_
                rintro e w2 ⟨r, rfl, hbel⟩
                have HBE := Lib.hid hbel
                clear hbel
                have wi := HI.out.2
                clear k0 k1 k2 k3 k4 k5 k6 k7 k8 k9 k10 k11 k12 x0 x1
                go_wp2_with (fail)
                clear wi
                refine ⟨⟨i + 1, _, (by first | rfl | rw [HI.out.2]), rfl, HI.out.1, Lib.hid (bl2 HB.out HBE.out)⟩, ?_⟩
                have := HI.out.1
                first | rw [HI.out.2] | skip
                simp only [intOf]
                clear HI
                omega
              | false =>
                go_wp2_with (fail)
                obtain ⟨wk, hwk⟩ : ∃ wk, wk = wr := ⟨_, rfl⟩
                subst hwk
                have HKK := Lib.hid HB.out
                clear HL HB p2 hi
                go_loopw [5, 10] (fun v5 v10 wq => ∃ (i : Nat) (m : Int), v10 = .int .i64 (i : Int) ∧ v5 = .int .i64 m ∧ i ≤ vn1 ∧ Hid (Below wk.heap.size wk wq)) (fun _ v10 _ => vn1 - (intOf v10).toNat)
                case atStart => exact ⟨0, _, rfl, rfl, Nat.zero_le _, Lib.hid (Below.refl _ _)⟩
                case round =>
                  obtain ⟨i, m, rfl, rfl, hi, HB⟩ := hrel
                  have p3 : wr.cell? ⟨wo.heap.size, 3, none⟩ = some (.slice va1 vn1 vc1) := blk_cell (((bl2 HKK.out HB.out).block _ (blk_lt HP.out.1)).trans HP.out.1) 3
                  go_upto_region 15 with (fail)
                  go_cut [81] from 72 to 80 (fun v wd => ∃ b, v = .bool b ∧ Hid (b = true → i < vn1) ∧ wd = wr)
                  case first =>
                    by_cases hlt : i < vn1
                    · have e0 : decide ((i : Int) < (vn1 : Int)) = true := decide_eq_true (by omega)
                      have HL := Lib.hid hlt
                      clear hlt hi
                      by_cases hm : m ≤ mo
                      · have e1 : decide (m ≤ mo) = true := decide_eq_true hm
                        clear hm
                        go_wp2_with (fail)
                        go_meet
                        case rel => exact ⟨_, rfl, Lib.hid (fun _ => HL.out), rfl⟩
                      · have e1 : decide (m ≤ mo) = false := decide_eq_false hm
                        clear hm
                        go_wp2_with (fail)
                        go_meet
                        case rel => exact ⟨_, rfl, Lib.hid (fun _ => HL.out), rfl⟩
                    · have e0 : ¬ ((i : Int) < (vn1 : Int)) := by omega
                      clear hlt hi
                      go_wp2_with (fail)
                      all_goals
                        go_meet
                        case rel => exact ⟨_, rfl, Lib.hid (fun h => absurd h (by simp)), rfl⟩
                  case rest =>
                  obtain ⟨bb, rfl, HL, hw⟩ := hcut
                  have hw := hw.symm
                  subst hw
                  cases bb with
                  | true =>
                    have HBI := Lib.hid (bl H0.out hN (bl2 HBX.out.2.1 (bl2 HP.out.2 (bl2 HKK.out HB.out))))
                    have HIo := HI
                    have hlt := HL.out (by first | rfl | trivial)
                    have x0 : (0 : Int) ≤ (i : Int) := by omega
                    have x1 : (i : Int) < (vn1 : Int) := by omega
                    have wi : wrap64 ((i : Int) + 1) = ((i + 1 : Nat) : Int) := by unfold wrap64; omega
                    obtain ⟨gk, ok, csk, eAk, hgk, _, hEk, hck, hstk⟩ := (HE.out.2).at hlt
                    obtain ⟨y, rfl⟩ := hEk.cells
                    have k0 := inp HBI.out hgk (hck 0 _ rfl)
                    rw [Nat.add_zero] at k0
                    have k1 := inp HBI.out hgk (hck 1 _ rfl)
                    have k2 := inp HBI.out hgk (hck 2 _ rfl)
                    have k3 := inp HBI.out hgk (hck 3 _ rfl)
                    have k4 := inp HBI.out hgk (hck 4 _ rfl)
                    have k5 := inp HBI.out hgk (hck 5 _ rfl)
                    have k6 := inp HBI.out hgk (hck 6 _ rfl)
                    have k7 := inp HBI.out hgk (hck 7 _ rfl)
                    have k8 := inp HBI.out hgk (hck 8 _ rfl)
                    have k9 := inp HBI.out hgk (hck 9 _ rfl)
                    have k10 := inp HBI.out hgk (hck 10 _ rfl)
                    have k11 := inp HBI.out hgk (hck 11 _ rfl)
                    have k12 := inp HBI.out hgk (hck 12 _ rfl)
                    rw [eAk] at p3
                    have HE := Lib.hid hEk
                    have HI := Lib.hid (⟨hlt, wi⟩ : _ ∧ _)
                    clear hck hEk hstk hlt wi eAk
                    go_wp2_with (fail)
                    refine (IH.out y N W _ _ HE.out HBI.out hN).mono ?_
                    rintro e w2 ⟨r, rfl, hbel⟩
                    have HBE := Lib.hid hbel
                    clear hbel
                    have wi := HI.out.2
                    clear k0 k1 k2 k3 k4 k5 k6 k7 k8 k9 k10 k11 k12 x0 x1
                    go_wp2_with (fail)
                    clear wi
                    refine ⟨⟨i + 1, _, (by first | rfl | rw [HI.out.2]), rfl, HI.out.1, Lib.hid (bl2 HB.out HBE.out)⟩, ?_⟩
                    have := HI.out.1
                    first | rw [HI.out.2] | skip
                    simp only [intOf]
                    clear HI
                    omega
                  | false =>
                    go_wp2_with (fail)
                    clear HL p3 hi
                    refine ⟨⟨io + 1, _, (by first | rfl | rw [HI.out.2]), rfl, HI.out.1, Lib.hid (bl2 HBX.out.2.2 (bl2 HP.out.2 (bl2 HKK.out HB.out)))⟩, ?_⟩
                    have := HI.out.1
                    first | rw [HI.out.2] | skip
                    simp only [intOf]
                    clear HI
                    omega
          | false =>
            go_wp2_with (fail)
            obtain ⟨wp, hwp⟩ : ∃ wp, wp = wr := ⟨_, rfl⟩
            subst hwp
            have HBP := Lib.hid (⟨HBX.out.1, HBX.out.2.1⟩ : _ ∧ _)
            clear HL HB d9 hi HBX
            go_loopw [5, 11] (fun v5 v11 wq => ∃ (i : Nat) (m : Int), v11 = .int .i64 (i : Int) ∧ v5 = .int .i64 m ∧ i ≤ x.qn ∧ Hid (Below wp.heap.size wp wq)) (fun _ v11 _ => x.qn - (intOf v11).toNat)
            case atStart => exact ⟨0, _, rfl, rfl, Nat.zero_le _, Lib.hid (Below.refl _ _)⟩
            case round =>
              obtain ⟨i, m, rfl, rfl, hi, HB⟩ := hrel
              have HBX := Lib.hid (⟨bl2 HBP.out.1 HB.out, bl2 HBP.out.2 HB.out, HB.out⟩ : _ ∧ _ ∧ _)
              have d10 : wr.cell? ⟨W1.heap.size, 10, none⟩ = some (.slice x.qa x.qn x.qc) := blk_cell ((HBX.out.1.block _ (blk_lt HD.out.1)).trans HD.out.1) 10
              go_upto_region 19 with (fail)
              go_cut [102] from 93 to 101 (fun v wd => ∃ b, v = .bool b ∧ Hid (b = true → i < x.qn) ∧ wd = wr)
              case first =>
                by_cases hlt : i < x.qn
                · have e0 : decide ((i : Int) < (x.qn : Int)) = true := decide_eq_true (by omega)
                  have HL := Lib.hid hlt
                  clear hlt hi
                  by_cases hm : m ≤ mo
                  · have e1 : decide (m ≤ mo) = true := decide_eq_true hm
                    clear hm
                    go_wp2_with (fail)
                    go_meet
                    case rel => exact ⟨_, rfl, Lib.hid (fun _ => HL.out), rfl⟩
                  · have e1 : decide (m ≤ mo) = false := decide_eq_false hm
                    clear hm
                    go_wp2_with (fail)
                    go_meet
                    case rel => exact ⟨_, rfl, Lib.hid (fun _ => HL.out), rfl⟩
                · have e0 : ¬ ((i : Int) < (x.qn : Int)) := by omega
                  clear hlt hi
                  go_wp2_with (fail)
                  all_goals
                    go_meet
                    case rel => exact ⟨_, rfl, Lib.hid (fun h => absurd h (by simp)), rfl⟩
              case rest =>
              obtain ⟨bb, rfl, HL, hw⟩ := hcut
              have hw := hw.symm
              subst hw
              cases bb with
              | true =>
                have HBI := Lib.hid (bl H0.out hN HBX.out.2.1)
                have hlt := HL.out (by first | rfl | trivial)
                have x0 : (0 : Int) ≤ (i : Int) := by omega
                have x1 : (i : Int) < (x.qn : Int) := by omega
                have wi : wrap64 ((i : Int) + 1) = ((i + 1 : Nat) : Int) := by unfold wrap64; omega
                obtain ⟨gq, oq, csq, eAq, hgq, _, hEq, hcq, hstq⟩ := (HH.out.2.2.2).at hlt
                obtain ⟨va1, vn1, vc1, sa1, sn1, sc1, t1, rfl, _, hrv, _⟩ := hEq
                have lv1 := hrv.lt
                have HE := Lib.hid (⟨hrv, hcq, eAq⟩ : _ ∧ _ ∧ _)
                have HI := Lib.hid (⟨hlt, wi⟩ : _ ∧ _)
                clear hcq hstq hlt wi eAq hrv HL hi d10
                obtain ⟨wo, hwo⟩ : ∃ wo, wo = wr := ⟨_, rfl⟩
                subst hwo
                go_wp2_with (fail)
                obtain ⟨io, hio⟩ : ∃ io, io = i := ⟨_, rfl⟩
                subst hio
                go_loopw [5, 12] (fun v5 v12 wq => ∃ (i : Nat) (m : Int), v12 = .int .i64 (i : Int) ∧ v5 = .int .i64 m ∧ i ≤ vn1 ∧ Hid (Below wo.heap.size wo wq)) (fun _ v12 _ => vn1 - (intOf v12).toNat)
                case atStart => exact ⟨0, _, rfl, rfl, Nat.zero_le _, Lib.hid (Below.refl _ _)⟩
                case round =>
                  obtain ⟨i, m, rfl, rfl, hi, HB⟩ := hrel
                  have HBI := Lib.hid (bl H0.out hN (bl2 HBX.out.2.1 HB.out))
                  have hby := bl2 HBX.out.1 HB.out
                  have d10 : wr.cell? ⟨W1.heap.size, 10, none⟩ = some (.slice x.qa x.qn x.qc) := blk_cell ((hby.block _ (blk_lt HD.out.1)).trans HD.out.1) 10
                  clear hby
                  have q0 := inp HBI.out hgq (HE.out.2.1 0 _ rfl)
                  rw [Nat.add_zero] at q0
                  have eAq := HE.out.2.2
                  rw [eAq] at d10
                  clear eAq
                  go_upto_region 22 with (fail)
                  go_cut [118] from 105 to 117 (fun v wd => ∃ b, v = .bool b ∧ Hid (b = true → i < vn1) ∧ wd = wr)
                  case first =>
                    by_cases hlt : i < vn1
                    · have e0 : decide ((i : Int) < (vn1 : Int)) = true := decide_eq_true (by omega)
                      have HL := Lib.hid hlt
                      clear hlt hi
                      by_cases hm : m ≤ mo
                      · have e1 : decide (m ≤ mo) = true := decide_eq_true hm
                        clear hm
                        go_wp2_with (fail)
                        go_meet
                        case rel => exact ⟨_, rfl, Lib.hid (fun _ => HL.out), rfl⟩
                      · have e1 : decide (m ≤ mo) = false := decide_eq_false hm
                        clear hm
                        go_wp2_with (fail)
                        go_meet
                        case rel => exact ⟨_, rfl, Lib.hid (fun _ => HL.out), rfl⟩
                    · have e0 : ¬ ((i : Int) < (vn1 : Int)) := by omega
                      clear hlt hi
                      go_wp2_with (fail)
                      all_goals
                        go_meet
                        case rel => exact ⟨_, rfl, Lib.hid (fun h => absurd h (by simp)), rfl⟩
                  case rest =>
                  obtain ⟨bb, rfl, HL, hw⟩ := hcut
                  have hw := hw.symm
                  subst hw
                  cases bb with
                  | true =>
                    have hlt := HL.out (by first | rfl | trivial)
                    have y0 : (0 : Int) ≤ (i : Int) := by omega
                    have y1 : (i : Int) < (vn1 : Int) := by omega
                    have wi : wrap64 ((i : Int) + 1) = ((i + 1 : Nat) : Int) := by unfold wrap64; omega
                    obtain ⟨gk, ok, csk, eAk, hgk, _, hEk, hck, hstk⟩ := (HE.out.1).at hlt
                    obtain ⟨y, rfl⟩ := hEk.cells
                    have k0 := inp HBI.out hgk (hck 0 _ rfl)
                    rw [Nat.add_zero] at k0
                    have k1 := inp HBI.out hgk (hck 1 _ rfl)
                    have k2 := inp HBI.out hgk (hck 2 _ rfl)
                    have k3 := inp HBI.out hgk (hck 3 _ rfl)
                    have k4 := inp HBI.out hgk (hck 4 _ rfl)
                    have k5 := inp HBI.out hgk (hck 5 _ rfl)
                    have k6 := inp HBI.out hgk (hck 6 _ rfl)
                    have k7 := inp HBI.out hgk (hck 7 _ rfl)
                    have k8 := inp HBI.out hgk (hck 8 _ rfl)
                    have k9 := inp HBI.out hgk (hck 9 _ rfl)
                    have k10 := inp HBI.out hgk (hck 10 _ rfl)
                    have k11 := inp HBI.out hgk (hck 11 _ rfl)
                    have k12 := inp HBI.out hgk (hck 12 _ rfl)
                    rw [eAk] at q0
                    have HF := Lib.hid hEk
                    have HJ := Lib.hid (⟨hlt, wi⟩ : _ ∧ _)
                    clear hck hEk hstk hlt wi eAk
                    go_wp2_with (fail)
                    refine (IH.out y N W _ _ HF.out HBI.out hN).mono ?_
                    rintro e w2 ⟨r, rfl, hbel⟩
                    have HBE := Lib.hid hbel
                    clear hbel
                    have wi := HJ.out.2
                    clear k0 k1 k2 k3 k4 k5 k6 k7 k8 k9 k10 k11 k12 y0 y1
                    go_wp2_with (fail)
                    clear wi
                    refine ⟨⟨i + 1, _, (by first | rfl | rw [HJ.out.2]), rfl, HJ.out.1, Lib.hid (bl2 HB.out HBE.out)⟩, ?_⟩
                    have := HJ.out.1
                    first | rw [HJ.out.2] | skip
                    simp only [intOf]
                    clear HJ
                    omega
                  | false =>
                    have wi := HI.out.2
                    go_wp2_with (fail)
                    clear HL hi wi
                    refine ⟨⟨io + 1, _, (by first | rfl | rw [HI.out.2]), rfl, HI.out.1, Lib.hid (bl2 HBX.out.2.2 HB.out)⟩, ?_⟩
                    have := HI.out.1
                    first | rw [HI.out.2] | skip
                    simp only [intOf]
                    clear HI
                    omega
              | false =>
                go_wp2_with (fail)
                go_ret
                exact ⟨m, rfl, HBX.out.2.1⟩
end Go.Proofs.YtacokmkbikdmmaaGreatDoor.trees
