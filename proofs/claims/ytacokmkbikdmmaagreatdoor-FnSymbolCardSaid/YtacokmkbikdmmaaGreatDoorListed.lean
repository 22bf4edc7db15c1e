/-
  spec.listed: a part that is left out, or a spread of a valid expression.
  Conditions: none.
-/
import Derived.Test.YtacokmkbikdmmaaGreatDoorUses
namespace Go.Proofs.YtacokmkbikdmmaaGreatDoor.trees
open Go Go.RowKit
set_option linter.unusedVariables false
set_option linter.unusedSimpArgs false

attribute [local go_sem] run_store_float
/-- what meanValid tells, at depth n -/
def MV (n : Nat) : Prop := ∀ (x : X) (N : Nat) (W W1 : World), Ex C1 N W n x.cells → Below N W W1 → N ≤ W.heap.size → Calls Tryz.prog 16 #[.agg #[.int .i64 x.kind, .int .i64 x.op, .int .i64 x.ref, .int .i64 x.chain, .int .i64 x.flags, .float .f64 x.num, .slice x.sa x.sn x.sc, .string x.text, .slice x.ka x.kn x.kc, .slice x.pa x.pn x.pc, .slice x.qa x.qn x.qc, .slice x.fa x.fn x.fc, .slice x.ca x.cn x.cc]] W1 (fun e w' => Pb W1 (Ex C2 N W n x.cells) e w')
theorem bare_C2 {x : X} {k : Nat} (hb : BareX x k) (hs : Short x) (hk : x.kind = 9 ∧ k = 0 ∨ x.kind = 10 ∧ k = 1) : C2.x x := by
  refine ⟨hs, ⟨by omega, by omega, hb.fn, hb.cn, ?_, by omega, by omega, by omega, by omega, by omega, by omega, by omega, by omega, by omega, by omega, by omega⟩, ⟨Or.inr (Or.inr (Or.inr hb.op)), Or.inr hb.ref, Or.inr (Or.inr (Or.inr hb.chain)), Or.inr (Or.inr hb.num), Or.inr (Or.inr hb.sn), Or.inr (Or.inr (Or.inr (Or.inr (Or.inr hb.text)))), Or.inr hb.pn, Or.inr hb.qn, ?_, ?_⟩⟩
  · intro h
    have := hb.kn
    omega
  · have := hb.kn
    omega
  · rw [hb.flags]
    refine ⟨Int.le_refl _, ?_⟩
    rcases hk with ⟨h, _⟩ | ⟨h, _⟩ <;> rw [h] <;> decide
set_option maxHeartbeats 4000000 in
set_option maxRecDepth 100000 in
theorem listed (n : Nat) (IH : ∀ m, m < n → MV m) (x y : X) (i g o N : Nat) (W W1 : World) (hi : i < x.kn) (hl : x.kn ≤ 200) (eA : x.ka = some ⟨g, o, none⟩) (hg : g < N) (hE : Ex C1 N W n y.cells) (hc : ∀ j u, y.cells[j]? = some u → W.cell? ⟨g, o + i * 13 + j, none⟩ = some u) (h0 : Below N W W1) (hN : N ≤ W.heap.size) : Calls Tryz.prog 28 #[.agg #[.int .i64 x.kind, .int .i64 x.op, .int .i64 x.ref, .int .i64 x.chain, .int .i64 x.flags, .float .f64 x.num, .slice x.sa x.sn x.sc, .string x.text, .slice x.ka x.kn x.kc, .slice x.pa x.pn x.pc, .slice x.qa x.qn x.qc, .slice x.fa x.fn x.fc, .slice x.ca x.cn x.cc], .int .i64 i] W1 (fun e w' => Pb W1 (Ex C2 N W n y.cells) e w') := by
  have x0 : (0 : Int) ≤ (i : Int) := by omega
  have x1 : (i : Int) < (x.kn : Int) := by omega
  have HH := Lib.hid (⟨hE, hi, hl, eA, IH⟩ : _ ∧ _ ∧ _ ∧ _ ∧ _)
  clear IH hE eA
  go_enter Tryz.func28, Tryz.ntmps28
  go_upto_region 1 with (fail)
  have hD := heap_alloc_new W1 (.cells #[.int .i64 x.kind, .int .i64 x.op, .int .i64 x.ref, .int .i64 x.chain, .int .i64 x.flags, .float .f64 x.num, .slice x.sa x.sn x.sc, .string x.text, .slice x.ka x.kn x.kc, .slice x.pa x.pn x.pc, .slice x.qa x.qn x.qc, .slice x.fa x.fn x.fc, .slice x.ca x.cn x.cc] 30)
  have hDb := (Below.refl W1.heap.size W1).alloc (Nat.le_refl _) (.cells #[.int .i64 x.kind, .int .i64 x.op, .int .i64 x.ref, .int .i64 x.chain, .int .i64 x.flags, .float .f64 x.num, .slice x.sa x.sn x.sc, .string x.text, .slice x.ka x.kn x.kc, .slice x.pa x.pn x.pc, .slice x.qa x.qn x.qc, .slice x.fa x.fn x.fc, .slice x.ca x.cn x.cc] 30)
  have hDs : (W1.alloc (.cells #[.int .i64 x.kind, .int .i64 x.op, .int .i64 x.ref, .int .i64 x.chain, .int .i64 x.flags, .float .f64 x.num, .slice x.sa x.sn x.sc, .string x.text, .slice x.ka x.kn x.kc, .slice x.pa x.pn x.pc, .slice x.qa x.qn x.qc, .slice x.fa x.fn x.fc, .slice x.ca x.cn x.cc] 30)).heap.size = W1.heap.size + 1 := by simp
  generalize W1.alloc (.cells #[.int .i64 x.kind, .int .i64 x.op, .int .i64 x.ref, .int .i64 x.chain, .int .i64 x.flags, .float .f64 x.num, .slice x.sa x.sn x.sc, .string x.text, .slice x.ka x.kn x.kc, .slice x.pa x.pn x.pc, .slice x.qa x.qn x.qc, .slice x.fa x.fn x.fc, .slice x.ca x.cn x.cc] 30) = w1 at hD hDb hDs ⊢
  have d0 : w1.cell? ⟨W1.heap.size, 0, none⟩ = some (.int .i64 x.kind) := blk_cell hD 0
  have d8 : w1.cell? ⟨W1.heap.size, 8, none⟩ = some (.slice x.ka x.kn x.kc) := blk_cell hD 8
  have HD := Lib.hid (⟨hD, hDb, hDs⟩ : _ ∧ _ ∧ _)
  clear hD hDb hDs
  have HBI := Lib.hid (bl h0 hN HD.out.2.1)
  have k0 := inp HBI.out hg (hc 0 _ rfl)
  rw [Nat.add_zero] at k0
  have k1 := inp HBI.out hg (hc 1 _ rfl)
  have k2 := inp HBI.out hg (hc 2 _ rfl)
  have k3 := inp HBI.out hg (hc 3 _ rfl)
  have k4 := inp HBI.out hg (hc 4 _ rfl)
  have k5 := inp HBI.out hg (hc 5 _ rfl)
  have k6 := inp HBI.out hg (hc 6 _ rfl)
  have k7 := inp HBI.out hg (hc 7 _ rfl)
  have k8 := inp HBI.out hg (hc 8 _ rfl)
  have k9 := inp HBI.out hg (hc 9 _ rfl)
  have k10 := inp HBI.out hg (hc 10 _ rfl)
  have k11 := inp HBI.out hg (hc 11 _ rfl)
  have k12 := inp HBI.out hg (hc 12 _ rfl)
  have HC := Lib.hid (⟨hg, h0⟩ : _ ∧ _)
  clear hc h0 hi hl
  rw [HH.out.2.2.2.1] at d8
  go_upto_region 2 with (fail)
  have hP := heap_alloc_new w1 (.cells #[.int .i64 y.kind, .int .i64 y.op, .int .i64 y.ref, .int .i64 y.chain, .int .i64 y.flags, .float .f64 y.num, .slice y.sa y.sn y.sc, .string y.text, .slice y.ka y.kn y.kc, .slice y.pa y.pn y.pc, .slice y.qa y.qn y.qc, .slice y.fa y.fn y.fc, .slice y.ca y.cn y.cc] 30)
  have hPb := (Below.refl w1.heap.size w1).alloc (Nat.le_refl _) (.cells #[.int .i64 y.kind, .int .i64 y.op, .int .i64 y.ref, .int .i64 y.chain, .int .i64 y.flags, .float .f64 y.num, .slice y.sa y.sn y.sc, .string y.text, .slice y.ka y.kn y.kc, .slice y.pa y.pn y.pc, .slice y.qa y.qn y.qc, .slice y.fa y.fn y.fc, .slice y.ca y.cn y.cc] 30)
  replace d0 := (hPb.cell (World.block_lt_of_cell? _ _ d0)).trans d0
  replace d8 := (hPb.cell (World.block_lt_of_cell? _ _ d8)).trans d8
  generalize w1.alloc (.cells #[.int .i64 y.kind, .int .i64 y.op, .int .i64 y.ref, .int .i64 y.chain, .int .i64 y.flags, .float .f64 y.num, .slice y.sa y.sn y.sc, .string y.text, .slice y.ka y.kn y.kc, .slice y.pa y.pn y.pc, .slice y.qa y.qn y.qc, .slice y.fa y.fn y.fc, .slice y.ca y.cn y.cc] 30) = w2 at hP hPb d0 d8 ⊢
  have p0 : w2.cell? ⟨w1.heap.size, 0, none⟩ = some (.int .i64 y.kind) := blk_cell hP 0
  have p1 : w2.cell? ⟨w1.heap.size, 1, none⟩ = some (.int .i64 y.op) := blk_cell hP 1
  have p2 : w2.cell? ⟨w1.heap.size, 2, none⟩ = some (.int .i64 y.ref) := blk_cell hP 2
  have p3 : w2.cell? ⟨w1.heap.size, 3, none⟩ = some (.int .i64 y.chain) := blk_cell hP 3
  have p4 : w2.cell? ⟨w1.heap.size, 4, none⟩ = some (.int .i64 y.flags) := blk_cell hP 4
  have p5 : w2.cell? ⟨w1.heap.size, 5, none⟩ = some (.float .f64 y.num) := blk_cell hP 5
  have p6 : w2.cell? ⟨w1.heap.size, 6, none⟩ = some (.slice y.sa y.sn y.sc) := blk_cell hP 6
  have p7 : w2.cell? ⟨w1.heap.size, 7, none⟩ = some (.string y.text) := blk_cell hP 7
  have p8 : w2.cell? ⟨w1.heap.size, 8, none⟩ = some (.slice y.ka y.kn y.kc) := blk_cell hP 8
  have p9 : w2.cell? ⟨w1.heap.size, 9, none⟩ = some (.slice y.pa y.pn y.pc) := blk_cell hP 9
  have p10 : w2.cell? ⟨w1.heap.size, 10, none⟩ = some (.slice y.qa y.qn y.qc) := blk_cell hP 10
  have p11 : w2.cell? ⟨w1.heap.size, 11, none⟩ = some (.slice y.fa y.fn y.fc) := blk_cell hP 11
  have p12 : w2.cell? ⟨w1.heap.size, 12, none⟩ = some (.slice y.ca y.cn y.cc) := blk_cell hP 12
  have HP := Lib.hid (⟨hP, hPb, bl2 HD.out.2.1 hPb⟩ : _ ∧ _ ∧ _)
  clear hP hPb x0 x1 k0 k1 k2 k3 k4 k5 k6 k7 k8 k9 k10 k11 k12
  obtain ⟨n, rfl⟩ : ∃ m, n = m + 1 := by
    cases n with
    | zero => exact HH.out.1.elim
    | succ m => exact ⟨m, rfl⟩
  have hsh := (Ex_x.1 HH.out.1).1
  have HSH := Lib.hid hsh
  clear hsh
  generalize Value.agg #[.int .i64 x.kind, .int .i64 x.op, .int .i64 x.ref, .int .i64 x.chain, .int .i64 x.flags, .float .f64 x.num, .slice x.sa x.sn x.sc, .string x.text, .slice x.ka x.kn x.kc, .slice x.pa x.pn x.pc, .slice x.qa x.qn x.qc, .slice x.fa x.fn x.fc, .slice x.ca x.cn x.cc] = arg
  generalize Value.agg #[.int .i64 y.kind, .int .i64 y.op, .int .i64 y.ref, .int .i64 y.chain, .int .i64 y.flags, .float .f64 y.num, .slice y.sa y.sn y.sc, .string y.text, .slice y.ka y.kn y.kc, .slice y.pa y.pn y.pc, .slice y.qa y.qn y.qc, .slice y.fa y.fn y.fc, .slice y.ca y.cn y.cc] = arg2
  go_cut [27] from 11 to 26 (fun v wd => ∃ b, v = .bool b ∧ wd = w2)
  case first =>
    go_wp2_with (fail)
    all_goals
      go_meet
      case rel => exact ⟨_, rfl, rfl⟩
  case rest =>
  obtain ⟨b1, rfl, hw⟩ := hcut
  have hw := hw.symm
  subst hw
  cases b1 with
  | true =>
    go_wp2_with (fail)
    go_ret
    exact ⟨false, rfl, fun h => by simp at h, HP.out.2.2⟩
  | false =>
    by_cases hk9 : y.kind = 9
    · have e9 : (y.kind == 9) = true := beq_iff_eq.mpr hk9
      have HK := Lib.hid hk9
      clear hk9
      by_cases hx11 : x.kind = 11
      · have e11 : (x.kind == 11) = true := beq_iff_eq.mpr hx11
        clear hx11
        go_wp2_with (fail)
        refine (meanBare y 0 _ HSH.out).mono ?_
        rintro e w3 ⟨b, rfl, hb, hbel⟩
        have HX := Lib.hid (⟨hb, hbel⟩ : _ ∧ _)
        clear hb hbel
        go_wp2_with (fail)
        all_goals
          go_ret
          refine ⟨b, rfl, fun h => ?_, bl2 HP.out.2.2 HX.out.2⟩
          have hb := HX.out.1 h
          obtain ⟨_, _, hk, hp, hq⟩ := Ex_x.1 HH.out.1
          refine Ex_x.2 ⟨bare_C2 hb HSH.out (.inl ⟨HK.out, rfl⟩), (Ex_x.1 HH.out.1).2.1, ?_, ?_, ?_⟩
          · rw [hb.kn]; exact rows.nil hk.2.1
          · rw [hb.pn]; exact rows.nil hp.2.1
          · rw [hb.qn]; exact rows.nil hq.2.1
      · have e11 : (x.kind == 11) = false := beq_eq_false_iff_ne.mpr hx11
        clear hx11
        go_wp2_with (fail)
        go_ret
        exact ⟨false, rfl, fun h => by simp at h, HP.out.2.2⟩
    · have e9 : (y.kind == 9) = false := beq_eq_false_iff_ne.mpr hk9
      clear hk9
      by_cases hk10 : y.kind = 10
      · have e10 : (y.kind == 10) = true := beq_iff_eq.mpr hk10
        have HK := Lib.hid hk10
        clear hk10
        go_wp2_with (fail)
        refine (meanBare y 1 _ HSH.out).mono ?_
        rintro e w3 ⟨b, rfl, hb, hbel⟩
        have HX := Lib.hid (⟨hb, hbel, bl2 HP.out.2.2 hbel⟩ : _ ∧ _ ∧ _)
        clear hb hbel
        cases b with
        | false =>
          go_wp2_with (fail)
          go_ret
          exact ⟨false, rfl, fun h => by simp at h, HX.out.2.2⟩
        | true =>
          have HB := Lib.hid (HX.out.1 (by first | rfl | trivial))
          have q8 : w3.cell? ⟨w1.heap.size, 8, none⟩ = some (.slice y.ka y.kn y.kc) := blk_cell ((HX.out.2.1.block _ (blk_lt HP.out.1)).trans HP.out.1) 8
          rw [HB.out.kn] at q8
          have HKR := Lib.hid (Ex_x.1 HH.out.1).2.2.1
          obtain ⟨gk, ok, csk, eAk, hgk, _, hEk, hck, hstk⟩ := HKR.out.at (show 0 < y.kn by rw [HB.out.kn]; exact Nat.one_pos)
          obtain ⟨z, rfl⟩ := hEk.cells
          have HBI3 := Lib.hid (bl HC.out.2 hN HX.out.2.2)
          have k0 := inp HBI3.out hgk (hck 0 _ rfl)
          rw [show ok + 0 * 13 + 0 = ok by omega] at k0
          have k1 := inp HBI3.out hgk (hck 1 _ rfl)
          rw [show ok + 0 * 13 + 1 = ok + 1 by omega] at k1
          have k2 := inp HBI3.out hgk (hck 2 _ rfl)
          rw [show ok + 0 * 13 + 2 = ok + 2 by omega] at k2
          have k3 := inp HBI3.out hgk (hck 3 _ rfl)
          rw [show ok + 0 * 13 + 3 = ok + 3 by omega] at k3
          have k4 := inp HBI3.out hgk (hck 4 _ rfl)
          rw [show ok + 0 * 13 + 4 = ok + 4 by omega] at k4
          have k5 := inp HBI3.out hgk (hck 5 _ rfl)
          rw [show ok + 0 * 13 + 5 = ok + 5 by omega] at k5
          have k6 := inp HBI3.out hgk (hck 6 _ rfl)
          rw [show ok + 0 * 13 + 6 = ok + 6 by omega] at k6
          have k7 := inp HBI3.out hgk (hck 7 _ rfl)
          rw [show ok + 0 * 13 + 7 = ok + 7 by omega] at k7
          have k8 := inp HBI3.out hgk (hck 8 _ rfl)
          rw [show ok + 0 * 13 + 8 = ok + 8 by omega] at k8
          have k9 := inp HBI3.out hgk (hck 9 _ rfl)
          rw [show ok + 0 * 13 + 9 = ok + 9 by omega] at k9
          have k10 := inp HBI3.out hgk (hck 10 _ rfl)
          rw [show ok + 0 * 13 + 10 = ok + 10 by omega] at k10
          have k11 := inp HBI3.out hgk (hck 11 _ rfl)
          rw [show ok + 0 * 13 + 11 = ok + 11 by omega] at k11
          have k12 := inp HBI3.out hgk (hck 12 _ rfl)
          rw [show ok + 0 * 13 + 12 = ok + 12 by omega] at k12
          rw [eAk] at q8
          have HE := Lib.hid (⟨hEk, hstk⟩ : _ ∧ _)
          clear hck hEk hstk eAk p0 p1 p2 p3 p4 p5 p6 p7 p8 p9 p10 p11 p12
          go_wp2_with (fail)
          refine (HH.out.2.2.2.2 n (Nat.lt_succ_self n) z N W _ HE.out.1 HBI3.out hN).mono ?_
          rintro e w4 ⟨b, rfl, hb, hbel⟩
          have HY := Lib.hid (⟨hb, bl2 HX.out.2.2 hbel⟩ : _ ∧ _)
          clear hb hbel
          go_wp2_with (fail)
          all_goals
            go_ret
            refine ⟨b, rfl, fun h => ?_, HY.out.2⟩
            have hb := HB.out
            obtain ⟨_, _, hk, hp, hq⟩ := Ex_x.1 HH.out.1
            refine Ex_x.2 ⟨bare_C2 hb HSH.out (.inr ⟨HK.out, rfl⟩), (Ex_x.1 HH.out.1).2.1, ?_, ?_, ?_⟩
            · rw [hb.kn]; exact HE.out.2 _ (HY.out.1 h) (rows.nil hk.2.1)
            · rw [hb.pn]; exact rows.nil hp.2.1
            · rw [hb.qn]; exact rows.nil hq.2.1
      · have e10 : (y.kind == 10) = false := beq_eq_false_iff_ne.mpr hk10
        clear hk10
        go_wp2_with (fail)
        go_ret
        exact ⟨false, rfl, fun h => by simp at h, HP.out.2.2⟩
end Go.Proofs.YtacokmkbikdmmaaGreatDoor.trees
