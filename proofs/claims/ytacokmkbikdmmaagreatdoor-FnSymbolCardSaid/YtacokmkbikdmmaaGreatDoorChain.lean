/-
  chainRight.
  Conditions: none.
-/
import Derived.Test.YtacokmkbikdmmaaGreatDoorSmall
import Derived.Laws.BitsAllLaws
namespace Go.Proofs.YtacokmkbikdmmaaGreatDoor.trees
open Go Go.RowKit
set_option linter.unusedVariables false
set_option linter.unusedSimpArgs false

attribute [local go_sem] run_store_float
set_option maxHeartbeats 4000000 in
set_option maxRecDepth 100000 in
theorem chainRight (x : X) (N : Nat) (W W1 : World) (hk : Kr N W x) (h0 : Below N W W1) (hN : N ≤ W.heap.size) (hkd : x.kind = 16 ∧ x.kn = 1 ∨ x.kind = 17 ∧ x.kn = 2 ∨ x.kind = 18 ∧ 0 < x.kn) : Calls Tryz.prog 50 #[.agg #[.int .i64 x.kind, .int .i64 x.op, .int .i64 x.ref, .int .i64 x.chain, .int .i64 x.flags, .float .f64 x.num, .slice x.sa x.sn x.sc, .string x.text, .slice x.ka x.kn x.kc, .slice x.pa x.pn x.pc, .slice x.qa x.qn x.qc, .slice x.fa x.fn x.fc, .slice x.ca x.cn x.cc]] W1 (fun e w' => Pb W1 (0 ≤ x.chain ∧ x.chain ≤ 2) e w') := by
  have h1 : 0 < x.kn := by omega
  have HK := Lib.hid (⟨hk, h0, hkd⟩ : _ ∧ _ ∧ _)
  clear hkd
  have H1 := Lib.hid h1
  clear h1
  go_enter Tryz.func50, Tryz.ntmps50
  go_upto_region 1 with (fail)
  have hD := heap_alloc_new W1 (.cells #[.int .i64 x.kind, .int .i64 x.op, .int .i64 x.ref, .int .i64 x.chain, .int .i64 x.flags, .float .f64 x.num, .slice x.sa x.sn x.sc, .string x.text, .slice x.ka x.kn x.kc, .slice x.pa x.pn x.pc, .slice x.qa x.qn x.qc, .slice x.fa x.fn x.fc, .slice x.ca x.cn x.cc] 30)
  have hDb := (Below.refl W1.heap.size W1).alloc (Nat.le_refl _) (.cells #[.int .i64 x.kind, .int .i64 x.op, .int .i64 x.ref, .int .i64 x.chain, .int .i64 x.flags, .float .f64 x.num, .slice x.sa x.sn x.sc, .string x.text, .slice x.ka x.kn x.kc, .slice x.pa x.pn x.pc, .slice x.qa x.qn x.qc, .slice x.fa x.fn x.fc, .slice x.ca x.cn x.cc] 30)
  have hDs : (W1.alloc (.cells #[.int .i64 x.kind, .int .i64 x.op, .int .i64 x.ref, .int .i64 x.chain, .int .i64 x.flags, .float .f64 x.num, .slice x.sa x.sn x.sc, .string x.text, .slice x.ka x.kn x.kc, .slice x.pa x.pn x.pc, .slice x.qa x.qn x.qc, .slice x.fa x.fn x.fc, .slice x.ca x.cn x.cc] 30)).heap.size = W1.heap.size + 1 := by simp
  generalize W1.alloc (.cells #[.int .i64 x.kind, .int .i64 x.op, .int .i64 x.ref, .int .i64 x.chain, .int .i64 x.flags, .float .f64 x.num, .slice x.sa x.sn x.sc, .string x.text, .slice x.ka x.kn x.kc, .slice x.pa x.pn x.pc, .slice x.qa x.qn x.qc, .slice x.fa x.fn x.fc, .slice x.ca x.cn x.cc] 30) = w1 at hD hDb hDs ⊢
  have d0 : w1.cell? ⟨W1.heap.size, 0, none⟩ = some (.int .i64 x.kind) := blk_cell hD 0
  have d1 : w1.cell? ⟨W1.heap.size, 1, none⟩ = some (.int .i64 x.op) := blk_cell hD 1
  have d3 : w1.cell? ⟨W1.heap.size, 3, none⟩ = some (.int .i64 x.chain) := blk_cell hD 3
  have d4 : w1.cell? ⟨W1.heap.size, 4, none⟩ = some (.int .i64 x.flags) := blk_cell hD 4
  have HD := Lib.hid (⟨hD, hDb, hDs⟩ : _ ∧ _ ∧ _)
  clear hD hDb hDs
  have d8 : w1.cell? ⟨W1.heap.size, 8, none⟩ = some (.slice x.ka x.kn x.kc) := blk_cell HD.out.1 8
  have hb := HD.out.2.1
  have hbi := bl h0 hN hb
  have HBI := Lib.hid hbi
  have x1 : (0 : Int) < (x.kn : Int) := by have := H1.out; omega
  obtain ⟨gk, ok, csk, eAk, hgk, _, hEk, hck, hstk⟩ := (hk).at (show 0 < x.kn by have := H1.out; omega)
  obtain ⟨y, rfl⟩ := hEk
  have k0 := inp HBI.out hgk (hck 0 _ rfl)
  rw [show ok + 0 * 13 + 0 = ok by omega] at k0
  have k1 := inp HBI.out hgk (hck 1 _ rfl)
  rw [show ok + 0 * 13 + 1 = ok + 1 by omega] at k1
  have k2 := inp HBI.out hgk (hck 2 _ rfl)
  rw [show ok + 0 * 13 + 2 = ok + 2 by omega] at k2
  have k3 := inp HBI.out hgk (hck 3 _ rfl)
  rw [show ok + 0 * 13 + 3 = ok + 3 by omega] at k3
  have k4 := inp HBI.out hgk (hck 4 _ rfl)
  rw [show ok + 0 * 13 + 4 = ok + 4 by omega] at k4
  have k5 := inp HBI.out hgk (hck 5 _ rfl)
  rw [show ok + 0 * 13 + 5 = ok + 5 by omega] at k5
  have k6 := inp HBI.out hgk (hck 6 _ rfl)
  rw [show ok + 0 * 13 + 6 = ok + 6 by omega] at k6
  have k7 := inp HBI.out hgk (hck 7 _ rfl)
  rw [show ok + 0 * 13 + 7 = ok + 7 by omega] at k7
  have k8 := inp HBI.out hgk (hck 8 _ rfl)
  rw [show ok + 0 * 13 + 8 = ok + 8 by omega] at k8
  have k9 := inp HBI.out hgk (hck 9 _ rfl)
  rw [show ok + 0 * 13 + 9 = ok + 9 by omega] at k9
  have k10 := inp HBI.out hgk (hck 10 _ rfl)
  rw [show ok + 0 * 13 + 10 = ok + 10 by omega] at k10
  have k11 := inp HBI.out hgk (hck 11 _ rfl)
  rw [show ok + 0 * 13 + 11 = ok + 11 by omega] at k11
  have k12 := inp HBI.out hgk (hck 12 _ rfl)
  rw [show ok + 0 * 13 + 12 = ok + 12 by omega] at k12
  have HA := Lib.hid eAk
  rw [eAk] at d8
  clear hck hstk eAk hk h0 hbi
  go_upto_region 2 with (fail)
  have hP := heap_alloc_new w1 (.cells #[.int .i64 y.kind, .int .i64 y.op, .int .i64 y.ref, .int .i64 y.chain, .int .i64 y.flags, .float .f64 y.num, .slice y.sa y.sn y.sc, .string y.text, .slice y.ka y.kn y.kc, .slice y.pa y.pn y.pc, .slice y.qa y.qn y.qc, .slice y.fa y.fn y.fc, .slice y.ca y.cn y.cc] 30)
  have hPb := (Below.refl w1.heap.size w1).alloc (Nat.le_refl _) (.cells #[.int .i64 y.kind, .int .i64 y.op, .int .i64 y.ref, .int .i64 y.chain, .int .i64 y.flags, .float .f64 y.num, .slice y.sa y.sn y.sc, .string y.text, .slice y.ka y.kn y.kc, .slice y.pa y.pn y.pc, .slice y.qa y.qn y.qc, .slice y.fa y.fn y.fc, .slice y.ca y.cn y.cc] 30)
  replace d0 := (hPb.cell (World.block_lt_of_cell? _ _ d0)).trans d0
  replace d1 := (hPb.cell (World.block_lt_of_cell? _ _ d1)).trans d1
  replace d3 := (hPb.cell (World.block_lt_of_cell? _ _ d3)).trans d3
  replace d4 := (hPb.cell (World.block_lt_of_cell? _ _ d4)).trans d4
  replace d8 := (hPb.cell (World.block_lt_of_cell? _ _ d8)).trans d8
  generalize w1.alloc (.cells #[.int .i64 y.kind, .int .i64 y.op, .int .i64 y.ref, .int .i64 y.chain, .int .i64 y.flags, .float .f64 y.num, .slice y.sa y.sn y.sc, .string y.text, .slice y.ka y.kn y.kc, .slice y.pa y.pn y.pc, .slice y.qa y.qn y.qc, .slice y.fa y.fn y.fc, .slice y.ca y.cn y.cc] 30) = w2 at hP hPb d0 d1 d3 d4 d8 ⊢
  have p0 : w2.cell? ⟨w1.heap.size, 0, none⟩ = some (.int .i64 y.kind) := blk_cell hP 0
  have p1 : w2.cell? ⟨w1.heap.size, 1, none⟩ = some (.int .i64 y.op) := blk_cell hP 1
  have p2 : w2.cell? ⟨w1.heap.size, 2, none⟩ = some (.int .i64 y.ref) := blk_cell hP 2
  have p3 : w2.cell? ⟨w1.heap.size, 3, none⟩ = some (.int .i64 y.chain) := blk_cell hP 3
  have p4 : w2.cell? ⟨w1.heap.size, 4, none⟩ = some (.int .i64 y.flags) := blk_cell hP 4
  have p5 : w2.cell? ⟨w1.heap.size, 5, none⟩ = some (.float .f64 y.num) := blk_cell hP 5
  have p6 : w2.cell? ⟨w1.heap.size, 6, none⟩ = some (.slice y.sa y.sn y.sc) := blk_cell hP 6
  have p7 : w2.cell? ⟨w1.heap.size, 7, none⟩ = some (.string y.text) := blk_cell hP 7
  have p8 : w2.cell? ⟨w1.heap.size, 8, none⟩ = some (.slice y.ka y.kn y.kc) := blk_cell hP 8
  have p9 : w2.cell? ⟨w1.heap.size, 9, none⟩ = some (.slice y.pa y.pn y.pc) := blk_cell hP 9
  have p10 : w2.cell? ⟨w1.heap.size, 10, none⟩ = some (.slice y.qa y.qn y.qc) := blk_cell hP 10
  have p11 : w2.cell? ⟨w1.heap.size, 11, none⟩ = some (.slice y.fa y.fn y.fc) := blk_cell hP 11
  have p12 : w2.cell? ⟨w1.heap.size, 12, none⟩ = some (.slice y.ca y.cn y.cc) := blk_cell hP 12
  have HP := Lib.hid hP
  have hb2 := bl2 hb hPb
  have HPb := Lib.hid hPb
  clear hP hPb hb k0 k1 k2 k3 k4 k5 k6 k7 k8 k9 k10 k11 k12
  by_cases c0 : x.chain < 0
  · have e0 : decide (x.chain < 0) = true := decide_eq_true c0
    clear c0
    go_wp2_with (fail)
    go_ret
    exact ⟨false, rfl, fun h => by simp at h, hb2⟩
  · have e0 : decide (x.chain < 0) = false := decide_eq_false c0
    by_cases c1 : 2 < x.chain
    · have e1 : decide (2 < x.chain) = true := decide_eq_true c1
      clear c0 c1
      go_wp2_with (fail)
      go_ret
      exact ⟨false, rfl, fun h => by simp at h, hb2⟩
    · have e1 : decide (2 < x.chain) = false := decide_eq_false c1
      have HC := Lib.hid (show 0 ≤ x.chain ∧ x.chain ≤ 2 by omega)
      clear c0 c1
      rcases HK.out.2.2 with ⟨ek, hkn⟩ | ⟨ek, hkn⟩ | ⟨ek, _⟩
      · clear hkn x1
        rw [ek] at d0
        clear ek
        go_wp2_with (first | (go_at_call 51; refine (inChain _ _).mono ?_; rintro e w3 ⟨b, rfl, -, hbel⟩; have hbel0 := hbel; (try replace d0 := (hbel.cell (World.block_lt_of_cell? _ _ d0)).trans d0); (try replace d1 := (hbel.cell (World.block_lt_of_cell? _ _ d1)).trans d1); (try replace d3 := (hbel.cell (World.block_lt_of_cell? _ _ d3)).trans d3); (try replace d4 := (hbel.cell (World.block_lt_of_cell? _ _ d4)).trans d4); (try replace d8 := (hbel.cell (World.block_lt_of_cell? _ _ d8)).trans d8); (try replace p0 := (hbel.cell (World.block_lt_of_cell? _ _ p0)).trans p0); (try replace p4 := (hbel.cell (World.block_lt_of_cell? _ _ p4)).trans p4); (try replace z0 := (hbel.cell (World.block_lt_of_cell? _ _ z0)).trans z0); replace hb2 := bl2 hb2 hbel; clear hbel; (try replace p1 := (hbel0.cell (World.block_lt_of_cell? _ _ p1)).trans p1); (try replace p2 := (hbel0.cell (World.block_lt_of_cell? _ _ p2)).trans p2); (try replace p3 := (hbel0.cell (World.block_lt_of_cell? _ _ p3)).trans p3); (try replace p5 := (hbel0.cell (World.block_lt_of_cell? _ _ p5)).trans p5); (try replace p6 := (hbel0.cell (World.block_lt_of_cell? _ _ p6)).trans p6); (try replace p7 := (hbel0.cell (World.block_lt_of_cell? _ _ p7)).trans p7); (try replace p8 := (hbel0.cell (World.block_lt_of_cell? _ _ p8)).trans p8); (try replace p9 := (hbel0.cell (World.block_lt_of_cell? _ _ p9)).trans p9); (try replace p10 := (hbel0.cell (World.block_lt_of_cell? _ _ p10)).trans p10); (try replace p11 := (hbel0.cell (World.block_lt_of_cell? _ _ p11)).trans p11); (try replace p12 := (hbel0.cell (World.block_lt_of_cell? _ _ p12)).trans p12); clear hbel0) | (go_at_call 53; refine (accessed _ _).mono ?_; rintro e w3 ⟨b, rfl, -, hbel⟩; have hbel0 := hbel; (try replace d0 := (hbel.cell (World.block_lt_of_cell? _ _ d0)).trans d0); (try replace d1 := (hbel.cell (World.block_lt_of_cell? _ _ d1)).trans d1); (try replace d3 := (hbel.cell (World.block_lt_of_cell? _ _ d3)).trans d3); (try replace d4 := (hbel.cell (World.block_lt_of_cell? _ _ d4)).trans d4); (try replace d8 := (hbel.cell (World.block_lt_of_cell? _ _ d8)).trans d8); (try replace p0 := (hbel.cell (World.block_lt_of_cell? _ _ p0)).trans p0); (try replace p4 := (hbel.cell (World.block_lt_of_cell? _ _ p4)).trans p4); (try replace z0 := (hbel.cell (World.block_lt_of_cell? _ _ z0)).trans z0); replace hb2 := bl2 hb2 hbel; clear hbel; (try replace p1 := (hbel0.cell (World.block_lt_of_cell? _ _ p1)).trans p1); (try replace p2 := (hbel0.cell (World.block_lt_of_cell? _ _ p2)).trans p2); (try replace p3 := (hbel0.cell (World.block_lt_of_cell? _ _ p3)).trans p3); (try replace p5 := (hbel0.cell (World.block_lt_of_cell? _ _ p5)).trans p5); (try replace p6 := (hbel0.cell (World.block_lt_of_cell? _ _ p6)).trans p6); (try replace p7 := (hbel0.cell (World.block_lt_of_cell? _ _ p7)).trans p7); (try replace p8 := (hbel0.cell (World.block_lt_of_cell? _ _ p8)).trans p8); (try replace p9 := (hbel0.cell (World.block_lt_of_cell? _ _ p9)).trans p9); (try replace p10 := (hbel0.cell (World.block_lt_of_cell? _ _ p10)).trans p10); (try replace p11 := (hbel0.cell (World.block_lt_of_cell? _ _ p11)).trans p11); (try replace p12 := (hbel0.cell (World.block_lt_of_cell? _ _ p12)).trans p12); clear hbel0))
        all_goals
          go_ret
          exact ⟨_, rfl, fun _ => by first | exact HC.out | trivial, hb2⟩
      · obtain ⟨g2, o2, cs2, eA2, hg2, _, hE2, hc2, _⟩ := HK.out.1.at (show 1 < x.kn by omega)
        rw [HA.out] at eA2
        cases eA2
        obtain ⟨z, rfl⟩ := hE2
        have z0 := inp (bl HK.out.2.1 hN hb2) hg2 (hc2 0 _ rfl)
        rw [show ok + 1 * 13 + 0 = ok + 13 by omega] at z0
        have x2 : (1 : Int) < (x.kn : Int) := by omega
        rw [ek] at d0
        clear hc2 ek hkn
        go_wp2_with (first | (go_at_call 51; refine (inChain _ _).mono ?_; rintro e w3 ⟨b, rfl, -, hbel⟩; have hbel0 := hbel; (try replace d0 := (hbel.cell (World.block_lt_of_cell? _ _ d0)).trans d0); (try replace d1 := (hbel.cell (World.block_lt_of_cell? _ _ d1)).trans d1); (try replace d3 := (hbel.cell (World.block_lt_of_cell? _ _ d3)).trans d3); (try replace d4 := (hbel.cell (World.block_lt_of_cell? _ _ d4)).trans d4); (try replace d8 := (hbel.cell (World.block_lt_of_cell? _ _ d8)).trans d8); (try replace p0 := (hbel.cell (World.block_lt_of_cell? _ _ p0)).trans p0); (try replace p4 := (hbel.cell (World.block_lt_of_cell? _ _ p4)).trans p4); (try replace z0 := (hbel.cell (World.block_lt_of_cell? _ _ z0)).trans z0); replace hb2 := bl2 hb2 hbel; clear hbel; (try replace p1 := (hbel0.cell (World.block_lt_of_cell? _ _ p1)).trans p1); (try replace p2 := (hbel0.cell (World.block_lt_of_cell? _ _ p2)).trans p2); (try replace p3 := (hbel0.cell (World.block_lt_of_cell? _ _ p3)).trans p3); (try replace p5 := (hbel0.cell (World.block_lt_of_cell? _ _ p5)).trans p5); (try replace p6 := (hbel0.cell (World.block_lt_of_cell? _ _ p6)).trans p6); (try replace p7 := (hbel0.cell (World.block_lt_of_cell? _ _ p7)).trans p7); (try replace p8 := (hbel0.cell (World.block_lt_of_cell? _ _ p8)).trans p8); (try replace p9 := (hbel0.cell (World.block_lt_of_cell? _ _ p9)).trans p9); (try replace p10 := (hbel0.cell (World.block_lt_of_cell? _ _ p10)).trans p10); (try replace p11 := (hbel0.cell (World.block_lt_of_cell? _ _ p11)).trans p11); (try replace p12 := (hbel0.cell (World.block_lt_of_cell? _ _ p12)).trans p12); clear hbel0) | (go_at_call 53; refine (accessed _ _).mono ?_; rintro e w3 ⟨b, rfl, -, hbel⟩; have hbel0 := hbel; (try replace d0 := (hbel.cell (World.block_lt_of_cell? _ _ d0)).trans d0); (try replace d1 := (hbel.cell (World.block_lt_of_cell? _ _ d1)).trans d1); (try replace d3 := (hbel.cell (World.block_lt_of_cell? _ _ d3)).trans d3); (try replace d4 := (hbel.cell (World.block_lt_of_cell? _ _ d4)).trans d4); (try replace d8 := (hbel.cell (World.block_lt_of_cell? _ _ d8)).trans d8); (try replace p0 := (hbel.cell (World.block_lt_of_cell? _ _ p0)).trans p0); (try replace p4 := (hbel.cell (World.block_lt_of_cell? _ _ p4)).trans p4); (try replace z0 := (hbel.cell (World.block_lt_of_cell? _ _ z0)).trans z0); replace hb2 := bl2 hb2 hbel; clear hbel; (try replace p1 := (hbel0.cell (World.block_lt_of_cell? _ _ p1)).trans p1); (try replace p2 := (hbel0.cell (World.block_lt_of_cell? _ _ p2)).trans p2); (try replace p3 := (hbel0.cell (World.block_lt_of_cell? _ _ p3)).trans p3); (try replace p5 := (hbel0.cell (World.block_lt_of_cell? _ _ p5)).trans p5); (try replace p6 := (hbel0.cell (World.block_lt_of_cell? _ _ p6)).trans p6); (try replace p7 := (hbel0.cell (World.block_lt_of_cell? _ _ p7)).trans p7); (try replace p8 := (hbel0.cell (World.block_lt_of_cell? _ _ p8)).trans p8); (try replace p9 := (hbel0.cell (World.block_lt_of_cell? _ _ p9)).trans p9); (try replace p10 := (hbel0.cell (World.block_lt_of_cell? _ _ p10)).trans p10); (try replace p11 := (hbel0.cell (World.block_lt_of_cell? _ _ p11)).trans p11); (try replace p12 := (hbel0.cell (World.block_lt_of_cell? _ _ p12)).trans p12); clear hbel0))
        all_goals
          go_ret
          exact ⟨_, rfl, fun _ => by first | exact HC.out | trivial, hb2⟩
      · rw [ek] at d0
        clear ek
        go_wp2_with (first | (go_at_call 51; refine (inChain _ _).mono ?_; rintro e w3 ⟨b, rfl, -, hbel⟩; have hbel0 := hbel; (try replace d0 := (hbel.cell (World.block_lt_of_cell? _ _ d0)).trans d0); (try replace d1 := (hbel.cell (World.block_lt_of_cell? _ _ d1)).trans d1); (try replace d3 := (hbel.cell (World.block_lt_of_cell? _ _ d3)).trans d3); (try replace d4 := (hbel.cell (World.block_lt_of_cell? _ _ d4)).trans d4); (try replace d8 := (hbel.cell (World.block_lt_of_cell? _ _ d8)).trans d8); (try replace p0 := (hbel.cell (World.block_lt_of_cell? _ _ p0)).trans p0); (try replace p4 := (hbel.cell (World.block_lt_of_cell? _ _ p4)).trans p4); (try replace z0 := (hbel.cell (World.block_lt_of_cell? _ _ z0)).trans z0); replace hb2 := bl2 hb2 hbel; clear hbel; (try replace p1 := (hbel0.cell (World.block_lt_of_cell? _ _ p1)).trans p1); (try replace p2 := (hbel0.cell (World.block_lt_of_cell? _ _ p2)).trans p2); (try replace p3 := (hbel0.cell (World.block_lt_of_cell? _ _ p3)).trans p3); (try replace p5 := (hbel0.cell (World.block_lt_of_cell? _ _ p5)).trans p5); (try replace p6 := (hbel0.cell (World.block_lt_of_cell? _ _ p6)).trans p6); (try replace p7 := (hbel0.cell (World.block_lt_of_cell? _ _ p7)).trans p7); (try replace p8 := (hbel0.cell (World.block_lt_of_cell? _ _ p8)).trans p8); (try replace p9 := (hbel0.cell (World.block_lt_of_cell? _ _ p9)).trans p9); (try replace p10 := (hbel0.cell (World.block_lt_of_cell? _ _ p10)).trans p10); (try replace p11 := (hbel0.cell (World.block_lt_of_cell? _ _ p11)).trans p11); (try replace p12 := (hbel0.cell (World.block_lt_of_cell? _ _ p12)).trans p12); clear hbel0) | (go_at_call 53; refine (accessed _ _).mono ?_; rintro e w3 ⟨b, rfl, -, hbel⟩; have hbel0 := hbel; (try replace d0 := (hbel.cell (World.block_lt_of_cell? _ _ d0)).trans d0); (try replace d1 := (hbel.cell (World.block_lt_of_cell? _ _ d1)).trans d1); (try replace d3 := (hbel.cell (World.block_lt_of_cell? _ _ d3)).trans d3); (try replace d4 := (hbel.cell (World.block_lt_of_cell? _ _ d4)).trans d4); (try replace d8 := (hbel.cell (World.block_lt_of_cell? _ _ d8)).trans d8); (try replace p0 := (hbel.cell (World.block_lt_of_cell? _ _ p0)).trans p0); (try replace p4 := (hbel.cell (World.block_lt_of_cell? _ _ p4)).trans p4); (try replace z0 := (hbel.cell (World.block_lt_of_cell? _ _ z0)).trans z0); replace hb2 := bl2 hb2 hbel; clear hbel; (try replace p1 := (hbel0.cell (World.block_lt_of_cell? _ _ p1)).trans p1); (try replace p2 := (hbel0.cell (World.block_lt_of_cell? _ _ p2)).trans p2); (try replace p3 := (hbel0.cell (World.block_lt_of_cell? _ _ p3)).trans p3); (try replace p5 := (hbel0.cell (World.block_lt_of_cell? _ _ p5)).trans p5); (try replace p6 := (hbel0.cell (World.block_lt_of_cell? _ _ p6)).trans p6); (try replace p7 := (hbel0.cell (World.block_lt_of_cell? _ _ p7)).trans p7); (try replace p8 := (hbel0.cell (World.block_lt_of_cell? _ _ p8)).trans p8); (try replace p9 := (hbel0.cell (World.block_lt_of_cell? _ _ p9)).trans p9); (try replace p10 := (hbel0.cell (World.block_lt_of_cell? _ _ p10)).trans p10); (try replace p11 := (hbel0.cell (World.block_lt_of_cell? _ _ p11)).trans p11); (try replace p12 := (hbel0.cell (World.block_lt_of_cell? _ _ p12)).trans p12); clear hbel0))
        all_goals
          go_ret
          exact ⟨_, rfl, fun _ => by first | exact HC.out | trivial, hb2⟩
end Go.Proofs.YtacokmkbikdmmaaGreatDoor.trees
