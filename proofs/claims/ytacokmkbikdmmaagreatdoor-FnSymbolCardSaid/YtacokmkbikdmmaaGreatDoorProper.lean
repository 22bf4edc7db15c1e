/-
  spec.proper: it tells of an expression that it holds no functions and classes, and of an access that its chain is one.
  Conditions: none.
-/
import Derived.Test.YtacokmkbikdmmaaGreatDoorChain
import Derived.Test.YtacokmkbikdmmaaGreatDoorBare
import Derived.Test.YtacokmkbikdmmaaGreatDoorNums
import Derived.Laws.BitsAllLaws
namespace Go.Proofs.YtacokmkbikdmmaaGreatDoor.trees
open Go Go.RowKit
set_option linter.unusedVariables false
set_option linter.unusedSimpArgs false

attribute [local go_sem] run_store_float
theorem eq_float (b c : Nat) (w : World) : Sem.run Tryz.prog (binOp .eql 22 (.float .f64 b) (.float .f64 c)) w = .ok (.bool (FloatKind.f64.format.order b c == some Ordering.eq)) w := by kernel_rfl
attribute [local go_sem high] eq_float
/-- what uses has told of the number of parts -/
structure Kn (x : X) : Prop where
  lo : 0 ≤ x.kind
  hi : x.kind ≤ 26
  unary : x.kind = 13 → x.kn = 1
  binary : x.kind = 14 → x.kn = 2
  test : x.kind = 15 → x.kn = 3
  dot : x.kind = 16 → x.kn = 1
  index : x.kind = 17 → x.kn = 2
  call : x.kind = 18 → 0 < x.kn
  new : x.kind = 19 → 0 < x.kn
  templ : x.kind = 20 → x.kn < 2
  odd : x.kind ≠ 9 ∧ x.kind ≠ 10 ∧ x.kind ≠ 23
  enum : x.kind = 24 → x.kn = 1
def Pr (x : X) : Prop := x.fn = 0 ∧ x.cn = 0 ∧ (x.kind = 16 ∨ x.kind = 17 ∨ x.kind = 18 → 0 ≤ x.chain ∧ x.chain ≤ 2)
set_option maxHeartbeats 8000000 in
set_option maxRecDepth 100000 in
theorem proper (x : X) (N n : Nat) (W W1 : World) (h : Ex C1 N W (n + 1) x.cells) (h0 : Below N W W1) (hN : N ≤ W.heap.size) (hkn : Kn x) : Calls Tryz.prog 27 #[.agg #[.int .i64 x.kind, .int .i64 x.op, .int .i64 x.ref, .int .i64 x.chain, .int .i64 x.flags, .float .f64 x.num, .slice x.sa x.sn x.sc, .string x.text, .slice x.ka x.kn x.kc, .slice x.pa x.pn x.pc, .slice x.qa x.qn x.qc, .slice x.fa x.fn x.fc, .slice x.ca x.cn x.cc]] W1 (fun e w' => Pb W1 (Pr x) e w') := by
  have hkr := h.kr
  obtain ⟨hz, hs, _, _, hq⟩ := Ex_x.1 h
  have HH := Lib.hid (⟨hkr, hs, hq, h0, hkn, hz⟩ : _ ∧ _ ∧ _ ∧ _ ∧ _ ∧ _)
  clear h hkr hs hq h0 hkn hz
  go_enter Tryz.func27, Tryz.ntmps27
  go_upto_region 1 with (fail)
  have hD := heap_alloc_new W1 (.cells #[.int .i64 x.kind, .int .i64 x.op, .int .i64 x.ref, .int .i64 x.chain, .int .i64 x.flags, .float .f64 x.num, .slice x.sa x.sn x.sc, .string x.text, .slice x.ka x.kn x.kc, .slice x.pa x.pn x.pc, .slice x.qa x.qn x.qc, .slice x.fa x.fn x.fc, .slice x.ca x.cn x.cc] 30)
  have hDb := (Below.refl W1.heap.size W1).alloc (Nat.le_refl _) (.cells #[.int .i64 x.kind, .int .i64 x.op, .int .i64 x.ref, .int .i64 x.chain, .int .i64 x.flags, .float .f64 x.num, .slice x.sa x.sn x.sc, .string x.text, .slice x.ka x.kn x.kc, .slice x.pa x.pn x.pc, .slice x.qa x.qn x.qc, .slice x.fa x.fn x.fc, .slice x.ca x.cn x.cc] 30)
  have hDs : (W1.alloc (.cells #[.int .i64 x.kind, .int .i64 x.op, .int .i64 x.ref, .int .i64 x.chain, .int .i64 x.flags, .float .f64 x.num, .slice x.sa x.sn x.sc, .string x.text, .slice x.ka x.kn x.kc, .slice x.pa x.pn x.pc, .slice x.qa x.qn x.qc, .slice x.fa x.fn x.fc, .slice x.ca x.cn x.cc] 30)).heap.size = W1.heap.size + 1 := by simp
  generalize W1.alloc (.cells #[.int .i64 x.kind, .int .i64 x.op, .int .i64 x.ref, .int .i64 x.chain, .int .i64 x.flags, .float .f64 x.num, .slice x.sa x.sn x.sc, .string x.text, .slice x.ka x.kn x.kc, .slice x.pa x.pn x.pc, .slice x.qa x.qn x.qc, .slice x.fa x.fn x.fc, .slice x.ca x.cn x.cc] 30) = w1 at hD hDb hDs ⊢
  have d0 : w1.cell? ⟨W1.heap.size, 0, none⟩ = some (.int .i64 x.kind) := blk_cell hD 0
  have d1 : w1.cell? ⟨W1.heap.size, 1, none⟩ = some (.int .i64 x.op) := blk_cell hD 1
  have d2 : w1.cell? ⟨W1.heap.size, 2, none⟩ = some (.int .i64 x.ref) := blk_cell hD 2
  have d3 : w1.cell? ⟨W1.heap.size, 3, none⟩ = some (.int .i64 x.chain) := blk_cell hD 3
  have d4 : w1.cell? ⟨W1.heap.size, 4, none⟩ = some (.int .i64 x.flags) := blk_cell hD 4
  have d5 : w1.cell? ⟨W1.heap.size, 5, none⟩ = some (.float .f64 x.num) := blk_cell hD 5
  have d6 : w1.cell? ⟨W1.heap.size, 6, none⟩ = some (.slice x.sa x.sn x.sc) := blk_cell hD 6
  have d7 : w1.cell? ⟨W1.heap.size, 7, none⟩ = some (.string x.text) := blk_cell hD 7
  have d8 : w1.cell? ⟨W1.heap.size, 8, none⟩ = some (.slice x.ka x.kn x.kc) := blk_cell hD 8
  have d9 : w1.cell? ⟨W1.heap.size, 9, none⟩ = some (.slice x.pa x.pn x.pc) := blk_cell hD 9
  have d10 : w1.cell? ⟨W1.heap.size, 10, none⟩ = some (.slice x.qa x.qn x.qc) := blk_cell hD 10
  have d11 : w1.cell? ⟨W1.heap.size, 11, none⟩ = some (.slice x.fa x.fn x.fc) := blk_cell hD 11
  have d12 : w1.cell? ⟨W1.heap.size, 12, none⟩ = some (.slice x.ca x.cn x.cc) := blk_cell hD 12
  have HD := Lib.hid (⟨hD, hDb, hDs⟩ : _ ∧ _ ∧ _)
  clear hD hDb hDs
  generalize Value.agg #[.int .i64 x.kind, .int .i64 x.op, .int .i64 x.ref, .int .i64 x.chain, .int .i64 x.flags, .float .f64 x.num, .slice x.sa x.sn x.sc, .string x.text, .slice x.ka x.kn x.kc, .slice x.pa x.pn x.pc, .slice x.qa x.qn x.qc, .slice x.fa x.fn x.fc, .slice x.ca x.cn x.cc] = arg
  go_cut [49] from 5 to 48 (fun v49 wd => ∃ b, v49 = .bool b ∧ Hid (b = false → x.fn = 0 ∧ x.cn = 0) ∧ Hid (Below w1.heap.size w1 wd))
  case first =>
    have hb0 := Below.refl w1.heap.size w1
    have HS := Lib.hid (⟨fun (w2 : World) (hb : Below N W w2) => HH.out.2.1.imp (Nat.le_refl _) (below_cells hb) (fun _ h => h), trivial⟩ : (∀ w2 : World, Below N W w2 → rows w2 N 1 x.sa x.sn x.sc unit) ∧ True)
    by_cases c0 : x.fn = 0 ∧ x.cn = 0
    · have HC := Lib.hid c0
      have s0 : wrap64 ((x.fn : Int) + (x.cn : Int)) = 0 := by unfold wrap64; omega
      clear c0
      go_wp2_with (first | (go_at_call 44; refine (onChain x N W _ HH.out.1 (bl HH.out.2.2.2.1 hN HD.out.2.1) hN).mono ?_; rintro e w3 ⟨b, rfl, -, hbel⟩; clear d1 d2 d3 d5 d8 d9 d10; replace d0 := (hbel.cell (World.block_lt_of_cell? _ _ d0)).trans d0; replace d4 := (hbel.cell (World.block_lt_of_cell? _ _ d4)).trans d4; replace d6 := (hbel.cell (World.block_lt_of_cell? _ _ d6)).trans d6; replace d7 := (hbel.cell (World.block_lt_of_cell? _ _ d7)).trans d7; replace d11 := (hbel.cell (World.block_lt_of_cell? _ _ d11)).trans d11; replace d12 := (hbel.cell (World.block_lt_of_cell? _ _ d12)).trans d12; replace hb0 := bl2 hb0 hbel; clear hbel) | (go_at_call 45; refine (utf8Text (HS.out.1 _ (bl HH.out.2.2.2.1 hN (bl2 HD.out.2.1 hb0))) HH.out.2.2.2.2.2.str).mono ?_; rintro e w3 ⟨r, rfl, hbel⟩; clear d0 d4 d6 d7 d11 d12; replace hb0 := bl2 hb0 hbel; clear hbel))
      all_goals
        go_meet
        case rel => exact ⟨_, rfl, Lib.hid (fun _ => HC.out), Lib.hid hb0⟩
    · have f1 := HH.out.2.2.2.2.2.sz.fns
      have f2 := HH.out.2.2.2.2.2.sz.classes
      have s0 : wrap64 ((x.fn : Int) + (x.cn : Int)) = (x.fn : Int) + (x.cn : Int) := by unfold wrap64; omega
      have s1 : decide ((0 : Int) < (x.fn : Int) + (x.cn : Int)) = true := decide_eq_true (by clear s0; omega)
      clear c0 f1 f2
      go_wp2_with (first | (go_at_call 44; refine (onChain x N W _ HH.out.1 (bl HH.out.2.2.2.1 hN HD.out.2.1) hN).mono ?_; rintro e w3 ⟨b, rfl, -, hbel⟩; clear d1 d2 d3 d5 d8 d9 d10; replace d0 := (hbel.cell (World.block_lt_of_cell? _ _ d0)).trans d0; replace d4 := (hbel.cell (World.block_lt_of_cell? _ _ d4)).trans d4; replace d6 := (hbel.cell (World.block_lt_of_cell? _ _ d6)).trans d6; replace d7 := (hbel.cell (World.block_lt_of_cell? _ _ d7)).trans d7; replace d11 := (hbel.cell (World.block_lt_of_cell? _ _ d11)).trans d11; replace d12 := (hbel.cell (World.block_lt_of_cell? _ _ d12)).trans d12; replace hb0 := bl2 hb0 hbel; clear hbel) | (go_at_call 45; refine (utf8Text (HS.out.1 _ (bl HH.out.2.2.2.1 hN (bl2 HD.out.2.1 hb0))) HH.out.2.2.2.2.2.str).mono ?_; rintro e w3 ⟨r, rfl, hbel⟩; clear d0 d4 d6 d7 d11 d12; replace hb0 := bl2 hb0 hbel; clear hbel))
      all_goals
        go_meet
        case rel => exact ⟨_, rfl, Lib.hid (fun h => by first | exact absurd h (by simp) | simp_all), Lib.hid hb0⟩
  case rest =>
  obtain ⟨b1, rfl, HB1, HB2⟩ := hcut
  have hbw := bl2 HD.out.2.1 HB2.out
  have HBW := Lib.hid hbw
  clear hbw d0 d1 d2 d3 d4 d5 d6 d7 d8 d9 d10 d11 d12
  cases b1 with
  | true =>
    go_wp2_with (fail)
    go_ret
    exact ⟨false, rfl, fun h => by simp at h, HBW.out⟩
  | false =>
    have HF := Lib.hid (HB1.out (by first | rfl | trivial))
    have hkl := HH.out.2.2.2.2.1.lo
    have hkh := HH.out.2.2.2.2.1.hi
    have d0 : wc.cell? ⟨W1.heap.size, 0, none⟩ = some (.int .i64 x.kind) := blk_cell ((HB2.out.block _ (blk_lt HD.out.1)).trans HD.out.1) 0
    obtain ⟨kk, hkk⟩ : ∃ kk, kk = x.kind := ⟨_, rfl⟩
    rw [← hkk] at d0 hkl hkh
    have HKK := Lib.hid hkk
    clear hkk
    rcases (show kk = 0 ∨ kk = 1 ∨ kk = 2 ∨ kk = 3 ∨ kk = 4 ∨ kk = 5 ∨ kk = 6 ∨ kk = 7 ∨ kk = 8 ∨ kk = 9 ∨ kk = 10 ∨ kk = 11 ∨ kk = 12 ∨ kk = 13 ∨ kk = 14 ∨ kk = 15 ∨ kk = 16 ∨ kk = 17 ∨ kk = 18 ∨ kk = 19 ∨ kk = 20 ∨ kk = 21 ∨ kk = 22 ∨ kk = 23 ∨ kk = 24 ∨ kk = 25 ∨ kk = 26 by omega) with rfl | rfl | rfl | rfl | rfl | rfl | rfl | rfl | rfl | rfl | rfl | rfl | rfl | rfl | rfl | rfl | rfl | rfl | rfl | rfl | rfl | rfl | rfl | rfl | rfl | rfl | rfl
    · clear hkl hkh
      go_wp2_with (fail)
      all_goals
        go_ret
        exact ⟨_, rfl, fun _ => ⟨HF.out.1, HF.out.2, fun h => by have := HKK.out; omega⟩, HBW.out⟩
    · clear hkl hkh
      go_wp2_with (fail)
      all_goals
        go_ret
        exact ⟨_, rfl, fun _ => ⟨HF.out.1, HF.out.2, fun h => by have := HKK.out; omega⟩, HBW.out⟩
    · clear hkl hkh
      have d5 : wc.cell? ⟨W1.heap.size, 5, none⟩ = some (.float .f64 x.num) := blk_cell ((HB2.out.block _ (blk_lt HD.out.1)).trans HD.out.1) 5
      go_wp2_with (first | (go_at_call 26; refine (plainZero _ _).mono ?_; rintro e w3 ⟨r, rfl, rfl, -⟩))
      all_goals
        go_ret
        exact ⟨_, rfl, fun _ => ⟨HF.out.1, HF.out.2, fun h => by have := HKK.out; omega⟩, HBW.out⟩
    · clear hkl hkh
      go_wp2_with (fail)
      all_goals
        go_ret
        exact ⟨_, rfl, fun _ => ⟨HF.out.1, HF.out.2, fun h => by have := HKK.out; omega⟩, HBW.out⟩
    · clear hkl hkh
      go_wp2_with (fail)
      all_goals
        go_ret
        exact ⟨_, rfl, fun _ => ⟨HF.out.1, HF.out.2, fun h => by have := HKK.out; omega⟩, HBW.out⟩
    · clear hkl hkh
      have d7 : wc.cell? ⟨W1.heap.size, 7, none⟩ = some (.string x.text) := blk_cell ((HB2.out.block _ (blk_lt HD.out.1)).trans HD.out.1) 7
      have hb0 := HBW.out
      go_wp2_with (first | (go_at_call 46; refine (numBig x.text HH.out.2.2.2.2.2.text _).mono ?_; rintro e w3 ⟨v, b, rfl, hbel⟩; replace hb0 := bl2 hb0 hbel))
      all_goals
        go_ret
        exact ⟨_, rfl, fun _ => ⟨HF.out.1, HF.out.2, fun h => by have := HKK.out; omega⟩, hb0⟩
    · clear hkl hkh
      have d7 : wc.cell? ⟨W1.heap.size, 7, none⟩ = some (.string x.text) := blk_cell ((HB2.out.block _ (blk_lt HD.out.1)).trans HD.out.1) 7
      go_wp2_with (fail)
      all_goals
        go_ret
        exact ⟨_, rfl, fun _ => ⟨HF.out.1, HF.out.2, fun h => by have := HKK.out; omega⟩, HBW.out⟩
    · clear hkl hkh
      go_wp2_with (fail)
      all_goals
        go_ret
        exact ⟨_, rfl, fun _ => ⟨HF.out.1, HF.out.2, fun h => by have := HKK.out; omega⟩, HBW.out⟩
    · clear hkl hkh
      have d2 : wc.cell? ⟨W1.heap.size, 2, none⟩ = some (.int .i64 x.ref) := blk_cell ((HB2.out.block _ (blk_lt HD.out.1)).trans HD.out.1) 2
      have d4 : wc.cell? ⟨W1.heap.size, 4, none⟩ = some (.int .i64 x.flags) := blk_cell ((HB2.out.block _ (blk_lt HD.out.1)).trans HD.out.1) 4
      go_wp2_with (fail)
      all_goals
        go_ret
        exact ⟨_, rfl, fun _ => ⟨HF.out.1, HF.out.2, fun h => by have := HKK.out; omega⟩, HBW.out⟩
    · clear hkl hkh
      go_wp2_with (fail)
      all_goals
        go_ret
        exact ⟨_, rfl, fun _ => ⟨HF.out.1, HF.out.2, fun h => by have := HKK.out; omega⟩, HBW.out⟩
    · clear hkl hkh
      go_wp2_with (fail)
      all_goals
        go_ret
        exact ⟨_, rfl, fun _ => ⟨HF.out.1, HF.out.2, fun h => by have := HKK.out; omega⟩, HBW.out⟩
    · clear hkl hkh
      go_wp2_with (fail)
      all_goals
        go_ret
        exact ⟨_, rfl, fun _ => ⟨HF.out.1, HF.out.2, fun h => by have := HKK.out; omega⟩, HBW.out⟩
    · clear hkl hkh
      go_wp2_with (fail)
      all_goals
        go_ret
        exact ⟨_, rfl, fun _ => ⟨HF.out.1, HF.out.2, fun h => by have := HKK.out; omega⟩, HBW.out⟩
    · clear hkl hkh
      have d1 : wc.cell? ⟨W1.heap.size, 1, none⟩ = some (.int .i64 x.op) := blk_cell ((HB2.out.block _ (blk_lt HD.out.1)).trans HD.out.1) 1
      have d2 : wc.cell? ⟨W1.heap.size, 2, none⟩ = some (.int .i64 x.ref) := blk_cell ((HB2.out.block _ (blk_lt HD.out.1)).trans HD.out.1) 2
      have d3 : wc.cell? ⟨W1.heap.size, 3, none⟩ = some (.int .i64 x.chain) := blk_cell ((HB2.out.block _ (blk_lt HD.out.1)).trans HD.out.1) 3
      have d4 : wc.cell? ⟨W1.heap.size, 4, none⟩ = some (.int .i64 x.flags) := blk_cell ((HB2.out.block _ (blk_lt HD.out.1)).trans HD.out.1) 4
      have d5 : wc.cell? ⟨W1.heap.size, 5, none⟩ = some (.float .f64 x.num) := blk_cell ((HB2.out.block _ (blk_lt HD.out.1)).trans HD.out.1) 5
      have d6 : wc.cell? ⟨W1.heap.size, 6, none⟩ = some (.slice x.sa x.sn x.sc) := blk_cell ((HB2.out.block _ (blk_lt HD.out.1)).trans HD.out.1) 6
      have d7 : wc.cell? ⟨W1.heap.size, 7, none⟩ = some (.string x.text) := blk_cell ((HB2.out.block _ (blk_lt HD.out.1)).trans HD.out.1) 7
      have d8 : wc.cell? ⟨W1.heap.size, 8, none⟩ = some (.slice x.ka x.kn x.kc) := blk_cell ((HB2.out.block _ (blk_lt HD.out.1)).trans HD.out.1) 8
      have d9 : wc.cell? ⟨W1.heap.size, 9, none⟩ = some (.slice x.pa x.pn x.pc) := blk_cell ((HB2.out.block _ (blk_lt HD.out.1)).trans HD.out.1) 9
      have d10 : wc.cell? ⟨W1.heap.size, 10, none⟩ = some (.slice x.qa x.qn x.qc) := blk_cell ((HB2.out.block _ (blk_lt HD.out.1)).trans HD.out.1) 10
      have d11 : wc.cell? ⟨W1.heap.size, 11, none⟩ = some (.slice x.fa x.fn x.fc) := blk_cell ((HB2.out.block _ (blk_lt HD.out.1)).trans HD.out.1) 11
      have d12 : wc.cell? ⟨W1.heap.size, 12, none⟩ = some (.slice x.ca x.cn x.cc) := blk_cell ((HB2.out.block _ (blk_lt HD.out.1)).trans HD.out.1) 12
      by_cases o0 : x.op < 0
      · have e0 : decide ((0 : Int) ≤ x.op) = false := decide_eq_false (by omega)
        clear o0
        go_upto_region 14 with (fail)
        go_quiet (fail)
        go_wp2_with (fail)
        go_ret
        exact ⟨_, rfl, fun _ => ⟨HF.out.1, HF.out.2, fun h => by have := HKK.out; omega⟩, HBW.out.trans ⟨rfl, rfl, rfl, Nat.le_refl _, fun _ _ => rfl⟩⟩
      · by_cases o1 : 10 < x.op
        · have e0 : decide ((0 : Int) ≤ x.op) = true := decide_eq_true (by omega)
          have e1 : decide (x.op < (11 : Int)) = false := decide_eq_false (by omega)
          clear o0 o1
          go_upto_region 14 with (fail)
          go_quiet (fail)
          go_wp2_with (fail)
          go_ret
          exact ⟨_, rfl, fun _ => ⟨HF.out.1, HF.out.2, fun h => by have := HKK.out; omega⟩, HBW.out.trans ⟨rfl, rfl, rfl, Nat.le_refl _, fun _ _ => rfl⟩⟩
        · have e0 : decide ((0 : Int) ≤ x.op) = true := decide_eq_true (by omega)
          have e1 : decide (x.op < (11 : Int)) = true := decide_eq_true (by omega)
          clear o0 o1
          have hu : ∀ w, Below N W w → Calls Tryz.prog 47 #[.agg #[.int .i64 13, .int .i64 x.op, .int .i64 x.ref, .int .i64 x.chain, .int .i64 x.flags, .float .f64 x.num, .slice x.sa x.sn x.sc, .string x.text, .slice x.ka x.kn x.kc, .slice x.pa x.pn x.pc, .slice x.qa x.qn x.qc, .slice x.fa x.fn x.fc, .slice x.ca x.cn x.cc]] w (fun e w' => ∃ r : Int, e = .returned (.int .i64 r) ∧ Below w.heap.size w w') := by
            intro w hb
            have := unaryFlags x N W w HH.out.1 hb hN (HH.out.2.2.2.2.1.unary HKK.out.symm)
            rw [← HKK.out] at this
            exact this
          have hv : ∀ w, Below N W w → Calls Tryz.prog 48 #[.agg #[.int .i64 13, .int .i64 x.op, .int .i64 x.ref, .int .i64 x.chain, .int .i64 x.flags, .float .f64 x.num, .slice x.sa x.sn x.sc, .string x.text, .slice x.ka x.kn x.kc, .slice x.pa x.pn x.pc, .slice x.qa x.qn x.qc, .slice x.fa x.fn x.fc, .slice x.ca x.cn x.cc]] w (fun e w' => Pb w True e w') := by
            intro w hb
            have := unaryRight x N W w HH.out.1 hb hN (HH.out.2.2.2.2.1.unary HKK.out.symm)
            rw [← HKK.out] at this
            exact this
          have HU := Lib.hid (⟨hu, hv⟩ : _ ∧ _)
          clear hu hv
          have HWD := Lib.hid (show Below W1.heap.size W1 wc.drew from HBW.out.trans ⟨rfl, rfl, rfl, Nat.le_refl _, fun _ _ => rfl⟩)
          go_upto_region 14 with (fail)
          refine Go.Proofs.YtacokmkbikdmmaaGreatDoorW.PrintLast.start_ (n := 20) (S := (fun w' => w'.cell? ⟨W1.heap.size, 0, none⟩ = some (.int .i64 13) ∧ w'.cell? ⟨W1.heap.size, 1, none⟩ = some (.int .i64 x.op) ∧ w'.cell? ⟨W1.heap.size, 2, none⟩ = some (.int .i64 x.ref) ∧ w'.cell? ⟨W1.heap.size, 3, none⟩ = some (.int .i64 x.chain) ∧ w'.cell? ⟨W1.heap.size, 4, none⟩ = some (.int .i64 x.flags) ∧ w'.cell? ⟨W1.heap.size, 5, none⟩ = some (.float .f64 x.num) ∧ w'.cell? ⟨W1.heap.size, 6, none⟩ = some (.slice x.sa x.sn x.sc) ∧ w'.cell? ⟨W1.heap.size, 7, none⟩ = some (.string x.text) ∧ w'.cell? ⟨W1.heap.size, 8, none⟩ = some (.slice x.ka x.kn x.kc) ∧ w'.cell? ⟨W1.heap.size, 9, none⟩ = some (.slice x.pa x.pn x.pc) ∧ w'.cell? ⟨W1.heap.size, 10, none⟩ = some (.slice x.qa x.qn x.qc) ∧ w'.cell? ⟨W1.heap.size, 11, none⟩ = some (.slice x.fa x.fn x.fc) ∧ w'.cell? ⟨W1.heap.size, 12, none⟩ = some (.slice x.ca x.cn x.cc))) (ds := []) #[false, false, false, false, false, false, false, false, false, false, false, false, false, false, false, false, false, false, false, false] (by kernel_rfl) rfl rfl ⟨d0, d1, d2, d3, d4, d5, d6, d7, d8, d9, d10, d11, d12⟩ (fun hHeld => ?_)
          clear d0 d1 d2 d3 d4 d5 d6 d7 d8 d9 d10 d11 d12
          refine Go.Proofs.YtacokmkbikdmmaaGreatDoorW.PrintLast.pure_ (i := 0) (N := some 99) (v := ?_) (a' := ?_) #[true, false, false, false, false, false, false, false, false, false, false, false, false, false, false, false, false, false, false, false] rfl rfl (by kernel_rfl) (fun _ _ _ h => h) (Or.inl ⟨by rfl, ?_⟩) ?_ ?_
          rotate_left
          · intro w'
            go_simp
            with_reducible rfl
          rotate_left
          · simp only [Act.put, List.setIfInBounds_toArray, List.set_cons_zero, List.set_cons_succ]
            rfl
          refine Go.Proofs.YtacokmkbikdmmaaGreatDoorW.PrintLast.take_ (i := 1) (N := some 100) (v := ?_) (a' := ?_) #[true, true, false, false, false, false, false, false, false, false, false, false, false, false, false, false, false, false, false, false] rfl rfl (by kernel_rfl) (fun _ _ _ h => h) (Or.inl ⟨by rfl, ?_⟩) hHeld ?_ ?_
          rotate_left
          · rintro w' ⟨s0, s1, s2, s3, s4, s5, s6, s7, s8, s9, s10, s11, s12⟩
            go_simp
            with_reducible rfl
          rotate_left
          · simp only [Act.put, List.setIfInBounds_toArray, List.set_cons_zero, List.set_cons_succ]
            rfl
          refine Go.Proofs.YtacokmkbikdmmaaGreatDoorW.PrintLast.pure_ (i := 2) (N := some 101) (v := ?_) (a' := ?_) #[true, true, true, false, false, false, false, false, false, false, false, false, false, false, false, false, false, false, false, false] rfl rfl (by kernel_rfl) (fun _ _ _ h => h) (Or.inl ⟨by rfl, ?_⟩) ?_ ?_
          rotate_left
          · intro w'
            go_simp
            with_reducible rfl
          rotate_left
          · simp only [Act.put, List.setIfInBounds_toArray, List.set_cons_zero, List.set_cons_succ]
            rfl
          refine Go.Proofs.YtacokmkbikdmmaaGreatDoorW.PrintLast.pure_ (i := 3) (N := some 102) (v := ?_) (a' := ?_) #[true, true, true, true, false, false, false, false, false, false, false, false, false, false, false, false, false, false, false, false] rfl rfl (by kernel_rfl) (fun _ _ _ h => h) (Or.inl ⟨by rfl, ?_⟩) ?_ ?_
          rotate_left
          · intro w'
            go_simp
            with_reducible rfl
          rotate_left
          · simp only [Act.put, List.setIfInBounds_toArray, List.set_cons_zero, List.set_cons_succ]
            rfl
          refine Go.Proofs.YtacokmkbikdmmaaGreatDoorW.PrintLast.pure_ (i := 4) (N := some 103) (v := ?_) (a' := ?_) #[true, true, true, true, true, false, false, false, false, false, false, false, false, false, false, false, false, false, false, false] rfl rfl (by kernel_rfl) (fun _ _ _ h => h) (Or.inl ⟨by rfl, ?_⟩) ?_ ?_
          rotate_left
          · intro w'
            go_simp
            with_reducible rfl
          rotate_left
          · simp only [Act.put, List.setIfInBounds_toArray, List.set_cons_zero, List.set_cons_succ]
            rfl
          refine Go.Proofs.YtacokmkbikdmmaaGreatDoorW.PrintLast.take_ (i := 5) (N := some 104) (v := ?_) (a' := ?_) #[true, true, true, true, true, true, false, false, false, false, false, false, false, false, false, false, false, false, false, false] rfl rfl (by kernel_rfl) (fun _ _ _ h => h) (Or.inl ⟨by rfl, ?_⟩) hHeld ?_ ?_
          rotate_left
          · rintro w' ⟨s0, s1, s2, s3, s4, s5, s6, s7, s8, s9, s10, s11, s12⟩
            go_simp
            with_reducible rfl
          rotate_left
          · simp only [Act.put, List.setIfInBounds_toArray, List.set_cons_zero, List.set_cons_succ]
            rfl
          refine Go.Proofs.YtacokmkbikdmmaaGreatDoorW.PrintLast.pure_ (i := 6) (N := some 105) (v := ?_) (a' := ?_) #[true, true, true, true, true, true, true, false, false, false, false, false, false, false, false, false, false, false, false, false] rfl rfl (by kernel_rfl) (fun _ _ _ h => h) (Or.inl ⟨by rfl, ?_⟩) ?_ ?_
          rotate_left
          · intro w'
            go_simp
            with_reducible rfl
          rotate_left
          · simp only [Act.put, List.setIfInBounds_toArray, List.set_cons_zero, List.set_cons_succ]
            rfl
          refine Go.Proofs.YtacokmkbikdmmaaGreatDoorW.PrintLast.pure_ (i := 7) (N := some 106) (v := ?_) (a' := ?_) #[true, true, true, true, true, true, true, true, false, false, false, false, false, false, false, false, false, false, false, false] rfl rfl (by kernel_rfl) (fun _ _ _ h => h) (Or.inl ⟨by rfl, ?_⟩) ?_ ?_
          rotate_left
          · intro w'
            go_simp
            with_reducible rfl
          rotate_left
          · simp only [Act.put, List.setIfInBounds_toArray, List.set_cons_zero, List.set_cons_succ]
            rfl
          refine Go.Proofs.YtacokmkbikdmmaaGreatDoorW.PrintLast.pure_ (i := 8) (N := some 107) (v := ?_) (a' := ?_) #[true, true, true, true, true, true, true, true, true, false, false, false, false, false, false, false, false, false, false, false] rfl rfl (by kernel_rfl) (fun _ _ _ h => h) (Or.inl ⟨by rfl, ?_⟩) ?_ ?_
          rotate_left
          · intro w'
            go_simp
            with_reducible rfl
          rotate_left
          · simp only [Act.put, List.setIfInBounds_toArray, List.set_cons_zero, List.set_cons_succ]
            rfl
          refine Go.Proofs.YtacokmkbikdmmaaGreatDoorW.PrintLast.pure_ (i := 9) (N := some 108) (v := ?_) (a' := ?_) #[true, true, true, true, true, true, true, true, true, true, false, false, false, false, false, false, false, false, false, false] rfl rfl (by kernel_rfl) (fun _ _ _ h => h) (Or.inl ⟨by rfl, ?_⟩) ?_ ?_
          rotate_left
          · intro w'
            go_simp
            with_reducible rfl
          rotate_left
          · simp only [Act.put, List.setIfInBounds_toArray, List.set_cons_zero, List.set_cons_succ]
            rfl
          refine Go.Proofs.YtacokmkbikdmmaaGreatDoorW.PrintLast.take_ (i := 10) (N := some 109) (v := ?_) (a' := ?_) #[true, true, true, true, true, true, true, true, true, true, true, false, false, false, false, false, false, false, false, false] rfl rfl (by kernel_rfl) (fun _ _ _ h => h) (Or.inl ⟨by rfl, ?_⟩) hHeld ?_ ?_
          rotate_left
          · rintro w' ⟨s0, s1, s2, s3, s4, s5, s6, s7, s8, s9, s10, s11, s12⟩
            go_simp
            with_reducible rfl
          rotate_left
          · simp only [Act.put, List.setIfInBounds_toArray, List.set_cons_zero, List.set_cons_succ]
            rfl
          refine Go.Proofs.YtacokmkbikdmmaaGreatDoorW.PrintLast.take_ (i := 11) (N := some 110) (v := ?_) (a' := ?_) #[true, true, true, true, true, true, true, true, true, true, true, true, false, false, false, false, false, false, false, false] rfl rfl (by kernel_rfl) (fun _ _ _ h => h) (Or.inl ⟨by rfl, ?_⟩) hHeld ?_ ?_
          rotate_left
          · rintro w' ⟨s0, s1, s2, s3, s4, s5, s6, s7, s8, s9, s10, s11, s12⟩
            go_simp
            with_reducible rfl
          rotate_left
          · simp only [Act.put, List.setIfInBounds_toArray, List.set_cons_zero, List.set_cons_succ]
            rfl
          refine Go.Proofs.YtacokmkbikdmmaaGreatDoorW.PrintLast.one_ (i := 12) (N := some 111) #[true, true, true, true, true, true, true, true, true, true, true, true, true, false, false, false, false, false, false, false] rfl rfl (by kernel_rfl) (by decide) (fun K hK => ?_)
          go_simp
          refine (HU.out.1 wc.drew (bl HH.out.2.2.2.1 hN HWD.out)).mono ?_
          rintro e wu ⟨r12, rfl, hbu⟩
          refine hK.out _ _ ⟨(hbu.cell (World.block_lt_of_cell? _ _ hHeld.1)).trans hHeld.1, (hbu.cell (World.block_lt_of_cell? _ _ hHeld.2.1)).trans hHeld.2.1, (hbu.cell (World.block_lt_of_cell? _ _ hHeld.2.2.1)).trans hHeld.2.2.1, (hbu.cell (World.block_lt_of_cell? _ _ hHeld.2.2.2.1)).trans hHeld.2.2.2.1, (hbu.cell (World.block_lt_of_cell? _ _ hHeld.2.2.2.2.1)).trans hHeld.2.2.2.2.1, (hbu.cell (World.block_lt_of_cell? _ _ hHeld.2.2.2.2.2.1)).trans hHeld.2.2.2.2.2.1, (hbu.cell (World.block_lt_of_cell? _ _ hHeld.2.2.2.2.2.2.1)).trans hHeld.2.2.2.2.2.2.1, (hbu.cell (World.block_lt_of_cell? _ _ hHeld.2.2.2.2.2.2.2.1)).trans hHeld.2.2.2.2.2.2.2.1, (hbu.cell (World.block_lt_of_cell? _ _ hHeld.2.2.2.2.2.2.2.2.1)).trans hHeld.2.2.2.2.2.2.2.2.1, (hbu.cell (World.block_lt_of_cell? _ _ hHeld.2.2.2.2.2.2.2.2.2.1)).trans hHeld.2.2.2.2.2.2.2.2.2.1, (hbu.cell (World.block_lt_of_cell? _ _ hHeld.2.2.2.2.2.2.2.2.2.2.1)).trans hHeld.2.2.2.2.2.2.2.2.2.2.1, (hbu.cell (World.block_lt_of_cell? _ _ hHeld.2.2.2.2.2.2.2.2.2.2.2.1)).trans hHeld.2.2.2.2.2.2.2.2.2.2.2.1, (hbu.cell (World.block_lt_of_cell? _ _ hHeld.2.2.2.2.2.2.2.2.2.2.2.2)).trans hHeld.2.2.2.2.2.2.2.2.2.2.2.2⟩ (fun hHeld2 => ?_)
          clear hK K
          cases hfr : (x.flags == r12) with
          | false =>
            refine Go.Proofs.YtacokmkbikdmmaaGreatDoorW.PrintLast.pure_ (i := 13) (N := some 112) (v := ?_) (a' := ?_) #[true, true, true, true, true, true, true, true, true, true, true, true, true, true, false, false, false, false, false, false] rfl rfl (by kernel_rfl) (fun _ _ _ h => h) (Or.inl ⟨by rfl, ?_⟩) ?_ ?_
            rotate_left
            · intro w'
              go_simp
              with_reducible rfl
            rotate_left
            · simp only [Act.put, List.setIfInBounds_toArray, List.set_cons_zero, List.set_cons_succ]
              rfl
            refine Go.Proofs.YtacokmkbikdmmaaGreatDoorW.PrintLast.pure_ (i := 14) (N := some 113) (v := ?_) (a' := ?_) #[true, true, true, true, true, true, true, true, true, true, true, true, true, true, true, false, false, false, false, false] rfl rfl (by kernel_rfl) (fun _ _ _ h => h) (Or.inl ⟨by rfl, ?_⟩) ?_ ?_
            rotate_left
            · intro w'
              go_simp
              with_reducible rfl
            rotate_left
            · simp only [Act.put, List.setIfInBounds_toArray, List.set_cons_zero, List.set_cons_succ]
              rfl
            refine Go.Proofs.YtacokmkbikdmmaaGreatDoorW.PrintLast.pure_ (i := 15) (N := some 114) (v := ?_) (a' := ?_) #[true, true, true, true, true, true, true, true, true, true, true, true, true, true, true, true, false, false, false, false] rfl rfl (by kernel_rfl) (fun _ _ _ h => h) (Or.inl ⟨by rfl, ?_⟩) ?_ ?_
            rotate_left
            · intro w'
              go_simp
              with_reducible rfl
            rotate_left
            · simp only [Act.put, List.setIfInBounds_toArray, List.set_cons_zero, List.set_cons_succ]
              rfl
            refine Go.Proofs.YtacokmkbikdmmaaGreatDoorW.PrintLast.pure_ (i := 16) (N := some 115) (v := undef) (a' := ?_) #[true, true, true, true, true, true, true, true, true, true, true, true, true, true, true, true, true, false, false, false] rfl rfl (by kernel_rfl) (fun _ _ _ h => h) (Or.inr ⟨by rfl, rfl⟩) ?_ ?_
            rotate_left
            · simp only [Act.put, List.setIfInBounds_toArray, List.set_cons_zero, List.set_cons_succ]
              rfl
            refine Go.Proofs.YtacokmkbikdmmaaGreatDoorW.PrintLast.pure_ (i := 17) (N := some 116) (v := undef) (a' := ?_) #[true, true, true, true, true, true, true, true, true, true, true, true, true, true, true, true, true, true, false, false] rfl rfl (by kernel_rfl) (fun _ _ _ h => h) (Or.inr ⟨by rfl, rfl⟩) ?_ ?_
            rotate_left
            · simp only [Act.put, List.setIfInBounds_toArray, List.set_cons_zero, List.set_cons_succ]
              rfl
            refine Go.Proofs.YtacokmkbikdmmaaGreatDoorW.PrintLast.pure_ (i := 18) (N := some 117) (v := ?_) (a' := ?_) #[true, true, true, true, true, true, true, true, true, true, true, true, true, true, true, true, true, true, true, false] rfl rfl (by kernel_rfl) (fun _ _ _ h => h) (Or.inl ⟨by rfl, ?_⟩) ?_ ?_
            rotate_left
            · intro w'
              go_simp
              with_reducible rfl
            rotate_left
            · simp only [Act.put, List.setIfInBounds_toArray, List.set_cons_zero, List.set_cons_succ]
              rfl
            refine Go.Proofs.YtacokmkbikdmmaaGreatDoorW.PrintLast.pure_ (i := 19) (N := some 2) (v := ?_) (a' := ?_) #[true, true, true, true, true, true, true, true, true, true, true, true, true, true, true, true, true, true, true, true] rfl rfl (by kernel_rfl) (fun _ _ _ h => h) (Or.inl ⟨by rfl, ?_⟩) ?_ ?_
            rotate_left
            · intro w'
              go_simp
              with_reducible rfl
            rotate_left
            · simp only [Act.put, List.setIfInBounds_toArray, List.set_cons_zero, List.set_cons_succ]
              rfl
            refine Go.Proofs.YtacokmkbikdmmaaGreatDoorW.PrintLast.done_ (by kernel_rfl) ?_
            go_wp2_with (fail)
            go_ret
            exact ⟨_, rfl, fun _ => ⟨HF.out.1, HF.out.2, fun h => by have := HKK.out; omega⟩, bl2 HWD.out hbu⟩
          | true =>
            refine Go.Proofs.YtacokmkbikdmmaaGreatDoorW.PrintLast.pure_ (i := 13) (N := some 112) (v := ?_) (a' := ?_) #[true, true, true, true, true, true, true, true, true, true, true, true, true, true, false, false, false, false, false, false] rfl rfl (by kernel_rfl) (fun _ _ _ h => h) (Or.inl ⟨by rfl, ?_⟩) ?_ ?_
            rotate_left
            · intro w'
              go_simp
              with_reducible rfl
            rotate_left
            · simp only [Act.put, List.setIfInBounds_toArray, List.set_cons_zero, List.set_cons_succ]
              rfl
            refine Go.Proofs.YtacokmkbikdmmaaGreatDoorW.PrintLast.pure_ (i := 14) (N := some 113) (v := ?_) (a' := ?_) #[true, true, true, true, true, true, true, true, true, true, true, true, true, true, true, false, false, false, false, false] rfl rfl (by kernel_rfl) (fun _ _ _ h => h) (Or.inl ⟨by rfl, ?_⟩) ?_ ?_
            rotate_left
            · intro w'
              go_simp
              with_reducible rfl
            rotate_left
            · simp only [Act.put, List.setIfInBounds_toArray, List.set_cons_zero, List.set_cons_succ]
              rfl
            refine Go.Proofs.YtacokmkbikdmmaaGreatDoorW.PrintLast.pure_ (i := 15) (N := some 114) (v := ?_) (a' := ?_) #[true, true, true, true, true, true, true, true, true, true, true, true, true, true, true, true, false, false, false, false] rfl rfl (by kernel_rfl) (fun _ _ _ h => h) (Or.inl ⟨by rfl, ?_⟩) ?_ ?_
            rotate_left
            · intro w'
              go_simp
              with_reducible rfl
            rotate_left
            · simp only [Act.put, List.setIfInBounds_toArray, List.set_cons_zero, List.set_cons_succ]
              rfl
            refine Go.Proofs.YtacokmkbikdmmaaGreatDoorW.PrintLast.take_ (i := 16) (N := some 115) (v := ?_) (a' := ?_) #[true, true, true, true, true, true, true, true, true, true, true, true, true, true, true, true, true, false, false, false] rfl rfl (by kernel_rfl) (fun _ _ _ h => h) (Or.inl ⟨by rfl, ?_⟩) hHeld2 ?_ ?_
            rotate_left
            · rintro w' ⟨s0, s1, s2, s3, s4, s5, s6, s7, s8, s9, s10, s11, s12⟩
              go_simp
              with_reducible rfl
            rotate_left
            · simp only [Act.put, List.setIfInBounds_toArray, List.set_cons_zero, List.set_cons_succ]
              rfl
            refine Go.Proofs.YtacokmkbikdmmaaGreatDoorW.PrintLast.one_ (i := 17) (N := some 116) #[true, true, true, true, true, true, true, true, true, true, true, true, true, true, true, true, true, true, false, false] rfl rfl (by kernel_rfl) (by decide) (fun K hK => ?_)
            go_simp
            refine (HU.out.2 wu (bl HH.out.2.2.2.1 hN (bl2 HWD.out hbu))).mono ?_
            rintro e wv ⟨r17, rfl, -, hbv⟩
            refine hK.out _ _ ⟨(hbv.cell (World.block_lt_of_cell? _ _ hHeld2.1)).trans hHeld2.1, (hbv.cell (World.block_lt_of_cell? _ _ hHeld2.2.1)).trans hHeld2.2.1, (hbv.cell (World.block_lt_of_cell? _ _ hHeld2.2.2.1)).trans hHeld2.2.2.1, (hbv.cell (World.block_lt_of_cell? _ _ hHeld2.2.2.2.1)).trans hHeld2.2.2.2.1, (hbv.cell (World.block_lt_of_cell? _ _ hHeld2.2.2.2.2.1)).trans hHeld2.2.2.2.2.1, (hbv.cell (World.block_lt_of_cell? _ _ hHeld2.2.2.2.2.2.1)).trans hHeld2.2.2.2.2.2.1, (hbv.cell (World.block_lt_of_cell? _ _ hHeld2.2.2.2.2.2.2.1)).trans hHeld2.2.2.2.2.2.2.1, (hbv.cell (World.block_lt_of_cell? _ _ hHeld2.2.2.2.2.2.2.2.1)).trans hHeld2.2.2.2.2.2.2.2.1, (hbv.cell (World.block_lt_of_cell? _ _ hHeld2.2.2.2.2.2.2.2.2.1)).trans hHeld2.2.2.2.2.2.2.2.2.1, (hbv.cell (World.block_lt_of_cell? _ _ hHeld2.2.2.2.2.2.2.2.2.2.1)).trans hHeld2.2.2.2.2.2.2.2.2.2.1, (hbv.cell (World.block_lt_of_cell? _ _ hHeld2.2.2.2.2.2.2.2.2.2.2.1)).trans hHeld2.2.2.2.2.2.2.2.2.2.2.1, (hbv.cell (World.block_lt_of_cell? _ _ hHeld2.2.2.2.2.2.2.2.2.2.2.2.1)).trans hHeld2.2.2.2.2.2.2.2.2.2.2.2.1, (hbv.cell (World.block_lt_of_cell? _ _ hHeld2.2.2.2.2.2.2.2.2.2.2.2.2)).trans hHeld2.2.2.2.2.2.2.2.2.2.2.2.2⟩ (fun hHeld3 => ?_)
            clear hK K
            refine Go.Proofs.YtacokmkbikdmmaaGreatDoorW.PrintLast.pure_ (i := 18) (N := some 117) (v := ?_) (a' := ?_) #[true, true, true, true, true, true, true, true, true, true, true, true, true, true, true, true, true, true, true, false] rfl rfl (by kernel_rfl) (fun _ _ _ h => h) (Or.inl ⟨by rfl, ?_⟩) ?_ ?_
            rotate_left
            · intro w'
              go_simp
              with_reducible rfl
            rotate_left
            · simp only [Act.put, List.setIfInBounds_toArray, List.set_cons_zero, List.set_cons_succ]
              rfl
            refine Go.Proofs.YtacokmkbikdmmaaGreatDoorW.PrintLast.pure_ (i := 19) (N := some 2) (v := ?_) (a' := ?_) #[true, true, true, true, true, true, true, true, true, true, true, true, true, true, true, true, true, true, true, true] rfl rfl (by kernel_rfl) (fun _ _ _ h => h) (Or.inl ⟨by rfl, ?_⟩) ?_ ?_
            rotate_left
            · intro w'
              go_simp
              with_reducible rfl
            rotate_left
            · simp only [Act.put, List.setIfInBounds_toArray, List.set_cons_zero, List.set_cons_succ]
              rfl
            refine Go.Proofs.YtacokmkbikdmmaaGreatDoorW.PrintLast.done_ (by kernel_rfl) ?_
            go_wp2_with (fail)
            go_ret
            exact ⟨_, rfl, fun _ => ⟨HF.out.1, HF.out.2, fun h => by have := HKK.out; omega⟩, bl2 (bl2 HWD.out hbu) hbv⟩
    · clear hkl hkh
      have d1 : wc.cell? ⟨W1.heap.size, 1, none⟩ = some (.int .i64 x.op) := blk_cell ((HB2.out.block _ (blk_lt HD.out.1)).trans HD.out.1) 1
      have hkn1 : 0 < x.kn := by have h1 := HH.out.2.2.2.2.1; have h2 := HKK.out; first | (have := h1.unary h2.symm; omega) | (have := h1.binary h2.symm; omega) | exact h1.new h2.symm | exact hk0
      have x1 : (0 : Int) < (x.kn : Int) := by omega
      have d8 : wc.cell? ⟨W1.heap.size, 8, none⟩ = some (.slice x.ka x.kn x.kc) := blk_cell ((HB2.out.block _ (blk_lt HD.out.1)).trans HD.out.1) 8
      obtain ⟨gk, ok, csk, eAk, hgk, _, hEk, hck, hstk⟩ := (HH.out.1).at hkn1
      obtain ⟨y, rfl⟩ := hEk
      have k0 := inp (bl HH.out.2.2.2.1 hN HBW.out) hgk (hck 0 _ rfl)
      rw [show ok + 0 * 13 + 0 = ok by omega] at k0
      have k1 := inp (bl HH.out.2.2.2.1 hN HBW.out) hgk (hck 1 _ rfl)
      rw [show ok + 0 * 13 + 1 = ok + 1 by omega] at k1
      have k2 := inp (bl HH.out.2.2.2.1 hN HBW.out) hgk (hck 2 _ rfl)
      rw [show ok + 0 * 13 + 2 = ok + 2 by omega] at k2
      have k3 := inp (bl HH.out.2.2.2.1 hN HBW.out) hgk (hck 3 _ rfl)
      rw [show ok + 0 * 13 + 3 = ok + 3 by omega] at k3
      have k4 := inp (bl HH.out.2.2.2.1 hN HBW.out) hgk (hck 4 _ rfl)
      rw [show ok + 0 * 13 + 4 = ok + 4 by omega] at k4
      have k5 := inp (bl HH.out.2.2.2.1 hN HBW.out) hgk (hck 5 _ rfl)
      rw [show ok + 0 * 13 + 5 = ok + 5 by omega] at k5
      have k6 := inp (bl HH.out.2.2.2.1 hN HBW.out) hgk (hck 6 _ rfl)
      rw [show ok + 0 * 13 + 6 = ok + 6 by omega] at k6
      have k7 := inp (bl HH.out.2.2.2.1 hN HBW.out) hgk (hck 7 _ rfl)
      rw [show ok + 0 * 13 + 7 = ok + 7 by omega] at k7
      have k8 := inp (bl HH.out.2.2.2.1 hN HBW.out) hgk (hck 8 _ rfl)
      rw [show ok + 0 * 13 + 8 = ok + 8 by omega] at k8
      have k9 := inp (bl HH.out.2.2.2.1 hN HBW.out) hgk (hck 9 _ rfl)
      rw [show ok + 0 * 13 + 9 = ok + 9 by omega] at k9
      have k10 := inp (bl HH.out.2.2.2.1 hN HBW.out) hgk (hck 10 _ rfl)
      rw [show ok + 0 * 13 + 10 = ok + 10 by omega] at k10
      have k11 := inp (bl HH.out.2.2.2.1 hN HBW.out) hgk (hck 11 _ rfl)
      rw [show ok + 0 * 13 + 11 = ok + 11 by omega] at k11
      have k12 := inp (bl HH.out.2.2.2.1 hN HBW.out) hgk (hck 12 _ rfl)
      rw [show ok + 0 * 13 + 12 = ok + 12 by omega] at k12
      have HAK := Lib.hid eAk
      rw [eAk] at d8
      clear hck hstk eAk hkn1
      have hb0 := HBW.out
      go_wp2_with (first | (go_at_call 49; refine (assignable _ _).mono ?_; rintro e w3 ⟨b, rfl, -, hbel⟩; replace hb0 := bl2 hb0 hbel; clear hbel))
      all_goals
        go_ret
        exact ⟨_, rfl, fun _ => ⟨HF.out.1, HF.out.2, fun h => by have := HKK.out; omega⟩, hb0⟩
    · clear hkl hkh
      go_wp2_with (fail)
      all_goals
        go_ret
        exact ⟨_, rfl, fun _ => ⟨HF.out.1, HF.out.2, fun h => by have := HKK.out; omega⟩, HBW.out⟩
    · clear hkl hkh
      have d1 : wc.cell? ⟨W1.heap.size, 1, none⟩ = some (.int .i64 x.op) := blk_cell ((HB2.out.block _ (blk_lt HD.out.1)).trans HD.out.1) 1
      have d2 : wc.cell? ⟨W1.heap.size, 2, none⟩ = some (.int .i64 x.ref) := blk_cell ((HB2.out.block _ (blk_lt HD.out.1)).trans HD.out.1) 2
      have d3 : wc.cell? ⟨W1.heap.size, 3, none⟩ = some (.int .i64 x.chain) := blk_cell ((HB2.out.block _ (blk_lt HD.out.1)).trans HD.out.1) 3
      have d4 : wc.cell? ⟨W1.heap.size, 4, none⟩ = some (.int .i64 x.flags) := blk_cell ((HB2.out.block _ (blk_lt HD.out.1)).trans HD.out.1) 4
      have d5 : wc.cell? ⟨W1.heap.size, 5, none⟩ = some (.float .f64 x.num) := blk_cell ((HB2.out.block _ (blk_lt HD.out.1)).trans HD.out.1) 5
      have d6 : wc.cell? ⟨W1.heap.size, 6, none⟩ = some (.slice x.sa x.sn x.sc) := blk_cell ((HB2.out.block _ (blk_lt HD.out.1)).trans HD.out.1) 6
      have d7 : wc.cell? ⟨W1.heap.size, 7, none⟩ = some (.string x.text) := blk_cell ((HB2.out.block _ (blk_lt HD.out.1)).trans HD.out.1) 7
      have d8 : wc.cell? ⟨W1.heap.size, 8, none⟩ = some (.slice x.ka x.kn x.kc) := blk_cell ((HB2.out.block _ (blk_lt HD.out.1)).trans HD.out.1) 8
      have d9 : wc.cell? ⟨W1.heap.size, 9, none⟩ = some (.slice x.pa x.pn x.pc) := blk_cell ((HB2.out.block _ (blk_lt HD.out.1)).trans HD.out.1) 9
      have d10 : wc.cell? ⟨W1.heap.size, 10, none⟩ = some (.slice x.qa x.qn x.qc) := blk_cell ((HB2.out.block _ (blk_lt HD.out.1)).trans HD.out.1) 10
      have d11 : wc.cell? ⟨W1.heap.size, 11, none⟩ = some (.slice x.fa x.fn x.fc) := blk_cell ((HB2.out.block _ (blk_lt HD.out.1)).trans HD.out.1) 11
      have d12 : wc.cell? ⟨W1.heap.size, 12, none⟩ = some (.slice x.ca x.cn x.cc) := blk_cell ((HB2.out.block _ (blk_lt HD.out.1)).trans HD.out.1) 12
      have hc := chainRight x N W wc HH.out.1 (bl HH.out.2.2.2.1 hN HBW.out) hN (Or.inl ⟨HKK.out.symm, HH.out.2.2.2.2.1.dot HKK.out.symm⟩)
      rw [← HKK.out] at hc
      have HC := Lib.hid hc
      clear hc
      go_wp2_with (fail)
      refine HC.out.mono ?_
      rintro e w3 ⟨b, rfl, hb, hbel⟩
      have HX := Lib.hid (⟨hb, hbel⟩ : _ ∧ _)
      clear hb hbel d0 d1 d2 d3 d4 d5 d6 d7 d8 d9 d10 d11 d12
      go_wp2_with (fail)
      go_ret
      exact ⟨b, rfl, fun h => ⟨HF.out.1, HF.out.2, fun _ => HX.out.1 h⟩, bl2 HBW.out HX.out.2⟩
    · clear hkl hkh
      have d1 : wc.cell? ⟨W1.heap.size, 1, none⟩ = some (.int .i64 x.op) := blk_cell ((HB2.out.block _ (blk_lt HD.out.1)).trans HD.out.1) 1
      have d2 : wc.cell? ⟨W1.heap.size, 2, none⟩ = some (.int .i64 x.ref) := blk_cell ((HB2.out.block _ (blk_lt HD.out.1)).trans HD.out.1) 2
      have d3 : wc.cell? ⟨W1.heap.size, 3, none⟩ = some (.int .i64 x.chain) := blk_cell ((HB2.out.block _ (blk_lt HD.out.1)).trans HD.out.1) 3
      have d4 : wc.cell? ⟨W1.heap.size, 4, none⟩ = some (.int .i64 x.flags) := blk_cell ((HB2.out.block _ (blk_lt HD.out.1)).trans HD.out.1) 4
      have d5 : wc.cell? ⟨W1.heap.size, 5, none⟩ = some (.float .f64 x.num) := blk_cell ((HB2.out.block _ (blk_lt HD.out.1)).trans HD.out.1) 5
      have d6 : wc.cell? ⟨W1.heap.size, 6, none⟩ = some (.slice x.sa x.sn x.sc) := blk_cell ((HB2.out.block _ (blk_lt HD.out.1)).trans HD.out.1) 6
      have d7 : wc.cell? ⟨W1.heap.size, 7, none⟩ = some (.string x.text) := blk_cell ((HB2.out.block _ (blk_lt HD.out.1)).trans HD.out.1) 7
      have d8 : wc.cell? ⟨W1.heap.size, 8, none⟩ = some (.slice x.ka x.kn x.kc) := blk_cell ((HB2.out.block _ (blk_lt HD.out.1)).trans HD.out.1) 8
      have d9 : wc.cell? ⟨W1.heap.size, 9, none⟩ = some (.slice x.pa x.pn x.pc) := blk_cell ((HB2.out.block _ (blk_lt HD.out.1)).trans HD.out.1) 9
      have d10 : wc.cell? ⟨W1.heap.size, 10, none⟩ = some (.slice x.qa x.qn x.qc) := blk_cell ((HB2.out.block _ (blk_lt HD.out.1)).trans HD.out.1) 10
      have d11 : wc.cell? ⟨W1.heap.size, 11, none⟩ = some (.slice x.fa x.fn x.fc) := blk_cell ((HB2.out.block _ (blk_lt HD.out.1)).trans HD.out.1) 11
      have d12 : wc.cell? ⟨W1.heap.size, 12, none⟩ = some (.slice x.ca x.cn x.cc) := blk_cell ((HB2.out.block _ (blk_lt HD.out.1)).trans HD.out.1) 12
      have hc := chainRight x N W wc HH.out.1 (bl HH.out.2.2.2.1 hN HBW.out) hN (Or.inr (Or.inl ⟨HKK.out.symm, HH.out.2.2.2.2.1.index HKK.out.symm⟩))
      rw [← HKK.out] at hc
      have HC := Lib.hid hc
      clear hc
      go_wp2_with (fail)
      refine HC.out.mono ?_
      rintro e w3 ⟨b, rfl, hb, hbel⟩
      have HX := Lib.hid (⟨hb, hbel⟩ : _ ∧ _)
      clear hb hbel d0 d1 d2 d3 d4 d5 d6 d7 d8 d9 d10 d11 d12
      go_wp2_with (fail)
      go_ret
      exact ⟨b, rfl, fun h => ⟨HF.out.1, HF.out.2, fun _ => HX.out.1 h⟩, bl2 HBW.out HX.out.2⟩
    · clear hkl hkh
      have d1 : wc.cell? ⟨W1.heap.size, 1, none⟩ = some (.int .i64 x.op) := blk_cell ((HB2.out.block _ (blk_lt HD.out.1)).trans HD.out.1) 1
      have d2 : wc.cell? ⟨W1.heap.size, 2, none⟩ = some (.int .i64 x.ref) := blk_cell ((HB2.out.block _ (blk_lt HD.out.1)).trans HD.out.1) 2
      have d3 : wc.cell? ⟨W1.heap.size, 3, none⟩ = some (.int .i64 x.chain) := blk_cell ((HB2.out.block _ (blk_lt HD.out.1)).trans HD.out.1) 3
      have d4 : wc.cell? ⟨W1.heap.size, 4, none⟩ = some (.int .i64 x.flags) := blk_cell ((HB2.out.block _ (blk_lt HD.out.1)).trans HD.out.1) 4
      have d5 : wc.cell? ⟨W1.heap.size, 5, none⟩ = some (.float .f64 x.num) := blk_cell ((HB2.out.block _ (blk_lt HD.out.1)).trans HD.out.1) 5
      have d6 : wc.cell? ⟨W1.heap.size, 6, none⟩ = some (.slice x.sa x.sn x.sc) := blk_cell ((HB2.out.block _ (blk_lt HD.out.1)).trans HD.out.1) 6
      have d7 : wc.cell? ⟨W1.heap.size, 7, none⟩ = some (.string x.text) := blk_cell ((HB2.out.block _ (blk_lt HD.out.1)).trans HD.out.1) 7
      have d8 : wc.cell? ⟨W1.heap.size, 8, none⟩ = some (.slice x.ka x.kn x.kc) := blk_cell ((HB2.out.block _ (blk_lt HD.out.1)).trans HD.out.1) 8
      have d9 : wc.cell? ⟨W1.heap.size, 9, none⟩ = some (.slice x.pa x.pn x.pc) := blk_cell ((HB2.out.block _ (blk_lt HD.out.1)).trans HD.out.1) 9
      have d10 : wc.cell? ⟨W1.heap.size, 10, none⟩ = some (.slice x.qa x.qn x.qc) := blk_cell ((HB2.out.block _ (blk_lt HD.out.1)).trans HD.out.1) 10
      have d11 : wc.cell? ⟨W1.heap.size, 11, none⟩ = some (.slice x.fa x.fn x.fc) := blk_cell ((HB2.out.block _ (blk_lt HD.out.1)).trans HD.out.1) 11
      have d12 : wc.cell? ⟨W1.heap.size, 12, none⟩ = some (.slice x.ca x.cn x.cc) := blk_cell ((HB2.out.block _ (blk_lt HD.out.1)).trans HD.out.1) 12
      have hc := chainRight x N W wc HH.out.1 (bl HH.out.2.2.2.1 hN HBW.out) hN (Or.inr (Or.inr ⟨HKK.out.symm, HH.out.2.2.2.2.1.call HKK.out.symm⟩))
      rw [← HKK.out] at hc
      have HC := Lib.hid hc
      clear hc
      go_wp2_with (fail)
      refine HC.out.mono ?_
      rintro e w3 ⟨b, rfl, hb, hbel⟩
      have HX := Lib.hid (⟨hb, hbel⟩ : _ ∧ _)
      clear hb hbel d0 d1 d2 d3 d4 d5 d6 d7 d8 d9 d10 d11 d12
      go_wp2_with (fail)
      go_ret
      exact ⟨b, rfl, fun h => ⟨HF.out.1, HF.out.2, fun _ => HX.out.1 h⟩, bl2 HBW.out HX.out.2⟩
    · clear hkl hkh
      have hkn1 : 0 < x.kn := by have h1 := HH.out.2.2.2.2.1; have h2 := HKK.out; first | (have := h1.unary h2.symm; omega) | (have := h1.binary h2.symm; omega) | exact h1.new h2.symm | exact hk0
      have x1 : (0 : Int) < (x.kn : Int) := by omega
      have d8 : wc.cell? ⟨W1.heap.size, 8, none⟩ = some (.slice x.ka x.kn x.kc) := blk_cell ((HB2.out.block _ (blk_lt HD.out.1)).trans HD.out.1) 8
      obtain ⟨gk, ok, csk, eAk, hgk, _, hEk, hck, hstk⟩ := (HH.out.1).at hkn1
      obtain ⟨y, rfl⟩ := hEk
      have k0 := inp (bl HH.out.2.2.2.1 hN HBW.out) hgk (hck 0 _ rfl)
      rw [show ok + 0 * 13 + 0 = ok by omega] at k0
      have k1 := inp (bl HH.out.2.2.2.1 hN HBW.out) hgk (hck 1 _ rfl)
      rw [show ok + 0 * 13 + 1 = ok + 1 by omega] at k1
      have k2 := inp (bl HH.out.2.2.2.1 hN HBW.out) hgk (hck 2 _ rfl)
      rw [show ok + 0 * 13 + 2 = ok + 2 by omega] at k2
      have k3 := inp (bl HH.out.2.2.2.1 hN HBW.out) hgk (hck 3 _ rfl)
      rw [show ok + 0 * 13 + 3 = ok + 3 by omega] at k3
      have k4 := inp (bl HH.out.2.2.2.1 hN HBW.out) hgk (hck 4 _ rfl)
      rw [show ok + 0 * 13 + 4 = ok + 4 by omega] at k4
      have k5 := inp (bl HH.out.2.2.2.1 hN HBW.out) hgk (hck 5 _ rfl)
      rw [show ok + 0 * 13 + 5 = ok + 5 by omega] at k5
      have k6 := inp (bl HH.out.2.2.2.1 hN HBW.out) hgk (hck 6 _ rfl)
      rw [show ok + 0 * 13 + 6 = ok + 6 by omega] at k6
      have k7 := inp (bl HH.out.2.2.2.1 hN HBW.out) hgk (hck 7 _ rfl)
      rw [show ok + 0 * 13 + 7 = ok + 7 by omega] at k7
      have k8 := inp (bl HH.out.2.2.2.1 hN HBW.out) hgk (hck 8 _ rfl)
      rw [show ok + 0 * 13 + 8 = ok + 8 by omega] at k8
      have k9 := inp (bl HH.out.2.2.2.1 hN HBW.out) hgk (hck 9 _ rfl)
      rw [show ok + 0 * 13 + 9 = ok + 9 by omega] at k9
      have k10 := inp (bl HH.out.2.2.2.1 hN HBW.out) hgk (hck 10 _ rfl)
      rw [show ok + 0 * 13 + 10 = ok + 10 by omega] at k10
      have k11 := inp (bl HH.out.2.2.2.1 hN HBW.out) hgk (hck 11 _ rfl)
      rw [show ok + 0 * 13 + 11 = ok + 11 by omega] at k11
      have k12 := inp (bl HH.out.2.2.2.1 hN HBW.out) hgk (hck 12 _ rfl)
      rw [show ok + 0 * 13 + 12 = ok + 12 by omega] at k12
      have HAK := Lib.hid eAk
      rw [eAk] at d8
      clear hck hstk eAk hkn1
      have hb0 := HBW.out
      go_wp2_with (first | (go_at_call 51; refine (inChain _ _).mono ?_; rintro e w3 ⟨b, rfl, -, hbel⟩; replace hb0 := bl2 hb0 hbel; clear hbel))
      all_goals
        go_ret
        exact ⟨_, rfl, fun _ => ⟨HF.out.1, HF.out.2, fun h => by have := HKK.out; omega⟩, hb0⟩
    · clear hkl hkh
      have d1 : wc.cell? ⟨W1.heap.size, 1, none⟩ = some (.int .i64 x.op) := blk_cell ((HB2.out.block _ (blk_lt HD.out.1)).trans HD.out.1) 1
      have d2 : wc.cell? ⟨W1.heap.size, 2, none⟩ = some (.int .i64 x.ref) := blk_cell ((HB2.out.block _ (blk_lt HD.out.1)).trans HD.out.1) 2
      have d3 : wc.cell? ⟨W1.heap.size, 3, none⟩ = some (.int .i64 x.chain) := blk_cell ((HB2.out.block _ (blk_lt HD.out.1)).trans HD.out.1) 3
      have d4 : wc.cell? ⟨W1.heap.size, 4, none⟩ = some (.int .i64 x.flags) := blk_cell ((HB2.out.block _ (blk_lt HD.out.1)).trans HD.out.1) 4
      have d5 : wc.cell? ⟨W1.heap.size, 5, none⟩ = some (.float .f64 x.num) := blk_cell ((HB2.out.block _ (blk_lt HD.out.1)).trans HD.out.1) 5
      have d6 : wc.cell? ⟨W1.heap.size, 6, none⟩ = some (.slice x.sa x.sn x.sc) := blk_cell ((HB2.out.block _ (blk_lt HD.out.1)).trans HD.out.1) 6
      have d7 : wc.cell? ⟨W1.heap.size, 7, none⟩ = some (.string x.text) := blk_cell ((HB2.out.block _ (blk_lt HD.out.1)).trans HD.out.1) 7
      have d9 : wc.cell? ⟨W1.heap.size, 9, none⟩ = some (.slice x.pa x.pn x.pc) := blk_cell ((HB2.out.block _ (blk_lt HD.out.1)).trans HD.out.1) 9
      have d10 : wc.cell? ⟨W1.heap.size, 10, none⟩ = some (.slice x.qa x.qn x.qc) := blk_cell ((HB2.out.block _ (blk_lt HD.out.1)).trans HD.out.1) 10
      have d11 : wc.cell? ⟨W1.heap.size, 11, none⟩ = some (.slice x.fa x.fn x.fc) := blk_cell ((HB2.out.block _ (blk_lt HD.out.1)).trans HD.out.1) 11
      have d12 : wc.cell? ⟨W1.heap.size, 12, none⟩ = some (.slice x.ca x.cn x.cc) := blk_cell ((HB2.out.block _ (blk_lt HD.out.1)).trans HD.out.1) 12
      have hb0 := HBW.out
      by_cases hk0 : x.kn = 0
      · have d8 : wc.cell? ⟨W1.heap.size, 8, none⟩ = some (.slice x.ka x.kn x.kc) := blk_cell ((HB2.out.block _ (blk_lt HD.out.1)).trans HD.out.1) 8
        rw [hk0] at d8
        clear hk0
        go_wp2_with (fail)
        all_goals
          go_ret
          exact ⟨_, rfl, fun _ => ⟨HF.out.1, HF.out.2, fun h => by have := HKK.out; omega⟩, HBW.out⟩
      · have hk0 : 0 < x.kn := by omega
        have x0 : ¬ ((x.kn : Int) = 0) := by omega
        have hkn1 : 0 < x.kn := by have h1 := HH.out.2.2.2.2.1; have h2 := HKK.out; first | (have := h1.unary h2.symm; omega) | (have := h1.binary h2.symm; omega) | exact h1.new h2.symm | exact hk0
        have x1 : (0 : Int) < (x.kn : Int) := by omega
        have d8 : wc.cell? ⟨W1.heap.size, 8, none⟩ = some (.slice x.ka x.kn x.kc) := blk_cell ((HB2.out.block _ (blk_lt HD.out.1)).trans HD.out.1) 8
        obtain ⟨gk, ok, csk, eAk, hgk, _, hEk, hck, hstk⟩ := (HH.out.1).at hkn1
        obtain ⟨y, rfl⟩ := hEk
        have k0 := inp (bl HH.out.2.2.2.1 hN HBW.out) hgk (hck 0 _ rfl)
        rw [show ok + 0 * 13 + 0 = ok by omega] at k0
        have k1 := inp (bl HH.out.2.2.2.1 hN HBW.out) hgk (hck 1 _ rfl)
        rw [show ok + 0 * 13 + 1 = ok + 1 by omega] at k1
        have k2 := inp (bl HH.out.2.2.2.1 hN HBW.out) hgk (hck 2 _ rfl)
        rw [show ok + 0 * 13 + 2 = ok + 2 by omega] at k2
        have k3 := inp (bl HH.out.2.2.2.1 hN HBW.out) hgk (hck 3 _ rfl)
        rw [show ok + 0 * 13 + 3 = ok + 3 by omega] at k3
        have k4 := inp (bl HH.out.2.2.2.1 hN HBW.out) hgk (hck 4 _ rfl)
        rw [show ok + 0 * 13 + 4 = ok + 4 by omega] at k4
        have k5 := inp (bl HH.out.2.2.2.1 hN HBW.out) hgk (hck 5 _ rfl)
        rw [show ok + 0 * 13 + 5 = ok + 5 by omega] at k5
        have k6 := inp (bl HH.out.2.2.2.1 hN HBW.out) hgk (hck 6 _ rfl)
        rw [show ok + 0 * 13 + 6 = ok + 6 by omega] at k6
        have k7 := inp (bl HH.out.2.2.2.1 hN HBW.out) hgk (hck 7 _ rfl)
        rw [show ok + 0 * 13 + 7 = ok + 7 by omega] at k7
        have k8 := inp (bl HH.out.2.2.2.1 hN HBW.out) hgk (hck 8 _ rfl)
        rw [show ok + 0 * 13 + 8 = ok + 8 by omega] at k8
        have k9 := inp (bl HH.out.2.2.2.1 hN HBW.out) hgk (hck 9 _ rfl)
        rw [show ok + 0 * 13 + 9 = ok + 9 by omega] at k9
        have k10 := inp (bl HH.out.2.2.2.1 hN HBW.out) hgk (hck 10 _ rfl)
        rw [show ok + 0 * 13 + 10 = ok + 10 by omega] at k10
        have k11 := inp (bl HH.out.2.2.2.1 hN HBW.out) hgk (hck 11 _ rfl)
        rw [show ok + 0 * 13 + 11 = ok + 11 by omega] at k11
        have k12 := inp (bl HH.out.2.2.2.1 hN HBW.out) hgk (hck 12 _ rfl)
        rw [show ok + 0 * 13 + 12 = ok + 12 by omega] at k12
        have HAK := Lib.hid eAk
        rw [eAk] at d8
        clear hck hstk eAk hkn1
        have hr : ∀ w, Below N W w → Calls Tryz.prog 52 #[.agg #[.int .i64 20, .int .i64 x.op, .int .i64 x.ref, .int .i64 x.chain, .int .i64 x.flags, .float .f64 x.num, .slice x.sa x.sn x.sc, .string x.text, .slice x.ka x.kn x.kc, .slice x.pa x.pn x.pc, .slice x.qa x.qn x.qc, .slice x.fa x.fn x.fc, .slice x.ca x.cn x.cc]] w (fun e w' => Pb w True e w') := by
          intro w hb
          have := rawPlain x N W w _ HH.out.2.2.1 (by rintro cs ⟨va, vn, vc, sa, sn, sc, tt, rfl, _⟩; exact ⟨_, _, _, rfl⟩) hb hN
          rw [← HKK.out] at this
          exact this
        have HRP := Lib.hid hr
        clear hr hk0
        by_cases cs : x.sn = 0
        · rw [cs] at d6
          have hr2 := HRP.out
          simp only [cs, HAK.out] at hr2
          have HRP := Lib.hid hr2
          clear cs hr2
          cases ct : x.text.toList.isEmpty with
          | false =>
            clear k0 k1 k2 k3 k4 k5 k6 k7 k8 k9 k10 k11 k12
            go_wp2_with (fail)
            all_goals
              go_ret
              exact ⟨_, rfl, fun _ => ⟨HF.out.1, HF.out.2, fun h => by have := HKK.out; omega⟩, HBW.out⟩
          | true =>
            go_wp2_with (fail)
            refine (inChain y _).mono ?_
            rintro e w3 ⟨b, rfl, -, hbel⟩
            replace d0 := (hbel.cell (World.block_lt_of_cell? _ _ d0)).trans d0
            replace d1 := (hbel.cell (World.block_lt_of_cell? _ _ d1)).trans d1
            replace d2 := (hbel.cell (World.block_lt_of_cell? _ _ d2)).trans d2
            replace d3 := (hbel.cell (World.block_lt_of_cell? _ _ d3)).trans d3
            replace d4 := (hbel.cell (World.block_lt_of_cell? _ _ d4)).trans d4
            replace d5 := (hbel.cell (World.block_lt_of_cell? _ _ d5)).trans d5
            replace d6 := (hbel.cell (World.block_lt_of_cell? _ _ d6)).trans d6
            replace d7 := (hbel.cell (World.block_lt_of_cell? _ _ d7)).trans d7
            replace d8 := (hbel.cell (World.block_lt_of_cell? _ _ d8)).trans d8
            replace d9 := (hbel.cell (World.block_lt_of_cell? _ _ d9)).trans d9
            replace d10 := (hbel.cell (World.block_lt_of_cell? _ _ d10)).trans d10
            replace d11 := (hbel.cell (World.block_lt_of_cell? _ _ d11)).trans d11
            replace d12 := (hbel.cell (World.block_lt_of_cell? _ _ d12)).trans d12
            replace k0 := (hbel.cell (World.block_lt_of_cell? _ _ k0)).trans k0
            replace k1 := (hbel.cell (World.block_lt_of_cell? _ _ k1)).trans k1
            replace k2 := (hbel.cell (World.block_lt_of_cell? _ _ k2)).trans k2
            replace k3 := (hbel.cell (World.block_lt_of_cell? _ _ k3)).trans k3
            replace k4 := (hbel.cell (World.block_lt_of_cell? _ _ k4)).trans k4
            replace k5 := (hbel.cell (World.block_lt_of_cell? _ _ k5)).trans k5
            replace k6 := (hbel.cell (World.block_lt_of_cell? _ _ k6)).trans k6
            replace k7 := (hbel.cell (World.block_lt_of_cell? _ _ k7)).trans k7
            replace k8 := (hbel.cell (World.block_lt_of_cell? _ _ k8)).trans k8
            replace k9 := (hbel.cell (World.block_lt_of_cell? _ _ k9)).trans k9
            replace k10 := (hbel.cell (World.block_lt_of_cell? _ _ k10)).trans k10
            replace k11 := (hbel.cell (World.block_lt_of_cell? _ _ k11)).trans k11
            replace k12 := (hbel.cell (World.block_lt_of_cell? _ _ k12)).trans k12
            replace hb0 := bl2 hb0 hbel
            clear hbel
            cases b with
            | true =>
              clear k0 k1 k2 k3 k4 k5 k6 k7 k8 k9 k10 k11 k12
              go_wp2_with (fail)
              all_goals
                go_ret
                exact ⟨_, rfl, fun _ => ⟨HF.out.1, HF.out.2, fun h => by have := HKK.out; omega⟩, hb0⟩
            | false =>
              go_wp2_with (fail)
              refine (HRP.out _ (bl HH.out.2.2.2.1 hN hb0)).mono ?_
              rintro e w4 ⟨b, rfl, -, hbel⟩
              replace d4 := (hbel.cell (World.block_lt_of_cell? _ _ d4)).trans d4
              replace d8 := (hbel.cell (World.block_lt_of_cell? _ _ d8)).trans d8
              replace k0 := (hbel.cell (World.block_lt_of_cell? _ _ k0)).trans k0
              replace k1 := (hbel.cell (World.block_lt_of_cell? _ _ k1)).trans k1
              replace k2 := (hbel.cell (World.block_lt_of_cell? _ _ k2)).trans k2
              replace k3 := (hbel.cell (World.block_lt_of_cell? _ _ k3)).trans k3
              replace k4 := (hbel.cell (World.block_lt_of_cell? _ _ k4)).trans k4
              replace k5 := (hbel.cell (World.block_lt_of_cell? _ _ k5)).trans k5
              replace k6 := (hbel.cell (World.block_lt_of_cell? _ _ k6)).trans k6
              replace k7 := (hbel.cell (World.block_lt_of_cell? _ _ k7)).trans k7
              replace k8 := (hbel.cell (World.block_lt_of_cell? _ _ k8)).trans k8
              replace k9 := (hbel.cell (World.block_lt_of_cell? _ _ k9)).trans k9
              replace k10 := (hbel.cell (World.block_lt_of_cell? _ _ k10)).trans k10
              replace k11 := (hbel.cell (World.block_lt_of_cell? _ _ k11)).trans k11
              replace k12 := (hbel.cell (World.block_lt_of_cell? _ _ k12)).trans k12
              replace hb0 := bl2 hb0 hbel
              clear hbel d0 d1 d2 d3 d5 d6 d7 d9 d10 d11 d12
              cases b with
              | false =>
                go_wp2_with (fail)
                all_goals
                  go_ret
                  exact ⟨_, rfl, fun _ => ⟨HF.out.1, HF.out.2, fun h => by have := HKK.out; omega⟩, hb0⟩
              | true =>
                go_wp2_with (first | (go_at_call 53; refine (accessed y _).mono ?_; rintro e w5 ⟨b, rfl, -, hbel⟩; replace hb0 := bl2 hb0 hbel; clear hbel))
                all_goals
                  go_ret
                  exact ⟨_, rfl, fun _ => ⟨HF.out.1, HF.out.2, fun h => by have := HKK.out; omega⟩, hb0⟩
        · have e0 : ¬ ((x.sn : Int) = 0) := by omega
          clear cs k0 k1 k2 k3 k4 k5 k6 k7 k8 k9 k10 k11 k12
          go_wp2_with (fail)
          all_goals
            go_ret
            exact ⟨_, rfl, fun _ => ⟨HF.out.1, HF.out.2, fun h => by have := HKK.out; omega⟩, HBW.out⟩
    · clear hkl hkh
      go_wp2_with (fail)
      all_goals
        go_ret
        exact ⟨_, rfl, fun _ => ⟨HF.out.1, HF.out.2, fun h => by have := HKK.out; omega⟩, HBW.out⟩
    · clear hkl hkh
      go_wp2_with (fail)
      all_goals
        go_ret
        exact ⟨_, rfl, fun _ => ⟨HF.out.1, HF.out.2, fun h => by have := HKK.out; omega⟩, HBW.out⟩
    · clear hkl hkh
      go_wp2_with (fail)
      all_goals
        go_ret
        exact ⟨_, rfl, fun _ => ⟨HF.out.1, HF.out.2, fun h => by have := HKK.out; omega⟩, HBW.out⟩
    · clear hkl hkh
      go_wp2_with (fail)
      all_goals
        go_ret
        exact ⟨_, rfl, fun _ => ⟨HF.out.1, HF.out.2, fun h => by have := HKK.out; omega⟩, HBW.out⟩
    · clear hkl hkh
      go_wp2_with (fail)
      all_goals
        go_ret
        exact ⟨_, rfl, fun _ => ⟨HF.out.1, HF.out.2, fun h => by have := HKK.out; omega⟩, HBW.out⟩
    · clear hkl hkh
      go_wp2_with (fail)
      all_goals
        go_ret
        exact ⟨_, rfl, fun _ => ⟨HF.out.1, HF.out.2, fun h => by have := HKK.out; omega⟩, HBW.out⟩
end Go.Proofs.YtacokmkbikdmmaaGreatDoor.trees
