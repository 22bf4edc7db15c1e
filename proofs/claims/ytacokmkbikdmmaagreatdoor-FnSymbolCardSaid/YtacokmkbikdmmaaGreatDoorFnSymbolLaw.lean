/-
  laws.FnChains and laws.FnSymbol return true for every tree.
  Conditions: none.
-/
import Derived.Test.YtacokmkbikdmmaaGreatDoorAsks
import Derived.Test.YtacokmkbikdmmaaGreatDoorDots
namespace Go.Proofs.YtacokmkbikdmmaaGreatDoor.trees
open Go Go.RowKit
set_option linter.unusedVariables false
set_option linter.unusedSimpArgs false

theorem mvc {w w' : World} {a : Addr} {v : Value} (hb : Below w.heap.size w w') (h : w.cell? a = some v) : w'.cell? a = some v := (hb.cell (World.block_lt_of_cell? _ _ h)).trans h
attribute [local go_sem] run_store_float
set_option maxHeartbeats 8000000 in
set_option maxRecDepth 100000 in
theorem symbol (n : Nat) (x : X) (W : World) (h : Ex C0 W.heap.size W n x.cells) : Calls Tryz.prog 4 #[.agg #[.int .i64 x.kind, .int .i64 x.op, .int .i64 x.ref, .int .i64 x.chain, .int .i64 x.flags, .float .f64 x.num, .slice x.sa x.sn x.sc, .string x.text, .slice x.ka x.kn x.kc, .slice x.pa x.pn x.pc, .slice x.qa x.qn x.qc, .slice x.fa x.fn x.fc, .slice x.ca x.cn x.cc]] W (fun e w' => e = .returned (.bool true) ∧ Below W.heap.size W w') := by
  have HX := Lib.hid h
  clear h
  go_enter Tryz.func4, Tryz.ntmps4
  go_upto_region 1 with (fail)
  have hD := heap_alloc_new W (.cells #[.int .i64 x.kind, .int .i64 x.op, .int .i64 x.ref, .int .i64 x.chain, .int .i64 x.flags, .float .f64 x.num, .slice x.sa x.sn x.sc, .string x.text, .slice x.ka x.kn x.kc, .slice x.pa x.pn x.pc, .slice x.qa x.qn x.qc, .slice x.fa x.fn x.fc, .slice x.ca x.cn x.cc] 30)
  have hDb := (Below.refl W.heap.size W).alloc (Nat.le_refl _) (.cells #[.int .i64 x.kind, .int .i64 x.op, .int .i64 x.ref, .int .i64 x.chain, .int .i64 x.flags, .float .f64 x.num, .slice x.sa x.sn x.sc, .string x.text, .slice x.ka x.kn x.kc, .slice x.pa x.pn x.pc, .slice x.qa x.qn x.qc, .slice x.fa x.fn x.fc, .slice x.ca x.cn x.cc] 30)
  have hDs : (W.alloc (.cells #[.int .i64 x.kind, .int .i64 x.op, .int .i64 x.ref, .int .i64 x.chain, .int .i64 x.flags, .float .f64 x.num, .slice x.sa x.sn x.sc, .string x.text, .slice x.ka x.kn x.kc, .slice x.pa x.pn x.pc, .slice x.qa x.qn x.qc, .slice x.fa x.fn x.fc, .slice x.ca x.cn x.cc] 30)).heap.size = W.heap.size + 1 := by simp
  generalize W.alloc (.cells #[.int .i64 x.kind, .int .i64 x.op, .int .i64 x.ref, .int .i64 x.chain, .int .i64 x.flags, .float .f64 x.num, .slice x.sa x.sn x.sc, .string x.text, .slice x.ka x.kn x.kc, .slice x.pa x.pn x.pc, .slice x.qa x.qn x.qc, .slice x.fa x.fn x.fc, .slice x.ca x.cn x.cc] 30) = w1 at hD hDb hDs ⊢
  have d0 : w1.cell? ⟨W.heap.size, 0, none⟩ = some (.int .i64 x.kind) := blk_cell hD 0
  have d1 : w1.cell? ⟨W.heap.size, 1, none⟩ = some (.int .i64 x.op) := blk_cell hD 1
  have d2 : w1.cell? ⟨W.heap.size, 2, none⟩ = some (.int .i64 x.ref) := blk_cell hD 2
  have d3 : w1.cell? ⟨W.heap.size, 3, none⟩ = some (.int .i64 x.chain) := blk_cell hD 3
  have d4 : w1.cell? ⟨W.heap.size, 4, none⟩ = some (.int .i64 x.flags) := blk_cell hD 4
  have d5 : w1.cell? ⟨W.heap.size, 5, none⟩ = some (.float .f64 x.num) := blk_cell hD 5
  have d6 : w1.cell? ⟨W.heap.size, 6, none⟩ = some (.slice x.sa x.sn x.sc) := blk_cell hD 6
  have d7 : w1.cell? ⟨W.heap.size, 7, none⟩ = some (.string x.text) := blk_cell hD 7
  have d8 : w1.cell? ⟨W.heap.size, 8, none⟩ = some (.slice x.ka x.kn x.kc) := blk_cell hD 8
  have d9 : w1.cell? ⟨W.heap.size, 9, none⟩ = some (.slice x.pa x.pn x.pc) := blk_cell hD 9
  have d10 : w1.cell? ⟨W.heap.size, 10, none⟩ = some (.slice x.qa x.qn x.qc) := blk_cell hD 10
  have d11 : w1.cell? ⟨W.heap.size, 11, none⟩ = some (.slice x.fa x.fn x.fc) := blk_cell hD 11
  have d12 : w1.cell? ⟨W.heap.size, 12, none⟩ = some (.slice x.ca x.cn x.cc) := blk_cell hD 12
  have HD := Lib.hid (⟨hD, hDb, hDs⟩ : _ ∧ _ ∧ _)
  clear hD hDb hDs
  generalize Value.agg #[.int .i64 x.kind, .int .i64 x.op, .int .i64 x.ref, .int .i64 x.chain, .int .i64 x.flags, .float .f64 x.num, .slice x.sa x.sn x.sc, .string x.text, .slice x.ka x.kn x.kc, .slice x.pa x.pn x.pc, .slice x.qa x.qn x.qc, .slice x.fa x.fn x.fc, .slice x.ca x.cn x.cc] = arg
  go_wp2_with (fail)
  refine (zzFits3 x _).mono ?_
  rintro e w2 ⟨b, rfl, -, hbel⟩
  replace d0 := mvc hbel d0
  replace d1 := mvc hbel d1
  replace d2 := mvc hbel d2
  replace d3 := mvc hbel d3
  replace d4 := mvc hbel d4
  replace d5 := mvc hbel d5
  replace d6 := mvc hbel d6
  replace d7 := mvc hbel d7
  replace d8 := mvc hbel d8
  replace d9 := mvc hbel d9
  replace d10 := mvc hbel d10
  replace d11 := mvc hbel d11
  replace d12 := mvc hbel d12
  have H2 := Lib.hid (bl2 HD.out.2.1 hbel)
  clear hbel
  cases b with
  | false =>
    go_wp2_with (fail)
    go_ret
    exact ⟨rfl, H2.out⟩
  | true =>
    go_wp2_with (fail)
    refine (valid n x W.heap.size W _ HX.out H2.out (Nat.le_refl _)).mono ?_
    rintro e w3 ⟨b, rfl, hv, hbel⟩
    replace d0 := mvc hbel d0
    replace d1 := mvc hbel d1
    replace d2 := mvc hbel d2
    replace d3 := mvc hbel d3
    replace d4 := mvc hbel d4
    replace d5 := mvc hbel d5
    replace d6 := mvc hbel d6
    replace d7 := mvc hbel d7
    replace d8 := mvc hbel d8
    replace d9 := mvc hbel d9
    replace d10 := mvc hbel d10
    replace d11 := mvc hbel d11
    replace d12 := mvc hbel d12
    have H3 := Lib.hid (⟨hv, bl2 H2.out hbel⟩ : _ ∧ _)
    clear hbel hv
    cases b with
    | false =>
      go_wp2_with (fail)
      go_ret
      exact ⟨rfl, H3.out.2⟩
    | true =>
      have EX := Lib.hid (H3.out.1 (by first | rfl | trivial))
      have hk4 : x.kind = 16 ∨ x.kind = 17 ∨ x.kind = 18 ∨ (x.kind ≠ 16 ∧ x.kind ≠ 17 ∧ x.kind ≠ 18) := by omega
      have hd : ∀ (W1 w : World) (G : Nat), W1.heap[G]? = some (.cells #[.int .i64 8, .int .i64 0, .int .i64 0, .int .i64 0, .int .i64 0, .float .f64 0, .slice none 0 0, .string ⟨#[]⟩, .slice none 0 0, .slice none 0 0, .slice none 0 0, .slice none 0 0, .slice none 0 0] 30 (0, 0)) → Below W1.heap.size W1 w → Calls Tryz.prog 11 #[.agg #[.int .i64 16, .int .i64 0, .int .i64 0, .int .i64 0, .int .i64 4, .float .f64 0, .slice none 0 0, .string ⟨#[105, 116, 101, 114, 97, 116, 111, 114]⟩, .slice (some ⟨G, 0, none⟩) 1 1, .slice none 0 0, .slice none 0 0, .slice none 0 0, .slice none 0 0]] w (fun e w' => ∃ b, e = .returned (.bool b) ∧ b = true ∧ Below w.heap.size w w') := by
        intro W1 w G hG hb
        refine (implSymbol 2 (dt 4 ⟨#[105, 116, 101, 114, 97, 116, 111, 114]⟩ G) W1.heap.size W1 w (dot_ex W1 G 8 4 ⟨#[105, 116, 101, 114, 97, 116, 111, 114]⟩ (by decide) (by decide) (by decide) hG) hb (Nat.le_refl _)).mono ?_
        rintro e w1 ⟨b, rfl, h1, h2⟩
        exact ⟨b, rfl, h1.2 ⟨.inl rfl, (by decide : bits BinOp.and IntKind.i64 4 4 ≠ 0)⟩, h2⟩
      have HDT := Lib.hid hd
      clear hd
      rcases hk4 with hc | hc | hc | hc
      · have HC := Lib.hid hc
        have e16 : (x.kind == 16) = true := beq_iff_eq.mpr hc
        have e17 : (x.kind == 17) = false := beq_eq_false_iff_ne.mpr (by omega)
        have e18 : (x.kind == 18) = false := beq_eq_false_iff_ne.mpr (by omega)
        clear hc
        by_cases hz : bits .and .i64 x.flags 4 = 0
        · have HZ := Lib.hid hz
          have ez : (bits .and .i64 x.flags 4 != 0) = false := bne_eq_false_iff_eq.mpr hz
          clear hz
          go_wp2_with (fail)
          refine (lawsLeaf 8 0 _).mono ?_
          rintro e w4 ⟨rfl, hbel⟩
          replace d0 := mvc hbel d0
          replace d1 := mvc hbel d1
          replace d2 := mvc hbel d2
          replace d3 := mvc hbel d3
          replace d4 := mvc hbel d4
          replace d5 := mvc hbel d5
          replace d6 := mvc hbel d6
          replace d7 := mvc hbel d7
          replace d8 := mvc hbel d8
          replace d9 := mvc hbel d9
          replace d10 := mvc hbel d10
          replace d11 := mvc hbel d11
          replace d12 := mvc hbel d12
          have H4 := Lib.hid (bl2 H3.out.2 hbel)
          clear hbel
          go_upto_region 7 with (fail)
          have hG0 := heap_alloc_new w4 (.cells #[.int .i64 8, .int .i64 0, .int .i64 0, .int .i64 0, .int .i64 0, .float .f64 0, .slice none 0 0, .string ⟨#[]⟩, .slice none 0 0, .slice none 0 0, .slice none 0 0, .slice none 0 0, .slice none 0 0] 30)
          have hb1 := (Below.refl w4.heap.size w4).alloc (Nat.le_refl _) (.cells #[.int .i64 8, .int .i64 0, .int .i64 0, .int .i64 0, .int .i64 0, .float .f64 0, .slice none 0 0, .string ⟨#[]⟩, .slice none 0 0, .slice none 0 0, .slice none 0 0, .slice none 0 0, .slice none 0 0] 30)
          have hs1 : (w4.alloc (.cells #[.int .i64 8, .int .i64 0, .int .i64 0, .int .i64 0, .int .i64 0, .float .f64 0, .slice none 0 0, .string ⟨#[]⟩, .slice none 0 0, .slice none 0 0, .slice none 0 0, .slice none 0 0, .slice none 0 0] 30)).heap.size = w4.heap.size + 1 := by simp
          have hDt := heap_alloc_new (w4.alloc (.cells #[.int .i64 8, .int .i64 0, .int .i64 0, .int .i64 0, .int .i64 0, .float .f64 0, .slice none 0 0, .string ⟨#[]⟩, .slice none 0 0, .slice none 0 0, .slice none 0 0, .slice none 0 0, .slice none 0 0] 30)) (.cells #[.int .i64 16, .int .i64 0, .int .i64 0, .int .i64 0, .int .i64 4, .float .f64 0, .slice none 0 0, .string ⟨#[105, 116, 101, 114, 97, 116, 111, 114]⟩, .slice (some ⟨w4.heap.size, 0, none⟩) 1 1, .slice none 0 0, .slice none 0 0, .slice none 0 0, .slice none 0 0] 30)
          have hb2_ := (Below.refl (w4.alloc (.cells #[.int .i64 8, .int .i64 0, .int .i64 0, .int .i64 0, .int .i64 0, .float .f64 0, .slice none 0 0, .string ⟨#[]⟩, .slice none 0 0, .slice none 0 0, .slice none 0 0, .slice none 0 0, .slice none 0 0] 30)).heap.size (w4.alloc (.cells #[.int .i64 8, .int .i64 0, .int .i64 0, .int .i64 0, .int .i64 0, .float .f64 0, .slice none 0 0, .string ⟨#[]⟩, .slice none 0 0, .slice none 0 0, .slice none 0 0, .slice none 0 0, .slice none 0 0] 30))).alloc (Nat.le_refl _) (.cells #[.int .i64 16, .int .i64 0, .int .i64 0, .int .i64 0, .int .i64 4, .float .f64 0, .slice none 0 0, .string ⟨#[105, 116, 101, 114, 97, 116, 111, 114]⟩, .slice (some ⟨w4.heap.size, 0, none⟩) 1 1, .slice none 0 0, .slice none 0 0, .slice none 0 0, .slice none 0 0] 30)
          have hG := (hb2_.block _ (blk_lt hG0)).trans hG0
          rw [hs1] at hDt
          have hbD := bl2 hb1 hb2_
          clear hG0 hb1 hb2_ hs1
          replace d0 := mvc hbD d0
          replace d1 := mvc hbD d1
          replace d2 := mvc hbD d2
          replace d3 := mvc hbD d3
          replace d4 := mvc hbD d4
          replace d5 := mvc hbD d5
          replace d6 := mvc hbD d6
          replace d7 := mvc hbD d7
          replace d8 := mvc hbD d8
          replace d9 := mvc hbD d9
          replace d10 := mvc hbD d10
          replace d11 := mvc hbD d11
          replace d12 := mvc hbD d12
          generalize (w4.alloc (.cells #[.int .i64 8, .int .i64 0, .int .i64 0, .int .i64 0, .int .i64 0, .float .f64 0, .slice none 0 0, .string ⟨#[]⟩, .slice none 0 0, .slice none 0 0, .slice none 0 0, .slice none 0 0, .slice none 0 0] 30)).alloc (.cells #[.int .i64 16, .int .i64 0, .int .i64 0, .int .i64 0, .int .i64 4, .float .f64 0, .slice none 0 0, .string ⟨#[105, 116, 101, 114, 97, 116, 111, 114]⟩, .slice (some ⟨w4.heap.size, 0, none⟩) 1 1, .slice none 0 0, .slice none 0 0, .slice none 0 0, .slice none 0 0] 30) = wd at hDt hG hbD d0 d1 d2 d3 d4 d5 d6 d7 d8 d9 d10 d11 d12 ⊢
          have c0 : wd.cell? ⟨w4.heap.size + 1, 0, none⟩ = some (.int .i64 16) := blk_cell hDt 0
          have c1 : wd.cell? ⟨w4.heap.size + 1, 1, none⟩ = some (.int .i64 0) := blk_cell hDt 1
          have c2 : wd.cell? ⟨w4.heap.size + 1, 2, none⟩ = some (.int .i64 0) := blk_cell hDt 2
          have c3 : wd.cell? ⟨w4.heap.size + 1, 3, none⟩ = some (.int .i64 0) := blk_cell hDt 3
          have c4 : wd.cell? ⟨w4.heap.size + 1, 4, none⟩ = some (.int .i64 4) := blk_cell hDt 4
          have c5 : wd.cell? ⟨w4.heap.size + 1, 5, none⟩ = some (.float .f64 0) := blk_cell hDt 5
          have c6 : wd.cell? ⟨w4.heap.size + 1, 6, none⟩ = some (.slice none 0 0) := blk_cell hDt 6
          have c7 : wd.cell? ⟨w4.heap.size + 1, 7, none⟩ = some (.string ⟨#[105, 116, 101, 114, 97, 116, 111, 114]⟩) := blk_cell hDt 7
          have c8 : wd.cell? ⟨w4.heap.size + 1, 8, none⟩ = some (.slice (some ⟨w4.heap.size, 0, none⟩) 1 1) := blk_cell hDt 8
          have c9 : wd.cell? ⟨w4.heap.size + 1, 9, none⟩ = some (.slice none 0 0) := blk_cell hDt 9
          have c10 : wd.cell? ⟨w4.heap.size + 1, 10, none⟩ = some (.slice none 0 0) := blk_cell hDt 10
          have c11 : wd.cell? ⟨w4.heap.size + 1, 11, none⟩ = some (.slice none 0 0) := blk_cell hDt 11
          have c12 : wd.cell? ⟨w4.heap.size + 1, 12, none⟩ = some (.slice none 0 0) := blk_cell hDt 12
          have H5 := Lib.hid (⟨hG, bl2 H4.out hbD⟩ : _ ∧ _)
          clear hG hDt hbD
          go_wp2_with (fail)
          refine (implSymbol n x W.heap.size W _ EX.out (H5.out.2) (Nat.le_refl _)).mono ?_
          rintro e w6 ⟨b, rfl, hb, hbel⟩
          obtain rfl : b = false := by
            cases b with
            | false => rfl
            | true => exact absurd (hb.1 rfl) (fun h => h.2 HZ.out)
          replace d0 := mvc hbel d0
          replace d1 := mvc hbel d1
          replace d2 := mvc hbel d2
          replace d3 := mvc hbel d3
          replace d4 := mvc hbel d4
          replace d5 := mvc hbel d5
          replace d6 := mvc hbel d6
          replace d7 := mvc hbel d7
          replace d8 := mvc hbel d8
          replace d9 := mvc hbel d9
          replace d10 := mvc hbel d10
          replace d11 := mvc hbel d11
          replace d12 := mvc hbel d12
          replace c0 := mvc hbel c0
          replace c1 := mvc hbel c1
          replace c2 := mvc hbel c2
          replace c3 := mvc hbel c3
          replace c4 := mvc hbel c4
          replace c5 := mvc hbel c5
          replace c6 := mvc hbel c6
          replace c7 := mvc hbel c7
          replace c8 := mvc hbel c8
          replace c9 := mvc hbel c9
          replace c10 := mvc hbel c10
          replace c11 := mvc hbel c11
          replace c12 := mvc hbel c12
          have H6 := Lib.hid (⟨bl2 (H5.out.2) hbel, bl2 (Below.refl wd.heap.size wd) hbel⟩ : _ ∧ _)
          clear hb hbel
          clear d1 d2 d5 d6 d7 d8 d9 d10 d11 d12
          go_wp2_with (fail)
          refine (HDT.out wd _ w4.heap.size H5.out.1 (H6.out.2)).mono ?_
          rintro e w9 ⟨b, rfl, rfl, hbel⟩
          have H9 := Lib.hid (bl2 (H6.out.1) hbel)
          clear hbel c0 c1 c2 c3 c4 c5 c6 c7 c8 c9 c10 c11 c12
          go_wp2_with (fail)
          go_ret
          exact ⟨rfl, H9.out⟩
        · have HZ := Lib.hid hz
          have ez : (bits .and .i64 x.flags 4 != 0) = true := bne_iff_ne.mpr hz
          clear hz
          go_wp2_with (fail)
          refine (lawsLeaf 8 0 _).mono ?_
          rintro e w4 ⟨rfl, hbel⟩
          replace d0 := mvc hbel d0
          replace d1 := mvc hbel d1
          replace d2 := mvc hbel d2
          replace d3 := mvc hbel d3
          replace d4 := mvc hbel d4
          replace d5 := mvc hbel d5
          replace d6 := mvc hbel d6
          replace d7 := mvc hbel d7
          replace d8 := mvc hbel d8
          replace d9 := mvc hbel d9
          replace d10 := mvc hbel d10
          replace d11 := mvc hbel d11
          replace d12 := mvc hbel d12
          have H4 := Lib.hid (bl2 H3.out.2 hbel)
          clear hbel
          go_upto_region 7 with (fail)
          have hG0 := heap_alloc_new w4 (.cells #[.int .i64 8, .int .i64 0, .int .i64 0, .int .i64 0, .int .i64 0, .float .f64 0, .slice none 0 0, .string ⟨#[]⟩, .slice none 0 0, .slice none 0 0, .slice none 0 0, .slice none 0 0, .slice none 0 0] 30)
          have hb1 := (Below.refl w4.heap.size w4).alloc (Nat.le_refl _) (.cells #[.int .i64 8, .int .i64 0, .int .i64 0, .int .i64 0, .int .i64 0, .float .f64 0, .slice none 0 0, .string ⟨#[]⟩, .slice none 0 0, .slice none 0 0, .slice none 0 0, .slice none 0 0, .slice none 0 0] 30)
          have hs1 : (w4.alloc (.cells #[.int .i64 8, .int .i64 0, .int .i64 0, .int .i64 0, .int .i64 0, .float .f64 0, .slice none 0 0, .string ⟨#[]⟩, .slice none 0 0, .slice none 0 0, .slice none 0 0, .slice none 0 0, .slice none 0 0] 30)).heap.size = w4.heap.size + 1 := by simp
          have hDt := heap_alloc_new (w4.alloc (.cells #[.int .i64 8, .int .i64 0, .int .i64 0, .int .i64 0, .int .i64 0, .float .f64 0, .slice none 0 0, .string ⟨#[]⟩, .slice none 0 0, .slice none 0 0, .slice none 0 0, .slice none 0 0, .slice none 0 0] 30)) (.cells #[.int .i64 16, .int .i64 0, .int .i64 0, .int .i64 0, .int .i64 4, .float .f64 0, .slice none 0 0, .string ⟨#[105, 116, 101, 114, 97, 116, 111, 114]⟩, .slice (some ⟨w4.heap.size, 0, none⟩) 1 1, .slice none 0 0, .slice none 0 0, .slice none 0 0, .slice none 0 0] 30)
          have hb2_ := (Below.refl (w4.alloc (.cells #[.int .i64 8, .int .i64 0, .int .i64 0, .int .i64 0, .int .i64 0, .float .f64 0, .slice none 0 0, .string ⟨#[]⟩, .slice none 0 0, .slice none 0 0, .slice none 0 0, .slice none 0 0, .slice none 0 0] 30)).heap.size (w4.alloc (.cells #[.int .i64 8, .int .i64 0, .int .i64 0, .int .i64 0, .int .i64 0, .float .f64 0, .slice none 0 0, .string ⟨#[]⟩, .slice none 0 0, .slice none 0 0, .slice none 0 0, .slice none 0 0, .slice none 0 0] 30))).alloc (Nat.le_refl _) (.cells #[.int .i64 16, .int .i64 0, .int .i64 0, .int .i64 0, .int .i64 4, .float .f64 0, .slice none 0 0, .string ⟨#[105, 116, 101, 114, 97, 116, 111, 114]⟩, .slice (some ⟨w4.heap.size, 0, none⟩) 1 1, .slice none 0 0, .slice none 0 0, .slice none 0 0, .slice none 0 0] 30)
          have hG := (hb2_.block _ (blk_lt hG0)).trans hG0
          rw [hs1] at hDt
          have hbD := bl2 hb1 hb2_
          clear hG0 hb1 hb2_ hs1
          replace d0 := mvc hbD d0
          replace d1 := mvc hbD d1
          replace d2 := mvc hbD d2
          replace d3 := mvc hbD d3
          replace d4 := mvc hbD d4
          replace d5 := mvc hbD d5
          replace d6 := mvc hbD d6
          replace d7 := mvc hbD d7
          replace d8 := mvc hbD d8
          replace d9 := mvc hbD d9
          replace d10 := mvc hbD d10
          replace d11 := mvc hbD d11
          replace d12 := mvc hbD d12
          generalize (w4.alloc (.cells #[.int .i64 8, .int .i64 0, .int .i64 0, .int .i64 0, .int .i64 0, .float .f64 0, .slice none 0 0, .string ⟨#[]⟩, .slice none 0 0, .slice none 0 0, .slice none 0 0, .slice none 0 0, .slice none 0 0] 30)).alloc (.cells #[.int .i64 16, .int .i64 0, .int .i64 0, .int .i64 0, .int .i64 4, .float .f64 0, .slice none 0 0, .string ⟨#[105, 116, 101, 114, 97, 116, 111, 114]⟩, .slice (some ⟨w4.heap.size, 0, none⟩) 1 1, .slice none 0 0, .slice none 0 0, .slice none 0 0, .slice none 0 0] 30) = wd at hDt hG hbD d0 d1 d2 d3 d4 d5 d6 d7 d8 d9 d10 d11 d12 ⊢
          have c0 : wd.cell? ⟨w4.heap.size + 1, 0, none⟩ = some (.int .i64 16) := blk_cell hDt 0
          have c1 : wd.cell? ⟨w4.heap.size + 1, 1, none⟩ = some (.int .i64 0) := blk_cell hDt 1
          have c2 : wd.cell? ⟨w4.heap.size + 1, 2, none⟩ = some (.int .i64 0) := blk_cell hDt 2
          have c3 : wd.cell? ⟨w4.heap.size + 1, 3, none⟩ = some (.int .i64 0) := blk_cell hDt 3
          have c4 : wd.cell? ⟨w4.heap.size + 1, 4, none⟩ = some (.int .i64 4) := blk_cell hDt 4
          have c5 : wd.cell? ⟨w4.heap.size + 1, 5, none⟩ = some (.float .f64 0) := blk_cell hDt 5
          have c6 : wd.cell? ⟨w4.heap.size + 1, 6, none⟩ = some (.slice none 0 0) := blk_cell hDt 6
          have c7 : wd.cell? ⟨w4.heap.size + 1, 7, none⟩ = some (.string ⟨#[105, 116, 101, 114, 97, 116, 111, 114]⟩) := blk_cell hDt 7
          have c8 : wd.cell? ⟨w4.heap.size + 1, 8, none⟩ = some (.slice (some ⟨w4.heap.size, 0, none⟩) 1 1) := blk_cell hDt 8
          have c9 : wd.cell? ⟨w4.heap.size + 1, 9, none⟩ = some (.slice none 0 0) := blk_cell hDt 9
          have c10 : wd.cell? ⟨w4.heap.size + 1, 10, none⟩ = some (.slice none 0 0) := blk_cell hDt 10
          have c11 : wd.cell? ⟨w4.heap.size + 1, 11, none⟩ = some (.slice none 0 0) := blk_cell hDt 11
          have c12 : wd.cell? ⟨w4.heap.size + 1, 12, none⟩ = some (.slice none 0 0) := blk_cell hDt 12
          have H5 := Lib.hid (⟨hG, bl2 H4.out hbD⟩ : _ ∧ _)
          clear hG hDt hbD
          go_wp2_with (fail)
          refine (implSymbol n x W.heap.size W _ EX.out (H5.out.2) (Nat.le_refl _)).mono ?_
          rintro e w6 ⟨b, rfl, hb, hbel⟩
          obtain rfl : b = true := hb.2 ⟨by have := HC.out; omega, HZ.out⟩
          replace d0 := mvc hbel d0
          replace d1 := mvc hbel d1
          replace d2 := mvc hbel d2
          replace d3 := mvc hbel d3
          replace d4 := mvc hbel d4
          replace d5 := mvc hbel d5
          replace d6 := mvc hbel d6
          replace d7 := mvc hbel d7
          replace d8 := mvc hbel d8
          replace d9 := mvc hbel d9
          replace d10 := mvc hbel d10
          replace d11 := mvc hbel d11
          replace d12 := mvc hbel d12
          replace c0 := mvc hbel c0
          replace c1 := mvc hbel c1
          replace c2 := mvc hbel c2
          replace c3 := mvc hbel c3
          replace c4 := mvc hbel c4
          replace c5 := mvc hbel c5
          replace c6 := mvc hbel c6
          replace c7 := mvc hbel c7
          replace c8 := mvc hbel c8
          replace c9 := mvc hbel c9
          replace c10 := mvc hbel c10
          replace c11 := mvc hbel c11
          replace c12 := mvc hbel c12
          have H6 := Lib.hid (⟨bl2 (H5.out.2) hbel, bl2 (Below.refl wd.heap.size wd) hbel⟩ : _ ∧ _)
          clear hb hbel
          clear d1 d2 d5 d6 d7 d8 d9 d10 d11 d12
          go_wp2_with (fail)
          refine (HDT.out wd _ w4.heap.size H5.out.1 (H6.out.2)).mono ?_
          rintro e w9 ⟨b, rfl, rfl, hbel⟩
          have H9 := Lib.hid (bl2 (H6.out.1) hbel)
          clear hbel c0 c1 c2 c3 c4 c5 c6 c7 c8 c9 c10 c11 c12
          go_wp2_with (fail)
          go_ret
          exact ⟨rfl, H9.out⟩
      · have HC := Lib.hid hc
        have e16 : (x.kind == 16) = false := beq_eq_false_iff_ne.mpr (by omega)
        have e17 : (x.kind == 17) = true := beq_iff_eq.mpr hc
        have e18 : (x.kind == 18) = false := beq_eq_false_iff_ne.mpr (by omega)
        clear hc
        by_cases hz : bits .and .i64 x.flags 4 = 0
        · have HZ := Lib.hid hz
          have ez : (bits .and .i64 x.flags 4 != 0) = false := bne_eq_false_iff_eq.mpr hz
          clear hz
          go_wp2_with (fail)
          refine (lawsLeaf 8 0 _).mono ?_
          rintro e w4 ⟨rfl, hbel⟩
          replace d0 := mvc hbel d0
          replace d1 := mvc hbel d1
          replace d2 := mvc hbel d2
          replace d3 := mvc hbel d3
          replace d4 := mvc hbel d4
          replace d5 := mvc hbel d5
          replace d6 := mvc hbel d6
          replace d7 := mvc hbel d7
          replace d8 := mvc hbel d8
          replace d9 := mvc hbel d9
          replace d10 := mvc hbel d10
          replace d11 := mvc hbel d11
          replace d12 := mvc hbel d12
          have H4 := Lib.hid (bl2 H3.out.2 hbel)
          clear hbel
          go_upto_region 7 with (fail)
          have hG0 := heap_alloc_new w4 (.cells #[.int .i64 8, .int .i64 0, .int .i64 0, .int .i64 0, .int .i64 0, .float .f64 0, .slice none 0 0, .string ⟨#[]⟩, .slice none 0 0, .slice none 0 0, .slice none 0 0, .slice none 0 0, .slice none 0 0] 30)
          have hb1 := (Below.refl w4.heap.size w4).alloc (Nat.le_refl _) (.cells #[.int .i64 8, .int .i64 0, .int .i64 0, .int .i64 0, .int .i64 0, .float .f64 0, .slice none 0 0, .string ⟨#[]⟩, .slice none 0 0, .slice none 0 0, .slice none 0 0, .slice none 0 0, .slice none 0 0] 30)
          have hs1 : (w4.alloc (.cells #[.int .i64 8, .int .i64 0, .int .i64 0, .int .i64 0, .int .i64 0, .float .f64 0, .slice none 0 0, .string ⟨#[]⟩, .slice none 0 0, .slice none 0 0, .slice none 0 0, .slice none 0 0, .slice none 0 0] 30)).heap.size = w4.heap.size + 1 := by simp
          have hDt := heap_alloc_new (w4.alloc (.cells #[.int .i64 8, .int .i64 0, .int .i64 0, .int .i64 0, .int .i64 0, .float .f64 0, .slice none 0 0, .string ⟨#[]⟩, .slice none 0 0, .slice none 0 0, .slice none 0 0, .slice none 0 0, .slice none 0 0] 30)) (.cells #[.int .i64 16, .int .i64 0, .int .i64 0, .int .i64 0, .int .i64 4, .float .f64 0, .slice none 0 0, .string ⟨#[105, 116, 101, 114, 97, 116, 111, 114]⟩, .slice (some ⟨w4.heap.size, 0, none⟩) 1 1, .slice none 0 0, .slice none 0 0, .slice none 0 0, .slice none 0 0] 30)
          have hb2_ := (Below.refl (w4.alloc (.cells #[.int .i64 8, .int .i64 0, .int .i64 0, .int .i64 0, .int .i64 0, .float .f64 0, .slice none 0 0, .string ⟨#[]⟩, .slice none 0 0, .slice none 0 0, .slice none 0 0, .slice none 0 0, .slice none 0 0] 30)).heap.size (w4.alloc (.cells #[.int .i64 8, .int .i64 0, .int .i64 0, .int .i64 0, .int .i64 0, .float .f64 0, .slice none 0 0, .string ⟨#[]⟩, .slice none 0 0, .slice none 0 0, .slice none 0 0, .slice none 0 0, .slice none 0 0] 30))).alloc (Nat.le_refl _) (.cells #[.int .i64 16, .int .i64 0, .int .i64 0, .int .i64 0, .int .i64 4, .float .f64 0, .slice none 0 0, .string ⟨#[105, 116, 101, 114, 97, 116, 111, 114]⟩, .slice (some ⟨w4.heap.size, 0, none⟩) 1 1, .slice none 0 0, .slice none 0 0, .slice none 0 0, .slice none 0 0] 30)
          have hG := (hb2_.block _ (blk_lt hG0)).trans hG0
          rw [hs1] at hDt
          have hbD := bl2 hb1 hb2_
          clear hG0 hb1 hb2_ hs1
          replace d0 := mvc hbD d0
          replace d1 := mvc hbD d1
          replace d2 := mvc hbD d2
          replace d3 := mvc hbD d3
          replace d4 := mvc hbD d4
          replace d5 := mvc hbD d5
          replace d6 := mvc hbD d6
          replace d7 := mvc hbD d7
          replace d8 := mvc hbD d8
          replace d9 := mvc hbD d9
          replace d10 := mvc hbD d10
          replace d11 := mvc hbD d11
          replace d12 := mvc hbD d12
          generalize (w4.alloc (.cells #[.int .i64 8, .int .i64 0, .int .i64 0, .int .i64 0, .int .i64 0, .float .f64 0, .slice none 0 0, .string ⟨#[]⟩, .slice none 0 0, .slice none 0 0, .slice none 0 0, .slice none 0 0, .slice none 0 0] 30)).alloc (.cells #[.int .i64 16, .int .i64 0, .int .i64 0, .int .i64 0, .int .i64 4, .float .f64 0, .slice none 0 0, .string ⟨#[105, 116, 101, 114, 97, 116, 111, 114]⟩, .slice (some ⟨w4.heap.size, 0, none⟩) 1 1, .slice none 0 0, .slice none 0 0, .slice none 0 0, .slice none 0 0] 30) = wd at hDt hG hbD d0 d1 d2 d3 d4 d5 d6 d7 d8 d9 d10 d11 d12 ⊢
          have c0 : wd.cell? ⟨w4.heap.size + 1, 0, none⟩ = some (.int .i64 16) := blk_cell hDt 0
          have c1 : wd.cell? ⟨w4.heap.size + 1, 1, none⟩ = some (.int .i64 0) := blk_cell hDt 1
          have c2 : wd.cell? ⟨w4.heap.size + 1, 2, none⟩ = some (.int .i64 0) := blk_cell hDt 2
          have c3 : wd.cell? ⟨w4.heap.size + 1, 3, none⟩ = some (.int .i64 0) := blk_cell hDt 3
          have c4 : wd.cell? ⟨w4.heap.size + 1, 4, none⟩ = some (.int .i64 4) := blk_cell hDt 4
          have c5 : wd.cell? ⟨w4.heap.size + 1, 5, none⟩ = some (.float .f64 0) := blk_cell hDt 5
          have c6 : wd.cell? ⟨w4.heap.size + 1, 6, none⟩ = some (.slice none 0 0) := blk_cell hDt 6
          have c7 : wd.cell? ⟨w4.heap.size + 1, 7, none⟩ = some (.string ⟨#[105, 116, 101, 114, 97, 116, 111, 114]⟩) := blk_cell hDt 7
          have c8 : wd.cell? ⟨w4.heap.size + 1, 8, none⟩ = some (.slice (some ⟨w4.heap.size, 0, none⟩) 1 1) := blk_cell hDt 8
          have c9 : wd.cell? ⟨w4.heap.size + 1, 9, none⟩ = some (.slice none 0 0) := blk_cell hDt 9
          have c10 : wd.cell? ⟨w4.heap.size + 1, 10, none⟩ = some (.slice none 0 0) := blk_cell hDt 10
          have c11 : wd.cell? ⟨w4.heap.size + 1, 11, none⟩ = some (.slice none 0 0) := blk_cell hDt 11
          have c12 : wd.cell? ⟨w4.heap.size + 1, 12, none⟩ = some (.slice none 0 0) := blk_cell hDt 12
          have H5 := Lib.hid (⟨hG, bl2 H4.out hbD⟩ : _ ∧ _)
          clear hG hDt hbD
          go_wp2_with (fail)
          refine (implSymbol n x W.heap.size W _ EX.out (H5.out.2) (Nat.le_refl _)).mono ?_
          rintro e w6 ⟨b, rfl, hb, hbel⟩
          obtain rfl : b = false := by
            cases b with
            | false => rfl
            | true => exact absurd (hb.1 rfl) (fun h => h.2 HZ.out)
          replace d0 := mvc hbel d0
          replace d1 := mvc hbel d1
          replace d2 := mvc hbel d2
          replace d3 := mvc hbel d3
          replace d4 := mvc hbel d4
          replace d5 := mvc hbel d5
          replace d6 := mvc hbel d6
          replace d7 := mvc hbel d7
          replace d8 := mvc hbel d8
          replace d9 := mvc hbel d9
          replace d10 := mvc hbel d10
          replace d11 := mvc hbel d11
          replace d12 := mvc hbel d12
          replace c0 := mvc hbel c0
          replace c1 := mvc hbel c1
          replace c2 := mvc hbel c2
          replace c3 := mvc hbel c3
          replace c4 := mvc hbel c4
          replace c5 := mvc hbel c5
          replace c6 := mvc hbel c6
          replace c7 := mvc hbel c7
          replace c8 := mvc hbel c8
          replace c9 := mvc hbel c9
          replace c10 := mvc hbel c10
          replace c11 := mvc hbel c11
          replace c12 := mvc hbel c12
          have H6 := Lib.hid (⟨bl2 (H5.out.2) hbel, bl2 (Below.refl wd.heap.size wd) hbel⟩ : _ ∧ _)
          clear hb hbel
          clear d1 d2 d5 d6 d7 d8 d9 d10 d11 d12
          go_wp2_with (fail)
          refine (HDT.out wd _ w4.heap.size H5.out.1 (H6.out.2)).mono ?_
          rintro e w9 ⟨b, rfl, rfl, hbel⟩
          have H9 := Lib.hid (bl2 (H6.out.1) hbel)
          clear hbel c0 c1 c2 c3 c4 c5 c6 c7 c8 c9 c10 c11 c12
          go_wp2_with (fail)
          go_ret
          exact ⟨rfl, H9.out⟩
        · have HZ := Lib.hid hz
          have ez : (bits .and .i64 x.flags 4 != 0) = true := bne_iff_ne.mpr hz
          clear hz
          go_wp2_with (fail)
          refine (lawsLeaf 8 0 _).mono ?_
          rintro e w4 ⟨rfl, hbel⟩
          replace d0 := mvc hbel d0
          replace d1 := mvc hbel d1
          replace d2 := mvc hbel d2
          replace d3 := mvc hbel d3
          replace d4 := mvc hbel d4
          replace d5 := mvc hbel d5
          replace d6 := mvc hbel d6
          replace d7 := mvc hbel d7
          replace d8 := mvc hbel d8
          replace d9 := mvc hbel d9
          replace d10 := mvc hbel d10
          replace d11 := mvc hbel d11
          replace d12 := mvc hbel d12
          have H4 := Lib.hid (bl2 H3.out.2 hbel)
          clear hbel
          go_upto_region 7 with (fail)
          have hG0 := heap_alloc_new w4 (.cells #[.int .i64 8, .int .i64 0, .int .i64 0, .int .i64 0, .int .i64 0, .float .f64 0, .slice none 0 0, .string ⟨#[]⟩, .slice none 0 0, .slice none 0 0, .slice none 0 0, .slice none 0 0, .slice none 0 0] 30)
          have hb1 := (Below.refl w4.heap.size w4).alloc (Nat.le_refl _) (.cells #[.int .i64 8, .int .i64 0, .int .i64 0, .int .i64 0, .int .i64 0, .float .f64 0, .slice none 0 0, .string ⟨#[]⟩, .slice none 0 0, .slice none 0 0, .slice none 0 0, .slice none 0 0, .slice none 0 0] 30)
          have hs1 : (w4.alloc (.cells #[.int .i64 8, .int .i64 0, .int .i64 0, .int .i64 0, .int .i64 0, .float .f64 0, .slice none 0 0, .string ⟨#[]⟩, .slice none 0 0, .slice none 0 0, .slice none 0 0, .slice none 0 0, .slice none 0 0] 30)).heap.size = w4.heap.size + 1 := by simp
          have hDt := heap_alloc_new (w4.alloc (.cells #[.int .i64 8, .int .i64 0, .int .i64 0, .int .i64 0, .int .i64 0, .float .f64 0, .slice none 0 0, .string ⟨#[]⟩, .slice none 0 0, .slice none 0 0, .slice none 0 0, .slice none 0 0, .slice none 0 0] 30)) (.cells #[.int .i64 16, .int .i64 0, .int .i64 0, .int .i64 0, .int .i64 4, .float .f64 0, .slice none 0 0, .string ⟨#[105, 116, 101, 114, 97, 116, 111, 114]⟩, .slice (some ⟨w4.heap.size, 0, none⟩) 1 1, .slice none 0 0, .slice none 0 0, .slice none 0 0, .slice none 0 0] 30)
          have hb2_ := (Below.refl (w4.alloc (.cells #[.int .i64 8, .int .i64 0, .int .i64 0, .int .i64 0, .int .i64 0, .float .f64 0, .slice none 0 0, .string ⟨#[]⟩, .slice none 0 0, .slice none 0 0, .slice none 0 0, .slice none 0 0, .slice none 0 0] 30)).heap.size (w4.alloc (.cells #[.int .i64 8, .int .i64 0, .int .i64 0, .int .i64 0, .int .i64 0, .float .f64 0, .slice none 0 0, .string ⟨#[]⟩, .slice none 0 0, .slice none 0 0, .slice none 0 0, .slice none 0 0, .slice none 0 0] 30))).alloc (Nat.le_refl _) (.cells #[.int .i64 16, .int .i64 0, .int .i64 0, .int .i64 0, .int .i64 4, .float .f64 0, .slice none 0 0, .string ⟨#[105, 116, 101, 114, 97, 116, 111, 114]⟩, .slice (some ⟨w4.heap.size, 0, none⟩) 1 1, .slice none 0 0, .slice none 0 0, .slice none 0 0, .slice none 0 0] 30)
          have hG := (hb2_.block _ (blk_lt hG0)).trans hG0
          rw [hs1] at hDt
          have hbD := bl2 hb1 hb2_
          clear hG0 hb1 hb2_ hs1
          replace d0 := mvc hbD d0
          replace d1 := mvc hbD d1
          replace d2 := mvc hbD d2
          replace d3 := mvc hbD d3
          replace d4 := mvc hbD d4
          replace d5 := mvc hbD d5
          replace d6 := mvc hbD d6
          replace d7 := mvc hbD d7
          replace d8 := mvc hbD d8
          replace d9 := mvc hbD d9
          replace d10 := mvc hbD d10
          replace d11 := mvc hbD d11
          replace d12 := mvc hbD d12
          generalize (w4.alloc (.cells #[.int .i64 8, .int .i64 0, .int .i64 0, .int .i64 0, .int .i64 0, .float .f64 0, .slice none 0 0, .string ⟨#[]⟩, .slice none 0 0, .slice none 0 0, .slice none 0 0, .slice none 0 0, .slice none 0 0] 30)).alloc (.cells #[.int .i64 16, .int .i64 0, .int .i64 0, .int .i64 0, .int .i64 4, .float .f64 0, .slice none 0 0, .string ⟨#[105, 116, 101, 114, 97, 116, 111, 114]⟩, .slice (some ⟨w4.heap.size, 0, none⟩) 1 1, .slice none 0 0, .slice none 0 0, .slice none 0 0, .slice none 0 0] 30) = wd at hDt hG hbD d0 d1 d2 d3 d4 d5 d6 d7 d8 d9 d10 d11 d12 ⊢
          have c0 : wd.cell? ⟨w4.heap.size + 1, 0, none⟩ = some (.int .i64 16) := blk_cell hDt 0
          have c1 : wd.cell? ⟨w4.heap.size + 1, 1, none⟩ = some (.int .i64 0) := blk_cell hDt 1
          have c2 : wd.cell? ⟨w4.heap.size + 1, 2, none⟩ = some (.int .i64 0) := blk_cell hDt 2
          have c3 : wd.cell? ⟨w4.heap.size + 1, 3, none⟩ = some (.int .i64 0) := blk_cell hDt 3
          have c4 : wd.cell? ⟨w4.heap.size + 1, 4, none⟩ = some (.int .i64 4) := blk_cell hDt 4
          have c5 : wd.cell? ⟨w4.heap.size + 1, 5, none⟩ = some (.float .f64 0) := blk_cell hDt 5
          have c6 : wd.cell? ⟨w4.heap.size + 1, 6, none⟩ = some (.slice none 0 0) := blk_cell hDt 6
          have c7 : wd.cell? ⟨w4.heap.size + 1, 7, none⟩ = some (.string ⟨#[105, 116, 101, 114, 97, 116, 111, 114]⟩) := blk_cell hDt 7
          have c8 : wd.cell? ⟨w4.heap.size + 1, 8, none⟩ = some (.slice (some ⟨w4.heap.size, 0, none⟩) 1 1) := blk_cell hDt 8
          have c9 : wd.cell? ⟨w4.heap.size + 1, 9, none⟩ = some (.slice none 0 0) := blk_cell hDt 9
          have c10 : wd.cell? ⟨w4.heap.size + 1, 10, none⟩ = some (.slice none 0 0) := blk_cell hDt 10
          have c11 : wd.cell? ⟨w4.heap.size + 1, 11, none⟩ = some (.slice none 0 0) := blk_cell hDt 11
          have c12 : wd.cell? ⟨w4.heap.size + 1, 12, none⟩ = some (.slice none 0 0) := blk_cell hDt 12
          have H5 := Lib.hid (⟨hG, bl2 H4.out hbD⟩ : _ ∧ _)
          clear hG hDt hbD
          go_wp2_with (fail)
          refine (implSymbol n x W.heap.size W _ EX.out (H5.out.2) (Nat.le_refl _)).mono ?_
          rintro e w6 ⟨b, rfl, hb, hbel⟩
          obtain rfl : b = true := hb.2 ⟨by have := HC.out; omega, HZ.out⟩
          replace d0 := mvc hbel d0
          replace d1 := mvc hbel d1
          replace d2 := mvc hbel d2
          replace d3 := mvc hbel d3
          replace d4 := mvc hbel d4
          replace d5 := mvc hbel d5
          replace d6 := mvc hbel d6
          replace d7 := mvc hbel d7
          replace d8 := mvc hbel d8
          replace d9 := mvc hbel d9
          replace d10 := mvc hbel d10
          replace d11 := mvc hbel d11
          replace d12 := mvc hbel d12
          replace c0 := mvc hbel c0
          replace c1 := mvc hbel c1
          replace c2 := mvc hbel c2
          replace c3 := mvc hbel c3
          replace c4 := mvc hbel c4
          replace c5 := mvc hbel c5
          replace c6 := mvc hbel c6
          replace c7 := mvc hbel c7
          replace c8 := mvc hbel c8
          replace c9 := mvc hbel c9
          replace c10 := mvc hbel c10
          replace c11 := mvc hbel c11
          replace c12 := mvc hbel c12
          have H6 := Lib.hid (⟨bl2 (H5.out.2) hbel, bl2 (Below.refl wd.heap.size wd) hbel⟩ : _ ∧ _)
          clear hb hbel
          clear d1 d2 d5 d6 d7 d8 d9 d10 d11 d12
          go_wp2_with (fail)
          refine (HDT.out wd _ w4.heap.size H5.out.1 (H6.out.2)).mono ?_
          rintro e w9 ⟨b, rfl, rfl, hbel⟩
          have H9 := Lib.hid (bl2 (H6.out.1) hbel)
          clear hbel c0 c1 c2 c3 c4 c5 c6 c7 c8 c9 c10 c11 c12
          go_wp2_with (fail)
          go_ret
          exact ⟨rfl, H9.out⟩
      · have HC := Lib.hid hc
        have e16 : (x.kind == 16) = false := beq_eq_false_iff_ne.mpr (by omega)
        have e17 : (x.kind == 17) = false := beq_eq_false_iff_ne.mpr (by omega)
        have e18 : (x.kind == 18) = true := beq_iff_eq.mpr hc
        clear hc
        by_cases hz : bits .and .i64 x.flags 4 = 0
        · have HZ := Lib.hid hz
          have ez : (bits .and .i64 x.flags 4 != 0) = false := bne_eq_false_iff_eq.mpr hz
          clear hz
          go_wp2_with (fail)
          refine (lawsLeaf 8 0 _).mono ?_
          rintro e w4 ⟨rfl, hbel⟩
          replace d0 := mvc hbel d0
          replace d1 := mvc hbel d1
          replace d2 := mvc hbel d2
          replace d3 := mvc hbel d3
          replace d4 := mvc hbel d4
          replace d5 := mvc hbel d5
          replace d6 := mvc hbel d6
          replace d7 := mvc hbel d7
          replace d8 := mvc hbel d8
          replace d9 := mvc hbel d9
          replace d10 := mvc hbel d10
          replace d11 := mvc hbel d11
          replace d12 := mvc hbel d12
          have H4 := Lib.hid (bl2 H3.out.2 hbel)
          clear hbel
          go_upto_region 7 with (fail)
          have hG0 := heap_alloc_new w4 (.cells #[.int .i64 8, .int .i64 0, .int .i64 0, .int .i64 0, .int .i64 0, .float .f64 0, .slice none 0 0, .string ⟨#[]⟩, .slice none 0 0, .slice none 0 0, .slice none 0 0, .slice none 0 0, .slice none 0 0] 30)
          have hb1 := (Below.refl w4.heap.size w4).alloc (Nat.le_refl _) (.cells #[.int .i64 8, .int .i64 0, .int .i64 0, .int .i64 0, .int .i64 0, .float .f64 0, .slice none 0 0, .string ⟨#[]⟩, .slice none 0 0, .slice none 0 0, .slice none 0 0, .slice none 0 0, .slice none 0 0] 30)
          have hs1 : (w4.alloc (.cells #[.int .i64 8, .int .i64 0, .int .i64 0, .int .i64 0, .int .i64 0, .float .f64 0, .slice none 0 0, .string ⟨#[]⟩, .slice none 0 0, .slice none 0 0, .slice none 0 0, .slice none 0 0, .slice none 0 0] 30)).heap.size = w4.heap.size + 1 := by simp
          have hDt := heap_alloc_new (w4.alloc (.cells #[.int .i64 8, .int .i64 0, .int .i64 0, .int .i64 0, .int .i64 0, .float .f64 0, .slice none 0 0, .string ⟨#[]⟩, .slice none 0 0, .slice none 0 0, .slice none 0 0, .slice none 0 0, .slice none 0 0] 30)) (.cells #[.int .i64 16, .int .i64 0, .int .i64 0, .int .i64 0, .int .i64 4, .float .f64 0, .slice none 0 0, .string ⟨#[105, 116, 101, 114, 97, 116, 111, 114]⟩, .slice (some ⟨w4.heap.size, 0, none⟩) 1 1, .slice none 0 0, .slice none 0 0, .slice none 0 0, .slice none 0 0] 30)
          have hb2_ := (Below.refl (w4.alloc (.cells #[.int .i64 8, .int .i64 0, .int .i64 0, .int .i64 0, .int .i64 0, .float .f64 0, .slice none 0 0, .string ⟨#[]⟩, .slice none 0 0, .slice none 0 0, .slice none 0 0, .slice none 0 0, .slice none 0 0] 30)).heap.size (w4.alloc (.cells #[.int .i64 8, .int .i64 0, .int .i64 0, .int .i64 0, .int .i64 0, .float .f64 0, .slice none 0 0, .string ⟨#[]⟩, .slice none 0 0, .slice none 0 0, .slice none 0 0, .slice none 0 0, .slice none 0 0] 30))).alloc (Nat.le_refl _) (.cells #[.int .i64 16, .int .i64 0, .int .i64 0, .int .i64 0, .int .i64 4, .float .f64 0, .slice none 0 0, .string ⟨#[105, 116, 101, 114, 97, 116, 111, 114]⟩, .slice (some ⟨w4.heap.size, 0, none⟩) 1 1, .slice none 0 0, .slice none 0 0, .slice none 0 0, .slice none 0 0] 30)
          have hG := (hb2_.block _ (blk_lt hG0)).trans hG0
          rw [hs1] at hDt
          have hbD := bl2 hb1 hb2_
          clear hG0 hb1 hb2_ hs1
          replace d0 := mvc hbD d0
          replace d1 := mvc hbD d1
          replace d2 := mvc hbD d2
          replace d3 := mvc hbD d3
          replace d4 := mvc hbD d4
          replace d5 := mvc hbD d5
          replace d6 := mvc hbD d6
          replace d7 := mvc hbD d7
          replace d8 := mvc hbD d8
          replace d9 := mvc hbD d9
          replace d10 := mvc hbD d10
          replace d11 := mvc hbD d11
          replace d12 := mvc hbD d12
          generalize (w4.alloc (.cells #[.int .i64 8, .int .i64 0, .int .i64 0, .int .i64 0, .int .i64 0, .float .f64 0, .slice none 0 0, .string ⟨#[]⟩, .slice none 0 0, .slice none 0 0, .slice none 0 0, .slice none 0 0, .slice none 0 0] 30)).alloc (.cells #[.int .i64 16, .int .i64 0, .int .i64 0, .int .i64 0, .int .i64 4, .float .f64 0, .slice none 0 0, .string ⟨#[105, 116, 101, 114, 97, 116, 111, 114]⟩, .slice (some ⟨w4.heap.size, 0, none⟩) 1 1, .slice none 0 0, .slice none 0 0, .slice none 0 0, .slice none 0 0] 30) = wd at hDt hG hbD d0 d1 d2 d3 d4 d5 d6 d7 d8 d9 d10 d11 d12 ⊢
          have c0 : wd.cell? ⟨w4.heap.size + 1, 0, none⟩ = some (.int .i64 16) := blk_cell hDt 0
          have c1 : wd.cell? ⟨w4.heap.size + 1, 1, none⟩ = some (.int .i64 0) := blk_cell hDt 1
          have c2 : wd.cell? ⟨w4.heap.size + 1, 2, none⟩ = some (.int .i64 0) := blk_cell hDt 2
          have c3 : wd.cell? ⟨w4.heap.size + 1, 3, none⟩ = some (.int .i64 0) := blk_cell hDt 3
          have c4 : wd.cell? ⟨w4.heap.size + 1, 4, none⟩ = some (.int .i64 4) := blk_cell hDt 4
          have c5 : wd.cell? ⟨w4.heap.size + 1, 5, none⟩ = some (.float .f64 0) := blk_cell hDt 5
          have c6 : wd.cell? ⟨w4.heap.size + 1, 6, none⟩ = some (.slice none 0 0) := blk_cell hDt 6
          have c7 : wd.cell? ⟨w4.heap.size + 1, 7, none⟩ = some (.string ⟨#[105, 116, 101, 114, 97, 116, 111, 114]⟩) := blk_cell hDt 7
          have c8 : wd.cell? ⟨w4.heap.size + 1, 8, none⟩ = some (.slice (some ⟨w4.heap.size, 0, none⟩) 1 1) := blk_cell hDt 8
          have c9 : wd.cell? ⟨w4.heap.size + 1, 9, none⟩ = some (.slice none 0 0) := blk_cell hDt 9
          have c10 : wd.cell? ⟨w4.heap.size + 1, 10, none⟩ = some (.slice none 0 0) := blk_cell hDt 10
          have c11 : wd.cell? ⟨w4.heap.size + 1, 11, none⟩ = some (.slice none 0 0) := blk_cell hDt 11
          have c12 : wd.cell? ⟨w4.heap.size + 1, 12, none⟩ = some (.slice none 0 0) := blk_cell hDt 12
          have H5 := Lib.hid (⟨hG, bl2 H4.out hbD⟩ : _ ∧ _)
          clear hG hDt hbD
          go_wp2_with (fail)
          refine (implSymbol n x W.heap.size W _ EX.out (H5.out.2) (Nat.le_refl _)).mono ?_
          rintro e w6 ⟨b, rfl, hb, hbel⟩
          obtain rfl : b = false := by
            cases b with
            | false => rfl
            | true => exact absurd (hb.1 rfl) (fun h => by have := HC.out; have := h.1; omega)
          replace d0 := mvc hbel d0
          replace d1 := mvc hbel d1
          replace d2 := mvc hbel d2
          replace d3 := mvc hbel d3
          replace d4 := mvc hbel d4
          replace d5 := mvc hbel d5
          replace d6 := mvc hbel d6
          replace d7 := mvc hbel d7
          replace d8 := mvc hbel d8
          replace d9 := mvc hbel d9
          replace d10 := mvc hbel d10
          replace d11 := mvc hbel d11
          replace d12 := mvc hbel d12
          replace c0 := mvc hbel c0
          replace c1 := mvc hbel c1
          replace c2 := mvc hbel c2
          replace c3 := mvc hbel c3
          replace c4 := mvc hbel c4
          replace c5 := mvc hbel c5
          replace c6 := mvc hbel c6
          replace c7 := mvc hbel c7
          replace c8 := mvc hbel c8
          replace c9 := mvc hbel c9
          replace c10 := mvc hbel c10
          replace c11 := mvc hbel c11
          replace c12 := mvc hbel c12
          have H6 := Lib.hid (⟨bl2 (H5.out.2) hbel, bl2 (Below.refl wd.heap.size wd) hbel⟩ : _ ∧ _)
          clear hb hbel
          clear d1 d2 d5 d6 d7 d8 d9 d10 d11 d12
          go_wp2_with (fail)
          refine (HDT.out wd _ w4.heap.size H5.out.1 (H6.out.2)).mono ?_
          rintro e w9 ⟨b, rfl, rfl, hbel⟩
          have H9 := Lib.hid (bl2 (H6.out.1) hbel)
          clear hbel c0 c1 c2 c3 c4 c5 c6 c7 c8 c9 c10 c11 c12
          go_wp2_with (fail)
          go_ret
          exact ⟨rfl, H9.out⟩
        · have HZ := Lib.hid hz
          have ez : (bits .and .i64 x.flags 4 != 0) = true := bne_iff_ne.mpr hz
          clear hz
          go_wp2_with (fail)
          refine (lawsLeaf 8 0 _).mono ?_
          rintro e w4 ⟨rfl, hbel⟩
          replace d0 := mvc hbel d0
          replace d1 := mvc hbel d1
          replace d2 := mvc hbel d2
          replace d3 := mvc hbel d3
          replace d4 := mvc hbel d4
          replace d5 := mvc hbel d5
          replace d6 := mvc hbel d6
          replace d7 := mvc hbel d7
          replace d8 := mvc hbel d8
          replace d9 := mvc hbel d9
          replace d10 := mvc hbel d10
          replace d11 := mvc hbel d11
          replace d12 := mvc hbel d12
          have H4 := Lib.hid (bl2 H3.out.2 hbel)
          clear hbel
          go_upto_region 7 with (fail)
          have hG0 := heap_alloc_new w4 (.cells #[.int .i64 8, .int .i64 0, .int .i64 0, .int .i64 0, .int .i64 0, .float .f64 0, .slice none 0 0, .string ⟨#[]⟩, .slice none 0 0, .slice none 0 0, .slice none 0 0, .slice none 0 0, .slice none 0 0] 30)
          have hb1 := (Below.refl w4.heap.size w4).alloc (Nat.le_refl _) (.cells #[.int .i64 8, .int .i64 0, .int .i64 0, .int .i64 0, .int .i64 0, .float .f64 0, .slice none 0 0, .string ⟨#[]⟩, .slice none 0 0, .slice none 0 0, .slice none 0 0, .slice none 0 0, .slice none 0 0] 30)
          have hs1 : (w4.alloc (.cells #[.int .i64 8, .int .i64 0, .int .i64 0, .int .i64 0, .int .i64 0, .float .f64 0, .slice none 0 0, .string ⟨#[]⟩, .slice none 0 0, .slice none 0 0, .slice none 0 0, .slice none 0 0, .slice none 0 0] 30)).heap.size = w4.heap.size + 1 := by simp
          have hDt := heap_alloc_new (w4.alloc (.cells #[.int .i64 8, .int .i64 0, .int .i64 0, .int .i64 0, .int .i64 0, .float .f64 0, .slice none 0 0, .string ⟨#[]⟩, .slice none 0 0, .slice none 0 0, .slice none 0 0, .slice none 0 0, .slice none 0 0] 30)) (.cells #[.int .i64 16, .int .i64 0, .int .i64 0, .int .i64 0, .int .i64 4, .float .f64 0, .slice none 0 0, .string ⟨#[105, 116, 101, 114, 97, 116, 111, 114]⟩, .slice (some ⟨w4.heap.size, 0, none⟩) 1 1, .slice none 0 0, .slice none 0 0, .slice none 0 0, .slice none 0 0] 30)
          have hb2_ := (Below.refl (w4.alloc (.cells #[.int .i64 8, .int .i64 0, .int .i64 0, .int .i64 0, .int .i64 0, .float .f64 0, .slice none 0 0, .string ⟨#[]⟩, .slice none 0 0, .slice none 0 0, .slice none 0 0, .slice none 0 0, .slice none 0 0] 30)).heap.size (w4.alloc (.cells #[.int .i64 8, .int .i64 0, .int .i64 0, .int .i64 0, .int .i64 0, .float .f64 0, .slice none 0 0, .string ⟨#[]⟩, .slice none 0 0, .slice none 0 0, .slice none 0 0, .slice none 0 0, .slice none 0 0] 30))).alloc (Nat.le_refl _) (.cells #[.int .i64 16, .int .i64 0, .int .i64 0, .int .i64 0, .int .i64 4, .float .f64 0, .slice none 0 0, .string ⟨#[105, 116, 101, 114, 97, 116, 111, 114]⟩, .slice (some ⟨w4.heap.size, 0, none⟩) 1 1, .slice none 0 0, .slice none 0 0, .slice none 0 0, .slice none 0 0] 30)
          have hG := (hb2_.block _ (blk_lt hG0)).trans hG0
          rw [hs1] at hDt
          have hbD := bl2 hb1 hb2_
          clear hG0 hb1 hb2_ hs1
          replace d0 := mvc hbD d0
          replace d1 := mvc hbD d1
          replace d2 := mvc hbD d2
          replace d3 := mvc hbD d3
          replace d4 := mvc hbD d4
          replace d5 := mvc hbD d5
          replace d6 := mvc hbD d6
          replace d7 := mvc hbD d7
          replace d8 := mvc hbD d8
          replace d9 := mvc hbD d9
          replace d10 := mvc hbD d10
          replace d11 := mvc hbD d11
          replace d12 := mvc hbD d12
          generalize (w4.alloc (.cells #[.int .i64 8, .int .i64 0, .int .i64 0, .int .i64 0, .int .i64 0, .float .f64 0, .slice none 0 0, .string ⟨#[]⟩, .slice none 0 0, .slice none 0 0, .slice none 0 0, .slice none 0 0, .slice none 0 0] 30)).alloc (.cells #[.int .i64 16, .int .i64 0, .int .i64 0, .int .i64 0, .int .i64 4, .float .f64 0, .slice none 0 0, .string ⟨#[105, 116, 101, 114, 97, 116, 111, 114]⟩, .slice (some ⟨w4.heap.size, 0, none⟩) 1 1, .slice none 0 0, .slice none 0 0, .slice none 0 0, .slice none 0 0] 30) = wd at hDt hG hbD d0 d1 d2 d3 d4 d5 d6 d7 d8 d9 d10 d11 d12 ⊢
          have c0 : wd.cell? ⟨w4.heap.size + 1, 0, none⟩ = some (.int .i64 16) := blk_cell hDt 0
          have c1 : wd.cell? ⟨w4.heap.size + 1, 1, none⟩ = some (.int .i64 0) := blk_cell hDt 1
          have c2 : wd.cell? ⟨w4.heap.size + 1, 2, none⟩ = some (.int .i64 0) := blk_cell hDt 2
          have c3 : wd.cell? ⟨w4.heap.size + 1, 3, none⟩ = some (.int .i64 0) := blk_cell hDt 3
          have c4 : wd.cell? ⟨w4.heap.size + 1, 4, none⟩ = some (.int .i64 4) := blk_cell hDt 4
          have c5 : wd.cell? ⟨w4.heap.size + 1, 5, none⟩ = some (.float .f64 0) := blk_cell hDt 5
          have c6 : wd.cell? ⟨w4.heap.size + 1, 6, none⟩ = some (.slice none 0 0) := blk_cell hDt 6
          have c7 : wd.cell? ⟨w4.heap.size + 1, 7, none⟩ = some (.string ⟨#[105, 116, 101, 114, 97, 116, 111, 114]⟩) := blk_cell hDt 7
          have c8 : wd.cell? ⟨w4.heap.size + 1, 8, none⟩ = some (.slice (some ⟨w4.heap.size, 0, none⟩) 1 1) := blk_cell hDt 8
          have c9 : wd.cell? ⟨w4.heap.size + 1, 9, none⟩ = some (.slice none 0 0) := blk_cell hDt 9
          have c10 : wd.cell? ⟨w4.heap.size + 1, 10, none⟩ = some (.slice none 0 0) := blk_cell hDt 10
          have c11 : wd.cell? ⟨w4.heap.size + 1, 11, none⟩ = some (.slice none 0 0) := blk_cell hDt 11
          have c12 : wd.cell? ⟨w4.heap.size + 1, 12, none⟩ = some (.slice none 0 0) := blk_cell hDt 12
          have H5 := Lib.hid (⟨hG, bl2 H4.out hbD⟩ : _ ∧ _)
          clear hG hDt hbD
          go_wp2_with (fail)
          refine (implSymbol n x W.heap.size W _ EX.out (H5.out.2) (Nat.le_refl _)).mono ?_
          rintro e w6 ⟨b, rfl, hb, hbel⟩
          obtain rfl : b = false := by
            cases b with
            | false => rfl
            | true => exact absurd (hb.1 rfl) (fun h => by have := HC.out; have := h.1; omega)
          replace d0 := mvc hbel d0
          replace d1 := mvc hbel d1
          replace d2 := mvc hbel d2
          replace d3 := mvc hbel d3
          replace d4 := mvc hbel d4
          replace d5 := mvc hbel d5
          replace d6 := mvc hbel d6
          replace d7 := mvc hbel d7
          replace d8 := mvc hbel d8
          replace d9 := mvc hbel d9
          replace d10 := mvc hbel d10
          replace d11 := mvc hbel d11
          replace d12 := mvc hbel d12
          replace c0 := mvc hbel c0
          replace c1 := mvc hbel c1
          replace c2 := mvc hbel c2
          replace c3 := mvc hbel c3
          replace c4 := mvc hbel c4
          replace c5 := mvc hbel c5
          replace c6 := mvc hbel c6
          replace c7 := mvc hbel c7
          replace c8 := mvc hbel c8
          replace c9 := mvc hbel c9
          replace c10 := mvc hbel c10
          replace c11 := mvc hbel c11
          replace c12 := mvc hbel c12
          have H6 := Lib.hid (⟨bl2 (H5.out.2) hbel, bl2 (Below.refl wd.heap.size wd) hbel⟩ : _ ∧ _)
          clear hb hbel
          clear d1 d2 d5 d6 d7 d8 d9 d10 d11 d12
          go_wp2_with (fail)
          refine (HDT.out wd _ w4.heap.size H5.out.1 (H6.out.2)).mono ?_
          rintro e w9 ⟨b, rfl, rfl, hbel⟩
          have H9 := Lib.hid (bl2 (H6.out.1) hbel)
          clear hbel c0 c1 c2 c3 c4 c5 c6 c7 c8 c9 c10 c11 c12
          go_wp2_with (fail)
          go_ret
          exact ⟨rfl, H9.out⟩
      · have HC := Lib.hid hc
        have e16 : (x.kind == 16) = false := beq_eq_false_iff_ne.mpr (by omega)
        have e17 : (x.kind == 17) = false := beq_eq_false_iff_ne.mpr (by omega)
        have e18 : (x.kind == 18) = false := beq_eq_false_iff_ne.mpr (by omega)
        clear hc
        by_cases hz : bits .and .i64 x.flags 4 = 0
        · have HZ := Lib.hid hz
          have ez : (bits .and .i64 x.flags 4 != 0) = false := bne_eq_false_iff_eq.mpr hz
          clear hz
          go_wp2_with (fail)
          refine (lawsLeaf 8 0 _).mono ?_
          rintro e w4 ⟨rfl, hbel⟩
          replace d0 := mvc hbel d0
          replace d1 := mvc hbel d1
          replace d2 := mvc hbel d2
          replace d3 := mvc hbel d3
          replace d4 := mvc hbel d4
          replace d5 := mvc hbel d5
          replace d6 := mvc hbel d6
          replace d7 := mvc hbel d7
          replace d8 := mvc hbel d8
          replace d9 := mvc hbel d9
          replace d10 := mvc hbel d10
          replace d11 := mvc hbel d11
          replace d12 := mvc hbel d12
          have H4 := Lib.hid (bl2 H3.out.2 hbel)
          clear hbel
          go_upto_region 7 with (fail)
          have hG0 := heap_alloc_new w4 (.cells #[.int .i64 8, .int .i64 0, .int .i64 0, .int .i64 0, .int .i64 0, .float .f64 0, .slice none 0 0, .string ⟨#[]⟩, .slice none 0 0, .slice none 0 0, .slice none 0 0, .slice none 0 0, .slice none 0 0] 30)
          have hb1 := (Below.refl w4.heap.size w4).alloc (Nat.le_refl _) (.cells #[.int .i64 8, .int .i64 0, .int .i64 0, .int .i64 0, .int .i64 0, .float .f64 0, .slice none 0 0, .string ⟨#[]⟩, .slice none 0 0, .slice none 0 0, .slice none 0 0, .slice none 0 0, .slice none 0 0] 30)
          have hs1 : (w4.alloc (.cells #[.int .i64 8, .int .i64 0, .int .i64 0, .int .i64 0, .int .i64 0, .float .f64 0, .slice none 0 0, .string ⟨#[]⟩, .slice none 0 0, .slice none 0 0, .slice none 0 0, .slice none 0 0, .slice none 0 0] 30)).heap.size = w4.heap.size + 1 := by simp
          have hDt := heap_alloc_new (w4.alloc (.cells #[.int .i64 8, .int .i64 0, .int .i64 0, .int .i64 0, .int .i64 0, .float .f64 0, .slice none 0 0, .string ⟨#[]⟩, .slice none 0 0, .slice none 0 0, .slice none 0 0, .slice none 0 0, .slice none 0 0] 30)) (.cells #[.int .i64 16, .int .i64 0, .int .i64 0, .int .i64 0, .int .i64 4, .float .f64 0, .slice none 0 0, .string ⟨#[105, 116, 101, 114, 97, 116, 111, 114]⟩, .slice (some ⟨w4.heap.size, 0, none⟩) 1 1, .slice none 0 0, .slice none 0 0, .slice none 0 0, .slice none 0 0] 30)
          have hb2_ := (Below.refl (w4.alloc (.cells #[.int .i64 8, .int .i64 0, .int .i64 0, .int .i64 0, .int .i64 0, .float .f64 0, .slice none 0 0, .string ⟨#[]⟩, .slice none 0 0, .slice none 0 0, .slice none 0 0, .slice none 0 0, .slice none 0 0] 30)).heap.size (w4.alloc (.cells #[.int .i64 8, .int .i64 0, .int .i64 0, .int .i64 0, .int .i64 0, .float .f64 0, .slice none 0 0, .string ⟨#[]⟩, .slice none 0 0, .slice none 0 0, .slice none 0 0, .slice none 0 0, .slice none 0 0] 30))).alloc (Nat.le_refl _) (.cells #[.int .i64 16, .int .i64 0, .int .i64 0, .int .i64 0, .int .i64 4, .float .f64 0, .slice none 0 0, .string ⟨#[105, 116, 101, 114, 97, 116, 111, 114]⟩, .slice (some ⟨w4.heap.size, 0, none⟩) 1 1, .slice none 0 0, .slice none 0 0, .slice none 0 0, .slice none 0 0] 30)
          have hG := (hb2_.block _ (blk_lt hG0)).trans hG0
          rw [hs1] at hDt
          have hbD := bl2 hb1 hb2_
          clear hG0 hb1 hb2_ hs1
          replace d0 := mvc hbD d0
          replace d1 := mvc hbD d1
          replace d2 := mvc hbD d2
          replace d3 := mvc hbD d3
          replace d4 := mvc hbD d4
          replace d5 := mvc hbD d5
          replace d6 := mvc hbD d6
          replace d7 := mvc hbD d7
          replace d8 := mvc hbD d8
          replace d9 := mvc hbD d9
          replace d10 := mvc hbD d10
          replace d11 := mvc hbD d11
          replace d12 := mvc hbD d12
          generalize (w4.alloc (.cells #[.int .i64 8, .int .i64 0, .int .i64 0, .int .i64 0, .int .i64 0, .float .f64 0, .slice none 0 0, .string ⟨#[]⟩, .slice none 0 0, .slice none 0 0, .slice none 0 0, .slice none 0 0, .slice none 0 0] 30)).alloc (.cells #[.int .i64 16, .int .i64 0, .int .i64 0, .int .i64 0, .int .i64 4, .float .f64 0, .slice none 0 0, .string ⟨#[105, 116, 101, 114, 97, 116, 111, 114]⟩, .slice (some ⟨w4.heap.size, 0, none⟩) 1 1, .slice none 0 0, .slice none 0 0, .slice none 0 0, .slice none 0 0] 30) = wd at hDt hG hbD d0 d1 d2 d3 d4 d5 d6 d7 d8 d9 d10 d11 d12 ⊢
          have c0 : wd.cell? ⟨w4.heap.size + 1, 0, none⟩ = some (.int .i64 16) := blk_cell hDt 0
          have c1 : wd.cell? ⟨w4.heap.size + 1, 1, none⟩ = some (.int .i64 0) := blk_cell hDt 1
          have c2 : wd.cell? ⟨w4.heap.size + 1, 2, none⟩ = some (.int .i64 0) := blk_cell hDt 2
          have c3 : wd.cell? ⟨w4.heap.size + 1, 3, none⟩ = some (.int .i64 0) := blk_cell hDt 3
          have c4 : wd.cell? ⟨w4.heap.size + 1, 4, none⟩ = some (.int .i64 4) := blk_cell hDt 4
          have c5 : wd.cell? ⟨w4.heap.size + 1, 5, none⟩ = some (.float .f64 0) := blk_cell hDt 5
          have c6 : wd.cell? ⟨w4.heap.size + 1, 6, none⟩ = some (.slice none 0 0) := blk_cell hDt 6
          have c7 : wd.cell? ⟨w4.heap.size + 1, 7, none⟩ = some (.string ⟨#[105, 116, 101, 114, 97, 116, 111, 114]⟩) := blk_cell hDt 7
          have c8 : wd.cell? ⟨w4.heap.size + 1, 8, none⟩ = some (.slice (some ⟨w4.heap.size, 0, none⟩) 1 1) := blk_cell hDt 8
          have c9 : wd.cell? ⟨w4.heap.size + 1, 9, none⟩ = some (.slice none 0 0) := blk_cell hDt 9
          have c10 : wd.cell? ⟨w4.heap.size + 1, 10, none⟩ = some (.slice none 0 0) := blk_cell hDt 10
          have c11 : wd.cell? ⟨w4.heap.size + 1, 11, none⟩ = some (.slice none 0 0) := blk_cell hDt 11
          have c12 : wd.cell? ⟨w4.heap.size + 1, 12, none⟩ = some (.slice none 0 0) := blk_cell hDt 12
          have H5 := Lib.hid (⟨hG, bl2 H4.out hbD⟩ : _ ∧ _)
          clear hG hDt hbD
          go_wp2_with (fail)
          refine (implSymbol n x W.heap.size W _ EX.out (H5.out.2) (Nat.le_refl _)).mono ?_
          rintro e w6 ⟨b, rfl, hb, hbel⟩
          obtain rfl : b = false := by
            cases b with
            | false => rfl
            | true => exact absurd (hb.1 rfl) (fun h => by have := HC.out; have := h.1; omega)
          replace d0 := mvc hbel d0
          replace d1 := mvc hbel d1
          replace d2 := mvc hbel d2
          replace d3 := mvc hbel d3
          replace d4 := mvc hbel d4
          replace d5 := mvc hbel d5
          replace d6 := mvc hbel d6
          replace d7 := mvc hbel d7
          replace d8 := mvc hbel d8
          replace d9 := mvc hbel d9
          replace d10 := mvc hbel d10
          replace d11 := mvc hbel d11
          replace d12 := mvc hbel d12
          replace c0 := mvc hbel c0
          replace c1 := mvc hbel c1
          replace c2 := mvc hbel c2
          replace c3 := mvc hbel c3
          replace c4 := mvc hbel c4
          replace c5 := mvc hbel c5
          replace c6 := mvc hbel c6
          replace c7 := mvc hbel c7
          replace c8 := mvc hbel c8
          replace c9 := mvc hbel c9
          replace c10 := mvc hbel c10
          replace c11 := mvc hbel c11
          replace c12 := mvc hbel c12
          have H6 := Lib.hid (⟨bl2 (H5.out.2) hbel, bl2 (Below.refl wd.heap.size wd) hbel⟩ : _ ∧ _)
          clear hb hbel
          clear d1 d2 d5 d6 d7 d8 d9 d10 d11 d12
          go_wp2_with (fail)
          refine (HDT.out wd _ w4.heap.size H5.out.1 (H6.out.2)).mono ?_
          rintro e w9 ⟨b, rfl, rfl, hbel⟩
          have H9 := Lib.hid (bl2 (H6.out.1) hbel)
          clear hbel c0 c1 c2 c3 c4 c5 c6 c7 c8 c9 c10 c11 c12
          go_wp2_with (fail)
          go_ret
          exact ⟨rfl, H9.out⟩
        · have HZ := Lib.hid hz
          have ez : (bits .and .i64 x.flags 4 != 0) = true := bne_iff_ne.mpr hz
          clear hz
          go_wp2_with (fail)
          refine (lawsLeaf 8 0 _).mono ?_
          rintro e w4 ⟨rfl, hbel⟩
          replace d0 := mvc hbel d0
          replace d1 := mvc hbel d1
          replace d2 := mvc hbel d2
          replace d3 := mvc hbel d3
          replace d4 := mvc hbel d4
          replace d5 := mvc hbel d5
          replace d6 := mvc hbel d6
          replace d7 := mvc hbel d7
          replace d8 := mvc hbel d8
          replace d9 := mvc hbel d9
          replace d10 := mvc hbel d10
          replace d11 := mvc hbel d11
          replace d12 := mvc hbel d12
          have H4 := Lib.hid (bl2 H3.out.2 hbel)
          clear hbel
          go_upto_region 7 with (fail)
          have hG0 := heap_alloc_new w4 (.cells #[.int .i64 8, .int .i64 0, .int .i64 0, .int .i64 0, .int .i64 0, .float .f64 0, .slice none 0 0, .string ⟨#[]⟩, .slice none 0 0, .slice none 0 0, .slice none 0 0, .slice none 0 0, .slice none 0 0] 30)
          have hb1 := (Below.refl w4.heap.size w4).alloc (Nat.le_refl _) (.cells #[.int .i64 8, .int .i64 0, .int .i64 0, .int .i64 0, .int .i64 0, .float .f64 0, .slice none 0 0, .string ⟨#[]⟩, .slice none 0 0, .slice none 0 0, .slice none 0 0, .slice none 0 0, .slice none 0 0] 30)
          have hs1 : (w4.alloc (.cells #[.int .i64 8, .int .i64 0, .int .i64 0, .int .i64 0, .int .i64 0, .float .f64 0, .slice none 0 0, .string ⟨#[]⟩, .slice none 0 0, .slice none 0 0, .slice none 0 0, .slice none 0 0, .slice none 0 0] 30)).heap.size = w4.heap.size + 1 := by simp
          have hDt := heap_alloc_new (w4.alloc (.cells #[.int .i64 8, .int .i64 0, .int .i64 0, .int .i64 0, .int .i64 0, .float .f64 0, .slice none 0 0, .string ⟨#[]⟩, .slice none 0 0, .slice none 0 0, .slice none 0 0, .slice none 0 0, .slice none 0 0] 30)) (.cells #[.int .i64 16, .int .i64 0, .int .i64 0, .int .i64 0, .int .i64 4, .float .f64 0, .slice none 0 0, .string ⟨#[105, 116, 101, 114, 97, 116, 111, 114]⟩, .slice (some ⟨w4.heap.size, 0, none⟩) 1 1, .slice none 0 0, .slice none 0 0, .slice none 0 0, .slice none 0 0] 30)
          have hb2_ := (Below.refl (w4.alloc (.cells #[.int .i64 8, .int .i64 0, .int .i64 0, .int .i64 0, .int .i64 0, .float .f64 0, .slice none 0 0, .string ⟨#[]⟩, .slice none 0 0, .slice none 0 0, .slice none 0 0, .slice none 0 0, .slice none 0 0] 30)).heap.size (w4.alloc (.cells #[.int .i64 8, .int .i64 0, .int .i64 0, .int .i64 0, .int .i64 0, .float .f64 0, .slice none 0 0, .string ⟨#[]⟩, .slice none 0 0, .slice none 0 0, .slice none 0 0, .slice none 0 0, .slice none 0 0] 30))).alloc (Nat.le_refl _) (.cells #[.int .i64 16, .int .i64 0, .int .i64 0, .int .i64 0, .int .i64 4, .float .f64 0, .slice none 0 0, .string ⟨#[105, 116, 101, 114, 97, 116, 111, 114]⟩, .slice (some ⟨w4.heap.size, 0, none⟩) 1 1, .slice none 0 0, .slice none 0 0, .slice none 0 0, .slice none 0 0] 30)
          have hG := (hb2_.block _ (blk_lt hG0)).trans hG0
          rw [hs1] at hDt
          have hbD := bl2 hb1 hb2_
          clear hG0 hb1 hb2_ hs1
          replace d0 := mvc hbD d0
          replace d1 := mvc hbD d1
          replace d2 := mvc hbD d2
          replace d3 := mvc hbD d3
          replace d4 := mvc hbD d4
          replace d5 := mvc hbD d5
          replace d6 := mvc hbD d6
          replace d7 := mvc hbD d7
          replace d8 := mvc hbD d8
          replace d9 := mvc hbD d9
          replace d10 := mvc hbD d10
          replace d11 := mvc hbD d11
          replace d12 := mvc hbD d12
          generalize (w4.alloc (.cells #[.int .i64 8, .int .i64 0, .int .i64 0, .int .i64 0, .int .i64 0, .float .f64 0, .slice none 0 0, .string ⟨#[]⟩, .slice none 0 0, .slice none 0 0, .slice none 0 0, .slice none 0 0, .slice none 0 0] 30)).alloc (.cells #[.int .i64 16, .int .i64 0, .int .i64 0, .int .i64 0, .int .i64 4, .float .f64 0, .slice none 0 0, .string ⟨#[105, 116, 101, 114, 97, 116, 111, 114]⟩, .slice (some ⟨w4.heap.size, 0, none⟩) 1 1, .slice none 0 0, .slice none 0 0, .slice none 0 0, .slice none 0 0] 30) = wd at hDt hG hbD d0 d1 d2 d3 d4 d5 d6 d7 d8 d9 d10 d11 d12 ⊢
          have c0 : wd.cell? ⟨w4.heap.size + 1, 0, none⟩ = some (.int .i64 16) := blk_cell hDt 0
          have c1 : wd.cell? ⟨w4.heap.size + 1, 1, none⟩ = some (.int .i64 0) := blk_cell hDt 1
          have c2 : wd.cell? ⟨w4.heap.size + 1, 2, none⟩ = some (.int .i64 0) := blk_cell hDt 2
          have c3 : wd.cell? ⟨w4.heap.size + 1, 3, none⟩ = some (.int .i64 0) := blk_cell hDt 3
          have c4 : wd.cell? ⟨w4.heap.size + 1, 4, none⟩ = some (.int .i64 4) := blk_cell hDt 4
          have c5 : wd.cell? ⟨w4.heap.size + 1, 5, none⟩ = some (.float .f64 0) := blk_cell hDt 5
          have c6 : wd.cell? ⟨w4.heap.size + 1, 6, none⟩ = some (.slice none 0 0) := blk_cell hDt 6
          have c7 : wd.cell? ⟨w4.heap.size + 1, 7, none⟩ = some (.string ⟨#[105, 116, 101, 114, 97, 116, 111, 114]⟩) := blk_cell hDt 7
          have c8 : wd.cell? ⟨w4.heap.size + 1, 8, none⟩ = some (.slice (some ⟨w4.heap.size, 0, none⟩) 1 1) := blk_cell hDt 8
          have c9 : wd.cell? ⟨w4.heap.size + 1, 9, none⟩ = some (.slice none 0 0) := blk_cell hDt 9
          have c10 : wd.cell? ⟨w4.heap.size + 1, 10, none⟩ = some (.slice none 0 0) := blk_cell hDt 10
          have c11 : wd.cell? ⟨w4.heap.size + 1, 11, none⟩ = some (.slice none 0 0) := blk_cell hDt 11
          have c12 : wd.cell? ⟨w4.heap.size + 1, 12, none⟩ = some (.slice none 0 0) := blk_cell hDt 12
          have H5 := Lib.hid (⟨hG, bl2 H4.out hbD⟩ : _ ∧ _)
          clear hG hDt hbD
          go_wp2_with (fail)
          refine (implSymbol n x W.heap.size W _ EX.out (H5.out.2) (Nat.le_refl _)).mono ?_
          rintro e w6 ⟨b, rfl, hb, hbel⟩
          obtain rfl : b = false := by
            cases b with
            | false => rfl
            | true => exact absurd (hb.1 rfl) (fun h => by have := HC.out; have := h.1; omega)
          replace d0 := mvc hbel d0
          replace d1 := mvc hbel d1
          replace d2 := mvc hbel d2
          replace d3 := mvc hbel d3
          replace d4 := mvc hbel d4
          replace d5 := mvc hbel d5
          replace d6 := mvc hbel d6
          replace d7 := mvc hbel d7
          replace d8 := mvc hbel d8
          replace d9 := mvc hbel d9
          replace d10 := mvc hbel d10
          replace d11 := mvc hbel d11
          replace d12 := mvc hbel d12
          replace c0 := mvc hbel c0
          replace c1 := mvc hbel c1
          replace c2 := mvc hbel c2
          replace c3 := mvc hbel c3
          replace c4 := mvc hbel c4
          replace c5 := mvc hbel c5
          replace c6 := mvc hbel c6
          replace c7 := mvc hbel c7
          replace c8 := mvc hbel c8
          replace c9 := mvc hbel c9
          replace c10 := mvc hbel c10
          replace c11 := mvc hbel c11
          replace c12 := mvc hbel c12
          have H6 := Lib.hid (⟨bl2 (H5.out.2) hbel, bl2 (Below.refl wd.heap.size wd) hbel⟩ : _ ∧ _)
          clear hb hbel
          clear d1 d2 d5 d6 d7 d8 d9 d10 d11 d12
          go_wp2_with (fail)
          refine (HDT.out wd _ w4.heap.size H5.out.1 (H6.out.2)).mono ?_
          rintro e w9 ⟨b, rfl, rfl, hbel⟩
          have H9 := Lib.hid (bl2 (H6.out.1) hbel)
          clear hbel c0 c1 c2 c3 c4 c5 c6 c7 c8 c9 c10 c11 c12
          go_wp2_with (fail)
          go_ret
          exact ⟨rfl, H9.out⟩
end Go.Proofs.YtacokmkbikdmmaaGreatDoor.trees
