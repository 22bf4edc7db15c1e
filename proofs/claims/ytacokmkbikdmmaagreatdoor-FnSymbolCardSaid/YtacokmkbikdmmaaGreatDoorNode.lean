/-
  impl.node: every valid expression becomes a node.
  Conditions: none.
-/
import Derived.Test.YtacokmkbikdmmaaGreatDoorWhole
import Derived.Test.YtacokmkbikdmmaaGreatDoorBranch
import Derived.Test.YtacokmkbikdmmaaGreatDoorLeaf
import Derived.Test.YtacokmkbikdmmaaGreatDoorFurther
import Derived.Test.YtacokmkbikdmmaaGreatDoorAccess
import Derived.Test.YtacokmkbikdmmaaGreatDoorWWords
namespace Go.Proofs.YtacokmkbikdmmaaGreatDoor.trees
open Go Go.RowKit
set_option linter.unusedVariables false
set_option linter.unusedSimpArgs false

attribute [local go_sem] run_store_float
theorem Top.set {w : World} {x : X} {p : Nd} (h : Top w x p) (R i : Nat) (hi : i < 2) (v : Value) : Top (w.setCell ⟨R, i, none⟩ v) x p := by
  have far : ∀ j u, 2 ≤ j → w.cell? ⟨p.2, j, none⟩ = some u → (w.setCell ⟨R, i, none⟩ v).cell? ⟨p.2, j, none⟩ = some u := fun j u hj hc => (World.cell?_setCell_other w ⟨R, i, none⟩ ⟨p.2, j, none⟩ v (by intro e; injection e with _ e2 _; omega)).trans hc
  exact ⟨fun e => ⟨(h.dot e).1, far _ _ (by omega) (h.dot e).2.1, far _ _ (by omega) (h.dot e).2.2⟩, fun e => ⟨(h.index e).1, far _ _ (by omega) (h.index e).2.1, far _ _ (by omega) (h.index e).2.2⟩, fun e => ⟨(h.call e).1, far _ _ (by omega) (h.call e).2⟩, h.other⟩
theorem size43 : (Tryz.prog.info? 43).map (·.size) = some 2 := by kernel_rfl
set_option maxHeartbeats 8000000 in
set_option maxRecDepth 100000 in
theorem node : ∀ n, NodeOK n := by
  intro n
  induction n with
  | zero => intro x N W W1 h; exact h.elim
  | succ n ih =>
    intro x N W W1 h h0 hN
    obtain ⟨hx, hs, hk, hp, hq⟩ := Ex_x.1 h
    have HX := Lib.hid (⟨h, h0, ih, hs, hk⟩ : _ ∧ _ ∧ _ ∧ _ ∧ _)
    have HK := Lib.hid hx
    clear h h0 ih hs hk hp hq hx
    go_enter Tryz.func17, Tryz.ntmps17
    go_upto_region 1 with (fail)
    have hD := heap_alloc_new W1 (.cells #[.int .i64 x.kind, .int .i64 x.op, .int .i64 x.ref, .int .i64 x.chain, .int .i64 x.flags, .float .f64 x.num, .slice x.sa x.sn x.sc, .string x.text, .slice x.ka x.kn x.kc, .slice x.pa x.pn x.pc, .slice x.qa x.qn x.qc, .slice x.fa x.fn x.fc, .slice x.ca x.cn x.cc] 30)
    have hDb := (Below.refl W1.heap.size W1).alloc (Nat.le_refl _) (.cells #[.int .i64 x.kind, .int .i64 x.op, .int .i64 x.ref, .int .i64 x.chain, .int .i64 x.flags, .float .f64 x.num, .slice x.sa x.sn x.sc, .string x.text, .slice x.ka x.kn x.kc, .slice x.pa x.pn x.pc, .slice x.qa x.qn x.qc, .slice x.fa x.fn x.fc, .slice x.ca x.cn x.cc] 30)
    have hDs : (W1.alloc (.cells #[.int .i64 x.kind, .int .i64 x.op, .int .i64 x.ref, .int .i64 x.chain, .int .i64 x.flags, .float .f64 x.num, .slice x.sa x.sn x.sc, .string x.text, .slice x.ka x.kn x.kc, .slice x.pa x.pn x.pc, .slice x.qa x.qn x.qc, .slice x.fa x.fn x.fc, .slice x.ca x.cn x.cc] 30)).heap.size = W1.heap.size + 1 := by simp
    generalize W1.alloc (.cells #[.int .i64 x.kind, .int .i64 x.op, .int .i64 x.ref, .int .i64 x.chain, .int .i64 x.flags, .float .f64 x.num, .slice x.sa x.sn x.sc, .string x.text, .slice x.ka x.kn x.kc, .slice x.pa x.pn x.pc, .slice x.qa x.qn x.qc, .slice x.fa x.fn x.fc, .slice x.ca x.cn x.cc] 30) = w1 at hD hDb hDs ⊢
    have d0 : w1.cell? ⟨W1.heap.size, 0, none⟩ = some (.int .i64 x.kind) := blk_cell hD 0
    have d1 : w1.cell? ⟨W1.heap.size, 1, none⟩ = some (.int .i64 x.op) := blk_cell hD 1
    have d2 : w1.cell? ⟨W1.heap.size, 2, none⟩ = some (.int .i64 x.ref) := blk_cell hD 2
    have d3 : w1.cell? ⟨W1.heap.size, 3, none⟩ = some (.int .i64 x.chain) := blk_cell hD 3
    have d4 : w1.cell? ⟨W1.heap.size, 4, none⟩ = some (.int .i64 x.flags) := blk_cell hD 4
    have d5 : w1.cell? ⟨W1.heap.size, 5, none⟩ = some (.float .f64 x.num) := blk_cell hD 5
    have d6 : w1.cell? ⟨W1.heap.size, 6, none⟩ = some (.slice x.sa x.sn x.sc) := blk_cell hD 6
    have d7 : w1.cell? ⟨W1.heap.size, 7, none⟩ = some (.string x.text) := blk_cell hD 7
    have d8 : w1.cell? ⟨W1.heap.size, 8, none⟩ = some (.slice x.ka x.kn x.kc) := blk_cell hD 8
    have d9 : w1.cell? ⟨W1.heap.size, 9, none⟩ = some (.slice x.pa x.pn x.pc) := blk_cell hD 9
    have d10 : w1.cell? ⟨W1.heap.size, 10, none⟩ = some (.slice x.qa x.qn x.qc) := blk_cell hD 10
    have d11 : w1.cell? ⟨W1.heap.size, 11, none⟩ = some (.slice x.fa x.fn x.fc) := blk_cell hD 11
    have d12 : w1.cell? ⟨W1.heap.size, 12, none⟩ = some (.slice x.ca x.cn x.cc) := blk_cell hD 12
    have HD := Lib.hid (⟨hD, hDb, hDs⟩ : _ ∧ _ ∧ _)
    clear hD hDb hDs
    generalize Value.agg #[.int .i64 x.kind, .int .i64 x.op, .int .i64 x.ref, .int .i64 x.chain, .int .i64 x.flags, .float .f64 x.num, .slice x.sa x.sn x.sc, .string x.text, .slice x.ka x.kn x.kc, .slice x.pa x.pn x.pc, .slice x.qa x.qn x.qc, .slice x.fa x.fn x.fc, .slice x.ca x.cn x.cc] = arg
    have hR := heap_alloc_new w1 (.cells #[.nilIface, .int .i32 0] 43)
    have hRb := (Below.refl w1.heap.size w1).alloc (Nat.le_refl _) (.cells #[.nilIface, .int .i32 0] 43)
    rw [HD.out.2.2] at hR
    replace d0 := (hRb.cell (World.block_lt_of_cell? _ _ d0)).trans d0
    replace d1 := (hRb.cell (World.block_lt_of_cell? _ _ d1)).trans d1
    replace d2 := (hRb.cell (World.block_lt_of_cell? _ _ d2)).trans d2
    replace d3 := (hRb.cell (World.block_lt_of_cell? _ _ d3)).trans d3
    replace d4 := (hRb.cell (World.block_lt_of_cell? _ _ d4)).trans d4
    replace d5 := (hRb.cell (World.block_lt_of_cell? _ _ d5)).trans d5
    replace d6 := (hRb.cell (World.block_lt_of_cell? _ _ d6)).trans d6
    replace d7 := (hRb.cell (World.block_lt_of_cell? _ _ d7)).trans d7
    replace d8 := (hRb.cell (World.block_lt_of_cell? _ _ d8)).trans d8
    replace d9 := (hRb.cell (World.block_lt_of_cell? _ _ d9)).trans d9
    replace d10 := (hRb.cell (World.block_lt_of_cell? _ _ d10)).trans d10
    replace d11 := (hRb.cell (World.block_lt_of_cell? _ _ d11)).trans d11
    replace d12 := (hRb.cell (World.block_lt_of_cell? _ _ d12)).trans d12
    generalize w1.alloc (.cells #[.nilIface, .int .i32 0] 43) = w2 at hR hRb d0 d1 d2 d3 d4 d5 d6 d7 d8 d9 d10 d11 d12 ⊢
    have H2 := Lib.hid (⟨hR, bl2 HD.out.2.1 hRb⟩ : _ ∧ _)
    clear hR hRb
    go_wp2_with (fail)
    refine (nodes n HX.out.2.2.1 x.ka x.kn x.kc N W _ HX.out.2.2.2.2 HK.out.1.kids (bl HX.out.2.1 hN H2.out.2) hN).mono ?_
    rintro e w3 ⟨v, ks, rfl, ho, hl, hb⟩
    obtain ⟨A, cap, rfl, hc, hm, hout⟩ := own_outs ho hl
    replace d0 := (hb.cell (World.block_lt_of_cell? _ _ d0)).trans d0
    replace d1 := (hb.cell (World.block_lt_of_cell? _ _ d1)).trans d1
    replace d2 := (hb.cell (World.block_lt_of_cell? _ _ d2)).trans d2
    replace d3 := (hb.cell (World.block_lt_of_cell? _ _ d3)).trans d3
    replace d4 := (hb.cell (World.block_lt_of_cell? _ _ d4)).trans d4
    replace d5 := (hb.cell (World.block_lt_of_cell? _ _ d5)).trans d5
    replace d6 := (hb.cell (World.block_lt_of_cell? _ _ d6)).trans d6
    replace d7 := (hb.cell (World.block_lt_of_cell? _ _ d7)).trans d7
    replace d8 := (hb.cell (World.block_lt_of_cell? _ _ d8)).trans d8
    replace d9 := (hb.cell (World.block_lt_of_cell? _ _ d9)).trans d9
    replace d10 := (hb.cell (World.block_lt_of_cell? _ _ d10)).trans d10
    replace d11 := (hb.cell (World.block_lt_of_cell? _ _ d11)).trans d11
    replace d12 := (hb.cell (World.block_lt_of_cell? _ _ d12)).trans d12
    have H3 := Lib.hid (⟨(hb.block _ (blk_lt H2.out.1)).trans H2.out.1, bl2 H2.out.2 hb⟩ : _ ∧ _)
    have HO3 := Lib.hid (⟨hl, hc, hm, hout⟩ : _ ∧ _ ∧ _ ∧ _)
    clear ho hl hc hm hout hb
    go_wp2_with (fail)
    refine (further x A x.kn cap _ HK.out.2.1).mono ?_
    rintro e w4 ⟨rfl, hb⟩
    replace d0 := (hb.cell (World.block_lt_of_cell? _ _ d0)).trans d0
    replace d1 := (hb.cell (World.block_lt_of_cell? _ _ d1)).trans d1
    replace d2 := (hb.cell (World.block_lt_of_cell? _ _ d2)).trans d2
    replace d3 := (hb.cell (World.block_lt_of_cell? _ _ d3)).trans d3
    replace d4 := (hb.cell (World.block_lt_of_cell? _ _ d4)).trans d4
    replace d5 := (hb.cell (World.block_lt_of_cell? _ _ d5)).trans d5
    replace d6 := (hb.cell (World.block_lt_of_cell? _ _ d6)).trans d6
    replace d7 := (hb.cell (World.block_lt_of_cell? _ _ d7)).trans d7
    replace d8 := (hb.cell (World.block_lt_of_cell? _ _ d8)).trans d8
    replace d9 := (hb.cell (World.block_lt_of_cell? _ _ d9)).trans d9
    replace d10 := (hb.cell (World.block_lt_of_cell? _ _ d10)).trans d10
    replace d11 := (hb.cell (World.block_lt_of_cell? _ _ d11)).trans d11
    replace d12 := (hb.cell (World.block_lt_of_cell? _ _ d12)).trans d12
    have H4 := Lib.hid (⟨(hb.block _ (blk_lt H3.out.1)).trans H3.out.1, bl2 H3.out.2 hb⟩ : _ ∧ _)
    have HO4 := Lib.hid (HO3.out.2.2.2.below hb)
    clear hb
    have hcls : (x.kind = 0 ∨ x.kind = 1 ∨ x.kind = 2 ∨ x.kind = 3 ∨ x.kind = 4 ∨ x.kind = 5 ∨ x.kind = 6 ∨ x.kind = 7 ∨ x.kind = 8 ∨ x.kind = 9 ∨ x.kind = 21 ∨ x.kind = 22 ∨ x.kind = 25 ∨ x.kind = 26) ∨ (x.kind = 10 ∨ x.kind = 13 ∨ x.kind = 14 ∨ x.kind = 15 ∨ x.kind = 23 ∨ x.kind = 24) ∨ (x.kind = 16 ∨ x.kind = 17 ∨ x.kind = 18 ∨ x.kind = 19) ∨ (x.kind = 11 ∨ x.kind = 12 ∨ x.kind = 20) := by
      have := HK.out.2.1.lo
      have := HK.out.2.1.hi
      omega
    rcases hcls with hcls | hcls | hcls | hcls
    · have HC := Lib.hid hcls
      clear hcls
      go_wp2_with (fail)
      refine (leaf x N W _ HK.out.2.1 HX.out.2.2.2.1 HK.out.1.str (bl HX.out.2.1 hN H4.out.2) hN).mono ?_
      rintro e w5 ⟨he, -, hb⟩
      obtain ⟨p, rfl, htop⟩ := he HC.out
      have HTOP := Lib.hid htop
      clear he htop
      replace d0 := (hb.cell (World.block_lt_of_cell? _ _ d0)).trans d0
      replace d1 := (hb.cell (World.block_lt_of_cell? _ _ d1)).trans d1
      replace d2 := (hb.cell (World.block_lt_of_cell? _ _ d2)).trans d2
      replace d3 := (hb.cell (World.block_lt_of_cell? _ _ d3)).trans d3
      replace d4 := (hb.cell (World.block_lt_of_cell? _ _ d4)).trans d4
      replace d5 := (hb.cell (World.block_lt_of_cell? _ _ d5)).trans d5
      replace d6 := (hb.cell (World.block_lt_of_cell? _ _ d6)).trans d6
      replace d7 := (hb.cell (World.block_lt_of_cell? _ _ d7)).trans d7
      replace d8 := (hb.cell (World.block_lt_of_cell? _ _ d8)).trans d8
      replace d9 := (hb.cell (World.block_lt_of_cell? _ _ d9)).trans d9
      replace d10 := (hb.cell (World.block_lt_of_cell? _ _ d10)).trans d10
      replace d11 := (hb.cell (World.block_lt_of_cell? _ _ d11)).trans d11
      replace d12 := (hb.cell (World.block_lt_of_cell? _ _ d12)).trans d12
      have H5 := Lib.hid (⟨(hb.block _ (blk_lt H4.out.1)).trans H4.out.1, bl2 H4.out.2 hb⟩ : _ ∧ _)
      clear hb
      clear d0 d1 d2 d3 d4 d5 d6 d7 d8 d9 d10 d11 d12
      have r0 : w5.cell? ⟨W1.heap.size + 1, 0, none⟩ = some .nilIface := blk_cell H5.out.1 0
      have r1 : w5.cell? ⟨W1.heap.size + 1, 1, none⟩ = some (.int .i32 0) := blk_cell H5.out.1 1
      have f0 := blk_frozen H5.out.1 0
      have f1 := blk_frozen H5.out.1 1
      go_wp2_with (fail)
      exact bodyPost_ret (Go.Proofs.YtacokmkbikdmmaaGreatDoorW.PrintWords.results_ct rfl _ _ (W1.heap.size + 1) 43 #[.iface p.1 (.pointer (some ⟨p.2, 0, none⟩)), .int .i32 0] (0, 0) _ rfl (Go.Proofs.YtacokmkbikdmmaaGreatDoorW.PrintWords.blk_put (Go.Proofs.YtacokmkbikdmmaaGreatDoorW.PrintWords.blk_put H5.out.1 0 (.iface p.1 (.pointer (some ⟨p.2, 0, none⟩))) (cs' := #[.iface p.1 (.pointer (some ⟨p.2, 0, none⟩)), .int .i32 0]) rfl) 1 (.int .i32 0) rfl) Tryz.underlying43 rfl (by rw [size43]; rfl)) rfl ⟨p, rfl, ((HTOP.out.set _ 0 (by omega) _).set _ 1 (by omega) _), ((H5.out.2.setCell (p := ⟨W1.heap.size + 1, 0, none⟩) (Nat.le_succ _) _).setCell (p := ⟨W1.heap.size + 1, 1, none⟩) (Nat.le_succ _) _)⟩
    · have HC := Lib.hid hcls
      clear hcls
      go_wp2_with (fail)
      refine (leaf x N W _ HK.out.2.1 HX.out.2.2.2.1 HK.out.1.str (bl HX.out.2.1 hN H4.out.2) hN).mono ?_
      rintro e w5 ⟨-, he, hb⟩
      obtain rfl := he (by have := HC.out; omega)
      clear he
      replace d0 := (hb.cell (World.block_lt_of_cell? _ _ d0)).trans d0
      replace d1 := (hb.cell (World.block_lt_of_cell? _ _ d1)).trans d1
      replace d2 := (hb.cell (World.block_lt_of_cell? _ _ d2)).trans d2
      replace d3 := (hb.cell (World.block_lt_of_cell? _ _ d3)).trans d3
      replace d4 := (hb.cell (World.block_lt_of_cell? _ _ d4)).trans d4
      replace d5 := (hb.cell (World.block_lt_of_cell? _ _ d5)).trans d5
      replace d6 := (hb.cell (World.block_lt_of_cell? _ _ d6)).trans d6
      replace d7 := (hb.cell (World.block_lt_of_cell? _ _ d7)).trans d7
      replace d8 := (hb.cell (World.block_lt_of_cell? _ _ d8)).trans d8
      replace d9 := (hb.cell (World.block_lt_of_cell? _ _ d9)).trans d9
      replace d10 := (hb.cell (World.block_lt_of_cell? _ _ d10)).trans d10
      replace d11 := (hb.cell (World.block_lt_of_cell? _ _ d11)).trans d11
      replace d12 := (hb.cell (World.block_lt_of_cell? _ _ d12)).trans d12
      have H5 := Lib.hid (⟨(hb.block _ (blk_lt H4.out.1)).trans H4.out.1, bl2 H4.out.2 hb⟩ : _ ∧ _)
      have HO5 := Lib.hid (HO4.out.below hb)
      clear hb
      go_wp2_with (fail)
      refine (branch x A cap ks _ HK.out.2.1 HO3.out.1 HO5.out HO3.out.2.1 HO3.out.2.2.1).mono ?_
      rintro e w6 ⟨he, -, hb⟩
      obtain ⟨p, rfl, htop⟩ := he HC.out
      have HTOP := Lib.hid htop
      clear he htop
      replace d0 := (hb.cell (World.block_lt_of_cell? _ _ d0)).trans d0
      replace d1 := (hb.cell (World.block_lt_of_cell? _ _ d1)).trans d1
      replace d2 := (hb.cell (World.block_lt_of_cell? _ _ d2)).trans d2
      replace d3 := (hb.cell (World.block_lt_of_cell? _ _ d3)).trans d3
      replace d4 := (hb.cell (World.block_lt_of_cell? _ _ d4)).trans d4
      replace d5 := (hb.cell (World.block_lt_of_cell? _ _ d5)).trans d5
      replace d6 := (hb.cell (World.block_lt_of_cell? _ _ d6)).trans d6
      replace d7 := (hb.cell (World.block_lt_of_cell? _ _ d7)).trans d7
      replace d8 := (hb.cell (World.block_lt_of_cell? _ _ d8)).trans d8
      replace d9 := (hb.cell (World.block_lt_of_cell? _ _ d9)).trans d9
      replace d10 := (hb.cell (World.block_lt_of_cell? _ _ d10)).trans d10
      replace d11 := (hb.cell (World.block_lt_of_cell? _ _ d11)).trans d11
      replace d12 := (hb.cell (World.block_lt_of_cell? _ _ d12)).trans d12
      have H6 := Lib.hid (⟨(hb.block _ (blk_lt H5.out.1)).trans H5.out.1, bl2 H5.out.2 hb⟩ : _ ∧ _)
      clear hb
      clear d0 d1 d2 d3 d4 d5 d6 d7 d8 d9 d10 d11 d12
      have r0 : w6.cell? ⟨W1.heap.size + 1, 0, none⟩ = some .nilIface := blk_cell H6.out.1 0
      have r1 : w6.cell? ⟨W1.heap.size + 1, 1, none⟩ = some (.int .i32 0) := blk_cell H6.out.1 1
      have f0 := blk_frozen H6.out.1 0
      have f1 := blk_frozen H6.out.1 1
      go_wp2_with (fail)
      exact bodyPost_ret (Go.Proofs.YtacokmkbikdmmaaGreatDoorW.PrintWords.results_ct rfl _ _ (W1.heap.size + 1) 43 #[.iface p.1 (.pointer (some ⟨p.2, 0, none⟩)), .int .i32 0] (0, 0) _ rfl (Go.Proofs.YtacokmkbikdmmaaGreatDoorW.PrintWords.blk_put (Go.Proofs.YtacokmkbikdmmaaGreatDoorW.PrintWords.blk_put H6.out.1 0 (.iface p.1 (.pointer (some ⟨p.2, 0, none⟩))) (cs' := #[.iface p.1 (.pointer (some ⟨p.2, 0, none⟩)), .int .i32 0]) rfl) 1 (.int .i32 0) rfl) Tryz.underlying43 rfl (by rw [size43]; rfl)) rfl ⟨p, rfl, ((HTOP.out.set _ 0 (by omega) _).set _ 1 (by omega) _), ((H6.out.2.setCell (p := ⟨W1.heap.size + 1, 0, none⟩) (Nat.le_succ _) _).setCell (p := ⟨W1.heap.size + 1, 1, none⟩) (Nat.le_succ _) _)⟩
    · have HC := Lib.hid hcls
      clear hcls
      go_wp2_with (fail)
      refine (leaf x N W _ HK.out.2.1 HX.out.2.2.2.1 HK.out.1.str (bl HX.out.2.1 hN H4.out.2) hN).mono ?_
      rintro e w5 ⟨-, he, hb⟩
      obtain rfl := he (by have := HC.out; omega)
      clear he
      replace d0 := (hb.cell (World.block_lt_of_cell? _ _ d0)).trans d0
      replace d1 := (hb.cell (World.block_lt_of_cell? _ _ d1)).trans d1
      replace d2 := (hb.cell (World.block_lt_of_cell? _ _ d2)).trans d2
      replace d3 := (hb.cell (World.block_lt_of_cell? _ _ d3)).trans d3
      replace d4 := (hb.cell (World.block_lt_of_cell? _ _ d4)).trans d4
      replace d5 := (hb.cell (World.block_lt_of_cell? _ _ d5)).trans d5
      replace d6 := (hb.cell (World.block_lt_of_cell? _ _ d6)).trans d6
      replace d7 := (hb.cell (World.block_lt_of_cell? _ _ d7)).trans d7
      replace d8 := (hb.cell (World.block_lt_of_cell? _ _ d8)).trans d8
      replace d9 := (hb.cell (World.block_lt_of_cell? _ _ d9)).trans d9
      replace d10 := (hb.cell (World.block_lt_of_cell? _ _ d10)).trans d10
      replace d11 := (hb.cell (World.block_lt_of_cell? _ _ d11)).trans d11
      replace d12 := (hb.cell (World.block_lt_of_cell? _ _ d12)).trans d12
      have H5 := Lib.hid (⟨(hb.block _ (blk_lt H4.out.1)).trans H4.out.1, bl2 H4.out.2 hb⟩ : _ ∧ _)
      have HO5 := Lib.hid (HO4.out.below hb)
      clear hb
      go_wp2_with (fail)
      refine (branch x A cap ks _ HK.out.2.1 HO3.out.1 HO5.out HO3.out.2.1 HO3.out.2.2.1).mono ?_
      rintro e w6 ⟨-, he, hb⟩
      obtain rfl := he (by have := HC.out; omega)
      clear he
      replace d0 := (hb.cell (World.block_lt_of_cell? _ _ d0)).trans d0
      replace d1 := (hb.cell (World.block_lt_of_cell? _ _ d1)).trans d1
      replace d2 := (hb.cell (World.block_lt_of_cell? _ _ d2)).trans d2
      replace d3 := (hb.cell (World.block_lt_of_cell? _ _ d3)).trans d3
      replace d4 := (hb.cell (World.block_lt_of_cell? _ _ d4)).trans d4
      replace d5 := (hb.cell (World.block_lt_of_cell? _ _ d5)).trans d5
      replace d6 := (hb.cell (World.block_lt_of_cell? _ _ d6)).trans d6
      replace d7 := (hb.cell (World.block_lt_of_cell? _ _ d7)).trans d7
      replace d8 := (hb.cell (World.block_lt_of_cell? _ _ d8)).trans d8
      replace d9 := (hb.cell (World.block_lt_of_cell? _ _ d9)).trans d9
      replace d10 := (hb.cell (World.block_lt_of_cell? _ _ d10)).trans d10
      replace d11 := (hb.cell (World.block_lt_of_cell? _ _ d11)).trans d11
      replace d12 := (hb.cell (World.block_lt_of_cell? _ _ d12)).trans d12
      have H6 := Lib.hid (⟨(hb.block _ (blk_lt H5.out.1)).trans H5.out.1, bl2 H5.out.2 hb⟩ : _ ∧ _)
      have HO6 := Lib.hid (HO5.out.below hb)
      clear hb
      go_wp2_with (fail)
      refine (access x A cap ks _ HK.out.2.1 HO3.out.1 HO6.out HO3.out.2.1 HO3.out.2.2.1).mono ?_
      rintro e w7 ⟨he, -, hb⟩
      obtain ⟨p, rfl, htop⟩ := he HC.out
      have HTOP := Lib.hid htop
      clear he htop
      replace d0 := (hb.cell (World.block_lt_of_cell? _ _ d0)).trans d0
      replace d1 := (hb.cell (World.block_lt_of_cell? _ _ d1)).trans d1
      replace d2 := (hb.cell (World.block_lt_of_cell? _ _ d2)).trans d2
      replace d3 := (hb.cell (World.block_lt_of_cell? _ _ d3)).trans d3
      replace d4 := (hb.cell (World.block_lt_of_cell? _ _ d4)).trans d4
      replace d5 := (hb.cell (World.block_lt_of_cell? _ _ d5)).trans d5
      replace d6 := (hb.cell (World.block_lt_of_cell? _ _ d6)).trans d6
      replace d7 := (hb.cell (World.block_lt_of_cell? _ _ d7)).trans d7
      replace d8 := (hb.cell (World.block_lt_of_cell? _ _ d8)).trans d8
      replace d9 := (hb.cell (World.block_lt_of_cell? _ _ d9)).trans d9
      replace d10 := (hb.cell (World.block_lt_of_cell? _ _ d10)).trans d10
      replace d11 := (hb.cell (World.block_lt_of_cell? _ _ d11)).trans d11
      replace d12 := (hb.cell (World.block_lt_of_cell? _ _ d12)).trans d12
      have H7 := Lib.hid (⟨(hb.block _ (blk_lt H6.out.1)).trans H6.out.1, bl2 H6.out.2 hb⟩ : _ ∧ _)
      clear hb
      clear d0 d1 d2 d3 d4 d5 d6 d7 d8 d9 d10 d11 d12
      have r0 : w7.cell? ⟨W1.heap.size + 1, 0, none⟩ = some .nilIface := blk_cell H7.out.1 0
      have r1 : w7.cell? ⟨W1.heap.size + 1, 1, none⟩ = some (.int .i32 0) := blk_cell H7.out.1 1
      have f0 := blk_frozen H7.out.1 0
      have f1 := blk_frozen H7.out.1 1
      go_wp2_with (fail)
      exact bodyPost_ret (Go.Proofs.YtacokmkbikdmmaaGreatDoorW.PrintWords.results_ct rfl _ _ (W1.heap.size + 1) 43 #[.iface p.1 (.pointer (some ⟨p.2, 0, none⟩)), .int .i32 0] (0, 0) _ rfl (Go.Proofs.YtacokmkbikdmmaaGreatDoorW.PrintWords.blk_put (Go.Proofs.YtacokmkbikdmmaaGreatDoorW.PrintWords.blk_put H7.out.1 0 (.iface p.1 (.pointer (some ⟨p.2, 0, none⟩))) (cs' := #[.iface p.1 (.pointer (some ⟨p.2, 0, none⟩)), .int .i32 0]) rfl) 1 (.int .i32 0) rfl) Tryz.underlying43 rfl (by rw [size43]; rfl)) rfl ⟨p, rfl, ((HTOP.out.set _ 0 (by omega) _).set _ 1 (by omega) _), ((H7.out.2.setCell (p := ⟨W1.heap.size + 1, 0, none⟩) (Nat.le_succ _) _).setCell (p := ⟨W1.heap.size + 1, 1, none⟩) (Nat.le_succ _) _)⟩
    · have HC := Lib.hid hcls
      clear hcls
      go_wp2_with (fail)
      refine (leaf x N W _ HK.out.2.1 HX.out.2.2.2.1 HK.out.1.str (bl HX.out.2.1 hN H4.out.2) hN).mono ?_
      rintro e w5 ⟨-, he, hb⟩
      obtain rfl := he (by have := HC.out; omega)
      clear he
      replace d0 := (hb.cell (World.block_lt_of_cell? _ _ d0)).trans d0
      replace d1 := (hb.cell (World.block_lt_of_cell? _ _ d1)).trans d1
      replace d2 := (hb.cell (World.block_lt_of_cell? _ _ d2)).trans d2
      replace d3 := (hb.cell (World.block_lt_of_cell? _ _ d3)).trans d3
      replace d4 := (hb.cell (World.block_lt_of_cell? _ _ d4)).trans d4
      replace d5 := (hb.cell (World.block_lt_of_cell? _ _ d5)).trans d5
      replace d6 := (hb.cell (World.block_lt_of_cell? _ _ d6)).trans d6
      replace d7 := (hb.cell (World.block_lt_of_cell? _ _ d7)).trans d7
      replace d8 := (hb.cell (World.block_lt_of_cell? _ _ d8)).trans d8
      replace d9 := (hb.cell (World.block_lt_of_cell? _ _ d9)).trans d9
      replace d10 := (hb.cell (World.block_lt_of_cell? _ _ d10)).trans d10
      replace d11 := (hb.cell (World.block_lt_of_cell? _ _ d11)).trans d11
      replace d12 := (hb.cell (World.block_lt_of_cell? _ _ d12)).trans d12
      have H5 := Lib.hid (⟨(hb.block _ (blk_lt H4.out.1)).trans H4.out.1, bl2 H4.out.2 hb⟩ : _ ∧ _)
      have HO5 := Lib.hid (HO4.out.below hb)
      clear hb
      go_wp2_with (fail)
      refine (branch x A cap ks _ HK.out.2.1 HO3.out.1 HO5.out HO3.out.2.1 HO3.out.2.2.1).mono ?_
      rintro e w6 ⟨-, he, hb⟩
      obtain rfl := he (by have := HC.out; omega)
      clear he
      replace d0 := (hb.cell (World.block_lt_of_cell? _ _ d0)).trans d0
      replace d1 := (hb.cell (World.block_lt_of_cell? _ _ d1)).trans d1
      replace d2 := (hb.cell (World.block_lt_of_cell? _ _ d2)).trans d2
      replace d3 := (hb.cell (World.block_lt_of_cell? _ _ d3)).trans d3
      replace d4 := (hb.cell (World.block_lt_of_cell? _ _ d4)).trans d4
      replace d5 := (hb.cell (World.block_lt_of_cell? _ _ d5)).trans d5
      replace d6 := (hb.cell (World.block_lt_of_cell? _ _ d6)).trans d6
      replace d7 := (hb.cell (World.block_lt_of_cell? _ _ d7)).trans d7
      replace d8 := (hb.cell (World.block_lt_of_cell? _ _ d8)).trans d8
      replace d9 := (hb.cell (World.block_lt_of_cell? _ _ d9)).trans d9
      replace d10 := (hb.cell (World.block_lt_of_cell? _ _ d10)).trans d10
      replace d11 := (hb.cell (World.block_lt_of_cell? _ _ d11)).trans d11
      replace d12 := (hb.cell (World.block_lt_of_cell? _ _ d12)).trans d12
      have H6 := Lib.hid (⟨(hb.block _ (blk_lt H5.out.1)).trans H5.out.1, bl2 H5.out.2 hb⟩ : _ ∧ _)
      have HO6 := Lib.hid (HO5.out.below hb)
      clear hb
      go_wp2_with (fail)
      refine (access x A cap ks _ HK.out.2.1 HO3.out.1 HO6.out HO3.out.2.1 HO3.out.2.2.1).mono ?_
      rintro e w7 ⟨-, he, hb⟩
      obtain rfl := he (by have := HC.out; omega)
      clear he
      replace d0 := (hb.cell (World.block_lt_of_cell? _ _ d0)).trans d0
      replace d1 := (hb.cell (World.block_lt_of_cell? _ _ d1)).trans d1
      replace d2 := (hb.cell (World.block_lt_of_cell? _ _ d2)).trans d2
      replace d3 := (hb.cell (World.block_lt_of_cell? _ _ d3)).trans d3
      replace d4 := (hb.cell (World.block_lt_of_cell? _ _ d4)).trans d4
      replace d5 := (hb.cell (World.block_lt_of_cell? _ _ d5)).trans d5
      replace d6 := (hb.cell (World.block_lt_of_cell? _ _ d6)).trans d6
      replace d7 := (hb.cell (World.block_lt_of_cell? _ _ d7)).trans d7
      replace d8 := (hb.cell (World.block_lt_of_cell? _ _ d8)).trans d8
      replace d9 := (hb.cell (World.block_lt_of_cell? _ _ d9)).trans d9
      replace d10 := (hb.cell (World.block_lt_of_cell? _ _ d10)).trans d10
      replace d11 := (hb.cell (World.block_lt_of_cell? _ _ d11)).trans d11
      replace d12 := (hb.cell (World.block_lt_of_cell? _ _ d12)).trans d12
      have H7 := Lib.hid (⟨(hb.block _ (blk_lt H6.out.1)).trans H6.out.1, bl2 H6.out.2 hb⟩ : _ ∧ _)
      have HO7 := Lib.hid (HO6.out.below hb)
      clear hb
      go_wp2_with (fail)
      refine (whole n HX.out.2.2.1 x A cap ks N W _ HX.out.1 (bl HX.out.2.1 hN H7.out.2) hN HO3.out.1 HO7.out HO3.out.2.1 HO3.out.2.2.1).mono ?_
      rintro e w8 ⟨he, -, hb⟩
      obtain ⟨p, rfl, htop⟩ := he HC.out
      have HTOP := Lib.hid htop
      clear he htop
      replace d0 := (hb.cell (World.block_lt_of_cell? _ _ d0)).trans d0
      replace d1 := (hb.cell (World.block_lt_of_cell? _ _ d1)).trans d1
      replace d2 := (hb.cell (World.block_lt_of_cell? _ _ d2)).trans d2
      replace d3 := (hb.cell (World.block_lt_of_cell? _ _ d3)).trans d3
      replace d4 := (hb.cell (World.block_lt_of_cell? _ _ d4)).trans d4
      replace d5 := (hb.cell (World.block_lt_of_cell? _ _ d5)).trans d5
      replace d6 := (hb.cell (World.block_lt_of_cell? _ _ d6)).trans d6
      replace d7 := (hb.cell (World.block_lt_of_cell? _ _ d7)).trans d7
      replace d8 := (hb.cell (World.block_lt_of_cell? _ _ d8)).trans d8
      replace d9 := (hb.cell (World.block_lt_of_cell? _ _ d9)).trans d9
      replace d10 := (hb.cell (World.block_lt_of_cell? _ _ d10)).trans d10
      replace d11 := (hb.cell (World.block_lt_of_cell? _ _ d11)).trans d11
      replace d12 := (hb.cell (World.block_lt_of_cell? _ _ d12)).trans d12
      have H8 := Lib.hid (⟨(hb.block _ (blk_lt H7.out.1)).trans H7.out.1, bl2 H7.out.2 hb⟩ : _ ∧ _)
      clear hb
      clear d0 d1 d2 d3 d4 d5 d6 d7 d8 d9 d10 d11 d12
      have r0 : w8.cell? ⟨W1.heap.size + 1, 0, none⟩ = some .nilIface := blk_cell H8.out.1 0
      have r1 : w8.cell? ⟨W1.heap.size + 1, 1, none⟩ = some (.int .i32 0) := blk_cell H8.out.1 1
      have f0 := blk_frozen H8.out.1 0
      have f1 := blk_frozen H8.out.1 1
      go_wp2_with (fail)
      exact bodyPost_ret (Go.Proofs.YtacokmkbikdmmaaGreatDoorW.PrintWords.results_ct rfl _ _ (W1.heap.size + 1) 43 #[.iface p.1 (.pointer (some ⟨p.2, 0, none⟩)), .int .i32 0] (0, 0) _ rfl (Go.Proofs.YtacokmkbikdmmaaGreatDoorW.PrintWords.blk_put (Go.Proofs.YtacokmkbikdmmaaGreatDoorW.PrintWords.blk_put H8.out.1 0 (.iface p.1 (.pointer (some ⟨p.2, 0, none⟩))) (cs' := #[.iface p.1 (.pointer (some ⟨p.2, 0, none⟩)), .int .i32 0]) rfl) 1 (.int .i32 0) rfl) Tryz.underlying43 rfl (by rw [size43]; rfl)) rfl ⟨p, rfl, ((HTOP.out.set _ 0 (by omega) _).set _ 1 (by omega) _), ((H8.out.2.setCell (p := ⟨W1.heap.size + 1, 0, none⟩) (Nat.le_succ _) _).setCell (p := ⟨W1.heap.size + 1, 1, none⟩) (Nat.le_succ _) _)⟩
end Go.Proofs.YtacokmkbikdmmaaGreatDoor.trees
