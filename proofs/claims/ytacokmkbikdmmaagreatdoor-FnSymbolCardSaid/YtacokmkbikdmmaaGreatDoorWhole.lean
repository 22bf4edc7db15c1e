/-
  impl.whole: an array, an object or a template becomes a node.
  Conditions: none.
-/
import Derived.Test.YtacokmkbikdmmaaGreatDoorPieces
import Derived.Test.YtacokmkbikdmmaaGreatDoorAccess
namespace Go.Proofs.YtacokmkbikdmmaaGreatDoor.trees
open Go Go.RowKit
set_option linter.unusedVariables false
set_option linter.unusedSimpArgs false

attribute [local go_sem] run_store_float
theorem own_slice {w : World} {B e sz n : Nat} {v : Value} {xs : List Value} (h : w.ownsRow B e sz v n xs) : ∃ A c, v = .slice A n c := by
  rcases h.2 with ⟨hv, h0⟩ | ⟨g, cap, cur, hv, _⟩
  · exact ⟨none, 0, by rw [hv, h0]⟩
  · exact ⟨_, cap, hv⟩
set_option maxHeartbeats 8000000 in
set_option maxRecDepth 100000 in
theorem whole (n : Nat) (IH : NodeOK n) (x : X) (A : Option Addr) (cap : Nat) (ks : List Nd) (N : Nat) (W0 W : World) (h : Ex C2 N W0 (n + 1) x.cells) (h0 : Below N W0 W) (hN : N ≤ W0.heap.size) (hl : ks.length = x.kn) (hO : Outs W A ks) (hc : x.kn ≤ cap) (hm : cap ≤ maxLen) : Calls Tryz.prog 35 #[.agg #[.int .i64 x.kind, .int .i64 x.op, .int .i64 x.ref, .int .i64 x.chain, .int .i64 x.flags, .float .f64 x.num, .slice x.sa x.sn x.sc, .string x.text, .slice x.ka x.kn x.kc, .slice x.pa x.pn x.pc, .slice x.qa x.qn x.qc, .slice x.fa x.fn x.fc, .slice x.ca x.cn x.cc], .slice A x.kn cap] W (fun e w' => NodeR (x.kind = 11 ∨ x.kind = 12 ∨ x.kind = 20) x W e w') := by
  obtain ⟨hx, hs, _, hp, hq⟩ := Ex_x.1 h
  have HK := Lib.hid (⟨hx.2.1, hl, hO, hm⟩ : _ ∧ _ ∧ _ ∧ _)
  have HX := Lib.hid (⟨hs, hp, hq, hx.1, h0, IH⟩ : _ ∧ _ ∧ _ ∧ _ ∧ _ ∧ _)
  have hcap : x.kn ≤ cap := hc
  clear h hx hs hp hq hl hO hm hc h0 IH
  go_enter Tryz.func35, Tryz.ntmps35
  go_upto_region 1 with (fail)
  have hD := heap_alloc_new W (.cells #[.int .i64 x.kind, .int .i64 x.op, .int .i64 x.ref, .int .i64 x.chain, .int .i64 x.flags, .float .f64 x.num, .slice x.sa x.sn x.sc, .string x.text, .slice x.ka x.kn x.kc, .slice x.pa x.pn x.pc, .slice x.qa x.qn x.qc, .slice x.fa x.fn x.fc, .slice x.ca x.cn x.cc] 30)
  have hDb := (Below.refl W.heap.size W).alloc (Nat.le_refl _) (.cells #[.int .i64 x.kind, .int .i64 x.op, .int .i64 x.ref, .int .i64 x.chain, .int .i64 x.flags, .float .f64 x.num, .slice x.sa x.sn x.sc, .string x.text, .slice x.ka x.kn x.kc, .slice x.pa x.pn x.pc, .slice x.qa x.qn x.qc, .slice x.fa x.fn x.fc, .slice x.ca x.cn x.cc] 30)
  have hDs : (W.alloc (.cells #[.int .i64 x.kind, .int .i64 x.op, .int .i64 x.ref, .int .i64 x.chain, .int .i64 x.flags, .float .f64 x.num, .slice x.sa x.sn x.sc, .string x.text, .slice x.ka x.kn x.kc, .slice x.pa x.pn x.pc, .slice x.qa x.qn x.qc, .slice x.fa x.fn x.fc, .slice x.ca x.cn x.cc] 30)).heap.size = W.heap.size + 1 := by simp
  generalize W.alloc (.cells #[.int .i64 x.kind, .int .i64 x.op, .int .i64 x.ref, .int .i64 x.chain, .int .i64 x.flags, .float .f64 x.num, .slice x.sa x.sn x.sc, .string x.text, .slice x.ka x.kn x.kc, .slice x.pa x.pn x.pc, .slice x.qa x.qn x.qc, .slice x.fa x.fn x.fc, .slice x.ca x.cn x.cc] 30) = w1 at hD hDb hDs ⊢
  have d0 : w1.cell? ⟨W.heap.size, 0, none⟩ = some (.int .i64 x.kind) := blk_cell hD 0
  have d1 : w1.cell? ⟨W.heap.size, 1, none⟩ = some (.int .i64 x.op) := blk_cell hD 1
  have d2 : w1.cell? ⟨W.heap.size, 2, none⟩ = some (.int .i64 x.ref) := blk_cell hD 2
  have d3 : w1.cell? ⟨W.heap.size, 3, none⟩ = some (.int .i64 x.chain) := blk_cell hD 3
  have d4 : w1.cell? ⟨W.heap.size, 4, none⟩ = some (.int .i64 x.flags) := blk_cell hD 4
  have d5 : w1.cell? ⟨W.heap.size, 5, none⟩ = some (.float .f64 x.num) := blk_cell hD 5
  have d6 : w1.cell? ⟨W.heap.size, 6, none⟩ = some (.slice x.sa x.sn x.sc) := blk_cell hD 6
  have d7 : w1.cell? ⟨W.heap.size, 7, none⟩ = some (.string x.text) := blk_cell hD 7
  have d8 : w1.cell? ⟨W.heap.size, 8, none⟩ = some (.slice x.ka x.kn x.kc) := blk_cell hD 8
  have d9 : w1.cell? ⟨W.heap.size, 9, none⟩ = some (.slice x.pa x.pn x.pc) := blk_cell hD 9
  have d10 : w1.cell? ⟨W.heap.size, 10, none⟩ = some (.slice x.qa x.qn x.qc) := blk_cell hD 10
  have d11 : w1.cell? ⟨W.heap.size, 11, none⟩ = some (.slice x.fa x.fn x.fc) := blk_cell hD 11
  have d12 : w1.cell? ⟨W.heap.size, 12, none⟩ = some (.slice x.ca x.cn x.cc) := blk_cell hD 12
  have HD := Lib.hid (⟨hD, hDb, hDs⟩ : _ ∧ _ ∧ _)
  clear hD hDb hDs
  have HO := Lib.hid (HK.out.2.2.1.below HD.out.2.1)
  generalize Value.agg #[.int .i64 x.kind, .int .i64 x.op, .int .i64 x.ref, .int .i64 x.chain, .int .i64 x.flags, .float .f64 x.num, .slice x.sa x.sn x.sc, .string x.text, .slice x.ka x.kn x.kc, .slice x.pa x.pn x.pc, .slice x.qa x.qn x.qc, .slice x.fa x.fn x.fc, .slice x.ca x.cn x.cc] = arg
  have hlo := HK.out.1.lo
  have hhi := HK.out.1.hi
  obtain ⟨kk, hkk⟩ : ∃ kk, kk = x.kind := ⟨_, rfl⟩
  rw [← hkk] at d0 hlo hhi
  have HKK := Lib.hid hkk
  clear hkk
  obtain ⟨kn, hkn⟩ : ∃ kn, kn = x.kn := ⟨_, rfl⟩
  have HKN := Lib.hid hkn
  rw [← hkn] at d8 hcap ⊢
  clear hkn
  have HA := Lib.hid HD.out.2.1
  rcases (show kk = 0 ∨ kk = 1 ∨ kk = 2 ∨ kk = 3 ∨ kk = 4 ∨ kk = 5 ∨ kk = 6 ∨ kk = 7 ∨ kk = 8 ∨ kk = 9 ∨ kk = 10 ∨ kk = 11 ∨ kk = 12 ∨ kk = 13 ∨ kk = 14 ∨ kk = 15 ∨ kk = 16 ∨ kk = 17 ∨ kk = 18 ∨ kk = 19 ∨ kk = 20 ∨ kk = 21 ∨ kk = 22 ∨ kk = 23 ∨ kk = 24 ∨ kk = 25 ∨ kk = 26 by omega) with rfl | rfl | rfl | rfl | rfl | rfl | rfl | rfl | rfl | rfl | rfl | rfl | rfl | rfl | rfl | rfl | rfl | rfl | rfl | rfl | rfl | rfl | rfl | rfl | rfl | rfl | rfl
  · clear hlo hhi
    clear d1 d2 d3 d4 d5 d6 d7 d8 d9 d10 d11 d12
    go_wp2_with (fail)
    go_ret2
    exact ⟨fun h => by have := HKK.out; omega, fun _ => rfl, HD.out.2.1⟩
  · clear hlo hhi
    clear d1 d2 d3 d4 d5 d6 d7 d8 d9 d10 d11 d12
    go_wp2_with (fail)
    go_ret2
    exact ⟨fun h => by have := HKK.out; omega, fun _ => rfl, HD.out.2.1⟩
  · clear hlo hhi
    clear d1 d2 d3 d4 d5 d6 d7 d8 d9 d10 d11 d12
    go_wp2_with (fail)
    go_ret2
    exact ⟨fun h => by have := HKK.out; omega, fun _ => rfl, HD.out.2.1⟩
  · clear hlo hhi
    clear d1 d2 d3 d4 d5 d6 d7 d8 d9 d10 d11 d12
    go_wp2_with (fail)
    go_ret2
    exact ⟨fun h => by have := HKK.out; omega, fun _ => rfl, HD.out.2.1⟩
  · clear hlo hhi
    clear d1 d2 d3 d4 d5 d6 d7 d8 d9 d10 d11 d12
    go_wp2_with (fail)
    go_ret2
    exact ⟨fun h => by have := HKK.out; omega, fun _ => rfl, HD.out.2.1⟩
  · clear hlo hhi
    clear d1 d2 d3 d4 d5 d6 d7 d8 d9 d10 d11 d12
    go_wp2_with (fail)
    go_ret2
    exact ⟨fun h => by have := HKK.out; omega, fun _ => rfl, HD.out.2.1⟩
  · clear hlo hhi
    clear d1 d2 d3 d4 d5 d6 d7 d8 d9 d10 d11 d12
    go_wp2_with (fail)
    go_ret2
    exact ⟨fun h => by have := HKK.out; omega, fun _ => rfl, HD.out.2.1⟩
  · clear hlo hhi
    clear d1 d2 d3 d4 d5 d6 d7 d8 d9 d10 d11 d12
    go_wp2_with (fail)
    go_ret2
    exact ⟨fun h => by have := HKK.out; omega, fun _ => rfl, HD.out.2.1⟩
  · clear hlo hhi
    clear d1 d2 d3 d4 d5 d6 d7 d8 d9 d10 d11 d12
    go_wp2_with (fail)
    go_ret2
    exact ⟨fun h => by have := HKK.out; omega, fun _ => rfl, HD.out.2.1⟩
  · clear hlo hhi
    clear d1 d2 d3 d4 d5 d6 d7 d8 d9 d10 d11 d12
    go_wp2_with (fail)
    go_ret2
    exact ⟨fun h => by have := HKK.out; omega, fun _ => rfl, HD.out.2.1⟩
  · clear hlo hhi
    clear d1 d2 d3 d4 d5 d6 d7 d8 d9 d10 d11 d12
    go_wp2_with (fail)
    go_ret2
    exact ⟨fun h => by have := HKK.out; omega, fun _ => rfl, HD.out.2.1⟩
  · clear hlo hhi
    have hba := fun o => hb2 HA.out ((Below.refl w1.heap.size w1).alloc (Nat.le_refl _) o)
    have HBA := Lib.hid hba
    clear hba d1 d2 d3 d4 d5 d6 d7 d8 d9 d10 d11 d12
    go_wp2_with (fail)
    go_ret2
    exact ⟨fun _ => ⟨(193, w1.heap.size), rfl, ⟨fun h => by have := HKK.out; omega, fun h => by have := HKK.out; omega, fun h => by have := HKK.out; omega, fun _ _ _ => ⟨(by decide : (193 : Nat) ≠ 66), (by decide : (193 : Nat) ≠ 70), (by decide : (193 : Nat) ≠ 73)⟩⟩⟩, fun h => absurd (by have := HKK.out; omega) h, HBA.out _⟩
  · clear hlo hhi
    clear d1 d2 d3 d4 d5 d6 d7 d8 d10 d11 d12
    go_wp2_with (fail)
    refine (properties n HX.out.2.2.2.2.2 x.pa x.pn x.pc N W0 _ HX.out.2.1 HX.out.2.2.2.1.props (bl HX.out.2.2.2.2.1 hN HA.out) hN).mono ?_
    rintro e w2 ⟨v, xs, rfl, ho, hbel⟩
    obtain ⟨vA, vC, rfl⟩ := own_slice ho
    have HB2 := Lib.hid (hb2 HA.out hbel)
    clear ho hbel d0 d9
    have hba := fun o => hb2 HB2.out ((Below.refl w2.heap.size w2).alloc (Nat.le_refl _) o)
    have HBA := Lib.hid hba
    clear hba
    go_wp2_with (fail)
    go_ret2
    exact ⟨fun _ => ⟨(198, w2.heap.size), rfl, ⟨fun h => by have := HKK.out; omega, fun h => by have := HKK.out; omega, fun h => by have := HKK.out; omega, fun _ _ _ => ⟨(by decide : (198 : Nat) ≠ 66), (by decide : (198 : Nat) ≠ 70), (by decide : (198 : Nat) ≠ 73)⟩⟩⟩, fun h => absurd (by have := HKK.out; omega) h, HBA.out _⟩
  · clear hlo hhi
    clear d1 d2 d3 d4 d5 d6 d7 d8 d9 d10 d11 d12
    go_wp2_with (fail)
    go_ret2
    exact ⟨fun h => by have := HKK.out; omega, fun _ => rfl, HD.out.2.1⟩
  · clear hlo hhi
    clear d1 d2 d3 d4 d5 d6 d7 d8 d9 d10 d11 d12
    go_wp2_with (fail)
    go_ret2
    exact ⟨fun h => by have := HKK.out; omega, fun _ => rfl, HD.out.2.1⟩
  · clear hlo hhi
    clear d1 d2 d3 d4 d5 d6 d7 d8 d9 d10 d11 d12
    go_wp2_with (fail)
    go_ret2
    exact ⟨fun h => by have := HKK.out; omega, fun _ => rfl, HD.out.2.1⟩
  · clear hlo hhi
    clear d1 d2 d3 d4 d5 d6 d7 d8 d9 d10 d11 d12
    go_wp2_with (fail)
    go_ret2
    exact ⟨fun h => by have := HKK.out; omega, fun _ => rfl, HD.out.2.1⟩
  · clear hlo hhi
    clear d1 d2 d3 d4 d5 d6 d7 d8 d9 d10 d11 d12
    go_wp2_with (fail)
    go_ret2
    exact ⟨fun h => by have := HKK.out; omega, fun _ => rfl, HD.out.2.1⟩
  · clear hlo hhi
    clear d1 d2 d3 d4 d5 d6 d7 d8 d9 d10 d11 d12
    go_wp2_with (fail)
    go_ret2
    exact ⟨fun h => by have := HKK.out; omega, fun _ => rfl, HD.out.2.1⟩
  · clear hlo hhi
    clear d1 d2 d3 d4 d5 d6 d7 d8 d9 d10 d11 d12
    go_wp2_with (fail)
    go_ret2
    exact ⟨fun h => by have := HKK.out; omega, fun _ => rfl, HD.out.2.1⟩
  · clear hlo hhi
    have hlt2 : kn < 2 := by have := HK.out.1.templ HKK.out.symm; have := HKN.out; omega
    obtain rfl | rfl : kn = 0 ∨ kn = 1 := by omega
    · clear hlt2
      have hh : ∀ (k : Int) (w : World), Calls Tryz.prog 55 #[.agg #[.int .i64 20, .int .i64 x.op, .int .i64 x.ref, .int .i64 x.chain, .int .i64 x.flags, .float .f64 x.num, .slice x.sa x.sn x.sc, .string x.text, .slice x.ka 0 x.kc, .slice x.pa x.pn x.pc, .slice x.qa x.qn x.qc, .slice x.fa x.fn x.fc, .slice x.ca x.cn x.cc], .int .i64 k] w (fun e w' => e = .returned (.bool (bits .and .i64 x.flags k != 0)) ∧ Below w.heap.size w w') := by
        intro k w
        have := has x k w
        rw [← HKK.out, ← HKN.out] at this
        exact this
      have HH := Lib.hid hh
      clear hh
      go_wp2_with (fail)
      refine (pieces n HX.out.2.2.2.2.2 x.qa x.qn x.qc N W0 _ HX.out.2.2.1 HX.out.2.2.2.1.parts (bl HX.out.2.2.2.2.1 hN HA.out) hN).mono ?_
      rintro e w2 ⟨v, xs, rfl, ho, hbel⟩
      obtain ⟨vA, vC, rfl⟩ := own_slice ho
      have HB2 := Lib.hid (hb2 HA.out hbel)
      have HO2 := Lib.hid (HO.out.below hbel)
      replace d0 := (hbel.cell (World.block_lt_of_cell? _ _ d0)).trans d0
      replace d1 := (hbel.cell (World.block_lt_of_cell? _ _ d1)).trans d1
      replace d2 := (hbel.cell (World.block_lt_of_cell? _ _ d2)).trans d2
      replace d3 := (hbel.cell (World.block_lt_of_cell? _ _ d3)).trans d3
      replace d4 := (hbel.cell (World.block_lt_of_cell? _ _ d4)).trans d4
      replace d5 := (hbel.cell (World.block_lt_of_cell? _ _ d5)).trans d5
      replace d6 := (hbel.cell (World.block_lt_of_cell? _ _ d6)).trans d6
      replace d7 := (hbel.cell (World.block_lt_of_cell? _ _ d7)).trans d7
      replace d8 := (hbel.cell (World.block_lt_of_cell? _ _ d8)).trans d8
      replace d9 := (hbel.cell (World.block_lt_of_cell? _ _ d9)).trans d9
      replace d10 := (hbel.cell (World.block_lt_of_cell? _ _ d10)).trans d10
      replace d11 := (hbel.cell (World.block_lt_of_cell? _ _ d11)).trans d11
      replace d12 := (hbel.cell (World.block_lt_of_cell? _ _ d12)).trans d12
      clear ho hbel
      go_upto_region 8 with (fail)
      have HT0 := Lib.hid (show Below W.heap.size W w2.drew from HB2.out.trans ⟨rfl, rfl, rfl, Nat.le_refl _, fun _ _ => rfl⟩)
      refine Go.Proofs.YtacokmkbikdmmaaGreatDoorW.PrintLast.start_ (n := 14) (S := (fun w' => w'.cell? ⟨W.heap.size, 0, none⟩ = some (.int .i64 20) ∧ w'.cell? ⟨W.heap.size, 1, none⟩ = some (.int .i64 x.op) ∧ w'.cell? ⟨W.heap.size, 2, none⟩ = some (.int .i64 x.ref) ∧ w'.cell? ⟨W.heap.size, 3, none⟩ = some (.int .i64 x.chain) ∧ w'.cell? ⟨W.heap.size, 4, none⟩ = some (.int .i64 x.flags) ∧ w'.cell? ⟨W.heap.size, 5, none⟩ = some (.float .f64 x.num) ∧ w'.cell? ⟨W.heap.size, 6, none⟩ = some (.slice x.sa x.sn x.sc) ∧ w'.cell? ⟨W.heap.size, 7, none⟩ = some (.string x.text) ∧ w'.cell? ⟨W.heap.size, 8, none⟩ = some (.slice x.ka 0 x.kc) ∧ w'.cell? ⟨W.heap.size, 9, none⟩ = some (.slice x.pa x.pn x.pc) ∧ w'.cell? ⟨W.heap.size, 10, none⟩ = some (.slice x.qa x.qn x.qc) ∧ w'.cell? ⟨W.heap.size, 11, none⟩ = some (.slice x.fa x.fn x.fc) ∧ w'.cell? ⟨W.heap.size, 12, none⟩ = some (.slice x.ca x.cn x.cc))) (ds := []) #[false, false, false, false, false, false, false, false, false, false, false, false, false, false] (by kernel_rfl) rfl rfl ⟨d0, d1, d2, d3, d4, d5, d6, d7, d8, d9, d10, d11, d12⟩ (fun hHeld0 => ?_)
      clear d0 d1 d2 d3 d4 d5 d6 d7 d8 d9 d10 d11 d12
      generalize w2.drew = wt0 at HT0 hHeld0 ⊢
      refine Go.Proofs.YtacokmkbikdmmaaGreatDoorW.PrintLast.pure_ (i := 0) (N := some 49) (v := ?_) (a' := ?_) #[true, false, false, false, false, false, false, false, false, false, false, false, false, false] rfl rfl (by kernel_rfl) (fun _ _ _ h => h) (Or.inl ⟨by rfl, ?_⟩) ?_ ?_
      rotate_left
      · intro w'
        go_simp
        with_reducible rfl
      rotate_left
      · simp only [Act.put, List.setIfInBounds_toArray, List.set_cons_zero, List.set_cons_succ]
        rfl
      refine Go.Proofs.YtacokmkbikdmmaaGreatDoorW.PrintLast.take_ (i := 1) (N := some 50) (v := ?_) (a' := ?_) #[true, true, false, false, false, false, false, false, false, false, false, false, false, false] rfl rfl (by kernel_rfl) (fun _ _ _ h => h) (Or.inl ⟨by rfl, ?_⟩) hHeld0 ?_ ?_
      rotate_left
      · rintro w' ⟨s0, s1, s2, s3, s4, s5, s6, s7, s8, s9, s10, s11, s12⟩
        go_simp
        with_reducible rfl
      rotate_left
      · simp only [Act.put, List.setIfInBounds_toArray, List.set_cons_zero, List.set_cons_succ]
        rfl
      refine Go.Proofs.YtacokmkbikdmmaaGreatDoorW.PrintLast.pure_ (i := 3) (N := some 52) (v := ?_) (a' := ?_) #[true, true, false, true, false, false, false, false, false, false, false, false, false, false] rfl rfl (by kernel_rfl) (fun _ _ _ h => h) (Or.inl ⟨by rfl, ?_⟩) ?_ ?_
      rotate_left
      · intro w'
        go_simp
        with_reducible rfl
      rotate_left
      · simp only [Act.put, List.setIfInBounds_toArray, List.set_cons_zero, List.set_cons_succ]
        rfl
      refine Go.Proofs.YtacokmkbikdmmaaGreatDoorW.PrintLast.take_ (i := 4) (N := some 53) (v := ?_) (a' := ?_) #[true, true, false, true, true, false, false, false, false, false, false, false, false, false] rfl rfl (by kernel_rfl) (fun _ _ _ h => h) (Or.inl ⟨by rfl, ?_⟩) hHeld0 ?_ ?_
      rotate_left
      · rintro w' ⟨s0, s1, s2, s3, s4, s5, s6, s7, s8, s9, s10, s11, s12⟩
        go_simp
        with_reducible rfl
      rotate_left
      · simp only [Act.put, List.setIfInBounds_toArray, List.set_cons_zero, List.set_cons_succ]
        rfl
      refine Go.Proofs.YtacokmkbikdmmaaGreatDoorW.PrintLast.pure_ (i := 6) (N := some 55) (v := ?_) (a' := ?_) #[true, true, false, true, true, false, true, false, false, false, false, false, false, false] rfl rfl (by kernel_rfl) (fun _ _ _ h => h) (Or.inl ⟨by rfl, ?_⟩) ?_ ?_
      rotate_left
      · intro w'
        go_simp
        with_reducible rfl
      rotate_left
      · simp only [Act.put, List.setIfInBounds_toArray, List.set_cons_zero, List.set_cons_succ]
        rfl
      refine Go.Proofs.YtacokmkbikdmmaaGreatDoorW.PrintLast.take_ (i := 7) (N := some 56) (v := ?_) (a' := ?_) #[true, true, false, true, true, false, true, true, false, false, false, false, false, false] rfl rfl (by kernel_rfl) (fun _ _ _ h => h) (Or.inl ⟨by rfl, ?_⟩) hHeld0 ?_ ?_
      rotate_left
      · rintro w' ⟨s0, s1, s2, s3, s4, s5, s6, s7, s8, s9, s10, s11, s12⟩
        go_simp
        with_reducible rfl
      rotate_left
      · simp only [Act.put, List.setIfInBounds_toArray, List.set_cons_zero, List.set_cons_succ]
        rfl
      refine Go.Proofs.YtacokmkbikdmmaaGreatDoorW.PrintLast.take_ (i := 9) (N := some 58) (v := ?_) (a' := ?_) #[true, true, false, true, true, false, true, true, false, true, false, false, false, false] rfl rfl (by kernel_rfl) (fun _ _ _ h => h) (Or.inl ⟨by rfl, ?_⟩) hHeld0 ?_ ?_
      rotate_left
      · rintro w' ⟨s0, s1, s2, s3, s4, s5, s6, s7, s8, s9, s10, s11, s12⟩
        go_simp
        with_reducible rfl
      rotate_left
      · simp only [Act.put, List.setIfInBounds_toArray, List.set_cons_zero, List.set_cons_succ]
        rfl
      refine Go.Proofs.YtacokmkbikdmmaaGreatDoorW.PrintLast.one_ (i := 2) (N := some 51) #[true, true, true, true, true, false, true, true, false, true, false, false, false, false] rfl rfl (by kernel_rfl) (by decide) (fun K hK => ?_)
      go_simp
      have hbt1 := (Below.refl wt0.heap.size wt0).alloc (Nat.le_refl _) (.cells #[] 81)
      have hnew := heap_alloc_new wt0 (.cells #[] 81)
      generalize wt0.alloc (.cells #[] 81) = wt1 at hbt1 hnew ⊢
      have HNEW := Lib.hid hnew
      clear hnew
      refine hK.out _ _ ⟨(hbt1.cell (World.block_lt_of_cell? _ _ hHeld0.1)).trans hHeld0.1, (hbt1.cell (World.block_lt_of_cell? _ _ hHeld0.2.1)).trans hHeld0.2.1, (hbt1.cell (World.block_lt_of_cell? _ _ hHeld0.2.2.1)).trans hHeld0.2.2.1, (hbt1.cell (World.block_lt_of_cell? _ _ hHeld0.2.2.2.1)).trans hHeld0.2.2.2.1, (hbt1.cell (World.block_lt_of_cell? _ _ hHeld0.2.2.2.2.1)).trans hHeld0.2.2.2.2.1, (hbt1.cell (World.block_lt_of_cell? _ _ hHeld0.2.2.2.2.2.1)).trans hHeld0.2.2.2.2.2.1, (hbt1.cell (World.block_lt_of_cell? _ _ hHeld0.2.2.2.2.2.2.1)).trans hHeld0.2.2.2.2.2.2.1, (hbt1.cell (World.block_lt_of_cell? _ _ hHeld0.2.2.2.2.2.2.2.1)).trans hHeld0.2.2.2.2.2.2.2.1, (hbt1.cell (World.block_lt_of_cell? _ _ hHeld0.2.2.2.2.2.2.2.2.1)).trans hHeld0.2.2.2.2.2.2.2.2.1, (hbt1.cell (World.block_lt_of_cell? _ _ hHeld0.2.2.2.2.2.2.2.2.2.1)).trans hHeld0.2.2.2.2.2.2.2.2.2.1, (hbt1.cell (World.block_lt_of_cell? _ _ hHeld0.2.2.2.2.2.2.2.2.2.2.1)).trans hHeld0.2.2.2.2.2.2.2.2.2.2.1, (hbt1.cell (World.block_lt_of_cell? _ _ hHeld0.2.2.2.2.2.2.2.2.2.2.2.1)).trans hHeld0.2.2.2.2.2.2.2.2.2.2.2.1, (hbt1.cell (World.block_lt_of_cell? _ _ hHeld0.2.2.2.2.2.2.2.2.2.2.2.2)).trans hHeld0.2.2.2.2.2.2.2.2.2.2.2.2⟩ (fun hHeld1 => ?_)
      clear hK K
      have HT1 := Lib.hid (hb2 HT0.out hbt1)
      have hbp := hbt1
      clear hbt1
      refine Go.Proofs.YtacokmkbikdmmaaGreatDoorW.PrintLast.one_ (i := 5) (N := some 54) #[true, true, true, true, true, true, true, true, false, true, false, false, false, false] rfl rfl (by kernel_rfl) (by decide) (fun K hK => ?_)
      have hown : wt1.ownsRow wt0.heap.size 81 1 (.slice (some ⟨wt0.heap.size, 0, none⟩) 0 0) 0 [] := ⟨rfl, .inr ⟨_, 0, #[], rfl, Nat.le_refl _, HNEW.out, Nat.le_refl _, by decide, rfl, rfl⟩⟩
      refine step_units rfl (.tmp 51) (.tmp 53) rfl wt0.heap.size _ rfl hown _ _ _ rfl (HX.out.1.imp (Nat.le_refl _) (below_cells (bl HX.out.2.2.2.2.1 hN HT1.out)) (fun _ h => h)) (HX.out.2.2.2.1.str) (Nat.le_of_lt (blk_lt HNEW.out)) ?_
      intro vsB vsC vsX wt2 hown2 hgr
      have HU2 := Lib.hid hown2
      have hbt2 := hbp.grown hgr hbp.size (own_base hown)
      refine hK.out _ _ ⟨(hbt2.cell (World.block_lt_of_cell? _ _ hHeld0.1)).trans hHeld0.1, (hbt2.cell (World.block_lt_of_cell? _ _ hHeld0.2.1)).trans hHeld0.2.1, (hbt2.cell (World.block_lt_of_cell? _ _ hHeld0.2.2.1)).trans hHeld0.2.2.1, (hbt2.cell (World.block_lt_of_cell? _ _ hHeld0.2.2.2.1)).trans hHeld0.2.2.2.1, (hbt2.cell (World.block_lt_of_cell? _ _ hHeld0.2.2.2.2.1)).trans hHeld0.2.2.2.2.1, (hbt2.cell (World.block_lt_of_cell? _ _ hHeld0.2.2.2.2.2.1)).trans hHeld0.2.2.2.2.2.1, (hbt2.cell (World.block_lt_of_cell? _ _ hHeld0.2.2.2.2.2.2.1)).trans hHeld0.2.2.2.2.2.2.1, (hbt2.cell (World.block_lt_of_cell? _ _ hHeld0.2.2.2.2.2.2.2.1)).trans hHeld0.2.2.2.2.2.2.2.1, (hbt2.cell (World.block_lt_of_cell? _ _ hHeld0.2.2.2.2.2.2.2.2.1)).trans hHeld0.2.2.2.2.2.2.2.2.1, (hbt2.cell (World.block_lt_of_cell? _ _ hHeld0.2.2.2.2.2.2.2.2.2.1)).trans hHeld0.2.2.2.2.2.2.2.2.2.1, (hbt2.cell (World.block_lt_of_cell? _ _ hHeld0.2.2.2.2.2.2.2.2.2.2.1)).trans hHeld0.2.2.2.2.2.2.2.2.2.2.1, (hbt2.cell (World.block_lt_of_cell? _ _ hHeld0.2.2.2.2.2.2.2.2.2.2.2.1)).trans hHeld0.2.2.2.2.2.2.2.2.2.2.2.1, (hbt2.cell (World.block_lt_of_cell? _ _ hHeld0.2.2.2.2.2.2.2.2.2.2.2.2)).trans hHeld0.2.2.2.2.2.2.2.2.2.2.2.2⟩ (fun hHeld2 => ?_)
      clear hK K
      have HT2 := Lib.hid (hb2 HT0.out hbt2)
      clear hbt2 hbp hgr hown hown2 hHeld0 hHeld1
      refine Go.Proofs.YtacokmkbikdmmaaGreatDoorW.PrintLast.one_ (i := 8) (N := some 57) #[true, true, true, true, true, true, true, true, true, true, false, false, false, false] rfl rfl (by kernel_rfl) (by decide) (fun K hK => ?_)
      go_simp
      refine (HH.out 64 _).mono ?_
      rintro e wt3 ⟨rfl, hbt3⟩
      refine hK.out _ _ ⟨(hbt3.cell (World.block_lt_of_cell? _ _ hHeld2.1)).trans hHeld2.1, (hbt3.cell (World.block_lt_of_cell? _ _ hHeld2.2.1)).trans hHeld2.2.1, (hbt3.cell (World.block_lt_of_cell? _ _ hHeld2.2.2.1)).trans hHeld2.2.2.1, (hbt3.cell (World.block_lt_of_cell? _ _ hHeld2.2.2.2.1)).trans hHeld2.2.2.2.1, (hbt3.cell (World.block_lt_of_cell? _ _ hHeld2.2.2.2.2.1)).trans hHeld2.2.2.2.2.1, (hbt3.cell (World.block_lt_of_cell? _ _ hHeld2.2.2.2.2.2.1)).trans hHeld2.2.2.2.2.2.1, (hbt3.cell (World.block_lt_of_cell? _ _ hHeld2.2.2.2.2.2.2.1)).trans hHeld2.2.2.2.2.2.2.1, (hbt3.cell (World.block_lt_of_cell? _ _ hHeld2.2.2.2.2.2.2.2.1)).trans hHeld2.2.2.2.2.2.2.2.1, (hbt3.cell (World.block_lt_of_cell? _ _ hHeld2.2.2.2.2.2.2.2.2.1)).trans hHeld2.2.2.2.2.2.2.2.2.1, (hbt3.cell (World.block_lt_of_cell? _ _ hHeld2.2.2.2.2.2.2.2.2.2.1)).trans hHeld2.2.2.2.2.2.2.2.2.2.1, (hbt3.cell (World.block_lt_of_cell? _ _ hHeld2.2.2.2.2.2.2.2.2.2.2.1)).trans hHeld2.2.2.2.2.2.2.2.2.2.2.1, (hbt3.cell (World.block_lt_of_cell? _ _ hHeld2.2.2.2.2.2.2.2.2.2.2.2.1)).trans hHeld2.2.2.2.2.2.2.2.2.2.2.2.1, (hbt3.cell (World.block_lt_of_cell? _ _ hHeld2.2.2.2.2.2.2.2.2.2.2.2.2)).trans hHeld2.2.2.2.2.2.2.2.2.2.2.2.2⟩ (fun hHeld3 => ?_)
      clear hK K
      have HT3 := Lib.hid (hb2 HT2.out hbt3)
      clear hbt3 hHeld2
      refine Go.Proofs.YtacokmkbikdmmaaGreatDoorW.PrintLast.one_ (i := 10) (N := some 59) #[true, true, true, true, true, true, true, true, true, true, true, false, false, false] rfl rfl (by kernel_rfl) (by decide) (fun K hK => ?_)
      go_simp
      refine (HH.out 128 _).mono ?_
      rintro e wt4 ⟨rfl, hbt4⟩
      refine hK.out _ _ ⟨(hbt4.cell (World.block_lt_of_cell? _ _ hHeld3.1)).trans hHeld3.1, (hbt4.cell (World.block_lt_of_cell? _ _ hHeld3.2.1)).trans hHeld3.2.1, (hbt4.cell (World.block_lt_of_cell? _ _ hHeld3.2.2.1)).trans hHeld3.2.2.1, (hbt4.cell (World.block_lt_of_cell? _ _ hHeld3.2.2.2.1)).trans hHeld3.2.2.2.1, (hbt4.cell (World.block_lt_of_cell? _ _ hHeld3.2.2.2.2.1)).trans hHeld3.2.2.2.2.1, (hbt4.cell (World.block_lt_of_cell? _ _ hHeld3.2.2.2.2.2.1)).trans hHeld3.2.2.2.2.2.1, (hbt4.cell (World.block_lt_of_cell? _ _ hHeld3.2.2.2.2.2.2.1)).trans hHeld3.2.2.2.2.2.2.1, (hbt4.cell (World.block_lt_of_cell? _ _ hHeld3.2.2.2.2.2.2.2.1)).trans hHeld3.2.2.2.2.2.2.2.1, (hbt4.cell (World.block_lt_of_cell? _ _ hHeld3.2.2.2.2.2.2.2.2.1)).trans hHeld3.2.2.2.2.2.2.2.2.1, (hbt4.cell (World.block_lt_of_cell? _ _ hHeld3.2.2.2.2.2.2.2.2.2.1)).trans hHeld3.2.2.2.2.2.2.2.2.2.1, (hbt4.cell (World.block_lt_of_cell? _ _ hHeld3.2.2.2.2.2.2.2.2.2.2.1)).trans hHeld3.2.2.2.2.2.2.2.2.2.2.1, (hbt4.cell (World.block_lt_of_cell? _ _ hHeld3.2.2.2.2.2.2.2.2.2.2.2.1)).trans hHeld3.2.2.2.2.2.2.2.2.2.2.2.1, (hbt4.cell (World.block_lt_of_cell? _ _ hHeld3.2.2.2.2.2.2.2.2.2.2.2.2)).trans hHeld3.2.2.2.2.2.2.2.2.2.2.2.2⟩ (fun hHeld4 => ?_)
      clear hK K
      have HT4 := Lib.hid (hb2 HT3.out hbt4)
      clear hbt4 hHeld3
      refine Go.Proofs.YtacokmkbikdmmaaGreatDoorW.PrintLast.pure_ (i := 11) (N := some 60) (v := ?_) (a' := ?_) #[true, true, true, true, true, true, true, true, true, true, true, true, false, false] rfl rfl (by kernel_rfl) (fun _ _ _ h => h) (Or.inl ⟨by rfl, ?_⟩) ?_ ?_
      rotate_left
      · intro w'
        go_simp
        with_reducible rfl
      rotate_left
      · simp only [Act.put, List.setIfInBounds_toArray, List.set_cons_zero, List.set_cons_succ]
        rfl
      refine Go.Proofs.YtacokmkbikdmmaaGreatDoorW.PrintLast.one_ (i := 12) (N := some 61) #[true, true, true, true, true, true, true, true, true, true, true, true, true, false] rfl rfl (by kernel_rfl) (by decide) (fun K hK => ?_)
      go_simp
      have hbt5 := (Below.refl wt4.heap.size wt4).alloc (Nat.le_refl _) (.cells #[.nilIface, .int .i32 0, .string x.text, .slice vsB x.sn vsC, .slice vA x.qn vC, .int .i32 0, .int .i32 0, .bool (bits .and .i64 x.flags 64 != 0), .bool (bits .and .i64 x.flags 128 != 0)] 206)
      have hnew := heap_alloc_new wt4 (.cells #[.nilIface, .int .i32 0, .string x.text, .slice vsB x.sn vsC, .slice vA x.qn vC, .int .i32 0, .int .i32 0, .bool (bits .and .i64 x.flags 64 != 0), .bool (bits .and .i64 x.flags 128 != 0)] 206)
      generalize wt4.alloc (.cells #[.nilIface, .int .i32 0, .string x.text, .slice vsB x.sn vsC, .slice vA x.qn vC, .int .i32 0, .int .i32 0, .bool (bits .and .i64 x.flags 64 != 0), .bool (bits .and .i64 x.flags 128 != 0)] 206) = wt5 at hbt5 hnew ⊢
      have HNEW := Lib.hid hnew
      clear hnew
      refine hK.out _ _ ⟨(hbt5.cell (World.block_lt_of_cell? _ _ hHeld4.1)).trans hHeld4.1, (hbt5.cell (World.block_lt_of_cell? _ _ hHeld4.2.1)).trans hHeld4.2.1, (hbt5.cell (World.block_lt_of_cell? _ _ hHeld4.2.2.1)).trans hHeld4.2.2.1, (hbt5.cell (World.block_lt_of_cell? _ _ hHeld4.2.2.2.1)).trans hHeld4.2.2.2.1, (hbt5.cell (World.block_lt_of_cell? _ _ hHeld4.2.2.2.2.1)).trans hHeld4.2.2.2.2.1, (hbt5.cell (World.block_lt_of_cell? _ _ hHeld4.2.2.2.2.2.1)).trans hHeld4.2.2.2.2.2.1, (hbt5.cell (World.block_lt_of_cell? _ _ hHeld4.2.2.2.2.2.2.1)).trans hHeld4.2.2.2.2.2.2.1, (hbt5.cell (World.block_lt_of_cell? _ _ hHeld4.2.2.2.2.2.2.2.1)).trans hHeld4.2.2.2.2.2.2.2.1, (hbt5.cell (World.block_lt_of_cell? _ _ hHeld4.2.2.2.2.2.2.2.2.1)).trans hHeld4.2.2.2.2.2.2.2.2.1, (hbt5.cell (World.block_lt_of_cell? _ _ hHeld4.2.2.2.2.2.2.2.2.2.1)).trans hHeld4.2.2.2.2.2.2.2.2.2.1, (hbt5.cell (World.block_lt_of_cell? _ _ hHeld4.2.2.2.2.2.2.2.2.2.2.1)).trans hHeld4.2.2.2.2.2.2.2.2.2.2.1, (hbt5.cell (World.block_lt_of_cell? _ _ hHeld4.2.2.2.2.2.2.2.2.2.2.2.1)).trans hHeld4.2.2.2.2.2.2.2.2.2.2.2.1, (hbt5.cell (World.block_lt_of_cell? _ _ hHeld4.2.2.2.2.2.2.2.2.2.2.2.2)).trans hHeld4.2.2.2.2.2.2.2.2.2.2.2.2⟩ (fun hHeld5 => ?_)
      clear hK K
      have HT5 := Lib.hid (hb2 HT4.out hbt5)
      clear hbt5 hHeld4
      refine Go.Proofs.YtacokmkbikdmmaaGreatDoorW.PrintLast.pure_ (i := 13) (N := some 10) (v := ?_) (a' := ?_) #[true, true, true, true, true, true, true, true, true, true, true, true, true, true] rfl rfl (by kernel_rfl) (fun _ _ _ h => h) (Or.inl ⟨by rfl, ?_⟩) ?_ ?_
      rotate_left
      · intro w'
        go_simp
        with_reducible rfl
      rotate_left
      · simp only [Act.put, List.setIfInBounds_toArray, List.set_cons_zero, List.set_cons_succ]
        rfl
      refine Go.Proofs.YtacokmkbikdmmaaGreatDoorW.PrintLast.done_ (by kernel_rfl) ?_
      clear hHeld5
      go_wp2_with (fail)
      go_ret2
      exact ⟨fun _ => ⟨(204, wt4.heap.size), rfl, ⟨fun h => by have := HKK.out; omega, fun h => by have := HKK.out; omega, fun h => by have := HKK.out; omega, fun _ _ _ => ⟨(by decide : (204 : Nat) ≠ 66), (by decide : (204 : Nat) ≠ 70), (by decide : (204 : Nat) ≠ 73)⟩⟩⟩, fun h => absurd (by have := HKK.out; omega) h, HT5.out⟩
    · clear hlt2
      have hh : ∀ (k : Int) (w : World), Calls Tryz.prog 55 #[.agg #[.int .i64 20, .int .i64 x.op, .int .i64 x.ref, .int .i64 x.chain, .int .i64 x.flags, .float .f64 x.num, .slice x.sa x.sn x.sc, .string x.text, .slice x.ka 1 x.kc, .slice x.pa x.pn x.pc, .slice x.qa x.qn x.qc, .slice x.fa x.fn x.fc, .slice x.ca x.cn x.cc], .int .i64 k] w (fun e w' => e = .returned (.bool (bits .and .i64 x.flags k != 0)) ∧ Below w.heap.size w w') := by
        intro k w
        have := has x k w
        rw [← HKK.out, ← HKN.out] at this
        exact this
      have HH := Lib.hid hh
      clear hh
      obtain ⟨p0, HL⟩ : ∃ p0 : Nd, Hid (ks = [p0]) := by
        have hl := HK.out.2.1
        rw [← HKN.out] at hl
        match ks, hl with
        | [p0], _ => exact ⟨p0, Lib.hid rfl⟩
      obtain ⟨g, rfl⟩ : ∃ g, A = some ⟨g, 0, none⟩ := by
        obtain ⟨g, e, _⟩ := HO.out 0 p0 (by rw [HL.out]; rfl)
        exact ⟨g, e⟩
      go_wp2_with (fail)
      refine (pieces n HX.out.2.2.2.2.2 x.qa x.qn x.qc N W0 _ HX.out.2.2.1 HX.out.2.2.2.1.parts (bl HX.out.2.2.2.2.1 hN HA.out) hN).mono ?_
      rintro e w2 ⟨v, xs, rfl, ho, hbel⟩
      obtain ⟨vA, vC, rfl⟩ := own_slice ho
      have HB2 := Lib.hid (hb2 HA.out hbel)
      have HO2 := Lib.hid (HO.out.below hbel)
      replace d0 := (hbel.cell (World.block_lt_of_cell? _ _ d0)).trans d0
      replace d1 := (hbel.cell (World.block_lt_of_cell? _ _ d1)).trans d1
      replace d2 := (hbel.cell (World.block_lt_of_cell? _ _ d2)).trans d2
      replace d3 := (hbel.cell (World.block_lt_of_cell? _ _ d3)).trans d3
      replace d4 := (hbel.cell (World.block_lt_of_cell? _ _ d4)).trans d4
      replace d5 := (hbel.cell (World.block_lt_of_cell? _ _ d5)).trans d5
      replace d6 := (hbel.cell (World.block_lt_of_cell? _ _ d6)).trans d6
      replace d7 := (hbel.cell (World.block_lt_of_cell? _ _ d7)).trans d7
      replace d8 := (hbel.cell (World.block_lt_of_cell? _ _ d8)).trans d8
      replace d9 := (hbel.cell (World.block_lt_of_cell? _ _ d9)).trans d9
      replace d10 := (hbel.cell (World.block_lt_of_cell? _ _ d10)).trans d10
      replace d11 := (hbel.cell (World.block_lt_of_cell? _ _ d11)).trans d11
      replace d12 := (hbel.cell (World.block_lt_of_cell? _ _ d12)).trans d12
      clear ho hbel
      have q0 : w2.cell? ⟨g, 0, none⟩ = some (.iface p0.1 (.pointer (some ⟨p0.2, 0, none⟩))) := by
        obtain ⟨g_, e_, h1, h2⟩ := HO2.out 0 p0 (by rw [HL.out]; rfl)
        cases e_
        exact h1
      have q1 : w2.cell? ⟨g, 1, none⟩ = some (.int .i32 0) := by
        obtain ⟨g_, e_, h1, h2⟩ := HO2.out 0 p0 (by rw [HL.out]; rfl)
        cases e_
        exact h2
      go_upto_region 8 with (fail)
      have HT0 := Lib.hid (show Below W.heap.size W w2.drew from HB2.out.trans ⟨rfl, rfl, rfl, Nat.le_refl _, fun _ _ => rfl⟩)
      refine Go.Proofs.YtacokmkbikdmmaaGreatDoorW.PrintLast.start_ (n := 14) (S := (fun w' => w'.cell? ⟨W.heap.size, 0, none⟩ = some (.int .i64 20) ∧ w'.cell? ⟨W.heap.size, 1, none⟩ = some (.int .i64 x.op) ∧ w'.cell? ⟨W.heap.size, 2, none⟩ = some (.int .i64 x.ref) ∧ w'.cell? ⟨W.heap.size, 3, none⟩ = some (.int .i64 x.chain) ∧ w'.cell? ⟨W.heap.size, 4, none⟩ = some (.int .i64 x.flags) ∧ w'.cell? ⟨W.heap.size, 5, none⟩ = some (.float .f64 x.num) ∧ w'.cell? ⟨W.heap.size, 6, none⟩ = some (.slice x.sa x.sn x.sc) ∧ w'.cell? ⟨W.heap.size, 7, none⟩ = some (.string x.text) ∧ w'.cell? ⟨W.heap.size, 8, none⟩ = some (.slice x.ka 1 x.kc) ∧ w'.cell? ⟨W.heap.size, 9, none⟩ = some (.slice x.pa x.pn x.pc) ∧ w'.cell? ⟨W.heap.size, 10, none⟩ = some (.slice x.qa x.qn x.qc) ∧ w'.cell? ⟨W.heap.size, 11, none⟩ = some (.slice x.fa x.fn x.fc) ∧ w'.cell? ⟨W.heap.size, 12, none⟩ = some (.slice x.ca x.cn x.cc) ∧ w'.cell? ⟨g, 0, none⟩ = some (.iface p0.1 (.pointer (some ⟨p0.2, 0, none⟩))) ∧ w'.cell? ⟨g, 1, none⟩ = some (.int .i32 0))) (ds := []) #[false, false, false, false, false, false, false, false, false, false, false, false, false, false] (by kernel_rfl) rfl rfl ⟨d0, d1, d2, d3, d4, d5, d6, d7, d8, d9, d10, d11, d12, q0, q1⟩ (fun hHeld0 => ?_)
      clear d0 d1 d2 d3 d4 d5 d6 d7 d8 d9 d10 d11 d12 q0 q1
      generalize w2.drew = wt0 at HT0 hHeld0 ⊢
      refine Go.Proofs.YtacokmkbikdmmaaGreatDoorW.PrintLast.pure_ (i := 0) (N := some 49) (v := ?_) (a' := ?_) #[true, false, false, false, false, false, false, false, false, false, false, false, false, false] rfl rfl (by kernel_rfl) (fun _ _ _ h => h) (Or.inl ⟨by rfl, ?_⟩) ?_ ?_
      rotate_left
      · intro w'
        go_simp
        with_reducible rfl
      rotate_left
      · simp only [Act.put, List.setIfInBounds_toArray, List.set_cons_zero, List.set_cons_succ]
        rfl
      refine Go.Proofs.YtacokmkbikdmmaaGreatDoorW.PrintLast.take_ (i := 1) (N := some 50) (v := ?_) (a' := ?_) #[true, true, false, false, false, false, false, false, false, false, false, false, false, false] rfl rfl (by kernel_rfl) (fun _ _ _ h => h) (Or.inl ⟨by rfl, ?_⟩) hHeld0 ?_ ?_
      rotate_left
      · rintro w' ⟨s0, s1, s2, s3, s4, s5, s6, s7, s8, s9, s10, s11, s12, s13, s14⟩
        go_simp
        with_reducible rfl
      rotate_left
      · simp only [Act.put, List.setIfInBounds_toArray, List.set_cons_zero, List.set_cons_succ]
        rfl
      refine Go.Proofs.YtacokmkbikdmmaaGreatDoorW.PrintLast.pure_ (i := 3) (N := some 52) (v := ?_) (a' := ?_) #[true, true, false, true, false, false, false, false, false, false, false, false, false, false] rfl rfl (by kernel_rfl) (fun _ _ _ h => h) (Or.inl ⟨by rfl, ?_⟩) ?_ ?_
      rotate_left
      · intro w'
        go_simp
        with_reducible rfl
      rotate_left
      · simp only [Act.put, List.setIfInBounds_toArray, List.set_cons_zero, List.set_cons_succ]
        rfl
      refine Go.Proofs.YtacokmkbikdmmaaGreatDoorW.PrintLast.take_ (i := 4) (N := some 53) (v := ?_) (a' := ?_) #[true, true, false, true, true, false, false, false, false, false, false, false, false, false] rfl rfl (by kernel_rfl) (fun _ _ _ h => h) (Or.inl ⟨by rfl, ?_⟩) hHeld0 ?_ ?_
      rotate_left
      · rintro w' ⟨s0, s1, s2, s3, s4, s5, s6, s7, s8, s9, s10, s11, s12, s13, s14⟩
        go_simp
        with_reducible rfl
      rotate_left
      · simp only [Act.put, List.setIfInBounds_toArray, List.set_cons_zero, List.set_cons_succ]
        rfl
      refine Go.Proofs.YtacokmkbikdmmaaGreatDoorW.PrintLast.pure_ (i := 6) (N := some 55) (v := ?_) (a' := ?_) #[true, true, false, true, true, false, true, false, false, false, false, false, false, false] rfl rfl (by kernel_rfl) (fun _ _ _ h => h) (Or.inl ⟨by rfl, ?_⟩) ?_ ?_
      rotate_left
      · intro w'
        go_simp
        with_reducible rfl
      rotate_left
      · simp only [Act.put, List.setIfInBounds_toArray, List.set_cons_zero, List.set_cons_succ]
        rfl
      refine Go.Proofs.YtacokmkbikdmmaaGreatDoorW.PrintLast.take_ (i := 7) (N := some 56) (v := ?_) (a' := ?_) #[true, true, false, true, true, false, true, true, false, false, false, false, false, false] rfl rfl (by kernel_rfl) (fun _ _ _ h => h) (Or.inl ⟨by rfl, ?_⟩) hHeld0 ?_ ?_
      rotate_left
      · rintro w' ⟨s0, s1, s2, s3, s4, s5, s6, s7, s8, s9, s10, s11, s12, s13, s14⟩
        go_simp
        with_reducible rfl
      rotate_left
      · simp only [Act.put, List.setIfInBounds_toArray, List.set_cons_zero, List.set_cons_succ]
        rfl
      refine Go.Proofs.YtacokmkbikdmmaaGreatDoorW.PrintLast.take_ (i := 9) (N := some 58) (v := ?_) (a' := ?_) #[true, true, false, true, true, false, true, true, false, true, false, false, false, false] rfl rfl (by kernel_rfl) (fun _ _ _ h => h) (Or.inl ⟨by rfl, ?_⟩) hHeld0 ?_ ?_
      rotate_left
      · rintro w' ⟨s0, s1, s2, s3, s4, s5, s6, s7, s8, s9, s10, s11, s12, s13, s14⟩
        go_simp
        with_reducible rfl
      rotate_left
      · simp only [Act.put, List.setIfInBounds_toArray, List.set_cons_zero, List.set_cons_succ]
        rfl
      refine Go.Proofs.YtacokmkbikdmmaaGreatDoorW.PrintLast.one_ (i := 2) (N := some 51) #[true, true, true, true, true, false, true, true, false, true, false, false, false, false] rfl rfl (by kernel_rfl) (by decide) (fun K hK => ?_)
      go_simp
      have hbt1 := (Below.refl wt0.heap.size wt0).alloc (Nat.le_refl _) (.cells #[] 81)
      have hnew := heap_alloc_new wt0 (.cells #[] 81)
      generalize wt0.alloc (.cells #[] 81) = wt1 at hbt1 hnew ⊢
      have HNEW := Lib.hid hnew
      clear hnew
      refine hK.out _ _ ⟨(hbt1.cell (World.block_lt_of_cell? _ _ hHeld0.1)).trans hHeld0.1, (hbt1.cell (World.block_lt_of_cell? _ _ hHeld0.2.1)).trans hHeld0.2.1, (hbt1.cell (World.block_lt_of_cell? _ _ hHeld0.2.2.1)).trans hHeld0.2.2.1, (hbt1.cell (World.block_lt_of_cell? _ _ hHeld0.2.2.2.1)).trans hHeld0.2.2.2.1, (hbt1.cell (World.block_lt_of_cell? _ _ hHeld0.2.2.2.2.1)).trans hHeld0.2.2.2.2.1, (hbt1.cell (World.block_lt_of_cell? _ _ hHeld0.2.2.2.2.2.1)).trans hHeld0.2.2.2.2.2.1, (hbt1.cell (World.block_lt_of_cell? _ _ hHeld0.2.2.2.2.2.2.1)).trans hHeld0.2.2.2.2.2.2.1, (hbt1.cell (World.block_lt_of_cell? _ _ hHeld0.2.2.2.2.2.2.2.1)).trans hHeld0.2.2.2.2.2.2.2.1, (hbt1.cell (World.block_lt_of_cell? _ _ hHeld0.2.2.2.2.2.2.2.2.1)).trans hHeld0.2.2.2.2.2.2.2.2.1, (hbt1.cell (World.block_lt_of_cell? _ _ hHeld0.2.2.2.2.2.2.2.2.2.1)).trans hHeld0.2.2.2.2.2.2.2.2.2.1, (hbt1.cell (World.block_lt_of_cell? _ _ hHeld0.2.2.2.2.2.2.2.2.2.2.1)).trans hHeld0.2.2.2.2.2.2.2.2.2.2.1, (hbt1.cell (World.block_lt_of_cell? _ _ hHeld0.2.2.2.2.2.2.2.2.2.2.2.1)).trans hHeld0.2.2.2.2.2.2.2.2.2.2.2.1, (hbt1.cell (World.block_lt_of_cell? _ _ hHeld0.2.2.2.2.2.2.2.2.2.2.2.2.1)).trans hHeld0.2.2.2.2.2.2.2.2.2.2.2.2.1, (hbt1.cell (World.block_lt_of_cell? _ _ hHeld0.2.2.2.2.2.2.2.2.2.2.2.2.2.1)).trans hHeld0.2.2.2.2.2.2.2.2.2.2.2.2.2.1, (hbt1.cell (World.block_lt_of_cell? _ _ hHeld0.2.2.2.2.2.2.2.2.2.2.2.2.2.2)).trans hHeld0.2.2.2.2.2.2.2.2.2.2.2.2.2.2⟩ (fun hHeld1 => ?_)
      clear hK K
      have HT1 := Lib.hid (hb2 HT0.out hbt1)
      have hbp := hbt1
      clear hbt1
      refine Go.Proofs.YtacokmkbikdmmaaGreatDoorW.PrintLast.one_ (i := 5) (N := some 54) #[true, true, true, true, true, true, true, true, false, true, false, false, false, false] rfl rfl (by kernel_rfl) (by decide) (fun K hK => ?_)
      have hown : wt1.ownsRow wt0.heap.size 81 1 (.slice (some ⟨wt0.heap.size, 0, none⟩) 0 0) 0 [] := ⟨rfl, .inr ⟨_, 0, #[], rfl, Nat.le_refl _, HNEW.out, Nat.le_refl _, by decide, rfl, rfl⟩⟩
      refine step_units rfl (.tmp 51) (.tmp 53) rfl wt0.heap.size _ rfl hown _ _ _ rfl (HX.out.1.imp (Nat.le_refl _) (below_cells (bl HX.out.2.2.2.2.1 hN HT1.out)) (fun _ h => h)) (HX.out.2.2.2.1.str) (Nat.le_of_lt (blk_lt HNEW.out)) ?_
      intro vsB vsC vsX wt2 hown2 hgr
      have HU2 := Lib.hid hown2
      have hbt2 := hbp.grown hgr hbp.size (own_base hown)
      refine hK.out _ _ ⟨(hbt2.cell (World.block_lt_of_cell? _ _ hHeld0.1)).trans hHeld0.1, (hbt2.cell (World.block_lt_of_cell? _ _ hHeld0.2.1)).trans hHeld0.2.1, (hbt2.cell (World.block_lt_of_cell? _ _ hHeld0.2.2.1)).trans hHeld0.2.2.1, (hbt2.cell (World.block_lt_of_cell? _ _ hHeld0.2.2.2.1)).trans hHeld0.2.2.2.1, (hbt2.cell (World.block_lt_of_cell? _ _ hHeld0.2.2.2.2.1)).trans hHeld0.2.2.2.2.1, (hbt2.cell (World.block_lt_of_cell? _ _ hHeld0.2.2.2.2.2.1)).trans hHeld0.2.2.2.2.2.1, (hbt2.cell (World.block_lt_of_cell? _ _ hHeld0.2.2.2.2.2.2.1)).trans hHeld0.2.2.2.2.2.2.1, (hbt2.cell (World.block_lt_of_cell? _ _ hHeld0.2.2.2.2.2.2.2.1)).trans hHeld0.2.2.2.2.2.2.2.1, (hbt2.cell (World.block_lt_of_cell? _ _ hHeld0.2.2.2.2.2.2.2.2.1)).trans hHeld0.2.2.2.2.2.2.2.2.1, (hbt2.cell (World.block_lt_of_cell? _ _ hHeld0.2.2.2.2.2.2.2.2.2.1)).trans hHeld0.2.2.2.2.2.2.2.2.2.1, (hbt2.cell (World.block_lt_of_cell? _ _ hHeld0.2.2.2.2.2.2.2.2.2.2.1)).trans hHeld0.2.2.2.2.2.2.2.2.2.2.1, (hbt2.cell (World.block_lt_of_cell? _ _ hHeld0.2.2.2.2.2.2.2.2.2.2.2.1)).trans hHeld0.2.2.2.2.2.2.2.2.2.2.2.1, (hbt2.cell (World.block_lt_of_cell? _ _ hHeld0.2.2.2.2.2.2.2.2.2.2.2.2.1)).trans hHeld0.2.2.2.2.2.2.2.2.2.2.2.2.1, (hbt2.cell (World.block_lt_of_cell? _ _ hHeld0.2.2.2.2.2.2.2.2.2.2.2.2.2.1)).trans hHeld0.2.2.2.2.2.2.2.2.2.2.2.2.2.1, (hbt2.cell (World.block_lt_of_cell? _ _ hHeld0.2.2.2.2.2.2.2.2.2.2.2.2.2.2)).trans hHeld0.2.2.2.2.2.2.2.2.2.2.2.2.2.2⟩ (fun hHeld2 => ?_)
      clear hK K
      have HT2 := Lib.hid (hb2 HT0.out hbt2)
      clear hbt2 hbp hgr hown hown2 hHeld0 hHeld1
      refine Go.Proofs.YtacokmkbikdmmaaGreatDoorW.PrintLast.one_ (i := 8) (N := some 57) #[true, true, true, true, true, true, true, true, true, true, false, false, false, false] rfl rfl (by kernel_rfl) (by decide) (fun K hK => ?_)
      go_simp
      refine (HH.out 64 _).mono ?_
      rintro e wt3 ⟨rfl, hbt3⟩
      refine hK.out _ _ ⟨(hbt3.cell (World.block_lt_of_cell? _ _ hHeld2.1)).trans hHeld2.1, (hbt3.cell (World.block_lt_of_cell? _ _ hHeld2.2.1)).trans hHeld2.2.1, (hbt3.cell (World.block_lt_of_cell? _ _ hHeld2.2.2.1)).trans hHeld2.2.2.1, (hbt3.cell (World.block_lt_of_cell? _ _ hHeld2.2.2.2.1)).trans hHeld2.2.2.2.1, (hbt3.cell (World.block_lt_of_cell? _ _ hHeld2.2.2.2.2.1)).trans hHeld2.2.2.2.2.1, (hbt3.cell (World.block_lt_of_cell? _ _ hHeld2.2.2.2.2.2.1)).trans hHeld2.2.2.2.2.2.1, (hbt3.cell (World.block_lt_of_cell? _ _ hHeld2.2.2.2.2.2.2.1)).trans hHeld2.2.2.2.2.2.2.1, (hbt3.cell (World.block_lt_of_cell? _ _ hHeld2.2.2.2.2.2.2.2.1)).trans hHeld2.2.2.2.2.2.2.2.1, (hbt3.cell (World.block_lt_of_cell? _ _ hHeld2.2.2.2.2.2.2.2.2.1)).trans hHeld2.2.2.2.2.2.2.2.2.1, (hbt3.cell (World.block_lt_of_cell? _ _ hHeld2.2.2.2.2.2.2.2.2.2.1)).trans hHeld2.2.2.2.2.2.2.2.2.2.1, (hbt3.cell (World.block_lt_of_cell? _ _ hHeld2.2.2.2.2.2.2.2.2.2.2.1)).trans hHeld2.2.2.2.2.2.2.2.2.2.2.1, (hbt3.cell (World.block_lt_of_cell? _ _ hHeld2.2.2.2.2.2.2.2.2.2.2.2.1)).trans hHeld2.2.2.2.2.2.2.2.2.2.2.2.1, (hbt3.cell (World.block_lt_of_cell? _ _ hHeld2.2.2.2.2.2.2.2.2.2.2.2.2.1)).trans hHeld2.2.2.2.2.2.2.2.2.2.2.2.2.1, (hbt3.cell (World.block_lt_of_cell? _ _ hHeld2.2.2.2.2.2.2.2.2.2.2.2.2.2.1)).trans hHeld2.2.2.2.2.2.2.2.2.2.2.2.2.2.1, (hbt3.cell (World.block_lt_of_cell? _ _ hHeld2.2.2.2.2.2.2.2.2.2.2.2.2.2.2)).trans hHeld2.2.2.2.2.2.2.2.2.2.2.2.2.2.2⟩ (fun hHeld3 => ?_)
      clear hK K
      have HT3 := Lib.hid (hb2 HT2.out hbt3)
      clear hbt3 hHeld2
      refine Go.Proofs.YtacokmkbikdmmaaGreatDoorW.PrintLast.one_ (i := 10) (N := some 59) #[true, true, true, true, true, true, true, true, true, true, true, false, false, false] rfl rfl (by kernel_rfl) (by decide) (fun K hK => ?_)
      go_simp
      refine (HH.out 128 _).mono ?_
      rintro e wt4 ⟨rfl, hbt4⟩
      refine hK.out _ _ ⟨(hbt4.cell (World.block_lt_of_cell? _ _ hHeld3.1)).trans hHeld3.1, (hbt4.cell (World.block_lt_of_cell? _ _ hHeld3.2.1)).trans hHeld3.2.1, (hbt4.cell (World.block_lt_of_cell? _ _ hHeld3.2.2.1)).trans hHeld3.2.2.1, (hbt4.cell (World.block_lt_of_cell? _ _ hHeld3.2.2.2.1)).trans hHeld3.2.2.2.1, (hbt4.cell (World.block_lt_of_cell? _ _ hHeld3.2.2.2.2.1)).trans hHeld3.2.2.2.2.1, (hbt4.cell (World.block_lt_of_cell? _ _ hHeld3.2.2.2.2.2.1)).trans hHeld3.2.2.2.2.2.1, (hbt4.cell (World.block_lt_of_cell? _ _ hHeld3.2.2.2.2.2.2.1)).trans hHeld3.2.2.2.2.2.2.1, (hbt4.cell (World.block_lt_of_cell? _ _ hHeld3.2.2.2.2.2.2.2.1)).trans hHeld3.2.2.2.2.2.2.2.1, (hbt4.cell (World.block_lt_of_cell? _ _ hHeld3.2.2.2.2.2.2.2.2.1)).trans hHeld3.2.2.2.2.2.2.2.2.1, (hbt4.cell (World.block_lt_of_cell? _ _ hHeld3.2.2.2.2.2.2.2.2.2.1)).trans hHeld3.2.2.2.2.2.2.2.2.2.1, (hbt4.cell (World.block_lt_of_cell? _ _ hHeld3.2.2.2.2.2.2.2.2.2.2.1)).trans hHeld3.2.2.2.2.2.2.2.2.2.2.1, (hbt4.cell (World.block_lt_of_cell? _ _ hHeld3.2.2.2.2.2.2.2.2.2.2.2.1)).trans hHeld3.2.2.2.2.2.2.2.2.2.2.2.1, (hbt4.cell (World.block_lt_of_cell? _ _ hHeld3.2.2.2.2.2.2.2.2.2.2.2.2.1)).trans hHeld3.2.2.2.2.2.2.2.2.2.2.2.2.1, (hbt4.cell (World.block_lt_of_cell? _ _ hHeld3.2.2.2.2.2.2.2.2.2.2.2.2.2.1)).trans hHeld3.2.2.2.2.2.2.2.2.2.2.2.2.2.1, (hbt4.cell (World.block_lt_of_cell? _ _ hHeld3.2.2.2.2.2.2.2.2.2.2.2.2.2.2)).trans hHeld3.2.2.2.2.2.2.2.2.2.2.2.2.2.2⟩ (fun hHeld4 => ?_)
      clear hK K
      have HT4 := Lib.hid (hb2 HT3.out hbt4)
      clear hbt4 hHeld3
      refine Go.Proofs.YtacokmkbikdmmaaGreatDoorW.PrintLast.pure_ (i := 11) (N := some 60) (v := ?_) (a' := ?_) #[true, true, true, true, true, true, true, true, true, true, true, true, false, false] rfl rfl (by kernel_rfl) (fun _ _ _ h => h) (Or.inl ⟨by rfl, ?_⟩) ?_ ?_
      rotate_left
      · intro w'
        go_simp
        with_reducible rfl
      rotate_left
      · simp only [Act.put, List.setIfInBounds_toArray, List.set_cons_zero, List.set_cons_succ]
        rfl
      refine Go.Proofs.YtacokmkbikdmmaaGreatDoorW.PrintLast.one_ (i := 12) (N := some 61) #[true, true, true, true, true, true, true, true, true, true, true, true, true, false] rfl rfl (by kernel_rfl) (by decide) (fun K hK => ?_)
      go_simp
      have hbt5 := (Below.refl wt4.heap.size wt4).alloc (Nat.le_refl _) (.cells #[.nilIface, .int .i32 0, .string x.text, .slice vsB x.sn vsC, .slice vA x.qn vC, .int .i32 0, .int .i32 0, .bool (bits .and .i64 x.flags 64 != 0), .bool (bits .and .i64 x.flags 128 != 0)] 206)
      have hnew := heap_alloc_new wt4 (.cells #[.nilIface, .int .i32 0, .string x.text, .slice vsB x.sn vsC, .slice vA x.qn vC, .int .i32 0, .int .i32 0, .bool (bits .and .i64 x.flags 64 != 0), .bool (bits .and .i64 x.flags 128 != 0)] 206)
      generalize wt4.alloc (.cells #[.nilIface, .int .i32 0, .string x.text, .slice vsB x.sn vsC, .slice vA x.qn vC, .int .i32 0, .int .i32 0, .bool (bits .and .i64 x.flags 64 != 0), .bool (bits .and .i64 x.flags 128 != 0)] 206) = wt5 at hbt5 hnew ⊢
      have HNEW := Lib.hid hnew
      clear hnew
      refine hK.out _ _ ⟨(hbt5.cell (World.block_lt_of_cell? _ _ hHeld4.1)).trans hHeld4.1, (hbt5.cell (World.block_lt_of_cell? _ _ hHeld4.2.1)).trans hHeld4.2.1, (hbt5.cell (World.block_lt_of_cell? _ _ hHeld4.2.2.1)).trans hHeld4.2.2.1, (hbt5.cell (World.block_lt_of_cell? _ _ hHeld4.2.2.2.1)).trans hHeld4.2.2.2.1, (hbt5.cell (World.block_lt_of_cell? _ _ hHeld4.2.2.2.2.1)).trans hHeld4.2.2.2.2.1, (hbt5.cell (World.block_lt_of_cell? _ _ hHeld4.2.2.2.2.2.1)).trans hHeld4.2.2.2.2.2.1, (hbt5.cell (World.block_lt_of_cell? _ _ hHeld4.2.2.2.2.2.2.1)).trans hHeld4.2.2.2.2.2.2.1, (hbt5.cell (World.block_lt_of_cell? _ _ hHeld4.2.2.2.2.2.2.2.1)).trans hHeld4.2.2.2.2.2.2.2.1, (hbt5.cell (World.block_lt_of_cell? _ _ hHeld4.2.2.2.2.2.2.2.2.1)).trans hHeld4.2.2.2.2.2.2.2.2.1, (hbt5.cell (World.block_lt_of_cell? _ _ hHeld4.2.2.2.2.2.2.2.2.2.1)).trans hHeld4.2.2.2.2.2.2.2.2.2.1, (hbt5.cell (World.block_lt_of_cell? _ _ hHeld4.2.2.2.2.2.2.2.2.2.2.1)).trans hHeld4.2.2.2.2.2.2.2.2.2.2.1, (hbt5.cell (World.block_lt_of_cell? _ _ hHeld4.2.2.2.2.2.2.2.2.2.2.2.1)).trans hHeld4.2.2.2.2.2.2.2.2.2.2.2.1, (hbt5.cell (World.block_lt_of_cell? _ _ hHeld4.2.2.2.2.2.2.2.2.2.2.2.2.1)).trans hHeld4.2.2.2.2.2.2.2.2.2.2.2.2.1, (hbt5.cell (World.block_lt_of_cell? _ _ hHeld4.2.2.2.2.2.2.2.2.2.2.2.2.2.1)).trans hHeld4.2.2.2.2.2.2.2.2.2.2.2.2.2.1, (hbt5.cell (World.block_lt_of_cell? _ _ hHeld4.2.2.2.2.2.2.2.2.2.2.2.2.2.2)).trans hHeld4.2.2.2.2.2.2.2.2.2.2.2.2.2.2⟩ (fun hHeld5 => ?_)
      clear hK K
      have HT5 := Lib.hid (hb2 HT4.out hbt5)
      clear hbt5 hHeld4
      refine Go.Proofs.YtacokmkbikdmmaaGreatDoorW.PrintLast.pure_ (i := 13) (N := some 10) (v := ?_) (a' := ?_) #[true, true, true, true, true, true, true, true, true, true, true, true, true, true] rfl rfl (by kernel_rfl) (fun _ _ _ h => h) (Or.inl ⟨by rfl, ?_⟩) ?_ ?_
      rotate_left
      · intro w'
        go_simp
        with_reducible rfl
      rotate_left
      · simp only [Act.put, List.setIfInBounds_toArray, List.set_cons_zero, List.set_cons_succ]
        rfl
      refine Go.Proofs.YtacokmkbikdmmaaGreatDoorW.PrintLast.done_ (by kernel_rfl) ?_
      obtain ⟨_, _, _, _, _, _, _, _, _, _, _, _, _, q0, q1⟩ := hHeld5
      have n0 := blk_cell HNEW.out 0
      have n1 := blk_cell HNEW.out 1
      have n2 := blk_cell HNEW.out 2
      have n3 := blk_cell HNEW.out 3
      have n4 := blk_cell HNEW.out 4
      have n5 := blk_cell HNEW.out 5
      have n6 := blk_cell HNEW.out 6
      have n7 := blk_cell HNEW.out 7
      have n8 := blk_cell HNEW.out 8
      have f0 := blk_frozen HNEW.out 0
      have f1 := blk_frozen HNEW.out 1
      have hne : g ≠ wt4.heap.size := fun e => by
        subst e
        have := q1.symm.trans (blk_cell HNEW.out 1)
        have h2 := q0.symm.trans (blk_cell HNEW.out 0)
        simp at h2
      have HSZ := Lib.hid (show W.heap.size ≤ wt4.heap.size from HT4.out.size)
      go_wp2_with (fail)
      go_ret2
      exact ⟨fun _ => ⟨(204, wt4.heap.size), rfl, ⟨fun h => by have := HKK.out; omega, fun h => by have := HKK.out; omega, fun h => by have := HKK.out; omega, fun _ _ _ => ⟨(by decide : (204 : Nat) ≠ 66), (by decide : (204 : Nat) ≠ 70), (by decide : (204 : Nat) ≠ 73)⟩⟩⟩, fun h => absurd (by have := HKK.out; omega) h, ((HT5.out.setCell (p := ⟨wt4.heap.size, 0, none⟩) HSZ.out _).setCell (p := ⟨wt4.heap.size, 1, none⟩) HSZ.out _)⟩
  · clear hlo hhi
    clear d1 d2 d3 d4 d5 d6 d7 d8 d9 d10 d11 d12
    go_wp2_with (fail)
    go_ret2
    exact ⟨fun h => by have := HKK.out; omega, fun _ => rfl, HD.out.2.1⟩
  · clear hlo hhi
    clear d1 d2 d3 d4 d5 d6 d7 d8 d9 d10 d11 d12
    go_wp2_with (fail)
    go_ret2
    exact ⟨fun h => by have := HKK.out; omega, fun _ => rfl, HD.out.2.1⟩
  · clear hlo hhi
    clear d1 d2 d3 d4 d5 d6 d7 d8 d9 d10 d11 d12
    go_wp2_with (fail)
    go_ret2
    exact ⟨fun h => by have := HKK.out; omega, fun _ => rfl, HD.out.2.1⟩
  · clear hlo hhi
    clear d1 d2 d3 d4 d5 d6 d7 d8 d9 d10 d11 d12
    go_wp2_with (fail)
    go_ret2
    exact ⟨fun h => by have := HKK.out; omega, fun _ => rfl, HD.out.2.1⟩
  · clear hlo hhi
    clear d1 d2 d3 d4 d5 d6 d7 d8 d9 d10 d11 d12
    go_wp2_with (fail)
    go_ret2
    exact ⟨fun h => by have := HKK.out; omega, fun _ => rfl, HD.out.2.1⟩
  · clear hlo hhi
    clear d1 d2 d3 d4 d5 d6 d7 d8 d9 d10 d11 d12
    go_wp2_with (fail)
    go_ret2
    exact ⟨fun h => by have := HKK.out; omega, fun _ => rfl, HD.out.2.1⟩
end Go.Proofs.YtacokmkbikdmmaaGreatDoor.trees
