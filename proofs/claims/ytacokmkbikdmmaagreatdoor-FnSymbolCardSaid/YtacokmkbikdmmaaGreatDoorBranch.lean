/-
  impl.branch: an expression with a fixed number of parts becomes a node of its kind.
  Conditions: none.
-/
import Derived.Test.YtacokmkbikdmmaaGreatDoorAccess
import Derived.Test.YtacokmkbikdmmaaGreatDoorWLast
import Derived.Laws.BitsAllLaws
namespace Go.Proofs.YtacokmkbikdmmaaGreatDoor.trees
open Go Go.RowKit
set_option linter.unusedVariables false
set_option linter.unusedSimpArgs false

attribute [local go_sem] run_store_float
set_option maxHeartbeats 4000000 in
set_option maxRecDepth 100000 in
theorem branch (x : X) (A : Option Addr) (cap : Nat) (ks : List Nd) (W : World) (hk : Kc x) (hl : ks.length = x.kn) (hO : Outs W A ks) (hc : x.kn ≤ cap) (hm : cap ≤ maxLen) : Calls Tryz.prog 33 #[.agg #[.int .i64 x.kind, .int .i64 x.op, .int .i64 x.ref, .int .i64 x.chain, .int .i64 x.flags, .float .f64 x.num, .slice x.sa x.sn x.sc, .string x.text, .slice x.ka x.kn x.kc, .slice x.pa x.pn x.pc, .slice x.qa x.qn x.qc, .slice x.fa x.fn x.fc, .slice x.ca x.cn x.cc], .slice A x.kn cap] W (fun e w' => NodeR (x.kind = 10 ∨ x.kind = 13 ∨ x.kind = 14 ∨ x.kind = 15 ∨ x.kind = 23 ∨ x.kind = 24) x W e w') := by
  have HK := Lib.hid (⟨hk, hl, hO, hm⟩ : _ ∧ _ ∧ _ ∧ _)
  have hcap : x.kn ≤ cap := hc
  clear hk hl hO hm hc
  go_enter Tryz.func33, Tryz.ntmps33
  go_upto_region 1 with (fail)
  have hD := heap_alloc_new W (.cells #[.int .i64 x.kind, .int .i64 x.op, .int .i64 x.ref, .int .i64 x.chain, .int .i64 x.flags, .float .f64 x.num, .slice x.sa x.sn x.sc, .string x.text, .slice x.ka x.kn x.kc, .slice x.pa x.pn x.pc, .slice x.qa x.qn x.qc, .slice x.fa x.fn x.fc, .slice x.ca x.cn x.cc] 30)
  have hDb := (Below.refl W.heap.size W).alloc (Nat.le_refl _) (.cells #[.int .i64 x.kind, .int .i64 x.op, .int .i64 x.ref, .int .i64 x.chain, .int .i64 x.flags, .float .f64 x.num, .slice x.sa x.sn x.sc, .string x.text, .slice x.ka x.kn x.kc, .slice x.pa x.pn x.pc, .slice x.qa x.qn x.qc, .slice x.fa x.fn x.fc, .slice x.ca x.cn x.cc] 30)
  have hDs : (W.alloc (.cells #[.int .i64 x.kind, .int .i64 x.op, .int .i64 x.ref, .int .i64 x.chain, .int .i64 x.flags, .float .f64 x.num, .slice x.sa x.sn x.sc, .string x.text, .slice x.ka x.kn x.kc, .slice x.pa x.pn x.pc, .slice x.qa x.qn x.qc, .slice x.fa x.fn x.fc, .slice x.ca x.cn x.cc] 30)).heap.size = W.heap.size + 1 := by simp
  generalize W.alloc (.cells #[.int .i64 x.kind, .int .i64 x.op, .int .i64 x.ref, .int .i64 x.chain, .int .i64 x.flags, .float .f64 x.num, .slice x.sa x.sn x.sc, .string x.text, .slice x.ka x.kn x.kc, .slice x.pa x.pn x.pc, .slice x.qa x.qn x.qc, .slice x.fa x.fn x.fc, .slice x.ca x.cn x.cc] 30) = w1 at hD hDb hDs ⊢
  have d0 : w1.cell? ⟨W.heap.size, 0, none⟩ = some (.int .i64 x.kind) := blk_cell hD 0
  have d1 : w1.cell? ⟨W.heap.size, 1, none⟩ = some (.int .i64 x.op) := blk_cell hD 1
  have d2 : w1.cell? ⟨W.heap.size, 2, none⟩ = some (.int .i64 x.ref) := blk_cell hD 2
  have d3 : w1.cell? ⟨W.heap.size, 3, none⟩ = some (.int .i64 x.chain) := blk_cell hD 3
  have d4 : w1.cell? ⟨W.heap.size, 4, none⟩ = some (.int .i64 x.flags) := blk_cell hD 4
  have d5 : w1.cell? ⟨W.heap.size, 5, none⟩ = some (.float .f64 x.num) := blk_cell hD 5
  have d6 : w1.cell? ⟨W.heap.size, 6, none⟩ = some (.slice x.sa x.sn x.sc) := blk_cell hD 6
  have d7 : w1.cell? ⟨W.heap.size, 7, none⟩ = some (.string x.text) := blk_cell hD 7
  have d8 : w1.cell? ⟨W.heap.size, 8, none⟩ = some (.slice x.ka x.kn x.kc) := blk_cell hD 8
  have d9 : w1.cell? ⟨W.heap.size, 9, none⟩ = some (.slice x.pa x.pn x.pc) := blk_cell hD 9
  have d10 : w1.cell? ⟨W.heap.size, 10, none⟩ = some (.slice x.qa x.qn x.qc) := blk_cell hD 10
  have d11 : w1.cell? ⟨W.heap.size, 11, none⟩ = some (.slice x.fa x.fn x.fc) := blk_cell hD 11
  have d12 : w1.cell? ⟨W.heap.size, 12, none⟩ = some (.slice x.ca x.cn x.cc) := blk_cell hD 12
  have HD := Lib.hid (⟨hD, hDb, hDs⟩ : _ ∧ _ ∧ _)
  clear hD hDb hDs
  have HO := Lib.hid (HK.out.2.2.1.below HD.out.2.1)
  generalize Value.agg #[.int .i64 x.kind, .int .i64 x.op, .int .i64 x.ref, .int .i64 x.chain, .int .i64 x.flags, .float .f64 x.num, .slice x.sa x.sn x.sc, .string x.text, .slice x.ka x.kn x.kc, .slice x.pa x.pn x.pc, .slice x.qa x.qn x.qc, .slice x.fa x.fn x.fc, .slice x.ca x.cn x.cc] = arg
  have hlo := HK.out.1.lo
  have hhi := HK.out.1.hi
  obtain ⟨kk, hkk⟩ : ∃ kk, kk = x.kind := ⟨_, rfl⟩
  rw [← hkk] at d0 hlo hhi
  have HKK := Lib.hid hkk
  clear hkk
  obtain ⟨kn, hkn⟩ : ∃ kn, kn = x.kn := ⟨_, rfl⟩
  have HKN := Lib.hid hkn
  rw [← hkn] at d8 hcap ⊢
  clear hkn
  rcases (show kk = 0 ∨ kk = 1 ∨ kk = 2 ∨ kk = 3 ∨ kk = 4 ∨ kk = 5 ∨ kk = 6 ∨ kk = 7 ∨ kk = 8 ∨ kk = 9 ∨ kk = 10 ∨ kk = 11 ∨ kk = 12 ∨ kk = 13 ∨ kk = 14 ∨ kk = 15 ∨ kk = 16 ∨ kk = 17 ∨ kk = 18 ∨ kk = 19 ∨ kk = 20 ∨ kk = 21 ∨ kk = 22 ∨ kk = 23 ∨ kk = 24 ∨ kk = 25 ∨ kk = 26 by omega) with rfl | rfl | rfl | rfl | rfl | rfl | rfl | rfl | rfl | rfl | rfl | rfl | rfl | rfl | rfl | rfl | rfl | rfl | rfl | rfl | rfl | rfl | rfl | rfl | rfl | rfl | rfl
  · clear hlo hhi
    clear d1 d2 d3 d4 d5 d6 d7 d8 d9 d10 d11 d12
    go_wp2_with (fail)
    go_ret2
    exact ⟨fun h => by have := HKK.out; omega, fun _ => rfl, HD.out.2.1⟩
  · clear hlo hhi
    clear d1 d2 d3 d4 d5 d6 d7 d8 d9 d10 d11 d12
    go_wp2_with (fail)
    go_ret2
    exact ⟨fun h => by have := HKK.out; omega, fun _ => rfl, HD.out.2.1⟩
  · clear hlo hhi
    clear d1 d2 d3 d4 d5 d6 d7 d8 d9 d10 d11 d12
    go_wp2_with (fail)
    go_ret2
    exact ⟨fun h => by have := HKK.out; omega, fun _ => rfl, HD.out.2.1⟩
  · clear hlo hhi
    clear d1 d2 d3 d4 d5 d6 d7 d8 d9 d10 d11 d12
    go_wp2_with (fail)
    go_ret2
    exact ⟨fun h => by have := HKK.out; omega, fun _ => rfl, HD.out.2.1⟩
  · clear hlo hhi
    clear d1 d2 d3 d4 d5 d6 d7 d8 d9 d10 d11 d12
    go_wp2_with (fail)
    go_ret2
    exact ⟨fun h => by have := HKK.out; omega, fun _ => rfl, HD.out.2.1⟩
  · clear hlo hhi
    clear d1 d2 d3 d4 d5 d6 d7 d8 d9 d10 d11 d12
    go_wp2_with (fail)
    go_ret2
    exact ⟨fun h => by have := HKK.out; omega, fun _ => rfl, HD.out.2.1⟩
  · clear hlo hhi
    clear d1 d2 d3 d4 d5 d6 d7 d8 d9 d10 d11 d12
    go_wp2_with (fail)
    go_ret2
    exact ⟨fun h => by have := HKK.out; omega, fun _ => rfl, HD.out.2.1⟩
  · clear hlo hhi
    clear d1 d2 d3 d4 d5 d6 d7 d8 d9 d10 d11 d12
    go_wp2_with (fail)
    go_ret2
    exact ⟨fun h => by have := HKK.out; omega, fun _ => rfl, HD.out.2.1⟩
  · clear hlo hhi
    clear d1 d2 d3 d4 d5 d6 d7 d8 d9 d10 d11 d12
    go_wp2_with (fail)
    go_ret2
    exact ⟨fun h => by have := HKK.out; omega, fun _ => rfl, HD.out.2.1⟩
  · clear hlo hhi
    clear d1 d2 d3 d4 d5 d6 d7 d8 d9 d10 d11 d12
    go_wp2_with (fail)
    go_ret2
    exact ⟨fun h => by have := HKK.out; omega, fun _ => rfl, HD.out.2.1⟩
  · clear hlo hhi
    obtain rfl : kn = 1 := HKN.out.trans (HK.out.1.spread HKK.out.symm)
    obtain ⟨p0, HL⟩ : ∃ p0 : Nd, Hid (ks = [p0]) := by
      have hl := HK.out.2.1
      rw [← HKN.out] at hl
      match ks, hl with
      | [p0], _ => exact ⟨p0, Lib.hid rfl⟩
    obtain ⟨g, rfl⟩ : ∃ g, A = some ⟨g, 0, none⟩ := by
      obtain ⟨g, e, _⟩ := HO.out 0 p0 (by rw [HL.out]; rfl)
      exact ⟨g, e⟩
    have q0 : w1.cell? ⟨g, 0, none⟩ = some (.iface p0.1 (.pointer (some ⟨p0.2, 0, none⟩))) := by
      obtain ⟨g_, e_, h1, h2⟩ := HO.out 0 p0 (by rw [HL.out]; rfl)
      cases e_
      exact h1
    have q1 : w1.cell? ⟨g, 1, none⟩ = some (.int .i32 0) := by
      obtain ⟨g_, e_, h1, h2⟩ := HO.out 0 p0 (by rw [HL.out]; rfl)
      cases e_
      exact h2
    have hh : ∀ (k : Int) (w : World), Calls Tryz.prog 55 #[.agg #[.int .i64 10, .int .i64 x.op, .int .i64 x.ref, .int .i64 x.chain, .int .i64 x.flags, .float .f64 x.num, .slice x.sa x.sn x.sc, .string x.text, .slice x.ka 1 x.kc, .slice x.pa x.pn x.pc, .slice x.qa x.qn x.qc, .slice x.fa x.fn x.fc, .slice x.ca x.cn x.cc], .int .i64 k] w (fun e w' => e = .returned (.bool (bits .and .i64 x.flags k != 0)) ∧ Below w.heap.size w w') := by
      intro k w
      have := has x k w
      rw [← HKK.out, ← HKN.out] at this
      exact this
    have HH := Lib.hid hh
    clear hh
    have HA := Lib.hid HD.out.2.1
    have hba := fun o => hb2 HA.out ((Below.refl w1.heap.size w1).alloc (Nat.le_refl _) o)
    have HBA := Lib.hid hba
    clear hba
    go_wp2_with (fail)
    go_ret2
    exact ⟨fun _ => ⟨(171, w1.heap.size), rfl, ⟨fun h => by have := HKK.out; omega, fun h => by have := HKK.out; omega, fun h => by have := HKK.out; omega, fun _ _ _ => ⟨(by decide : (171 : Nat) ≠ 66), (by decide : (171 : Nat) ≠ 70), (by decide : (171 : Nat) ≠ 73)⟩⟩⟩, fun h => absurd (by have := HKK.out; omega) h, HBA.out _⟩
  · clear hlo hhi
    clear d1 d2 d3 d4 d5 d6 d7 d8 d9 d10 d11 d12
    go_wp2_with (fail)
    go_ret2
    exact ⟨fun h => by have := HKK.out; omega, fun _ => rfl, HD.out.2.1⟩
  · clear hlo hhi
    clear d1 d2 d3 d4 d5 d6 d7 d8 d9 d10 d11 d12
    go_wp2_with (fail)
    go_ret2
    exact ⟨fun h => by have := HKK.out; omega, fun _ => rfl, HD.out.2.1⟩
  · clear hlo hhi
    obtain rfl : kn = 1 := HKN.out.trans (HK.out.1.unary HKK.out.symm)
    obtain ⟨p0, HL⟩ : ∃ p0 : Nd, Hid (ks = [p0]) := by
      have hl := HK.out.2.1
      rw [← HKN.out] at hl
      match ks, hl with
      | [p0], _ => exact ⟨p0, Lib.hid rfl⟩
    obtain ⟨g, rfl⟩ : ∃ g, A = some ⟨g, 0, none⟩ := by
      obtain ⟨g, e, _⟩ := HO.out 0 p0 (by rw [HL.out]; rfl)
      exact ⟨g, e⟩
    have q0 : w1.cell? ⟨g, 0, none⟩ = some (.iface p0.1 (.pointer (some ⟨p0.2, 0, none⟩))) := by
      obtain ⟨g_, e_, h1, h2⟩ := HO.out 0 p0 (by rw [HL.out]; rfl)
      cases e_
      exact h1
    have q1 : w1.cell? ⟨g, 1, none⟩ = some (.int .i32 0) := by
      obtain ⟨g_, e_, h1, h2⟩ := HO.out 0 p0 (by rw [HL.out]; rfl)
      cases e_
      exact h2
    have hh : ∀ (k : Int) (w : World), Calls Tryz.prog 55 #[.agg #[.int .i64 13, .int .i64 x.op, .int .i64 x.ref, .int .i64 x.chain, .int .i64 x.flags, .float .f64 x.num, .slice x.sa x.sn x.sc, .string x.text, .slice x.ka 1 x.kc, .slice x.pa x.pn x.pc, .slice x.qa x.qn x.qc, .slice x.fa x.fn x.fc, .slice x.ca x.cn x.cc], .int .i64 k] w (fun e w' => e = .returned (.bool (bits .and .i64 x.flags k != 0)) ∧ Below w.heap.size w w') := by
      intro k w
      have := has x k w
      rw [← HKK.out, ← HKN.out] at this
      exact this
    have HH := Lib.hid hh
    clear hh
    have HA := Lib.hid HD.out.2.1
    go_upto_region 4 with (fail)
    have HT0 := Lib.hid (show Below W.heap.size W w1.drew from HA.out.trans ⟨rfl, rfl, rfl, Nat.le_refl _, fun _ _ => rfl⟩)
    refine Go.Proofs.YtacokmkbikdmmaaGreatDoorW.PrintLast.start_ (n := 15) (S := (fun w' => w'.cell? ⟨W.heap.size, 0, none⟩ = some (.int .i64 13) ∧ w'.cell? ⟨W.heap.size, 1, none⟩ = some (.int .i64 x.op) ∧ w'.cell? ⟨W.heap.size, 2, none⟩ = some (.int .i64 x.ref) ∧ w'.cell? ⟨W.heap.size, 3, none⟩ = some (.int .i64 x.chain) ∧ w'.cell? ⟨W.heap.size, 4, none⟩ = some (.int .i64 x.flags) ∧ w'.cell? ⟨W.heap.size, 5, none⟩ = some (.float .f64 x.num) ∧ w'.cell? ⟨W.heap.size, 6, none⟩ = some (.slice x.sa x.sn x.sc) ∧ w'.cell? ⟨W.heap.size, 7, none⟩ = some (.string x.text) ∧ w'.cell? ⟨W.heap.size, 8, none⟩ = some (.slice x.ka 1 x.kc) ∧ w'.cell? ⟨W.heap.size, 9, none⟩ = some (.slice x.pa x.pn x.pc) ∧ w'.cell? ⟨W.heap.size, 10, none⟩ = some (.slice x.qa x.qn x.qc) ∧ w'.cell? ⟨W.heap.size, 11, none⟩ = some (.slice x.fa x.fn x.fc) ∧ w'.cell? ⟨W.heap.size, 12, none⟩ = some (.slice x.ca x.cn x.cc) ∧ w'.cell? ⟨g, 0, none⟩ = some (.iface p0.1 (.pointer (some ⟨p0.2, 0, none⟩))) ∧ w'.cell? ⟨g, 1, none⟩ = some (.int .i32 0))) (ds := []) #[false, false, false, false, false, false, false, false, false, false, false, false, false, false, false] (by kernel_rfl) rfl rfl ⟨d0, d1, d2, d3, d4, d5, d6, d7, d8, d9, d10, d11, d12, q0, q1⟩ (fun hHeld0 => ?_)
    clear d0 d1 d2 d3 d4 d5 d6 d7 d8 d9 d10 d11 d12 q0 q1
    generalize w1.drew = wt0 at HT0 hHeld0 ⊢
    refine Go.Proofs.YtacokmkbikdmmaaGreatDoorW.PrintLast.pure_ (i := 0) (N := some 31) (v := ?_) (a' := ?_) #[true, false, false, false, false, false, false, false, false, false, false, false, false, false, false] rfl rfl (by kernel_rfl) (fun _ _ _ h => h) (Or.inl ⟨by rfl, ?_⟩) ?_ ?_
    rotate_left
    · intro w'
      go_simp
      with_reducible rfl
    rotate_left
    · simp only [Act.put, List.setIfInBounds_toArray, List.set_cons_zero, List.set_cons_succ]
      rfl
    refine Go.Proofs.YtacokmkbikdmmaaGreatDoorW.PrintLast.take_ (i := 1) (N := some 32) (v := ?_) (a' := ?_) #[true, true, false, false, false, false, false, false, false, false, false, false, false, false, false] rfl rfl (by kernel_rfl) (fun _ _ _ h => h) (Or.inl ⟨by rfl, ?_⟩) hHeld0 ?_ ?_
    rotate_left
    · rintro w' ⟨s0, s1, s2, s3, s4, s5, s6, s7, s8, s9, s10, s11, s12, s13, s14⟩
      go_simp
      with_reducible rfl
    rotate_left
    · simp only [Act.put, List.setIfInBounds_toArray, List.set_cons_zero, List.set_cons_succ]
      rfl
    refine Go.Proofs.YtacokmkbikdmmaaGreatDoorW.PrintLast.pure_ (i := 2) (N := some 33) (v := ?_) (a' := ?_) #[true, true, true, false, false, false, false, false, false, false, false, false, false, false, false] rfl rfl (by kernel_rfl) (fun _ _ _ h => h) (Or.inl ⟨by rfl, ?_⟩) ?_ ?_
    rotate_left
    · intro w'
      go_simp
      with_reducible rfl
    rotate_left
    · simp only [Act.put, List.setIfInBounds_toArray, List.set_cons_zero, List.set_cons_succ]
      rfl
    refine Go.Proofs.YtacokmkbikdmmaaGreatDoorW.PrintLast.pure_ (i := 3) (N := some 34) (v := ?_) (a' := ?_) #[true, true, true, true, false, false, false, false, false, false, false, false, false, false, false] rfl rfl (by kernel_rfl) (fun _ _ _ h => h) (Or.inl ⟨by rfl, ?_⟩) ?_ ?_
    rotate_left
    · intro w'
      go_simp
      with_reducible rfl
    rotate_left
    · simp only [Act.put, List.setIfInBounds_toArray, List.set_cons_zero, List.set_cons_succ]
      rfl
    refine Go.Proofs.YtacokmkbikdmmaaGreatDoorW.PrintLast.pure_ (i := 4) (N := some 35) (v := ?_) (a' := ?_) #[true, true, true, true, true, false, false, false, false, false, false, false, false, false, false] rfl rfl (by kernel_rfl) (fun _ _ _ h => h) (Or.inl ⟨by rfl, ?_⟩) ?_ ?_
    rotate_left
    · intro w'
      go_simp
      with_reducible rfl
    rotate_left
    · simp only [Act.put, List.setIfInBounds_toArray, List.set_cons_zero, List.set_cons_succ]
      rfl
    refine Go.Proofs.YtacokmkbikdmmaaGreatDoorW.PrintLast.take_ (i := 5) (N := some 36) (v := ?_) (a' := ?_) #[true, true, true, true, true, true, false, false, false, false, false, false, false, false, false] rfl rfl (by kernel_rfl) (fun _ _ _ h => h) (Or.inl ⟨by rfl, ?_⟩) hHeld0 ?_ ?_
    rotate_left
    · rintro w' ⟨s0, s1, s2, s3, s4, s5, s6, s7, s8, s9, s10, s11, s12, s13, s14⟩
      go_simp
      with_reducible rfl
    rotate_left
    · simp only [Act.put, List.setIfInBounds_toArray, List.set_cons_zero, List.set_cons_succ]
      rfl
    refine Go.Proofs.YtacokmkbikdmmaaGreatDoorW.PrintLast.take_ (i := 6) (N := some 37) (v := ?_) (a' := ?_) #[true, true, true, true, true, true, true, false, false, false, false, false, false, false, false] rfl rfl (by kernel_rfl) (fun _ _ _ h => h) (Or.inl ⟨by rfl, ?_⟩) hHeld0 ?_ ?_
    rotate_left
    · rintro w' ⟨s0, s1, s2, s3, s4, s5, s6, s7, s8, s9, s10, s11, s12, s13, s14⟩
      go_simp
      with_reducible rfl
    rotate_left
    · simp only [Act.put, List.setIfInBounds_toArray, List.set_cons_zero, List.set_cons_succ]
      rfl
    refine Go.Proofs.YtacokmkbikdmmaaGreatDoorW.PrintLast.take_ (i := 8) (N := some 39) (v := ?_) (a' := ?_) #[true, true, true, true, true, true, true, false, true, false, false, false, false, false, false] rfl rfl (by kernel_rfl) (fun _ _ _ h => h) (Or.inl ⟨by rfl, ?_⟩) hHeld0 ?_ ?_
    rotate_left
    · rintro w' ⟨s0, s1, s2, s3, s4, s5, s6, s7, s8, s9, s10, s11, s12, s13, s14⟩
      go_simp
      with_reducible rfl
    rotate_left
    · simp only [Act.put, List.setIfInBounds_toArray, List.set_cons_zero, List.set_cons_succ]
      rfl
    refine Go.Proofs.YtacokmkbikdmmaaGreatDoorW.PrintLast.one_ (i := 7) (N := some 38) #[true, true, true, true, true, true, true, true, true, false, false, false, false, false, false] rfl rfl (by kernel_rfl) (by decide) (fun K hK => ?_)
    go_simp
    refine (HH.out 16 _).mono ?_
    rintro e wt1 ⟨rfl, hbt1⟩
    refine hK.out _ _ ⟨(hbt1.cell (World.block_lt_of_cell? _ _ hHeld0.1)).trans hHeld0.1, (hbt1.cell (World.block_lt_of_cell? _ _ hHeld0.2.1)).trans hHeld0.2.1, (hbt1.cell (World.block_lt_of_cell? _ _ hHeld0.2.2.1)).trans hHeld0.2.2.1, (hbt1.cell (World.block_lt_of_cell? _ _ hHeld0.2.2.2.1)).trans hHeld0.2.2.2.1, (hbt1.cell (World.block_lt_of_cell? _ _ hHeld0.2.2.2.2.1)).trans hHeld0.2.2.2.2.1, (hbt1.cell (World.block_lt_of_cell? _ _ hHeld0.2.2.2.2.2.1)).trans hHeld0.2.2.2.2.2.1, (hbt1.cell (World.block_lt_of_cell? _ _ hHeld0.2.2.2.2.2.2.1)).trans hHeld0.2.2.2.2.2.2.1, (hbt1.cell (World.block_lt_of_cell? _ _ hHeld0.2.2.2.2.2.2.2.1)).trans hHeld0.2.2.2.2.2.2.2.1, (hbt1.cell (World.block_lt_of_cell? _ _ hHeld0.2.2.2.2.2.2.2.2.1)).trans hHeld0.2.2.2.2.2.2.2.2.1, (hbt1.cell (World.block_lt_of_cell? _ _ hHeld0.2.2.2.2.2.2.2.2.2.1)).trans hHeld0.2.2.2.2.2.2.2.2.2.1, (hbt1.cell (World.block_lt_of_cell? _ _ hHeld0.2.2.2.2.2.2.2.2.2.2.1)).trans hHeld0.2.2.2.2.2.2.2.2.2.2.1, (hbt1.cell (World.block_lt_of_cell? _ _ hHeld0.2.2.2.2.2.2.2.2.2.2.2.1)).trans hHeld0.2.2.2.2.2.2.2.2.2.2.2.1, (hbt1.cell (World.block_lt_of_cell? _ _ hHeld0.2.2.2.2.2.2.2.2.2.2.2.2.1)).trans hHeld0.2.2.2.2.2.2.2.2.2.2.2.2.1, (hbt1.cell (World.block_lt_of_cell? _ _ hHeld0.2.2.2.2.2.2.2.2.2.2.2.2.2.1)).trans hHeld0.2.2.2.2.2.2.2.2.2.2.2.2.2.1, (hbt1.cell (World.block_lt_of_cell? _ _ hHeld0.2.2.2.2.2.2.2.2.2.2.2.2.2.2)).trans hHeld0.2.2.2.2.2.2.2.2.2.2.2.2.2.2⟩ (fun hHeld1 => ?_)
    clear hK K
    have HT1 := Lib.hid (hb2 HT0.out hbt1)
    clear hbt1 hHeld0
    refine Go.Proofs.YtacokmkbikdmmaaGreatDoorW.PrintLast.one_ (i := 9) (N := some 40) #[true, true, true, true, true, true, true, true, true, true, false, false, false, false, false] rfl rfl (by kernel_rfl) (by decide) (fun K hK => ?_)
    go_simp
    refine (HH.out 32 _).mono ?_
    rintro e wt2 ⟨rfl, hbt2⟩
    refine hK.out _ _ ⟨(hbt2.cell (World.block_lt_of_cell? _ _ hHeld1.1)).trans hHeld1.1, (hbt2.cell (World.block_lt_of_cell? _ _ hHeld1.2.1)).trans hHeld1.2.1, (hbt2.cell (World.block_lt_of_cell? _ _ hHeld1.2.2.1)).trans hHeld1.2.2.1, (hbt2.cell (World.block_lt_of_cell? _ _ hHeld1.2.2.2.1)).trans hHeld1.2.2.2.1, (hbt2.cell (World.block_lt_of_cell? _ _ hHeld1.2.2.2.2.1)).trans hHeld1.2.2.2.2.1, (hbt2.cell (World.block_lt_of_cell? _ _ hHeld1.2.2.2.2.2.1)).trans hHeld1.2.2.2.2.2.1, (hbt2.cell (World.block_lt_of_cell? _ _ hHeld1.2.2.2.2.2.2.1)).trans hHeld1.2.2.2.2.2.2.1, (hbt2.cell (World.block_lt_of_cell? _ _ hHeld1.2.2.2.2.2.2.2.1)).trans hHeld1.2.2.2.2.2.2.2.1, (hbt2.cell (World.block_lt_of_cell? _ _ hHeld1.2.2.2.2.2.2.2.2.1)).trans hHeld1.2.2.2.2.2.2.2.2.1, (hbt2.cell (World.block_lt_of_cell? _ _ hHeld1.2.2.2.2.2.2.2.2.2.1)).trans hHeld1.2.2.2.2.2.2.2.2.2.1, (hbt2.cell (World.block_lt_of_cell? _ _ hHeld1.2.2.2.2.2.2.2.2.2.2.1)).trans hHeld1.2.2.2.2.2.2.2.2.2.2.1, (hbt2.cell (World.block_lt_of_cell? _ _ hHeld1.2.2.2.2.2.2.2.2.2.2.2.1)).trans hHeld1.2.2.2.2.2.2.2.2.2.2.2.1, (hbt2.cell (World.block_lt_of_cell? _ _ hHeld1.2.2.2.2.2.2.2.2.2.2.2.2.1)).trans hHeld1.2.2.2.2.2.2.2.2.2.2.2.2.1, (hbt2.cell (World.block_lt_of_cell? _ _ hHeld1.2.2.2.2.2.2.2.2.2.2.2.2.2.1)).trans hHeld1.2.2.2.2.2.2.2.2.2.2.2.2.2.1, (hbt2.cell (World.block_lt_of_cell? _ _ hHeld1.2.2.2.2.2.2.2.2.2.2.2.2.2.2)).trans hHeld1.2.2.2.2.2.2.2.2.2.2.2.2.2.2⟩ (fun hHeld2 => ?_)
    clear hK K
    have HT2 := Lib.hid (hb2 HT1.out hbt2)
    clear hbt2 hHeld1
    refine Go.Proofs.YtacokmkbikdmmaaGreatDoorW.PrintLast.pure_ (i := 10) (N := some 41) (v := ?_) (a' := ?_) #[true, true, true, true, true, true, true, true, true, true, true, false, false, false, false] rfl rfl (by kernel_rfl) (fun _ _ _ h => h) (Or.inl ⟨by rfl, ?_⟩) ?_ ?_
    rotate_left
    · intro w'
      go_simp
      with_reducible rfl
    rotate_left
    · simp only [Act.put, List.setIfInBounds_toArray, List.set_cons_zero, List.set_cons_succ]
      rfl
    refine Go.Proofs.YtacokmkbikdmmaaGreatDoorW.PrintLast.one_ (i := 11) (N := some 42) #[true, true, true, true, true, true, true, true, true, true, true, true, false, false, false] rfl rfl (by kernel_rfl) (by decide) (fun K hK => ?_)
    go_simp
    have hbt3 := (Below.refl wt2.heap.size wt2).alloc (Nat.le_refl _) (.cells #[.iface p0.1 (.pointer (some ⟨p0.2, 0, none⟩)), .int .i32 0, .int .u8 (IntKind.u8.wrap x.op), .bool (bits .and .i64 x.flags 16 != 0), .bool (bits .and .i64 x.flags 32 != 0)] 176)
    have hnew := heap_alloc_new wt2 (.cells #[.iface p0.1 (.pointer (some ⟨p0.2, 0, none⟩)), .int .i32 0, .int .u8 (IntKind.u8.wrap x.op), .bool (bits .and .i64 x.flags 16 != 0), .bool (bits .and .i64 x.flags 32 != 0)] 176)
    generalize wt2.alloc (.cells #[.iface p0.1 (.pointer (some ⟨p0.2, 0, none⟩)), .int .i32 0, .int .u8 (IntKind.u8.wrap x.op), .bool (bits .and .i64 x.flags 16 != 0), .bool (bits .and .i64 x.flags 32 != 0)] 176) = wt3 at hbt3 hnew ⊢
    have HNEW := Lib.hid hnew
    clear hnew
    refine hK.out _ _ ⟨(hbt3.cell (World.block_lt_of_cell? _ _ hHeld2.1)).trans hHeld2.1, (hbt3.cell (World.block_lt_of_cell? _ _ hHeld2.2.1)).trans hHeld2.2.1, (hbt3.cell (World.block_lt_of_cell? _ _ hHeld2.2.2.1)).trans hHeld2.2.2.1, (hbt3.cell (World.block_lt_of_cell? _ _ hHeld2.2.2.2.1)).trans hHeld2.2.2.2.1, (hbt3.cell (World.block_lt_of_cell? _ _ hHeld2.2.2.2.2.1)).trans hHeld2.2.2.2.2.1, (hbt3.cell (World.block_lt_of_cell? _ _ hHeld2.2.2.2.2.2.1)).trans hHeld2.2.2.2.2.2.1, (hbt3.cell (World.block_lt_of_cell? _ _ hHeld2.2.2.2.2.2.2.1)).trans hHeld2.2.2.2.2.2.2.1, (hbt3.cell (World.block_lt_of_cell? _ _ hHeld2.2.2.2.2.2.2.2.1)).trans hHeld2.2.2.2.2.2.2.2.1, (hbt3.cell (World.block_lt_of_cell? _ _ hHeld2.2.2.2.2.2.2.2.2.1)).trans hHeld2.2.2.2.2.2.2.2.2.1, (hbt3.cell (World.block_lt_of_cell? _ _ hHeld2.2.2.2.2.2.2.2.2.2.1)).trans hHeld2.2.2.2.2.2.2.2.2.2.1, (hbt3.cell (World.block_lt_of_cell? _ _ hHeld2.2.2.2.2.2.2.2.2.2.2.1)).trans hHeld2.2.2.2.2.2.2.2.2.2.2.1, (hbt3.cell (World.block_lt_of_cell? _ _ hHeld2.2.2.2.2.2.2.2.2.2.2.2.1)).trans hHeld2.2.2.2.2.2.2.2.2.2.2.2.1, (hbt3.cell (World.block_lt_of_cell? _ _ hHeld2.2.2.2.2.2.2.2.2.2.2.2.2.1)).trans hHeld2.2.2.2.2.2.2.2.2.2.2.2.2.1, (hbt3.cell (World.block_lt_of_cell? _ _ hHeld2.2.2.2.2.2.2.2.2.2.2.2.2.2.1)).trans hHeld2.2.2.2.2.2.2.2.2.2.2.2.2.2.1, (hbt3.cell (World.block_lt_of_cell? _ _ hHeld2.2.2.2.2.2.2.2.2.2.2.2.2.2.2)).trans hHeld2.2.2.2.2.2.2.2.2.2.2.2.2.2.2⟩ (fun hHeld3 => ?_)
    clear hK K
    have HT3 := Lib.hid (hb2 HT2.out hbt3)
    clear hbt3 hHeld2
    refine Go.Proofs.YtacokmkbikdmmaaGreatDoorW.PrintLast.pure_ (i := 12) (N := some 43) (v := ?_) (a' := ?_) #[true, true, true, true, true, true, true, true, true, true, true, true, true, false, false] rfl rfl (by kernel_rfl) (fun _ _ _ h => h) (Or.inl ⟨by rfl, ?_⟩) ?_ ?_
    rotate_left
    · intro w'
      go_simp
      with_reducible rfl
    rotate_left
    · simp only [Act.put, List.setIfInBounds_toArray, List.set_cons_zero, List.set_cons_succ]
      rfl
    refine Go.Proofs.YtacokmkbikdmmaaGreatDoorW.PrintLast.pure_ (i := 13) (N := some 4) (v := ?_) (a' := ?_) #[true, true, true, true, true, true, true, true, true, true, true, true, true, true, false] rfl rfl (by kernel_rfl) (fun _ _ _ h => h) (Or.inl ⟨by rfl, ?_⟩) ?_ ?_
    rotate_left
    · intro w'
      go_simp
      with_reducible rfl
    rotate_left
    · simp only [Act.put, List.setIfInBounds_toArray, List.set_cons_zero, List.set_cons_succ]
      rfl
    refine Go.Proofs.YtacokmkbikdmmaaGreatDoorW.PrintLast.pure_ (i := 14) (N := some 5) (v := ?_) (a' := ?_) #[true, true, true, true, true, true, true, true, true, true, true, true, true, true, true] rfl rfl (by kernel_rfl) (fun _ _ _ h => h) (Or.inl ⟨by rfl, ?_⟩) ?_ ?_
    rotate_left
    · intro w'
      go_simp
      with_reducible rfl
    rotate_left
    · simp only [Act.put, List.setIfInBounds_toArray, List.set_cons_zero, List.set_cons_succ]
      rfl
    refine Go.Proofs.YtacokmkbikdmmaaGreatDoorW.PrintLast.done_ (by kernel_rfl) ?_
    clear hHeld3
    go_wp2_with (fail)
    go_ret2
    exact ⟨fun _ => ⟨(173, wt2.heap.size), rfl, ⟨fun h => by have := HKK.out; omega, fun h => by have := HKK.out; omega, fun h => by have := HKK.out; omega, fun _ _ _ => ⟨(by decide : (173 : Nat) ≠ 66), (by decide : (173 : Nat) ≠ 70), (by decide : (173 : Nat) ≠ 73)⟩⟩⟩, fun h => absurd (by have := HKK.out; omega) h, HT3.out⟩
  · clear hlo hhi
    obtain rfl : kn = 2 := HKN.out.trans (HK.out.1.binary HKK.out.symm)
    obtain ⟨p0, p1, HL⟩ : ∃ p0 p1 : Nd, Hid (ks = [p0, p1]) := by
      have hl := HK.out.2.1
      rw [← HKN.out] at hl
      match ks, hl with
      | [p0, p1], _ => exact ⟨p0, p1, Lib.hid rfl⟩
    obtain ⟨g, rfl⟩ : ∃ g, A = some ⟨g, 0, none⟩ := by
      obtain ⟨g, e, _⟩ := HO.out 0 p0 (by rw [HL.out]; rfl)
      exact ⟨g, e⟩
    have q0 : w1.cell? ⟨g, 0, none⟩ = some (.iface p0.1 (.pointer (some ⟨p0.2, 0, none⟩))) := by
      obtain ⟨g_, e_, h1, h2⟩ := HO.out 0 p0 (by rw [HL.out]; rfl)
      cases e_
      exact h1
    have q1 : w1.cell? ⟨g, 1, none⟩ = some (.int .i32 0) := by
      obtain ⟨g_, e_, h1, h2⟩ := HO.out 0 p0 (by rw [HL.out]; rfl)
      cases e_
      exact h2
    have q2 : w1.cell? ⟨g, 2, none⟩ = some (.iface p1.1 (.pointer (some ⟨p1.2, 0, none⟩))) := by
      obtain ⟨g_, e_, h1, h2⟩ := HO.out 1 p1 (by rw [HL.out]; rfl)
      cases e_
      exact h1
    have q3 : w1.cell? ⟨g, 3, none⟩ = some (.int .i32 0) := by
      obtain ⟨g_, e_, h1, h2⟩ := HO.out 1 p1 (by rw [HL.out]; rfl)
      cases e_
      exact h2
    have hh : ∀ (k : Int) (w : World), Calls Tryz.prog 55 #[.agg #[.int .i64 14, .int .i64 x.op, .int .i64 x.ref, .int .i64 x.chain, .int .i64 x.flags, .float .f64 x.num, .slice x.sa x.sn x.sc, .string x.text, .slice x.ka 2 x.kc, .slice x.pa x.pn x.pc, .slice x.qa x.qn x.qc, .slice x.fa x.fn x.fc, .slice x.ca x.cn x.cc], .int .i64 k] w (fun e w' => e = .returned (.bool (bits .and .i64 x.flags k != 0)) ∧ Below w.heap.size w w') := by
      intro k w
      have := has x k w
      rw [← HKK.out, ← HKN.out] at this
      exact this
    have HH := Lib.hid hh
    clear hh
    have HA := Lib.hid HD.out.2.1
    go_upto_region 6 with (fail)
    have HT0 := Lib.hid (show Below W.heap.size W w1.drew from HA.out.trans ⟨rfl, rfl, rfl, Nat.le_refl _, fun _ _ => rfl⟩)
    refine Go.Proofs.YtacokmkbikdmmaaGreatDoorW.PrintLast.start_ (n := 14) (S := (fun w' => w'.cell? ⟨W.heap.size, 0, none⟩ = some (.int .i64 14) ∧ w'.cell? ⟨W.heap.size, 1, none⟩ = some (.int .i64 x.op) ∧ w'.cell? ⟨W.heap.size, 2, none⟩ = some (.int .i64 x.ref) ∧ w'.cell? ⟨W.heap.size, 3, none⟩ = some (.int .i64 x.chain) ∧ w'.cell? ⟨W.heap.size, 4, none⟩ = some (.int .i64 x.flags) ∧ w'.cell? ⟨W.heap.size, 5, none⟩ = some (.float .f64 x.num) ∧ w'.cell? ⟨W.heap.size, 6, none⟩ = some (.slice x.sa x.sn x.sc) ∧ w'.cell? ⟨W.heap.size, 7, none⟩ = some (.string x.text) ∧ w'.cell? ⟨W.heap.size, 8, none⟩ = some (.slice x.ka 2 x.kc) ∧ w'.cell? ⟨W.heap.size, 9, none⟩ = some (.slice x.pa x.pn x.pc) ∧ w'.cell? ⟨W.heap.size, 10, none⟩ = some (.slice x.qa x.qn x.qc) ∧ w'.cell? ⟨W.heap.size, 11, none⟩ = some (.slice x.fa x.fn x.fc) ∧ w'.cell? ⟨W.heap.size, 12, none⟩ = some (.slice x.ca x.cn x.cc) ∧ w'.cell? ⟨g, 0, none⟩ = some (.iface p0.1 (.pointer (some ⟨p0.2, 0, none⟩))) ∧ w'.cell? ⟨g, 1, none⟩ = some (.int .i32 0) ∧ w'.cell? ⟨g, 2, none⟩ = some (.iface p1.1 (.pointer (some ⟨p1.2, 0, none⟩))) ∧ w'.cell? ⟨g, 3, none⟩ = some (.int .i32 0))) (ds := []) #[false, false, false, false, false, false, false, false, false, false, false, false, false, false] (by kernel_rfl) rfl rfl ⟨d0, d1, d2, d3, d4, d5, d6, d7, d8, d9, d10, d11, d12, q0, q1, q2, q3⟩ (fun hHeld0 => ?_)
    clear d0 d1 d2 d3 d4 d5 d6 d7 d8 d9 d10 d11 d12 q0 q1 q2 q3
    generalize w1.drew = wt0 at HT0 hHeld0 ⊢
    refine Go.Proofs.YtacokmkbikdmmaaGreatDoorW.PrintLast.pure_ (i := 0) (N := some 53) (v := ?_) (a' := ?_) #[true, false, false, false, false, false, false, false, false, false, false, false, false, false] rfl rfl (by kernel_rfl) (fun _ _ _ h => h) (Or.inl ⟨by rfl, ?_⟩) ?_ ?_
    rotate_left
    · intro w'
      go_simp
      with_reducible rfl
    rotate_left
    · simp only [Act.put, List.setIfInBounds_toArray, List.set_cons_zero, List.set_cons_succ]
      rfl
    refine Go.Proofs.YtacokmkbikdmmaaGreatDoorW.PrintLast.take_ (i := 1) (N := some 54) (v := ?_) (a' := ?_) #[true, true, false, false, false, false, false, false, false, false, false, false, false, false] rfl rfl (by kernel_rfl) (fun _ _ _ h => h) (Or.inl ⟨by rfl, ?_⟩) hHeld0 ?_ ?_
    rotate_left
    · rintro w' ⟨s0, s1, s2, s3, s4, s5, s6, s7, s8, s9, s10, s11, s12, s13, s14, s15, s16⟩
      go_simp
      with_reducible rfl
    rotate_left
    · simp only [Act.put, List.setIfInBounds_toArray, List.set_cons_zero, List.set_cons_succ]
      rfl
    refine Go.Proofs.YtacokmkbikdmmaaGreatDoorW.PrintLast.pure_ (i := 2) (N := some 55) (v := ?_) (a' := ?_) #[true, true, true, false, false, false, false, false, false, false, false, false, false, false] rfl rfl (by kernel_rfl) (fun _ _ _ h => h) (Or.inl ⟨by rfl, ?_⟩) ?_ ?_
    rotate_left
    · intro w'
      go_simp
      with_reducible rfl
    rotate_left
    · simp only [Act.put, List.setIfInBounds_toArray, List.set_cons_zero, List.set_cons_succ]
      rfl
    refine Go.Proofs.YtacokmkbikdmmaaGreatDoorW.PrintLast.pure_ (i := 3) (N := some 56) (v := ?_) (a' := ?_) #[true, true, true, true, false, false, false, false, false, false, false, false, false, false] rfl rfl (by kernel_rfl) (fun _ _ _ h => h) (Or.inl ⟨by rfl, ?_⟩) ?_ ?_
    rotate_left
    · intro w'
      go_simp
      with_reducible rfl
    rotate_left
    · simp only [Act.put, List.setIfInBounds_toArray, List.set_cons_zero, List.set_cons_succ]
      rfl
    refine Go.Proofs.YtacokmkbikdmmaaGreatDoorW.PrintLast.pure_ (i := 4) (N := some 57) (v := ?_) (a' := ?_) #[true, true, true, true, true, false, false, false, false, false, false, false, false, false] rfl rfl (by kernel_rfl) (fun _ _ _ h => h) (Or.inl ⟨by rfl, ?_⟩) ?_ ?_
    rotate_left
    · intro w'
      go_simp
      with_reducible rfl
    rotate_left
    · simp only [Act.put, List.setIfInBounds_toArray, List.set_cons_zero, List.set_cons_succ]
      rfl
    refine Go.Proofs.YtacokmkbikdmmaaGreatDoorW.PrintLast.take_ (i := 5) (N := some 58) (v := ?_) (a' := ?_) #[true, true, true, true, true, true, false, false, false, false, false, false, false, false] rfl rfl (by kernel_rfl) (fun _ _ _ h => h) (Or.inl ⟨by rfl, ?_⟩) hHeld0 ?_ ?_
    rotate_left
    · rintro w' ⟨s0, s1, s2, s3, s4, s5, s6, s7, s8, s9, s10, s11, s12, s13, s14, s15, s16⟩
      go_simp
      with_reducible rfl
    rotate_left
    · simp only [Act.put, List.setIfInBounds_toArray, List.set_cons_zero, List.set_cons_succ]
      rfl
    refine Go.Proofs.YtacokmkbikdmmaaGreatDoorW.PrintLast.pure_ (i := 6) (N := some 59) (v := ?_) (a' := ?_) #[true, true, true, true, true, true, true, false, false, false, false, false, false, false] rfl rfl (by kernel_rfl) (fun _ _ _ h => h) (Or.inl ⟨by rfl, ?_⟩) ?_ ?_
    rotate_left
    · intro w'
      go_simp
      with_reducible rfl
    rotate_left
    · simp only [Act.put, List.setIfInBounds_toArray, List.set_cons_zero, List.set_cons_succ]
      rfl
    refine Go.Proofs.YtacokmkbikdmmaaGreatDoorW.PrintLast.pure_ (i := 7) (N := some 60) (v := ?_) (a' := ?_) #[true, true, true, true, true, true, true, true, false, false, false, false, false, false] rfl rfl (by kernel_rfl) (fun _ _ _ h => h) (Or.inl ⟨by rfl, ?_⟩) ?_ ?_
    rotate_left
    · intro w'
      go_simp
      with_reducible rfl
    rotate_left
    · simp only [Act.put, List.setIfInBounds_toArray, List.set_cons_zero, List.set_cons_succ]
      rfl
    refine Go.Proofs.YtacokmkbikdmmaaGreatDoorW.PrintLast.take_ (i := 8) (N := some 61) (v := ?_) (a' := ?_) #[true, true, true, true, true, true, true, true, true, false, false, false, false, false] rfl rfl (by kernel_rfl) (fun _ _ _ h => h) (Or.inl ⟨by rfl, ?_⟩) hHeld0 ?_ ?_
    rotate_left
    · rintro w' ⟨s0, s1, s2, s3, s4, s5, s6, s7, s8, s9, s10, s11, s12, s13, s14, s15, s16⟩
      go_simp
      with_reducible rfl
    rotate_left
    · simp only [Act.put, List.setIfInBounds_toArray, List.set_cons_zero, List.set_cons_succ]
      rfl
    refine Go.Proofs.YtacokmkbikdmmaaGreatDoorW.PrintLast.pure_ (i := 9) (N := some 62) (v := ?_) (a' := ?_) #[true, true, true, true, true, true, true, true, true, true, false, false, false, false] rfl rfl (by kernel_rfl) (fun _ _ _ h => h) (Or.inl ⟨by rfl, ?_⟩) ?_ ?_
    rotate_left
    · intro w'
      go_simp
      with_reducible rfl
    rotate_left
    · simp only [Act.put, List.setIfInBounds_toArray, List.set_cons_zero, List.set_cons_succ]
      rfl
    refine Go.Proofs.YtacokmkbikdmmaaGreatDoorW.PrintLast.one_ (i := 10) (N := some 63) #[true, true, true, true, true, true, true, true, true, true, true, false, false, false] rfl rfl (by kernel_rfl) (by decide) (fun K hK => ?_)
    go_simp
    have hbt1 := (Below.refl wt0.heap.size wt0).alloc (Nat.le_refl _) (.cells #[.iface p0.1 (.pointer (some ⟨p0.2, 0, none⟩)), .int .i32 0, .iface p1.1 (.pointer (some ⟨p1.2, 0, none⟩)), .int .i32 0, .int .u8 (IntKind.u8.wrap x.op), .bool false] 179)
    have hnew := heap_alloc_new wt0 (.cells #[.iface p0.1 (.pointer (some ⟨p0.2, 0, none⟩)), .int .i32 0, .iface p1.1 (.pointer (some ⟨p1.2, 0, none⟩)), .int .i32 0, .int .u8 (IntKind.u8.wrap x.op), .bool false] 179)
    generalize wt0.alloc (.cells #[.iface p0.1 (.pointer (some ⟨p0.2, 0, none⟩)), .int .i32 0, .iface p1.1 (.pointer (some ⟨p1.2, 0, none⟩)), .int .i32 0, .int .u8 (IntKind.u8.wrap x.op), .bool false] 179) = wt1 at hbt1 hnew ⊢
    have HNEW := Lib.hid hnew
    clear hnew
    refine hK.out _ _ ⟨(hbt1.cell (World.block_lt_of_cell? _ _ hHeld0.1)).trans hHeld0.1, (hbt1.cell (World.block_lt_of_cell? _ _ hHeld0.2.1)).trans hHeld0.2.1, (hbt1.cell (World.block_lt_of_cell? _ _ hHeld0.2.2.1)).trans hHeld0.2.2.1, (hbt1.cell (World.block_lt_of_cell? _ _ hHeld0.2.2.2.1)).trans hHeld0.2.2.2.1, (hbt1.cell (World.block_lt_of_cell? _ _ hHeld0.2.2.2.2.1)).trans hHeld0.2.2.2.2.1, (hbt1.cell (World.block_lt_of_cell? _ _ hHeld0.2.2.2.2.2.1)).trans hHeld0.2.2.2.2.2.1, (hbt1.cell (World.block_lt_of_cell? _ _ hHeld0.2.2.2.2.2.2.1)).trans hHeld0.2.2.2.2.2.2.1, (hbt1.cell (World.block_lt_of_cell? _ _ hHeld0.2.2.2.2.2.2.2.1)).trans hHeld0.2.2.2.2.2.2.2.1, (hbt1.cell (World.block_lt_of_cell? _ _ hHeld0.2.2.2.2.2.2.2.2.1)).trans hHeld0.2.2.2.2.2.2.2.2.1, (hbt1.cell (World.block_lt_of_cell? _ _ hHeld0.2.2.2.2.2.2.2.2.2.1)).trans hHeld0.2.2.2.2.2.2.2.2.2.1, (hbt1.cell (World.block_lt_of_cell? _ _ hHeld0.2.2.2.2.2.2.2.2.2.2.1)).trans hHeld0.2.2.2.2.2.2.2.2.2.2.1, (hbt1.cell (World.block_lt_of_cell? _ _ hHeld0.2.2.2.2.2.2.2.2.2.2.2.1)).trans hHeld0.2.2.2.2.2.2.2.2.2.2.2.1, (hbt1.cell (World.block_lt_of_cell? _ _ hHeld0.2.2.2.2.2.2.2.2.2.2.2.2.1)).trans hHeld0.2.2.2.2.2.2.2.2.2.2.2.2.1, (hbt1.cell (World.block_lt_of_cell? _ _ hHeld0.2.2.2.2.2.2.2.2.2.2.2.2.2.1)).trans hHeld0.2.2.2.2.2.2.2.2.2.2.2.2.2.1, (hbt1.cell (World.block_lt_of_cell? _ _ hHeld0.2.2.2.2.2.2.2.2.2.2.2.2.2.2.1)).trans hHeld0.2.2.2.2.2.2.2.2.2.2.2.2.2.2.1, (hbt1.cell (World.block_lt_of_cell? _ _ hHeld0.2.2.2.2.2.2.2.2.2.2.2.2.2.2.2.1)).trans hHeld0.2.2.2.2.2.2.2.2.2.2.2.2.2.2.2.1, (hbt1.cell (World.block_lt_of_cell? _ _ hHeld0.2.2.2.2.2.2.2.2.2.2.2.2.2.2.2.2)).trans hHeld0.2.2.2.2.2.2.2.2.2.2.2.2.2.2.2.2⟩ (fun hHeld1 => ?_)
    clear hK K
    have HT1 := Lib.hid (hb2 HT0.out hbt1)
    clear hbt1 hHeld0
    refine Go.Proofs.YtacokmkbikdmmaaGreatDoorW.PrintLast.pure_ (i := 11) (N := some 64) (v := ?_) (a' := ?_) #[true, true, true, true, true, true, true, true, true, true, true, true, false, false] rfl rfl (by kernel_rfl) (fun _ _ _ h => h) (Or.inl ⟨by rfl, ?_⟩) ?_ ?_
    rotate_left
    · intro w'
      go_simp
      with_reducible rfl
    rotate_left
    · simp only [Act.put, List.setIfInBounds_toArray, List.set_cons_zero, List.set_cons_succ]
      rfl
    refine Go.Proofs.YtacokmkbikdmmaaGreatDoorW.PrintLast.pure_ (i := 12) (N := some 4) (v := ?_) (a' := ?_) #[true, true, true, true, true, true, true, true, true, true, true, true, true, false] rfl rfl (by kernel_rfl) (fun _ _ _ h => h) (Or.inl ⟨by rfl, ?_⟩) ?_ ?_
    rotate_left
    · intro w'
      go_simp
      with_reducible rfl
    rotate_left
    · simp only [Act.put, List.setIfInBounds_toArray, List.set_cons_zero, List.set_cons_succ]
      rfl
    refine Go.Proofs.YtacokmkbikdmmaaGreatDoorW.PrintLast.pure_ (i := 13) (N := some 5) (v := ?_) (a' := ?_) #[true, true, true, true, true, true, true, true, true, true, true, true, true, true] rfl rfl (by kernel_rfl) (fun _ _ _ h => h) (Or.inl ⟨by rfl, ?_⟩) ?_ ?_
    rotate_left
    · intro w'
      go_simp
      with_reducible rfl
    rotate_left
    · simp only [Act.put, List.setIfInBounds_toArray, List.set_cons_zero, List.set_cons_succ]
      rfl
    refine Go.Proofs.YtacokmkbikdmmaaGreatDoorW.PrintLast.done_ (by kernel_rfl) ?_
    clear hHeld1
    go_wp2_with (fail)
    go_ret2
    exact ⟨fun _ => ⟨(177, wt0.heap.size), rfl, ⟨fun h => by have := HKK.out; omega, fun h => by have := HKK.out; omega, fun h => by have := HKK.out; omega, fun _ _ _ => ⟨(by decide : (177 : Nat) ≠ 66), (by decide : (177 : Nat) ≠ 70), (by decide : (177 : Nat) ≠ 73)⟩⟩⟩, fun h => absurd (by have := HKK.out; omega) h, HT1.out⟩
  · clear hlo hhi
    obtain rfl : kn = 3 := HKN.out.trans (HK.out.1.test HKK.out.symm)
    obtain ⟨p0, p1, p2, HL⟩ : ∃ p0 p1 p2 : Nd, Hid (ks = [p0, p1, p2]) := by
      have hl := HK.out.2.1
      rw [← HKN.out] at hl
      match ks, hl with
      | [p0, p1, p2], _ => exact ⟨p0, p1, p2, Lib.hid rfl⟩
    obtain ⟨g, rfl⟩ : ∃ g, A = some ⟨g, 0, none⟩ := by
      obtain ⟨g, e, _⟩ := HO.out 0 p0 (by rw [HL.out]; rfl)
      exact ⟨g, e⟩
    have q0 : w1.cell? ⟨g, 0, none⟩ = some (.iface p0.1 (.pointer (some ⟨p0.2, 0, none⟩))) := by
      obtain ⟨g_, e_, h1, h2⟩ := HO.out 0 p0 (by rw [HL.out]; rfl)
      cases e_
      exact h1
    have q1 : w1.cell? ⟨g, 1, none⟩ = some (.int .i32 0) := by
      obtain ⟨g_, e_, h1, h2⟩ := HO.out 0 p0 (by rw [HL.out]; rfl)
      cases e_
      exact h2
    have q2 : w1.cell? ⟨g, 2, none⟩ = some (.iface p1.1 (.pointer (some ⟨p1.2, 0, none⟩))) := by
      obtain ⟨g_, e_, h1, h2⟩ := HO.out 1 p1 (by rw [HL.out]; rfl)
      cases e_
      exact h1
    have q3 : w1.cell? ⟨g, 3, none⟩ = some (.int .i32 0) := by
      obtain ⟨g_, e_, h1, h2⟩ := HO.out 1 p1 (by rw [HL.out]; rfl)
      cases e_
      exact h2
    have q4 : w1.cell? ⟨g, 4, none⟩ = some (.iface p2.1 (.pointer (some ⟨p2.2, 0, none⟩))) := by
      obtain ⟨g_, e_, h1, h2⟩ := HO.out 2 p2 (by rw [HL.out]; rfl)
      cases e_
      exact h1
    have q5 : w1.cell? ⟨g, 5, none⟩ = some (.int .i32 0) := by
      obtain ⟨g_, e_, h1, h2⟩ := HO.out 2 p2 (by rw [HL.out]; rfl)
      cases e_
      exact h2
    have hh : ∀ (k : Int) (w : World), Calls Tryz.prog 55 #[.agg #[.int .i64 15, .int .i64 x.op, .int .i64 x.ref, .int .i64 x.chain, .int .i64 x.flags, .float .f64 x.num, .slice x.sa x.sn x.sc, .string x.text, .slice x.ka 3 x.kc, .slice x.pa x.pn x.pc, .slice x.qa x.qn x.qc, .slice x.fa x.fn x.fc, .slice x.ca x.cn x.cc], .int .i64 k] w (fun e w' => e = .returned (.bool (bits .and .i64 x.flags k != 0)) ∧ Below w.heap.size w w') := by
      intro k w
      have := has x k w
      rw [← HKK.out, ← HKN.out] at this
      exact this
    have HH := Lib.hid hh
    clear hh
    have HA := Lib.hid HD.out.2.1
    go_upto_region 8 with (fail)
    have HT0 := Lib.hid (show Below W.heap.size W w1.drew from HA.out.trans ⟨rfl, rfl, rfl, Nat.le_refl _, fun _ _ => rfl⟩)
    refine Go.Proofs.YtacokmkbikdmmaaGreatDoorW.PrintLast.start_ (n := 14) (S := (fun w' => w'.cell? ⟨W.heap.size, 0, none⟩ = some (.int .i64 15) ∧ w'.cell? ⟨W.heap.size, 1, none⟩ = some (.int .i64 x.op) ∧ w'.cell? ⟨W.heap.size, 2, none⟩ = some (.int .i64 x.ref) ∧ w'.cell? ⟨W.heap.size, 3, none⟩ = some (.int .i64 x.chain) ∧ w'.cell? ⟨W.heap.size, 4, none⟩ = some (.int .i64 x.flags) ∧ w'.cell? ⟨W.heap.size, 5, none⟩ = some (.float .f64 x.num) ∧ w'.cell? ⟨W.heap.size, 6, none⟩ = some (.slice x.sa x.sn x.sc) ∧ w'.cell? ⟨W.heap.size, 7, none⟩ = some (.string x.text) ∧ w'.cell? ⟨W.heap.size, 8, none⟩ = some (.slice x.ka 3 x.kc) ∧ w'.cell? ⟨W.heap.size, 9, none⟩ = some (.slice x.pa x.pn x.pc) ∧ w'.cell? ⟨W.heap.size, 10, none⟩ = some (.slice x.qa x.qn x.qc) ∧ w'.cell? ⟨W.heap.size, 11, none⟩ = some (.slice x.fa x.fn x.fc) ∧ w'.cell? ⟨W.heap.size, 12, none⟩ = some (.slice x.ca x.cn x.cc) ∧ w'.cell? ⟨g, 0, none⟩ = some (.iface p0.1 (.pointer (some ⟨p0.2, 0, none⟩))) ∧ w'.cell? ⟨g, 1, none⟩ = some (.int .i32 0) ∧ w'.cell? ⟨g, 2, none⟩ = some (.iface p1.1 (.pointer (some ⟨p1.2, 0, none⟩))) ∧ w'.cell? ⟨g, 3, none⟩ = some (.int .i32 0) ∧ w'.cell? ⟨g, 4, none⟩ = some (.iface p2.1 (.pointer (some ⟨p2.2, 0, none⟩))) ∧ w'.cell? ⟨g, 5, none⟩ = some (.int .i32 0))) (ds := []) #[false, false, false, false, false, false, false, false, false, false, false, false, false, false] (by kernel_rfl) rfl rfl ⟨d0, d1, d2, d3, d4, d5, d6, d7, d8, d9, d10, d11, d12, q0, q1, q2, q3, q4, q5⟩ (fun hHeld0 => ?_)
    clear d0 d1 d2 d3 d4 d5 d6 d7 d8 d9 d10 d11 d12 q0 q1 q2 q3 q4 q5
    generalize w1.drew = wt0 at HT0 hHeld0 ⊢
    refine Go.Proofs.YtacokmkbikdmmaaGreatDoorW.PrintLast.pure_ (i := 0) (N := some 74) (v := ?_) (a' := ?_) #[true, false, false, false, false, false, false, false, false, false, false, false, false, false] rfl rfl (by kernel_rfl) (fun _ _ _ h => h) (Or.inl ⟨by rfl, ?_⟩) ?_ ?_
    rotate_left
    · intro w'
      go_simp
      with_reducible rfl
    rotate_left
    · simp only [Act.put, List.setIfInBounds_toArray, List.set_cons_zero, List.set_cons_succ]
      rfl
    refine Go.Proofs.YtacokmkbikdmmaaGreatDoorW.PrintLast.pure_ (i := 1) (N := some 75) (v := ?_) (a' := ?_) #[true, true, false, false, false, false, false, false, false, false, false, false, false, false] rfl rfl (by kernel_rfl) (fun _ _ _ h => h) (Or.inl ⟨by rfl, ?_⟩) ?_ ?_
    rotate_left
    · intro w'
      go_simp
      with_reducible rfl
    rotate_left
    · simp only [Act.put, List.setIfInBounds_toArray, List.set_cons_zero, List.set_cons_succ]
      rfl
    refine Go.Proofs.YtacokmkbikdmmaaGreatDoorW.PrintLast.take_ (i := 2) (N := some 76) (v := ?_) (a' := ?_) #[true, true, true, false, false, false, false, false, false, false, false, false, false, false] rfl rfl (by kernel_rfl) (fun _ _ _ h => h) (Or.inl ⟨by rfl, ?_⟩) hHeld0 ?_ ?_
    rotate_left
    · rintro w' ⟨s0, s1, s2, s3, s4, s5, s6, s7, s8, s9, s10, s11, s12, s13, s14, s15, s16, s17, s18⟩
      go_simp
      with_reducible rfl
    rotate_left
    · simp only [Act.put, List.setIfInBounds_toArray, List.set_cons_zero, List.set_cons_succ]
      rfl
    refine Go.Proofs.YtacokmkbikdmmaaGreatDoorW.PrintLast.pure_ (i := 3) (N := some 77) (v := ?_) (a' := ?_) #[true, true, true, true, false, false, false, false, false, false, false, false, false, false] rfl rfl (by kernel_rfl) (fun _ _ _ h => h) (Or.inl ⟨by rfl, ?_⟩) ?_ ?_
    rotate_left
    · intro w'
      go_simp
      with_reducible rfl
    rotate_left
    · simp only [Act.put, List.setIfInBounds_toArray, List.set_cons_zero, List.set_cons_succ]
      rfl
    refine Go.Proofs.YtacokmkbikdmmaaGreatDoorW.PrintLast.pure_ (i := 4) (N := some 78) (v := ?_) (a' := ?_) #[true, true, true, true, true, false, false, false, false, false, false, false, false, false] rfl rfl (by kernel_rfl) (fun _ _ _ h => h) (Or.inl ⟨by rfl, ?_⟩) ?_ ?_
    rotate_left
    · intro w'
      go_simp
      with_reducible rfl
    rotate_left
    · simp only [Act.put, List.setIfInBounds_toArray, List.set_cons_zero, List.set_cons_succ]
      rfl
    refine Go.Proofs.YtacokmkbikdmmaaGreatDoorW.PrintLast.take_ (i := 5) (N := some 79) (v := ?_) (a' := ?_) #[true, true, true, true, true, true, false, false, false, false, false, false, false, false] rfl rfl (by kernel_rfl) (fun _ _ _ h => h) (Or.inl ⟨by rfl, ?_⟩) hHeld0 ?_ ?_
    rotate_left
    · rintro w' ⟨s0, s1, s2, s3, s4, s5, s6, s7, s8, s9, s10, s11, s12, s13, s14, s15, s16, s17, s18⟩
      go_simp
      with_reducible rfl
    rotate_left
    · simp only [Act.put, List.setIfInBounds_toArray, List.set_cons_zero, List.set_cons_succ]
      rfl
    refine Go.Proofs.YtacokmkbikdmmaaGreatDoorW.PrintLast.pure_ (i := 6) (N := some 80) (v := ?_) (a' := ?_) #[true, true, true, true, true, true, true, false, false, false, false, false, false, false] rfl rfl (by kernel_rfl) (fun _ _ _ h => h) (Or.inl ⟨by rfl, ?_⟩) ?_ ?_
    rotate_left
    · intro w'
      go_simp
      with_reducible rfl
    rotate_left
    · simp only [Act.put, List.setIfInBounds_toArray, List.set_cons_zero, List.set_cons_succ]
      rfl
    refine Go.Proofs.YtacokmkbikdmmaaGreatDoorW.PrintLast.pure_ (i := 7) (N := some 81) (v := ?_) (a' := ?_) #[true, true, true, true, true, true, true, true, false, false, false, false, false, false] rfl rfl (by kernel_rfl) (fun _ _ _ h => h) (Or.inl ⟨by rfl, ?_⟩) ?_ ?_
    rotate_left
    · intro w'
      go_simp
      with_reducible rfl
    rotate_left
    · simp only [Act.put, List.setIfInBounds_toArray, List.set_cons_zero, List.set_cons_succ]
      rfl
    refine Go.Proofs.YtacokmkbikdmmaaGreatDoorW.PrintLast.take_ (i := 8) (N := some 82) (v := ?_) (a' := ?_) #[true, true, true, true, true, true, true, true, true, false, false, false, false, false] rfl rfl (by kernel_rfl) (fun _ _ _ h => h) (Or.inl ⟨by rfl, ?_⟩) hHeld0 ?_ ?_
    rotate_left
    · rintro w' ⟨s0, s1, s2, s3, s4, s5, s6, s7, s8, s9, s10, s11, s12, s13, s14, s15, s16, s17, s18⟩
      go_simp
      with_reducible rfl
    rotate_left
    · simp only [Act.put, List.setIfInBounds_toArray, List.set_cons_zero, List.set_cons_succ]
      rfl
    refine Go.Proofs.YtacokmkbikdmmaaGreatDoorW.PrintLast.pure_ (i := 9) (N := some 83) (v := ?_) (a' := ?_) #[true, true, true, true, true, true, true, true, true, true, false, false, false, false] rfl rfl (by kernel_rfl) (fun _ _ _ h => h) (Or.inl ⟨by rfl, ?_⟩) ?_ ?_
    rotate_left
    · intro w'
      go_simp
      with_reducible rfl
    rotate_left
    · simp only [Act.put, List.setIfInBounds_toArray, List.set_cons_zero, List.set_cons_succ]
      rfl
    refine Go.Proofs.YtacokmkbikdmmaaGreatDoorW.PrintLast.one_ (i := 10) (N := some 84) #[true, true, true, true, true, true, true, true, true, true, true, false, false, false] rfl rfl (by kernel_rfl) (by decide) (fun K hK => ?_)
    go_simp
    have hbt1 := (Below.refl wt0.heap.size wt0).alloc (Nat.le_refl _) (.cells #[.iface p0.1 (.pointer (some ⟨p0.2, 0, none⟩)), .int .i32 0, .iface p1.1 (.pointer (some ⟨p1.2, 0, none⟩)), .int .i32 0, .iface p2.1 (.pointer (some ⟨p2.2, 0, none⟩)), .int .i32 0] 182)
    have hnew := heap_alloc_new wt0 (.cells #[.iface p0.1 (.pointer (some ⟨p0.2, 0, none⟩)), .int .i32 0, .iface p1.1 (.pointer (some ⟨p1.2, 0, none⟩)), .int .i32 0, .iface p2.1 (.pointer (some ⟨p2.2, 0, none⟩)), .int .i32 0] 182)
    generalize wt0.alloc (.cells #[.iface p0.1 (.pointer (some ⟨p0.2, 0, none⟩)), .int .i32 0, .iface p1.1 (.pointer (some ⟨p1.2, 0, none⟩)), .int .i32 0, .iface p2.1 (.pointer (some ⟨p2.2, 0, none⟩)), .int .i32 0] 182) = wt1 at hbt1 hnew ⊢
    have HNEW := Lib.hid hnew
    clear hnew
    refine hK.out _ _ ⟨(hbt1.cell (World.block_lt_of_cell? _ _ hHeld0.1)).trans hHeld0.1, (hbt1.cell (World.block_lt_of_cell? _ _ hHeld0.2.1)).trans hHeld0.2.1, (hbt1.cell (World.block_lt_of_cell? _ _ hHeld0.2.2.1)).trans hHeld0.2.2.1, (hbt1.cell (World.block_lt_of_cell? _ _ hHeld0.2.2.2.1)).trans hHeld0.2.2.2.1, (hbt1.cell (World.block_lt_of_cell? _ _ hHeld0.2.2.2.2.1)).trans hHeld0.2.2.2.2.1, (hbt1.cell (World.block_lt_of_cell? _ _ hHeld0.2.2.2.2.2.1)).trans hHeld0.2.2.2.2.2.1, (hbt1.cell (World.block_lt_of_cell? _ _ hHeld0.2.2.2.2.2.2.1)).trans hHeld0.2.2.2.2.2.2.1, (hbt1.cell (World.block_lt_of_cell? _ _ hHeld0.2.2.2.2.2.2.2.1)).trans hHeld0.2.2.2.2.2.2.2.1, (hbt1.cell (World.block_lt_of_cell? _ _ hHeld0.2.2.2.2.2.2.2.2.1)).trans hHeld0.2.2.2.2.2.2.2.2.1, (hbt1.cell (World.block_lt_of_cell? _ _ hHeld0.2.2.2.2.2.2.2.2.2.1)).trans hHeld0.2.2.2.2.2.2.2.2.2.1, (hbt1.cell (World.block_lt_of_cell? _ _ hHeld0.2.2.2.2.2.2.2.2.2.2.1)).trans hHeld0.2.2.2.2.2.2.2.2.2.2.1, (hbt1.cell (World.block_lt_of_cell? _ _ hHeld0.2.2.2.2.2.2.2.2.2.2.2.1)).trans hHeld0.2.2.2.2.2.2.2.2.2.2.2.1, (hbt1.cell (World.block_lt_of_cell? _ _ hHeld0.2.2.2.2.2.2.2.2.2.2.2.2.1)).trans hHeld0.2.2.2.2.2.2.2.2.2.2.2.2.1, (hbt1.cell (World.block_lt_of_cell? _ _ hHeld0.2.2.2.2.2.2.2.2.2.2.2.2.2.1)).trans hHeld0.2.2.2.2.2.2.2.2.2.2.2.2.2.1, (hbt1.cell (World.block_lt_of_cell? _ _ hHeld0.2.2.2.2.2.2.2.2.2.2.2.2.2.2.1)).trans hHeld0.2.2.2.2.2.2.2.2.2.2.2.2.2.2.1, (hbt1.cell (World.block_lt_of_cell? _ _ hHeld0.2.2.2.2.2.2.2.2.2.2.2.2.2.2.2.1)).trans hHeld0.2.2.2.2.2.2.2.2.2.2.2.2.2.2.2.1, (hbt1.cell (World.block_lt_of_cell? _ _ hHeld0.2.2.2.2.2.2.2.2.2.2.2.2.2.2.2.2.1)).trans hHeld0.2.2.2.2.2.2.2.2.2.2.2.2.2.2.2.2.1, (hbt1.cell (World.block_lt_of_cell? _ _ hHeld0.2.2.2.2.2.2.2.2.2.2.2.2.2.2.2.2.2.1)).trans hHeld0.2.2.2.2.2.2.2.2.2.2.2.2.2.2.2.2.2.1, (hbt1.cell (World.block_lt_of_cell? _ _ hHeld0.2.2.2.2.2.2.2.2.2.2.2.2.2.2.2.2.2.2)).trans hHeld0.2.2.2.2.2.2.2.2.2.2.2.2.2.2.2.2.2.2⟩ (fun hHeld1 => ?_)
    clear hK K
    have HT1 := Lib.hid (hb2 HT0.out hbt1)
    clear hbt1 hHeld0
    refine Go.Proofs.YtacokmkbikdmmaaGreatDoorW.PrintLast.pure_ (i := 11) (N := some 85) (v := ?_) (a' := ?_) #[true, true, true, true, true, true, true, true, true, true, true, true, false, false] rfl rfl (by kernel_rfl) (fun _ _ _ h => h) (Or.inl ⟨by rfl, ?_⟩) ?_ ?_
    rotate_left
    · intro w'
      go_simp
      with_reducible rfl
    rotate_left
    · simp only [Act.put, List.setIfInBounds_toArray, List.set_cons_zero, List.set_cons_succ]
      rfl
    refine Go.Proofs.YtacokmkbikdmmaaGreatDoorW.PrintLast.pure_ (i := 12) (N := some 4) (v := ?_) (a' := ?_) #[true, true, true, true, true, true, true, true, true, true, true, true, true, false] rfl rfl (by kernel_rfl) (fun _ _ _ h => h) (Or.inl ⟨by rfl, ?_⟩) ?_ ?_
    rotate_left
    · intro w'
      go_simp
      with_reducible rfl
    rotate_left
    · simp only [Act.put, List.setIfInBounds_toArray, List.set_cons_zero, List.set_cons_succ]
      rfl
    refine Go.Proofs.YtacokmkbikdmmaaGreatDoorW.PrintLast.pure_ (i := 13) (N := some 5) (v := ?_) (a' := ?_) #[true, true, true, true, true, true, true, true, true, true, true, true, true, true] rfl rfl (by kernel_rfl) (fun _ _ _ h => h) (Or.inl ⟨by rfl, ?_⟩) ?_ ?_
    rotate_left
    · intro w'
      go_simp
      with_reducible rfl
    rotate_left
    · simp only [Act.put, List.setIfInBounds_toArray, List.set_cons_zero, List.set_cons_succ]
      rfl
    refine Go.Proofs.YtacokmkbikdmmaaGreatDoorW.PrintLast.done_ (by kernel_rfl) ?_
    clear hHeld1
    go_wp2_with (fail)
    go_ret2
    exact ⟨fun _ => ⟨(180, wt0.heap.size), rfl, ⟨fun h => by have := HKK.out; omega, fun h => by have := HKK.out; omega, fun h => by have := HKK.out; omega, fun _ _ _ => ⟨(by decide : (180 : Nat) ≠ 66), (by decide : (180 : Nat) ≠ 70), (by decide : (180 : Nat) ≠ 73)⟩⟩⟩, fun h => absurd (by have := HKK.out; omega) h, HT1.out⟩
  · clear hlo hhi
    clear d1 d2 d3 d4 d5 d6 d7 d8 d9 d10 d11 d12
    go_wp2_with (fail)
    go_ret2
    exact ⟨fun h => by have := HKK.out; omega, fun _ => rfl, HD.out.2.1⟩
  · clear hlo hhi
    clear d1 d2 d3 d4 d5 d6 d7 d8 d9 d10 d11 d12
    go_wp2_with (fail)
    go_ret2
    exact ⟨fun h => by have := HKK.out; omega, fun _ => rfl, HD.out.2.1⟩
  · clear hlo hhi
    clear d1 d2 d3 d4 d5 d6 d7 d8 d9 d10 d11 d12
    go_wp2_with (fail)
    go_ret2
    exact ⟨fun h => by have := HKK.out; omega, fun _ => rfl, HD.out.2.1⟩
  · clear hlo hhi
    clear d1 d2 d3 d4 d5 d6 d7 d8 d9 d10 d11 d12
    go_wp2_with (fail)
    go_ret2
    exact ⟨fun h => by have := HKK.out; omega, fun _ => rfl, HD.out.2.1⟩
  · clear hlo hhi
    clear d1 d2 d3 d4 d5 d6 d7 d8 d9 d10 d11 d12
    go_wp2_with (fail)
    go_ret2
    exact ⟨fun h => by have := HKK.out; omega, fun _ => rfl, HD.out.2.1⟩
  · clear hlo hhi
    clear d1 d2 d3 d4 d5 d6 d7 d8 d9 d10 d11 d12
    go_wp2_with (fail)
    go_ret2
    exact ⟨fun h => by have := HKK.out; omega, fun _ => rfl, HD.out.2.1⟩
  · clear hlo hhi
    clear d1 d2 d3 d4 d5 d6 d7 d8 d9 d10 d11 d12
    go_wp2_with (fail)
    go_ret2
    exact ⟨fun h => by have := HKK.out; omega, fun _ => rfl, HD.out.2.1⟩
  · clear hlo hhi
    obtain rfl : kn = 1 := HKN.out.trans (HK.out.1.note HKK.out.symm)
    obtain ⟨p0, HL⟩ : ∃ p0 : Nd, Hid (ks = [p0]) := by
      have hl := HK.out.2.1
      rw [← HKN.out] at hl
      match ks, hl with
      | [p0], _ => exact ⟨p0, Lib.hid rfl⟩
    obtain ⟨g, rfl⟩ : ∃ g, A = some ⟨g, 0, none⟩ := by
      obtain ⟨g, e, _⟩ := HO.out 0 p0 (by rw [HL.out]; rfl)
      exact ⟨g, e⟩
    have q0 : w1.cell? ⟨g, 0, none⟩ = some (.iface p0.1 (.pointer (some ⟨p0.2, 0, none⟩))) := by
      obtain ⟨g_, e_, h1, h2⟩ := HO.out 0 p0 (by rw [HL.out]; rfl)
      cases e_
      exact h1
    have q1 : w1.cell? ⟨g, 1, none⟩ = some (.int .i32 0) := by
      obtain ⟨g_, e_, h1, h2⟩ := HO.out 0 p0 (by rw [HL.out]; rfl)
      cases e_
      exact h2
    have hh : ∀ (k : Int) (w : World), Calls Tryz.prog 55 #[.agg #[.int .i64 23, .int .i64 x.op, .int .i64 x.ref, .int .i64 x.chain, .int .i64 x.flags, .float .f64 x.num, .slice x.sa x.sn x.sc, .string x.text, .slice x.ka 1 x.kc, .slice x.pa x.pn x.pc, .slice x.qa x.qn x.qc, .slice x.fa x.fn x.fc, .slice x.ca x.cn x.cc], .int .i64 k] w (fun e w' => e = .returned (.bool (bits .and .i64 x.flags k != 0)) ∧ Below w.heap.size w w') := by
      intro k w
      have := has x k w
      rw [← HKK.out, ← HKN.out] at this
      exact this
    have HH := Lib.hid hh
    clear hh
    have HA := Lib.hid HD.out.2.1
    have hba := fun o => hb2 HA.out ((Below.refl w1.heap.size w1).alloc (Nat.le_refl _) o)
    have HBA := Lib.hid hba
    clear hba
    go_upto_region 11 with (fail)
    have hN := heap_alloc_new w1 (.cells #[.iface p0.1 (.pointer (some ⟨p0.2, 0, none⟩)), .int .i32 0, .int .u8 0] 186)
    have hNb := (Below.refl w1.heap.size w1).alloc (Nat.le_refl _) (.cells #[.iface p0.1 (.pointer (some ⟨p0.2, 0, none⟩)), .int .i32 0, .int .u8 0] 186)
    replace d0 := (hNb.cell (World.block_lt_of_cell? _ _ d0)).trans d0
    replace d1 := (hNb.cell (World.block_lt_of_cell? _ _ d1)).trans d1
    replace d2 := (hNb.cell (World.block_lt_of_cell? _ _ d2)).trans d2
    replace d3 := (hNb.cell (World.block_lt_of_cell? _ _ d3)).trans d3
    replace d4 := (hNb.cell (World.block_lt_of_cell? _ _ d4)).trans d4
    replace d5 := (hNb.cell (World.block_lt_of_cell? _ _ d5)).trans d5
    replace d6 := (hNb.cell (World.block_lt_of_cell? _ _ d6)).trans d6
    replace d7 := (hNb.cell (World.block_lt_of_cell? _ _ d7)).trans d7
    replace d8 := (hNb.cell (World.block_lt_of_cell? _ _ d8)).trans d8
    replace d9 := (hNb.cell (World.block_lt_of_cell? _ _ d9)).trans d9
    replace d10 := (hNb.cell (World.block_lt_of_cell? _ _ d10)).trans d10
    replace d11 := (hNb.cell (World.block_lt_of_cell? _ _ d11)).trans d11
    replace d12 := (hNb.cell (World.block_lt_of_cell? _ _ d12)).trans d12
    generalize w1.alloc (.cells #[.iface p0.1 (.pointer (some ⟨p0.2, 0, none⟩)), .int .i32 0, .int .u8 0] 186) = w2 at hN hNb d0 d1 d2 d3 d4 d5 d6 d7 d8 d9 d10 d11 d12 ⊢
    have HN := Lib.hid (⟨hN, hb2 HA.out hNb⟩ : _ ∧ _)
    clear hN hNb
    go_wp2_with (fail)
    refine (HH.out 1 _).mono ?_
    rintro e w3 ⟨rfl, hbel⟩
    have n2 : w3.cell? ⟨w1.heap.size, 2, none⟩ = some (.int .u8 0) := blk_cell ((hbel.block _ (blk_lt HN.out.1)).trans HN.out.1) 2
    have n3 : w3.frozen? ⟨w1.heap.size, 2, none⟩ = false := blk_frozen ((hbel.block _ (blk_lt HN.out.1)).trans HN.out.1) 2
    have HB3 := Lib.hid (hb2 HN.out.2 hbel)
    have HSZ := Lib.hid (show W.heap.size ≤ w1.heap.size from HA.out.size)
    clear hbel d0 d1 d2 d3 d4 d5 d6 d7 d8 d9 d10 d11 d12 q0 q1
    go_wp2_with (fail)
    all_goals
      go_ret2
      first | exact ⟨fun _ => ⟨(183, w1.heap.size), rfl, ⟨fun h => by have := HKK.out; omega, fun h => by have := HKK.out; omega, fun h => by have := HKK.out; omega, fun _ _ _ => ⟨(by decide : (183 : Nat) ≠ 66), (by decide : (183 : Nat) ≠ 70), (by decide : (183 : Nat) ≠ 73)⟩⟩⟩, fun h => absurd (by have := HKK.out; omega) h, HB3.out⟩ | exact ⟨fun _ => ⟨(183, w1.heap.size), rfl, ⟨fun h => by have := HKK.out; omega, fun h => by have := HKK.out; omega, fun h => by have := HKK.out; omega, fun _ _ _ => ⟨(by decide : (183 : Nat) ≠ 66), (by decide : (183 : Nat) ≠ 70), (by decide : (183 : Nat) ≠ 73)⟩⟩⟩, fun h => absurd (by have := HKK.out; omega) h, (HB3.out.setCell (p := ⟨w1.heap.size, 2, none⟩) HSZ.out _)⟩
  · clear hlo hhi
    obtain rfl : kn = 1 := HKN.out.trans (HK.out.1.enum HKK.out.symm)
    obtain ⟨p0, HL⟩ : ∃ p0 : Nd, Hid (ks = [p0]) := by
      have hl := HK.out.2.1
      rw [← HKN.out] at hl
      match ks, hl with
      | [p0], _ => exact ⟨p0, Lib.hid rfl⟩
    obtain ⟨g, rfl⟩ : ∃ g, A = some ⟨g, 0, none⟩ := by
      obtain ⟨g, e, _⟩ := HO.out 0 p0 (by rw [HL.out]; rfl)
      exact ⟨g, e⟩
    have q0 : w1.cell? ⟨g, 0, none⟩ = some (.iface p0.1 (.pointer (some ⟨p0.2, 0, none⟩))) := by
      obtain ⟨g_, e_, h1, h2⟩ := HO.out 0 p0 (by rw [HL.out]; rfl)
      cases e_
      exact h1
    have q1 : w1.cell? ⟨g, 1, none⟩ = some (.int .i32 0) := by
      obtain ⟨g_, e_, h1, h2⟩ := HO.out 0 p0 (by rw [HL.out]; rfl)
      cases e_
      exact h2
    have hh : ∀ (k : Int) (w : World), Calls Tryz.prog 55 #[.agg #[.int .i64 24, .int .i64 x.op, .int .i64 x.ref, .int .i64 x.chain, .int .i64 x.flags, .float .f64 x.num, .slice x.sa x.sn x.sc, .string x.text, .slice x.ka 1 x.kc, .slice x.pa x.pn x.pc, .slice x.qa x.qn x.qc, .slice x.fa x.fn x.fc, .slice x.ca x.cn x.cc], .int .i64 k] w (fun e w' => e = .returned (.bool (bits .and .i64 x.flags k != 0)) ∧ Below w.heap.size w w') := by
      intro k w
      have := has x k w
      rw [← HKK.out, ← HKN.out] at this
      exact this
    have HH := Lib.hid hh
    clear hh
    have HA := Lib.hid HD.out.2.1
    go_upto_region 15 with (fail)
    have HT0 := Lib.hid (show Below W.heap.size W w1.drew from HA.out.trans ⟨rfl, rfl, rfl, Nat.le_refl _, fun _ _ => rfl⟩)
    refine Go.Proofs.YtacokmkbikdmmaaGreatDoorW.PrintLast.start_ (n := 10) (S := (fun w' => w'.cell? ⟨W.heap.size, 0, none⟩ = some (.int .i64 24) ∧ w'.cell? ⟨W.heap.size, 1, none⟩ = some (.int .i64 x.op) ∧ w'.cell? ⟨W.heap.size, 2, none⟩ = some (.int .i64 x.ref) ∧ w'.cell? ⟨W.heap.size, 3, none⟩ = some (.int .i64 x.chain) ∧ w'.cell? ⟨W.heap.size, 4, none⟩ = some (.int .i64 x.flags) ∧ w'.cell? ⟨W.heap.size, 5, none⟩ = some (.float .f64 x.num) ∧ w'.cell? ⟨W.heap.size, 6, none⟩ = some (.slice x.sa x.sn x.sc) ∧ w'.cell? ⟨W.heap.size, 7, none⟩ = some (.string x.text) ∧ w'.cell? ⟨W.heap.size, 8, none⟩ = some (.slice x.ka 1 x.kc) ∧ w'.cell? ⟨W.heap.size, 9, none⟩ = some (.slice x.pa x.pn x.pc) ∧ w'.cell? ⟨W.heap.size, 10, none⟩ = some (.slice x.qa x.qn x.qc) ∧ w'.cell? ⟨W.heap.size, 11, none⟩ = some (.slice x.fa x.fn x.fc) ∧ w'.cell? ⟨W.heap.size, 12, none⟩ = some (.slice x.ca x.cn x.cc) ∧ w'.cell? ⟨g, 0, none⟩ = some (.iface p0.1 (.pointer (some ⟨p0.2, 0, none⟩))) ∧ w'.cell? ⟨g, 1, none⟩ = some (.int .i32 0))) (ds := []) #[false, false, false, false, false, false, false, false, false, false] (by kernel_rfl) rfl rfl ⟨d0, d1, d2, d3, d4, d5, d6, d7, d8, d9, d10, d11, d12, q0, q1⟩ (fun hHeld0 => ?_)
    clear d0 d1 d2 d3 d4 d5 d6 d7 d8 d9 d10 d11 d12 q0 q1
    generalize w1.drew = wt0 at HT0 hHeld0 ⊢
    refine Go.Proofs.YtacokmkbikdmmaaGreatDoorW.PrintLast.pure_ (i := 0) (N := some 116) (v := ?_) (a' := ?_) #[true, false, false, false, false, false, false, false, false, false] rfl rfl (by kernel_rfl) (fun _ _ _ h => h) (Or.inl ⟨by rfl, ?_⟩) ?_ ?_
    rotate_left
    · intro w'
      go_simp
      with_reducible rfl
    rotate_left
    · simp only [Act.put, List.setIfInBounds_toArray, List.set_cons_zero, List.set_cons_succ]
      rfl
    refine Go.Proofs.YtacokmkbikdmmaaGreatDoorW.PrintLast.pure_ (i := 1) (N := some 117) (v := ?_) (a' := ?_) #[true, true, false, false, false, false, false, false, false, false] rfl rfl (by kernel_rfl) (fun _ _ _ h => h) (Or.inl ⟨by rfl, ?_⟩) ?_ ?_
    rotate_left
    · intro w'
      go_simp
      with_reducible rfl
    rotate_left
    · simp only [Act.put, List.setIfInBounds_toArray, List.set_cons_zero, List.set_cons_succ]
      rfl
    refine Go.Proofs.YtacokmkbikdmmaaGreatDoorW.PrintLast.take_ (i := 2) (N := some 118) (v := ?_) (a' := ?_) #[true, true, true, false, false, false, false, false, false, false] rfl rfl (by kernel_rfl) (fun _ _ _ h => h) (Or.inl ⟨by rfl, ?_⟩) hHeld0 ?_ ?_
    rotate_left
    · rintro w' ⟨s0, s1, s2, s3, s4, s5, s6, s7, s8, s9, s10, s11, s12, s13, s14⟩
      go_simp
      with_reducible rfl
    rotate_left
    · simp only [Act.put, List.setIfInBounds_toArray, List.set_cons_zero, List.set_cons_succ]
      rfl
    refine Go.Proofs.YtacokmkbikdmmaaGreatDoorW.PrintLast.pure_ (i := 3) (N := some 119) (v := ?_) (a' := ?_) #[true, true, true, true, false, false, false, false, false, false] rfl rfl (by kernel_rfl) (fun _ _ _ h => h) (Or.inl ⟨by rfl, ?_⟩) ?_ ?_
    rotate_left
    · intro w'
      go_simp
      with_reducible rfl
    rotate_left
    · simp only [Act.put, List.setIfInBounds_toArray, List.set_cons_zero, List.set_cons_succ]
      rfl
    refine Go.Proofs.YtacokmkbikdmmaaGreatDoorW.PrintLast.take_ (i := 4) (N := some 120) (v := ?_) (a' := ?_) #[true, true, true, true, true, false, false, false, false, false] rfl rfl (by kernel_rfl) (fun _ _ _ h => h) (Or.inl ⟨by rfl, ?_⟩) hHeld0 ?_ ?_
    rotate_left
    · rintro w' ⟨s0, s1, s2, s3, s4, s5, s6, s7, s8, s9, s10, s11, s12, s13, s14⟩
      go_simp
      with_reducible rfl
    rotate_left
    · simp only [Act.put, List.setIfInBounds_toArray, List.set_cons_zero, List.set_cons_succ]
      rfl
    refine Go.Proofs.YtacokmkbikdmmaaGreatDoorW.PrintLast.pure_ (i := 5) (N := some 121) (v := ?_) (a' := ?_) #[true, true, true, true, true, true, false, false, false, false] rfl rfl (by kernel_rfl) (fun _ _ _ h => h) (Or.inl ⟨by rfl, ?_⟩) ?_ ?_
    rotate_left
    · intro w'
      go_simp
      with_reducible rfl
    rotate_left
    · simp only [Act.put, List.setIfInBounds_toArray, List.set_cons_zero, List.set_cons_succ]
      rfl
    refine Go.Proofs.YtacokmkbikdmmaaGreatDoorW.PrintLast.one_ (i := 6) (N := some 122) #[true, true, true, true, true, true, true, false, false, false] rfl rfl (by kernel_rfl) (by decide) (fun K hK => ?_)
    go_simp
    have hbt1 := (Below.refl wt0.heap.size wt0).alloc (Nat.le_refl _) (.cells #[.iface p0.1 (.pointer (some ⟨p0.2, 0, none⟩)), .int .i32 0, .string x.text] 189)
    have hnew := heap_alloc_new wt0 (.cells #[.iface p0.1 (.pointer (some ⟨p0.2, 0, none⟩)), .int .i32 0, .string x.text] 189)
    generalize wt0.alloc (.cells #[.iface p0.1 (.pointer (some ⟨p0.2, 0, none⟩)), .int .i32 0, .string x.text] 189) = wt1 at hbt1 hnew ⊢
    have HNEW := Lib.hid hnew
    clear hnew
    refine hK.out _ _ ⟨(hbt1.cell (World.block_lt_of_cell? _ _ hHeld0.1)).trans hHeld0.1, (hbt1.cell (World.block_lt_of_cell? _ _ hHeld0.2.1)).trans hHeld0.2.1, (hbt1.cell (World.block_lt_of_cell? _ _ hHeld0.2.2.1)).trans hHeld0.2.2.1, (hbt1.cell (World.block_lt_of_cell? _ _ hHeld0.2.2.2.1)).trans hHeld0.2.2.2.1, (hbt1.cell (World.block_lt_of_cell? _ _ hHeld0.2.2.2.2.1)).trans hHeld0.2.2.2.2.1, (hbt1.cell (World.block_lt_of_cell? _ _ hHeld0.2.2.2.2.2.1)).trans hHeld0.2.2.2.2.2.1, (hbt1.cell (World.block_lt_of_cell? _ _ hHeld0.2.2.2.2.2.2.1)).trans hHeld0.2.2.2.2.2.2.1, (hbt1.cell (World.block_lt_of_cell? _ _ hHeld0.2.2.2.2.2.2.2.1)).trans hHeld0.2.2.2.2.2.2.2.1, (hbt1.cell (World.block_lt_of_cell? _ _ hHeld0.2.2.2.2.2.2.2.2.1)).trans hHeld0.2.2.2.2.2.2.2.2.1, (hbt1.cell (World.block_lt_of_cell? _ _ hHeld0.2.2.2.2.2.2.2.2.2.1)).trans hHeld0.2.2.2.2.2.2.2.2.2.1, (hbt1.cell (World.block_lt_of_cell? _ _ hHeld0.2.2.2.2.2.2.2.2.2.2.1)).trans hHeld0.2.2.2.2.2.2.2.2.2.2.1, (hbt1.cell (World.block_lt_of_cell? _ _ hHeld0.2.2.2.2.2.2.2.2.2.2.2.1)).trans hHeld0.2.2.2.2.2.2.2.2.2.2.2.1, (hbt1.cell (World.block_lt_of_cell? _ _ hHeld0.2.2.2.2.2.2.2.2.2.2.2.2.1)).trans hHeld0.2.2.2.2.2.2.2.2.2.2.2.2.1, (hbt1.cell (World.block_lt_of_cell? _ _ hHeld0.2.2.2.2.2.2.2.2.2.2.2.2.2.1)).trans hHeld0.2.2.2.2.2.2.2.2.2.2.2.2.2.1, (hbt1.cell (World.block_lt_of_cell? _ _ hHeld0.2.2.2.2.2.2.2.2.2.2.2.2.2.2)).trans hHeld0.2.2.2.2.2.2.2.2.2.2.2.2.2.2⟩ (fun hHeld1 => ?_)
    clear hK K
    have HT1 := Lib.hid (hb2 HT0.out hbt1)
    clear hbt1 hHeld0
    refine Go.Proofs.YtacokmkbikdmmaaGreatDoorW.PrintLast.pure_ (i := 7) (N := some 123) (v := ?_) (a' := ?_) #[true, true, true, true, true, true, true, true, false, false] rfl rfl (by kernel_rfl) (fun _ _ _ h => h) (Or.inl ⟨by rfl, ?_⟩) ?_ ?_
    rotate_left
    · intro w'
      go_simp
      with_reducible rfl
    rotate_left
    · simp only [Act.put, List.setIfInBounds_toArray, List.set_cons_zero, List.set_cons_succ]
      rfl
    refine Go.Proofs.YtacokmkbikdmmaaGreatDoorW.PrintLast.pure_ (i := 8) (N := some 4) (v := ?_) (a' := ?_) #[true, true, true, true, true, true, true, true, true, false] rfl rfl (by kernel_rfl) (fun _ _ _ h => h) (Or.inl ⟨by rfl, ?_⟩) ?_ ?_
    rotate_left
    · intro w'
      go_simp
      with_reducible rfl
    rotate_left
    · simp only [Act.put, List.setIfInBounds_toArray, List.set_cons_zero, List.set_cons_succ]
      rfl
    refine Go.Proofs.YtacokmkbikdmmaaGreatDoorW.PrintLast.pure_ (i := 9) (N := some 5) (v := ?_) (a' := ?_) #[true, true, true, true, true, true, true, true, true, true] rfl rfl (by kernel_rfl) (fun _ _ _ h => h) (Or.inl ⟨by rfl, ?_⟩) ?_ ?_
    rotate_left
    · intro w'
      go_simp
      with_reducible rfl
    rotate_left
    · simp only [Act.put, List.setIfInBounds_toArray, List.set_cons_zero, List.set_cons_succ]
      rfl
    refine Go.Proofs.YtacokmkbikdmmaaGreatDoorW.PrintLast.done_ (by kernel_rfl) ?_
    clear hHeld1
    go_wp2_with (fail)
    go_ret2
    exact ⟨fun _ => ⟨(187, wt0.heap.size), rfl, ⟨fun h => by have := HKK.out; omega, fun h => by have := HKK.out; omega, fun h => by have := HKK.out; omega, fun _ _ _ => ⟨(by decide : (187 : Nat) ≠ 66), (by decide : (187 : Nat) ≠ 70), (by decide : (187 : Nat) ≠ 73)⟩⟩⟩, fun h => absurd (by have := HKK.out; omega) h, HT1.out⟩
  · clear hlo hhi
    clear d1 d2 d3 d4 d5 d6 d7 d8 d9 d10 d11 d12
    go_wp2_with (fail)
    go_ret2
    exact ⟨fun h => by have := HKK.out; omega, fun _ => rfl, HD.out.2.1⟩
  · clear hlo hhi
    clear d1 d2 d3 d4 d5 d6 d7 d8 d9 d10 d11 d12
    go_wp2_with (fail)
    go_ret2
    exact ⟨fun h => by have := HKK.out; omega, fun _ => rfl, HD.out.2.1⟩
end Go.Proofs.YtacokmkbikdmmaaGreatDoor.trees
