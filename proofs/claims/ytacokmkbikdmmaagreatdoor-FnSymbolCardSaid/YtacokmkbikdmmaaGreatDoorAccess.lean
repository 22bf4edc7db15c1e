/-
  impl.access: an access to a property, or a call, becomes a node that tells its chain and whether it is a symbol.
  Conditions: none.
-/
import Derived.Test.YtacokmkbikdmmaaGreatDoorNodes
import Derived.Test.YtacokmkbikdmmaaGreatDoorWLast
import Derived.Laws.BitsAllLaws
namespace Go.Proofs.YtacokmkbikdmmaaGreatDoor.trees
open Go Go.RowKit
set_option linter.unusedVariables false
set_option linter.unusedSimpArgs false

attribute [local go_sem] run_store_float
/-- a kind that a function serves becomes a node, another one nothing -/
def NodeR (K : Prop) (x : X) (W : World) (e : Ending) (w' : World) : Prop := (K → ∃ p : Nd, e = .returned (.tuple #[.iface p.1 (.pointer (some ⟨p.2, 0, none⟩)), .bool true]) ∧ Top w' x p) ∧ (¬ K → e = .returned (.tuple #[.nilIface, .bool false])) ∧ Below W.heap.size W w'
set_option maxHeartbeats 4000000 in
set_option maxRecDepth 100000 in
theorem access (x : X) (A : Option Addr) (cap : Nat) (ks : List Nd) (W : World) (hk : Kc x) (hl : ks.length = x.kn) (hO : Outs W A ks) (hc : x.kn ≤ cap) (hm : cap ≤ maxLen) : Calls Tryz.prog 34 #[.agg #[.int .i64 x.kind, .int .i64 x.op, .int .i64 x.ref, .int .i64 x.chain, .int .i64 x.flags, .float .f64 x.num, .slice x.sa x.sn x.sc, .string x.text, .slice x.ka x.kn x.kc, .slice x.pa x.pn x.pc, .slice x.qa x.qn x.qc, .slice x.fa x.fn x.fc, .slice x.ca x.cn x.cc], .slice A x.kn cap] W (fun e w' => NodeR (x.kind = 16 ∨ x.kind = 17 ∨ x.kind = 18 ∨ x.kind = 19) x W e w') := by
  have HK := Lib.hid (⟨hk, hl, hO, hm⟩ : _ ∧ _ ∧ _ ∧ _)
  have hcap : x.kn ≤ cap := hc
  clear hk hl hO hm hc
  go_enter Tryz.func34, Tryz.ntmps34
  go_upto_region 1 with (fail)
  have hD := heap_alloc_new W (.cells #[.int .i64 x.kind, .int .i64 x.op, .int .i64 x.ref, .int .i64 x.chain, .int .i64 x.flags, .float .f64 x.num, .slice x.sa x.sn x.sc, .string x.text, .slice x.ka x.kn x.kc, .slice x.pa x.pn x.pc, .slice x.qa x.qn x.qc, .slice x.fa x.fn x.fc, .slice x.ca x.cn x.cc] 30)
  have hDb := (Below.refl W.heap.size W).alloc (Nat.le_refl _) (.cells #[.int .i64 x.kind, .int .i64 x.op, .int .i64 x.ref, .int .i64 x.chain, .int .i64 x.flags, .float .f64 x.num, .slice x.sa x.sn x.sc, .string x.text, .slice x.ka x.kn x.kc, .slice x.pa x.pn x.pc, .slice x.qa x.qn x.qc, .slice x.fa x.fn x.fc, .slice x.ca x.cn x.cc] 30)
  have hDs : (W.alloc (.cells #[.int .i64 x.kind, .int .i64 x.op, .int .i64 x.ref, .int .i64 x.chain, .int .i64 x.flags, .float .f64 x.num, .slice x.sa x.sn x.sc, .string x.text, .slice x.ka x.kn x.kc, .slice x.pa x.pn x.pc, .slice x.qa x.qn x.qc, .slice x.fa x.fn x.fc, .slice x.ca x.cn x.cc] 30)).heap.size = W.heap.size + 1 := by simp
  generalize W.alloc (.cells #[.int .i64 x.kind, .int .i64 x.op, .int .i64 x.ref, .int .i64 x.chain, .int .i64 x.flags, .float .f64 x.num, .slice x.sa x.sn x.sc, .string x.text, .slice x.ka x.kn x.kc, .slice x.pa x.pn x.pc, .slice x.qa x.qn x.qc, .slice x.fa x.fn x.fc, .slice x.ca x.cn x.cc] 30) = w1 at hD hDb hDs ⊢
  have d0 : w1.cell? ⟨W.heap.size, 0, none⟩ = some (.int .i64 x.kind) := blk_cell hD 0
  have d1 : w1.cell? ⟨W.heap.size, 1, none⟩ = some (.int .i64 x.op) := blk_cell hD 1
  have d2 : w1.cell? ⟨W.heap.size, 2, none⟩ = some (.int .i64 x.ref) := blk_cell hD 2
  have d3 : w1.cell? ⟨W.heap.size, 3, none⟩ = some (.int .i64 x.chain) := blk_cell hD 3
  have d4 : w1.cell? ⟨W.heap.size, 4, none⟩ = some (.int .i64 x.flags) := blk_cell hD 4
  have d5 : w1.cell? ⟨W.heap.size, 5, none⟩ = some (.float .f64 x.num) := blk_cell hD 5
  have d6 : w1.cell? ⟨W.heap.size, 6, none⟩ = some (.slice x.sa x.sn x.sc) := blk_cell hD 6
  have d7 : w1.cell? ⟨W.heap.size, 7, none⟩ = some (.string x.text) := blk_cell hD 7
  have d8 : w1.cell? ⟨W.heap.size, 8, none⟩ = some (.slice x.ka x.kn x.kc) := blk_cell hD 8
  have d9 : w1.cell? ⟨W.heap.size, 9, none⟩ = some (.slice x.pa x.pn x.pc) := blk_cell hD 9
  have d10 : w1.cell? ⟨W.heap.size, 10, none⟩ = some (.slice x.qa x.qn x.qc) := blk_cell hD 10
  have d11 : w1.cell? ⟨W.heap.size, 11, none⟩ = some (.slice x.fa x.fn x.fc) := blk_cell hD 11
  have d12 : w1.cell? ⟨W.heap.size, 12, none⟩ = some (.slice x.ca x.cn x.cc) := blk_cell hD 12
  have HD := Lib.hid (⟨hD, hDb, hDs⟩ : _ ∧ _ ∧ _)
  clear hD hDb hDs
  have HO := Lib.hid (HK.out.2.2.1.below HD.out.2.1)
  generalize Value.agg #[.int .i64 x.kind, .int .i64 x.op, .int .i64 x.ref, .int .i64 x.chain, .int .i64 x.flags, .float .f64 x.num, .slice x.sa x.sn x.sc, .string x.text, .slice x.ka x.kn x.kc, .slice x.pa x.pn x.pc, .slice x.qa x.qn x.qc, .slice x.fa x.fn x.fc, .slice x.ca x.cn x.cc] = arg
  have hlo := HK.out.1.lo
  have hhi := HK.out.1.hi
  obtain ⟨kk, hkk⟩ : ∃ kk, kk = x.kind := ⟨_, rfl⟩
  rw [← hkk] at d0 hlo hhi
  have HKK := Lib.hid hkk
  clear hkk
  obtain ⟨kn, hkn⟩ : ∃ kn, kn = x.kn := ⟨_, rfl⟩
  have HKN := Lib.hid hkn
  rw [← hkn] at d8 hcap ⊢
  clear hkn
  rcases (show kk = 0 ∨ kk = 1 ∨ kk = 2 ∨ kk = 3 ∨ kk = 4 ∨ kk = 5 ∨ kk = 6 ∨ kk = 7 ∨ kk = 8 ∨ kk = 9 ∨ kk = 10 ∨ kk = 11 ∨ kk = 12 ∨ kk = 13 ∨ kk = 14 ∨ kk = 15 ∨ kk = 16 ∨ kk = 17 ∨ kk = 18 ∨ kk = 19 ∨ kk = 20 ∨ kk = 21 ∨ kk = 22 ∨ kk = 23 ∨ kk = 24 ∨ kk = 25 ∨ kk = 26 by omega) with rfl | rfl | rfl | rfl | rfl | rfl | rfl | rfl | rfl | rfl | rfl | rfl | rfl | rfl | rfl | rfl | rfl | rfl | rfl | rfl | rfl | rfl | rfl | rfl | rfl | rfl | rfl
  · clear hlo hhi
    clear d1 d2 d4 d5 d6 d7 d8 d9 d10 d11 d12
    go_wp2_with (fail)
    go_ret2
    exact ⟨fun h => by have := HKK.out; omega, fun _ => rfl, HD.out.2.1⟩
  · clear hlo hhi
    clear d1 d2 d4 d5 d6 d7 d8 d9 d10 d11 d12
    go_wp2_with (fail)
    go_ret2
    exact ⟨fun h => by have := HKK.out; omega, fun _ => rfl, HD.out.2.1⟩
  · clear hlo hhi
    clear d1 d2 d4 d5 d6 d7 d8 d9 d10 d11 d12
    go_wp2_with (fail)
    go_ret2
    exact ⟨fun h => by have := HKK.out; omega, fun _ => rfl, HD.out.2.1⟩
  · clear hlo hhi
    clear d1 d2 d4 d5 d6 d7 d8 d9 d10 d11 d12
    go_wp2_with (fail)
    go_ret2
    exact ⟨fun h => by have := HKK.out; omega, fun _ => rfl, HD.out.2.1⟩
  · clear hlo hhi
    clear d1 d2 d4 d5 d6 d7 d8 d9 d10 d11 d12
    go_wp2_with (fail)
    go_ret2
    exact ⟨fun h => by have := HKK.out; omega, fun _ => rfl, HD.out.2.1⟩
  · clear hlo hhi
    clear d1 d2 d4 d5 d6 d7 d8 d9 d10 d11 d12
    go_wp2_with (fail)
    go_ret2
    exact ⟨fun h => by have := HKK.out; omega, fun _ => rfl, HD.out.2.1⟩
  · clear hlo hhi
    clear d1 d2 d4 d5 d6 d7 d8 d9 d10 d11 d12
    go_wp2_with (fail)
    go_ret2
    exact ⟨fun h => by have := HKK.out; omega, fun _ => rfl, HD.out.2.1⟩
  · clear hlo hhi
    clear d1 d2 d4 d5 d6 d7 d8 d9 d10 d11 d12
    go_wp2_with (fail)
    go_ret2
    exact ⟨fun h => by have := HKK.out; omega, fun _ => rfl, HD.out.2.1⟩
  · clear hlo hhi
    clear d1 d2 d4 d5 d6 d7 d8 d9 d10 d11 d12
    go_wp2_with (fail)
    go_ret2
    exact ⟨fun h => by have := HKK.out; omega, fun _ => rfl, HD.out.2.1⟩
  · clear hlo hhi
    clear d1 d2 d4 d5 d6 d7 d8 d9 d10 d11 d12
    go_wp2_with (fail)
    go_ret2
    exact ⟨fun h => by have := HKK.out; omega, fun _ => rfl, HD.out.2.1⟩
  · clear hlo hhi
    clear d1 d2 d4 d5 d6 d7 d8 d9 d10 d11 d12
    go_wp2_with (fail)
    go_ret2
    exact ⟨fun h => by have := HKK.out; omega, fun _ => rfl, HD.out.2.1⟩
  · clear hlo hhi
    clear d1 d2 d4 d5 d6 d7 d8 d9 d10 d11 d12
    go_wp2_with (fail)
    go_ret2
    exact ⟨fun h => by have := HKK.out; omega, fun _ => rfl, HD.out.2.1⟩
  · clear hlo hhi
    clear d1 d2 d4 d5 d6 d7 d8 d9 d10 d11 d12
    go_wp2_with (fail)
    go_ret2
    exact ⟨fun h => by have := HKK.out; omega, fun _ => rfl, HD.out.2.1⟩
  · clear hlo hhi
    clear d1 d2 d4 d5 d6 d7 d8 d9 d10 d11 d12
    go_wp2_with (fail)
    go_ret2
    exact ⟨fun h => by have := HKK.out; omega, fun _ => rfl, HD.out.2.1⟩
  · clear hlo hhi
    clear d1 d2 d4 d5 d6 d7 d8 d9 d10 d11 d12
    go_wp2_with (fail)
    go_ret2
    exact ⟨fun h => by have := HKK.out; omega, fun _ => rfl, HD.out.2.1⟩
  · clear hlo hhi
    clear d1 d2 d4 d5 d6 d7 d8 d9 d10 d11 d12
    go_wp2_with (fail)
    go_ret2
    exact ⟨fun h => by have := HKK.out; omega, fun _ => rfl, HD.out.2.1⟩
  · clear hlo hhi
    obtain rfl : kn = 1 := HKN.out.trans (HK.out.1.dot HKK.out.symm)
    obtain ⟨p0, HL⟩ : ∃ p0 : Nd, Hid (ks = [p0]) := by
      have hl := HK.out.2.1
      rw [← HKN.out] at hl
      match ks, hl with
      | [p0], _ => exact ⟨p0, Lib.hid rfl⟩
    obtain ⟨g, rfl⟩ : ∃ g, A = some ⟨g, 0, none⟩ := by
      obtain ⟨g, e, _⟩ := HO.out 0 p0 (by rw [HL.out]; rfl)
      exact ⟨g, e⟩
    have q0 : w1.cell? ⟨g, 0, none⟩ = some (.iface p0.1 (.pointer (some ⟨p0.2, 0, none⟩))) := by
      obtain ⟨g_, e_, h1, h2⟩ := HO.out 0 p0 (by rw [HL.out]; rfl)
      cases e_
      exact h1
    have q1 : w1.cell? ⟨g, 1, none⟩ = some (.int .i32 0) := by
      obtain ⟨g_, e_, h1, h2⟩ := HO.out 0 p0 (by rw [HL.out]; rfl)
      cases e_
      exact h2
    have hh : ∀ (k : Int) (w : World), Calls Tryz.prog 55 #[.agg #[.int .i64 16, .int .i64 x.op, .int .i64 x.ref, .int .i64 x.chain, .int .i64 x.flags, .float .f64 x.num, .slice x.sa x.sn x.sc, .string x.text, .slice x.ka 1 x.kc, .slice x.pa x.pn x.pc, .slice x.qa x.qn x.qc, .slice x.fa x.fn x.fc, .slice x.ca x.cn x.cc], .int .i64 k] w (fun e w' => e = .returned (.bool (bits .and .i64 x.flags k != 0)) ∧ Below w.heap.size w w') := by
      intro k w
      have := has x k w
      rw [← HKK.out, ← HKN.out] at this
      exact this
    have HH := Lib.hid hh
    clear hh
    go_upto_region 3 with (fail)
    have HA := Lib.hid HD.out.2.1
    have HT0 := Lib.hid (show Below W.heap.size W w1.drew from HA.out.trans ⟨rfl, rfl, rfl, Nat.le_refl _, fun _ _ => rfl⟩)
    refine Go.Proofs.YtacokmkbikdmmaaGreatDoorW.PrintLast.start_ (n := 17) (S := (fun w' => w'.cell? ⟨W.heap.size, 0, none⟩ = some (.int .i64 16) ∧ w'.cell? ⟨W.heap.size, 1, none⟩ = some (.int .i64 x.op) ∧ w'.cell? ⟨W.heap.size, 2, none⟩ = some (.int .i64 x.ref) ∧ w'.cell? ⟨W.heap.size, 3, none⟩ = some (.int .i64 x.chain) ∧ w'.cell? ⟨W.heap.size, 4, none⟩ = some (.int .i64 x.flags) ∧ w'.cell? ⟨W.heap.size, 5, none⟩ = some (.float .f64 x.num) ∧ w'.cell? ⟨W.heap.size, 6, none⟩ = some (.slice x.sa x.sn x.sc) ∧ w'.cell? ⟨W.heap.size, 7, none⟩ = some (.string x.text) ∧ w'.cell? ⟨W.heap.size, 8, none⟩ = some (.slice x.ka 1 x.kc) ∧ w'.cell? ⟨W.heap.size, 9, none⟩ = some (.slice x.pa x.pn x.pc) ∧ w'.cell? ⟨W.heap.size, 10, none⟩ = some (.slice x.qa x.qn x.qc) ∧ w'.cell? ⟨W.heap.size, 11, none⟩ = some (.slice x.fa x.fn x.fc) ∧ w'.cell? ⟨W.heap.size, 12, none⟩ = some (.slice x.ca x.cn x.cc) ∧ w'.cell? ⟨g, 0, none⟩ = some (.iface p0.1 (.pointer (some ⟨p0.2, 0, none⟩))) ∧ w'.cell? ⟨g, 1, none⟩ = some (.int .i32 0))) (ds := []) #[false, false, false, false, false, false, false, false, false, false, false, false, false, false, false, false, false] (by kernel_rfl) rfl rfl ⟨d0, d1, d2, d3, d4, d5, d6, d7, d8, d9, d10, d11, d12, q0, q1⟩ (fun hHeld0 => ?_)
    clear d0 d1 d2 d3 d4 d5 d6 d7 d8 d9 d10 d11 d12 q0 q1
    refine Go.Proofs.YtacokmkbikdmmaaGreatDoorW.PrintLast.pure_ (i := 0) (N := some 19) (v := ?_) (a' := ?_) #[true, false, false, false, false, false, false, false, false, false, false, false, false, false, false, false, false] rfl rfl (by kernel_rfl) (fun _ _ _ h => h) (Or.inl ⟨by rfl, ?_⟩) ?_ ?_
    rotate_left
    · intro w'
      go_simp
      with_reducible rfl
    rotate_left
    · simp only [Act.put, List.setIfInBounds_toArray, List.set_cons_zero, List.set_cons_succ]
      rfl
    refine Go.Proofs.YtacokmkbikdmmaaGreatDoorW.PrintLast.pure_ (i := 1) (N := some 20) (v := ?_) (a' := ?_) #[true, true, false, false, false, false, false, false, false, false, false, false, false, false, false, false, false] rfl rfl (by kernel_rfl) (fun _ _ _ h => h) (Or.inl ⟨by rfl, ?_⟩) ?_ ?_
    rotate_left
    · intro w'
      go_simp
      with_reducible rfl
    rotate_left
    · simp only [Act.put, List.setIfInBounds_toArray, List.set_cons_zero, List.set_cons_succ]
      rfl
    refine Go.Proofs.YtacokmkbikdmmaaGreatDoorW.PrintLast.take_ (i := 2) (N := some 21) (v := ?_) (a' := ?_) #[true, true, true, false, false, false, false, false, false, false, false, false, false, false, false, false, false] rfl rfl (by kernel_rfl) (fun _ _ _ h => h) (Or.inl ⟨by rfl, ?_⟩) hHeld0 ?_ ?_
    rotate_left
    · rintro w' ⟨s0, s1, s2, s3, s4, s5, s6, s7, s8, s9, s10, s11, s12, s13, s14⟩
      go_simp
      with_reducible rfl
    rotate_left
    · simp only [Act.put, List.setIfInBounds_toArray, List.set_cons_zero, List.set_cons_succ]
      rfl
    refine Go.Proofs.YtacokmkbikdmmaaGreatDoorW.PrintLast.pure_ (i := 3) (N := some 22) (v := ?_) (a' := ?_) #[true, true, true, true, false, false, false, false, false, false, false, false, false, false, false, false, false] rfl rfl (by kernel_rfl) (fun _ _ _ h => h) (Or.inl ⟨by rfl, ?_⟩) ?_ ?_
    rotate_left
    · intro w'
      go_simp
      with_reducible rfl
    rotate_left
    · simp only [Act.put, List.setIfInBounds_toArray, List.set_cons_zero, List.set_cons_succ]
      rfl
    refine Go.Proofs.YtacokmkbikdmmaaGreatDoorW.PrintLast.take_ (i := 4) (N := some 23) (v := ?_) (a' := ?_) #[true, true, true, true, true, false, false, false, false, false, false, false, false, false, false, false, false] rfl rfl (by kernel_rfl) (fun _ _ _ h => h) (Or.inl ⟨by rfl, ?_⟩) hHeld0 ?_ ?_
    rotate_left
    · rintro w' ⟨s0, s1, s2, s3, s4, s5, s6, s7, s8, s9, s10, s11, s12, s13, s14⟩
      go_simp
      with_reducible rfl
    rotate_left
    · simp only [Act.put, List.setIfInBounds_toArray, List.set_cons_zero, List.set_cons_succ]
      rfl
    refine Go.Proofs.YtacokmkbikdmmaaGreatDoorW.PrintLast.pure_ (i := 5) (N := some 24) (v := ?_) (a' := ?_) #[true, true, true, true, true, true, false, false, false, false, false, false, false, false, false, false, false] rfl rfl (by kernel_rfl) (fun _ _ _ h => h) (Or.inl ⟨by rfl, ?_⟩) ?_ ?_
    rotate_left
    · intro w'
      go_simp
      with_reducible rfl
    rotate_left
    · simp only [Act.put, List.setIfInBounds_toArray, List.set_cons_zero, List.set_cons_succ]
      rfl
    refine Go.Proofs.YtacokmkbikdmmaaGreatDoorW.PrintLast.take_ (i := 6) (N := some 25) (v := ?_) (a' := ?_) #[true, true, true, true, true, true, true, false, false, false, false, false, false, false, false, false, false] rfl rfl (by kernel_rfl) (fun _ _ _ h => h) (Or.inl ⟨by rfl, ?_⟩) hHeld0 ?_ ?_
    rotate_left
    · rintro w' ⟨s0, s1, s2, s3, s4, s5, s6, s7, s8, s9, s10, s11, s12, s13, s14⟩
      go_simp
      with_reducible rfl
    rotate_left
    · simp only [Act.put, List.setIfInBounds_toArray, List.set_cons_zero, List.set_cons_succ]
      rfl
    refine Go.Proofs.YtacokmkbikdmmaaGreatDoorW.PrintLast.take_ (i := 8) (N := some 27) (v := ?_) (a' := ?_) #[true, true, true, true, true, true, true, false, true, false, false, false, false, false, false, false, false] rfl rfl (by kernel_rfl) (fun _ _ _ h => h) (Or.inl ⟨by rfl, ?_⟩) hHeld0 ?_ ?_
    rotate_left
    · rintro w' ⟨s0, s1, s2, s3, s4, s5, s6, s7, s8, s9, s10, s11, s12, s13, s14⟩
      go_simp
      with_reducible rfl
    rotate_left
    · simp only [Act.put, List.setIfInBounds_toArray, List.set_cons_zero, List.set_cons_succ]
      rfl
    refine Go.Proofs.YtacokmkbikdmmaaGreatDoorW.PrintLast.take_ (i := 10) (N := some 29) (v := ?_) (a' := ?_) #[true, true, true, true, true, true, true, false, true, false, true, false, false, false, false, false, false] rfl rfl (by kernel_rfl) (fun _ _ _ h => h) (Or.inl ⟨by rfl, ?_⟩) hHeld0 ?_ ?_
    rotate_left
    · rintro w' ⟨s0, s1, s2, s3, s4, s5, s6, s7, s8, s9, s10, s11, s12, s13, s14⟩
      go_simp
      with_reducible rfl
    rotate_left
    · simp only [Act.put, List.setIfInBounds_toArray, List.set_cons_zero, List.set_cons_succ]
      rfl
    refine Go.Proofs.YtacokmkbikdmmaaGreatDoorW.PrintLast.one_ (i := 7) (N := some 26) #[true, true, true, true, true, true, true, true, true, false, true, false, false, false, false, false, false] rfl rfl (by kernel_rfl) (by decide) (fun K hK => ?_)
    go_simp
    refine (HH.out 1 _).mono ?_
    rintro e wt1 ⟨rfl, hbt1⟩
    refine hK.out _ _ ⟨(hbt1.cell (World.block_lt_of_cell? _ _ hHeld0.1)).trans hHeld0.1, (hbt1.cell (World.block_lt_of_cell? _ _ hHeld0.2.1)).trans hHeld0.2.1, (hbt1.cell (World.block_lt_of_cell? _ _ hHeld0.2.2.1)).trans hHeld0.2.2.1, (hbt1.cell (World.block_lt_of_cell? _ _ hHeld0.2.2.2.1)).trans hHeld0.2.2.2.1, (hbt1.cell (World.block_lt_of_cell? _ _ hHeld0.2.2.2.2.1)).trans hHeld0.2.2.2.2.1, (hbt1.cell (World.block_lt_of_cell? _ _ hHeld0.2.2.2.2.2.1)).trans hHeld0.2.2.2.2.2.1, (hbt1.cell (World.block_lt_of_cell? _ _ hHeld0.2.2.2.2.2.2.1)).trans hHeld0.2.2.2.2.2.2.1, (hbt1.cell (World.block_lt_of_cell? _ _ hHeld0.2.2.2.2.2.2.2.1)).trans hHeld0.2.2.2.2.2.2.2.1, (hbt1.cell (World.block_lt_of_cell? _ _ hHeld0.2.2.2.2.2.2.2.2.1)).trans hHeld0.2.2.2.2.2.2.2.2.1, (hbt1.cell (World.block_lt_of_cell? _ _ hHeld0.2.2.2.2.2.2.2.2.2.1)).trans hHeld0.2.2.2.2.2.2.2.2.2.1, (hbt1.cell (World.block_lt_of_cell? _ _ hHeld0.2.2.2.2.2.2.2.2.2.2.1)).trans hHeld0.2.2.2.2.2.2.2.2.2.2.1, (hbt1.cell (World.block_lt_of_cell? _ _ hHeld0.2.2.2.2.2.2.2.2.2.2.2.1)).trans hHeld0.2.2.2.2.2.2.2.2.2.2.2.1, (hbt1.cell (World.block_lt_of_cell? _ _ hHeld0.2.2.2.2.2.2.2.2.2.2.2.2.1)).trans hHeld0.2.2.2.2.2.2.2.2.2.2.2.2.1, (hbt1.cell (World.block_lt_of_cell? _ _ hHeld0.2.2.2.2.2.2.2.2.2.2.2.2.2.1)).trans hHeld0.2.2.2.2.2.2.2.2.2.2.2.2.2.1, (hbt1.cell (World.block_lt_of_cell? _ _ hHeld0.2.2.2.2.2.2.2.2.2.2.2.2.2.2)).trans hHeld0.2.2.2.2.2.2.2.2.2.2.2.2.2.2⟩ (fun hHeld1 => ?_)
    clear hK K
    have HT1 := Lib.hid (hb2 HT0.out hbt1)
    clear hbt1 hHeld0
    refine Go.Proofs.YtacokmkbikdmmaaGreatDoorW.PrintLast.one_ (i := 9) (N := some 28) #[true, true, true, true, true, true, true, true, true, true, true, false, false, false, false, false, false] rfl rfl (by kernel_rfl) (by decide) (fun K hK => ?_)
    go_simp
    refine (HH.out 2 _).mono ?_
    rintro e wt2 ⟨rfl, hbt2⟩
    refine hK.out _ _ ⟨(hbt2.cell (World.block_lt_of_cell? _ _ hHeld1.1)).trans hHeld1.1, (hbt2.cell (World.block_lt_of_cell? _ _ hHeld1.2.1)).trans hHeld1.2.1, (hbt2.cell (World.block_lt_of_cell? _ _ hHeld1.2.2.1)).trans hHeld1.2.2.1, (hbt2.cell (World.block_lt_of_cell? _ _ hHeld1.2.2.2.1)).trans hHeld1.2.2.2.1, (hbt2.cell (World.block_lt_of_cell? _ _ hHeld1.2.2.2.2.1)).trans hHeld1.2.2.2.2.1, (hbt2.cell (World.block_lt_of_cell? _ _ hHeld1.2.2.2.2.2.1)).trans hHeld1.2.2.2.2.2.1, (hbt2.cell (World.block_lt_of_cell? _ _ hHeld1.2.2.2.2.2.2.1)).trans hHeld1.2.2.2.2.2.2.1, (hbt2.cell (World.block_lt_of_cell? _ _ hHeld1.2.2.2.2.2.2.2.1)).trans hHeld1.2.2.2.2.2.2.2.1, (hbt2.cell (World.block_lt_of_cell? _ _ hHeld1.2.2.2.2.2.2.2.2.1)).trans hHeld1.2.2.2.2.2.2.2.2.1, (hbt2.cell (World.block_lt_of_cell? _ _ hHeld1.2.2.2.2.2.2.2.2.2.1)).trans hHeld1.2.2.2.2.2.2.2.2.2.1, (hbt2.cell (World.block_lt_of_cell? _ _ hHeld1.2.2.2.2.2.2.2.2.2.2.1)).trans hHeld1.2.2.2.2.2.2.2.2.2.2.1, (hbt2.cell (World.block_lt_of_cell? _ _ hHeld1.2.2.2.2.2.2.2.2.2.2.2.1)).trans hHeld1.2.2.2.2.2.2.2.2.2.2.2.1, (hbt2.cell (World.block_lt_of_cell? _ _ hHeld1.2.2.2.2.2.2.2.2.2.2.2.2.1)).trans hHeld1.2.2.2.2.2.2.2.2.2.2.2.2.1, (hbt2.cell (World.block_lt_of_cell? _ _ hHeld1.2.2.2.2.2.2.2.2.2.2.2.2.2.1)).trans hHeld1.2.2.2.2.2.2.2.2.2.2.2.2.2.1, (hbt2.cell (World.block_lt_of_cell? _ _ hHeld1.2.2.2.2.2.2.2.2.2.2.2.2.2.2)).trans hHeld1.2.2.2.2.2.2.2.2.2.2.2.2.2.2⟩ (fun hHeld2 => ?_)
    clear hK K
    have HT2 := Lib.hid (hb2 HT1.out hbt2)
    clear hbt2 hHeld1
    refine Go.Proofs.YtacokmkbikdmmaaGreatDoorW.PrintLast.one_ (i := 11) (N := some 30) #[true, true, true, true, true, true, true, true, true, true, true, true, false, false, false, false, false] rfl rfl (by kernel_rfl) (by decide) (fun K hK => ?_)
    go_simp
    refine (HH.out 4 _).mono ?_
    rintro e wt3 ⟨rfl, hbt3⟩
    refine hK.out _ _ ⟨(hbt3.cell (World.block_lt_of_cell? _ _ hHeld2.1)).trans hHeld2.1, (hbt3.cell (World.block_lt_of_cell? _ _ hHeld2.2.1)).trans hHeld2.2.1, (hbt3.cell (World.block_lt_of_cell? _ _ hHeld2.2.2.1)).trans hHeld2.2.2.1, (hbt3.cell (World.block_lt_of_cell? _ _ hHeld2.2.2.2.1)).trans hHeld2.2.2.2.1, (hbt3.cell (World.block_lt_of_cell? _ _ hHeld2.2.2.2.2.1)).trans hHeld2.2.2.2.2.1, (hbt3.cell (World.block_lt_of_cell? _ _ hHeld2.2.2.2.2.2.1)).trans hHeld2.2.2.2.2.2.1, (hbt3.cell (World.block_lt_of_cell? _ _ hHeld2.2.2.2.2.2.2.1)).trans hHeld2.2.2.2.2.2.2.1, (hbt3.cell (World.block_lt_of_cell? _ _ hHeld2.2.2.2.2.2.2.2.1)).trans hHeld2.2.2.2.2.2.2.2.1, (hbt3.cell (World.block_lt_of_cell? _ _ hHeld2.2.2.2.2.2.2.2.2.1)).trans hHeld2.2.2.2.2.2.2.2.2.1, (hbt3.cell (World.block_lt_of_cell? _ _ hHeld2.2.2.2.2.2.2.2.2.2.1)).trans hHeld2.2.2.2.2.2.2.2.2.2.1, (hbt3.cell (World.block_lt_of_cell? _ _ hHeld2.2.2.2.2.2.2.2.2.2.2.1)).trans hHeld2.2.2.2.2.2.2.2.2.2.2.1, (hbt3.cell (World.block_lt_of_cell? _ _ hHeld2.2.2.2.2.2.2.2.2.2.2.2.1)).trans hHeld2.2.2.2.2.2.2.2.2.2.2.2.1, (hbt3.cell (World.block_lt_of_cell? _ _ hHeld2.2.2.2.2.2.2.2.2.2.2.2.2.1)).trans hHeld2.2.2.2.2.2.2.2.2.2.2.2.2.1, (hbt3.cell (World.block_lt_of_cell? _ _ hHeld2.2.2.2.2.2.2.2.2.2.2.2.2.2.1)).trans hHeld2.2.2.2.2.2.2.2.2.2.2.2.2.2.1, (hbt3.cell (World.block_lt_of_cell? _ _ hHeld2.2.2.2.2.2.2.2.2.2.2.2.2.2.2)).trans hHeld2.2.2.2.2.2.2.2.2.2.2.2.2.2.2⟩ (fun hHeld3 => ?_)
    clear hK K
    have HT3 := Lib.hid (hb2 HT2.out hbt3)
    clear hbt3 hHeld2
    refine Go.Proofs.YtacokmkbikdmmaaGreatDoorW.PrintLast.pure_ (i := 12) (N := some 31) (v := ?_) (a' := ?_) #[true, true, true, true, true, true, true, true, true, true, true, true, true, false, false, false, false] rfl rfl (by kernel_rfl) (fun _ _ _ h => h) (Or.inl ⟨by rfl, ?_⟩) ?_ ?_
    rotate_left
    · intro w'
      go_simp
      with_reducible rfl
    rotate_left
    · simp only [Act.put, List.setIfInBounds_toArray, List.set_cons_zero, List.set_cons_succ]
      rfl
    refine Go.Proofs.YtacokmkbikdmmaaGreatDoorW.PrintLast.one_ (i := 13) (N := some 32) #[true, true, true, true, true, true, true, true, true, true, true, true, true, true, false, false, false] rfl rfl (by kernel_rfl) (by decide) (fun K hK => ?_)
    go_simp
    have hbt4 := (Below.refl wt3.heap.size wt3).alloc (Nat.le_refl _) (.cells #[.iface p0.1 (.pointer (some ⟨p0.2, 0, none⟩)), .int .i32 0, .string x.text, .int .i32 0, .int .u8 (x.chain % 256), .bool (bits .and .i64 x.flags 1 != 0), .bool (bits .and .i64 x.flags 2 != 0), .bool (bits .and .i64 x.flags 4 != 0)] 69)
    have hnew := heap_alloc_new wt3 (.cells #[.iface p0.1 (.pointer (some ⟨p0.2, 0, none⟩)), .int .i32 0, .string x.text, .int .i32 0, .int .u8 (x.chain % 256), .bool (bits .and .i64 x.flags 1 != 0), .bool (bits .and .i64 x.flags 2 != 0), .bool (bits .and .i64 x.flags 4 != 0)] 69)
    generalize wt3.alloc (.cells #[.iface p0.1 (.pointer (some ⟨p0.2, 0, none⟩)), .int .i32 0, .string x.text, .int .i32 0, .int .u8 (x.chain % 256), .bool (bits .and .i64 x.flags 1 != 0), .bool (bits .and .i64 x.flags 2 != 0), .bool (bits .and .i64 x.flags 4 != 0)] 69) = wt4 at hbt4 hnew ⊢
    have HNEW := Lib.hid hnew
    clear hnew
    refine hK.out _ _ ⟨(hbt4.cell (World.block_lt_of_cell? _ _ hHeld3.1)).trans hHeld3.1, (hbt4.cell (World.block_lt_of_cell? _ _ hHeld3.2.1)).trans hHeld3.2.1, (hbt4.cell (World.block_lt_of_cell? _ _ hHeld3.2.2.1)).trans hHeld3.2.2.1, (hbt4.cell (World.block_lt_of_cell? _ _ hHeld3.2.2.2.1)).trans hHeld3.2.2.2.1, (hbt4.cell (World.block_lt_of_cell? _ _ hHeld3.2.2.2.2.1)).trans hHeld3.2.2.2.2.1, (hbt4.cell (World.block_lt_of_cell? _ _ hHeld3.2.2.2.2.2.1)).trans hHeld3.2.2.2.2.2.1, (hbt4.cell (World.block_lt_of_cell? _ _ hHeld3.2.2.2.2.2.2.1)).trans hHeld3.2.2.2.2.2.2.1, (hbt4.cell (World.block_lt_of_cell? _ _ hHeld3.2.2.2.2.2.2.2.1)).trans hHeld3.2.2.2.2.2.2.2.1, (hbt4.cell (World.block_lt_of_cell? _ _ hHeld3.2.2.2.2.2.2.2.2.1)).trans hHeld3.2.2.2.2.2.2.2.2.1, (hbt4.cell (World.block_lt_of_cell? _ _ hHeld3.2.2.2.2.2.2.2.2.2.1)).trans hHeld3.2.2.2.2.2.2.2.2.2.1, (hbt4.cell (World.block_lt_of_cell? _ _ hHeld3.2.2.2.2.2.2.2.2.2.2.1)).trans hHeld3.2.2.2.2.2.2.2.2.2.2.1, (hbt4.cell (World.block_lt_of_cell? _ _ hHeld3.2.2.2.2.2.2.2.2.2.2.2.1)).trans hHeld3.2.2.2.2.2.2.2.2.2.2.2.1, (hbt4.cell (World.block_lt_of_cell? _ _ hHeld3.2.2.2.2.2.2.2.2.2.2.2.2.1)).trans hHeld3.2.2.2.2.2.2.2.2.2.2.2.2.1, (hbt4.cell (World.block_lt_of_cell? _ _ hHeld3.2.2.2.2.2.2.2.2.2.2.2.2.2.1)).trans hHeld3.2.2.2.2.2.2.2.2.2.2.2.2.2.1, (hbt4.cell (World.block_lt_of_cell? _ _ hHeld3.2.2.2.2.2.2.2.2.2.2.2.2.2.2)).trans hHeld3.2.2.2.2.2.2.2.2.2.2.2.2.2.2⟩ (fun hHeld4 => ?_)
    clear hK K
    have HT4 := Lib.hid (hb2 HT3.out hbt4)
    clear hbt4 hHeld3
    refine Go.Proofs.YtacokmkbikdmmaaGreatDoorW.PrintLast.pure_ (i := 14) (N := some 33) (v := ?_) (a' := ?_) #[true, true, true, true, true, true, true, true, true, true, true, true, true, true, true, false, false] rfl rfl (by kernel_rfl) (fun _ _ _ h => h) (Or.inl ⟨by rfl, ?_⟩) ?_ ?_
    rotate_left
    · intro w'
      go_simp
      with_reducible rfl
    rotate_left
    · simp only [Act.put, List.setIfInBounds_toArray, List.set_cons_zero, List.set_cons_succ]
      rfl
    refine Go.Proofs.YtacokmkbikdmmaaGreatDoorW.PrintLast.pure_ (i := 15) (N := some 4) (v := ?_) (a' := ?_) #[true, true, true, true, true, true, true, true, true, true, true, true, true, true, true, true, false] rfl rfl (by kernel_rfl) (fun _ _ _ h => h) (Or.inl ⟨by rfl, ?_⟩) ?_ ?_
    rotate_left
    · intro w'
      go_simp
      with_reducible rfl
    rotate_left
    · simp only [Act.put, List.setIfInBounds_toArray, List.set_cons_zero, List.set_cons_succ]
      rfl
    refine Go.Proofs.YtacokmkbikdmmaaGreatDoorW.PrintLast.pure_ (i := 16) (N := some 5) (v := ?_) (a' := ?_) #[true, true, true, true, true, true, true, true, true, true, true, true, true, true, true, true, true] rfl rfl (by kernel_rfl) (fun _ _ _ h => h) (Or.inl ⟨by rfl, ?_⟩) ?_ ?_
    rotate_left
    · intro w'
      go_simp
      with_reducible rfl
    rotate_left
    · simp only [Act.put, List.setIfInBounds_toArray, List.set_cons_zero, List.set_cons_succ]
      rfl
    refine Go.Proofs.YtacokmkbikdmmaaGreatDoorW.PrintLast.done_ (by kernel_rfl) ?_
    clear hHeld4
    go_wp2_with (fail)
    all_goals
      go_ret2
      exact ⟨fun _ => ⟨(66, wt3.heap.size), rfl, ⟨fun _ => ⟨rfl, blk_cell HNEW.out 4, blk_cell HNEW.out 7⟩, fun h => by have := HKK.out; omega, fun h => by have := HKK.out; omega, fun h1 h2 h3 => by have := HKK.out; omega⟩⟩, fun h => absurd (by have := HKK.out; omega) h, HT4.out⟩
  · clear hlo hhi
    obtain rfl : kn = 2 := HKN.out.trans (HK.out.1.index HKK.out.symm)
    obtain ⟨p0, p1, HL⟩ : ∃ p0 p1 : Nd, Hid (ks = [p0, p1]) := by
      have hl := HK.out.2.1
      rw [← HKN.out] at hl
      match ks, hl with
      | [p0, p1], _ => exact ⟨p0, p1, Lib.hid rfl⟩
    obtain ⟨g, rfl⟩ : ∃ g, A = some ⟨g, 0, none⟩ := by
      obtain ⟨g, e, _⟩ := HO.out 0 p0 (by rw [HL.out]; rfl)
      exact ⟨g, e⟩
    have q0 : w1.cell? ⟨g, 0, none⟩ = some (.iface p0.1 (.pointer (some ⟨p0.2, 0, none⟩))) := by
      obtain ⟨g_, e_, h1, h2⟩ := HO.out 0 p0 (by rw [HL.out]; rfl)
      cases e_
      exact h1
    have q1 : w1.cell? ⟨g, 1, none⟩ = some (.int .i32 0) := by
      obtain ⟨g_, e_, h1, h2⟩ := HO.out 0 p0 (by rw [HL.out]; rfl)
      cases e_
      exact h2
    have q2 : w1.cell? ⟨g, 2, none⟩ = some (.iface p1.1 (.pointer (some ⟨p1.2, 0, none⟩))) := by
      obtain ⟨g_, e_, h1, h2⟩ := HO.out 1 p1 (by rw [HL.out]; rfl)
      cases e_
      exact h1
    have q3 : w1.cell? ⟨g, 3, none⟩ = some (.int .i32 0) := by
      obtain ⟨g_, e_, h1, h2⟩ := HO.out 1 p1 (by rw [HL.out]; rfl)
      cases e_
      exact h2
    have hh : ∀ (k : Int) (w : World), Calls Tryz.prog 55 #[.agg #[.int .i64 17, .int .i64 x.op, .int .i64 x.ref, .int .i64 x.chain, .int .i64 x.flags, .float .f64 x.num, .slice x.sa x.sn x.sc, .string x.text, .slice x.ka 2 x.kc, .slice x.pa x.pn x.pc, .slice x.qa x.qn x.qc, .slice x.fa x.fn x.fc, .slice x.ca x.cn x.cc], .int .i64 k] w (fun e w' => e = .returned (.bool (bits .and .i64 x.flags k != 0)) ∧ Below w.heap.size w w') := by
      intro k w
      have := has x k w
      rw [← HKK.out, ← HKN.out] at this
      exact this
    have HH := Lib.hid hh
    clear hh
    go_upto_region 5 with (fail)
    have HA := Lib.hid HD.out.2.1
    have HT0 := Lib.hid (show Below W.heap.size W w1.drew from HA.out.trans ⟨rfl, rfl, rfl, Nat.le_refl _, fun _ _ => rfl⟩)
    refine Go.Proofs.YtacokmkbikdmmaaGreatDoorW.PrintLast.start_ (n := 18) (S := (fun w' => w'.cell? ⟨W.heap.size, 0, none⟩ = some (.int .i64 17) ∧ w'.cell? ⟨W.heap.size, 1, none⟩ = some (.int .i64 x.op) ∧ w'.cell? ⟨W.heap.size, 2, none⟩ = some (.int .i64 x.ref) ∧ w'.cell? ⟨W.heap.size, 3, none⟩ = some (.int .i64 x.chain) ∧ w'.cell? ⟨W.heap.size, 4, none⟩ = some (.int .i64 x.flags) ∧ w'.cell? ⟨W.heap.size, 5, none⟩ = some (.float .f64 x.num) ∧ w'.cell? ⟨W.heap.size, 6, none⟩ = some (.slice x.sa x.sn x.sc) ∧ w'.cell? ⟨W.heap.size, 7, none⟩ = some (.string x.text) ∧ w'.cell? ⟨W.heap.size, 8, none⟩ = some (.slice x.ka 2 x.kc) ∧ w'.cell? ⟨W.heap.size, 9, none⟩ = some (.slice x.pa x.pn x.pc) ∧ w'.cell? ⟨W.heap.size, 10, none⟩ = some (.slice x.qa x.qn x.qc) ∧ w'.cell? ⟨W.heap.size, 11, none⟩ = some (.slice x.fa x.fn x.fc) ∧ w'.cell? ⟨W.heap.size, 12, none⟩ = some (.slice x.ca x.cn x.cc) ∧ w'.cell? ⟨g, 0, none⟩ = some (.iface p0.1 (.pointer (some ⟨p0.2, 0, none⟩))) ∧ w'.cell? ⟨g, 1, none⟩ = some (.int .i32 0) ∧ w'.cell? ⟨g, 2, none⟩ = some (.iface p1.1 (.pointer (some ⟨p1.2, 0, none⟩))) ∧ w'.cell? ⟨g, 3, none⟩ = some (.int .i32 0))) (ds := []) #[false, false, false, false, false, false, false, false, false, false, false, false, false, false, false, false, false, false] (by kernel_rfl) rfl rfl ⟨d0, d1, d2, d3, d4, d5, d6, d7, d8, d9, d10, d11, d12, q0, q1, q2, q3⟩ (fun hHeld0 => ?_)
    clear d0 d1 d2 d3 d4 d5 d6 d7 d8 d9 d10 d11 d12 q0 q1 q2 q3
    refine Go.Proofs.YtacokmkbikdmmaaGreatDoorW.PrintLast.pure_ (i := 0) (N := some 43) (v := ?_) (a' := ?_) #[true, false, false, false, false, false, false, false, false, false, false, false, false, false, false, false, false, false] rfl rfl (by kernel_rfl) (fun _ _ _ h => h) (Or.inl ⟨by rfl, ?_⟩) ?_ ?_
    rotate_left
    · intro w'
      go_simp
      with_reducible rfl
    rotate_left
    · simp only [Act.put, List.setIfInBounds_toArray, List.set_cons_zero, List.set_cons_succ]
      rfl
    refine Go.Proofs.YtacokmkbikdmmaaGreatDoorW.PrintLast.pure_ (i := 1) (N := some 44) (v := ?_) (a' := ?_) #[true, true, false, false, false, false, false, false, false, false, false, false, false, false, false, false, false, false] rfl rfl (by kernel_rfl) (fun _ _ _ h => h) (Or.inl ⟨by rfl, ?_⟩) ?_ ?_
    rotate_left
    · intro w'
      go_simp
      with_reducible rfl
    rotate_left
    · simp only [Act.put, List.setIfInBounds_toArray, List.set_cons_zero, List.set_cons_succ]
      rfl
    refine Go.Proofs.YtacokmkbikdmmaaGreatDoorW.PrintLast.take_ (i := 2) (N := some 45) (v := ?_) (a' := ?_) #[true, true, true, false, false, false, false, false, false, false, false, false, false, false, false, false, false, false] rfl rfl (by kernel_rfl) (fun _ _ _ h => h) (Or.inl ⟨by rfl, ?_⟩) hHeld0 ?_ ?_
    rotate_left
    · rintro w' ⟨s0, s1, s2, s3, s4, s5, s6, s7, s8, s9, s10, s11, s12, s13, s14, s15, s16⟩
      go_simp
      with_reducible rfl
    rotate_left
    · simp only [Act.put, List.setIfInBounds_toArray, List.set_cons_zero, List.set_cons_succ]
      rfl
    refine Go.Proofs.YtacokmkbikdmmaaGreatDoorW.PrintLast.pure_ (i := 3) (N := some 46) (v := ?_) (a' := ?_) #[true, true, true, true, false, false, false, false, false, false, false, false, false, false, false, false, false, false] rfl rfl (by kernel_rfl) (fun _ _ _ h => h) (Or.inl ⟨by rfl, ?_⟩) ?_ ?_
    rotate_left
    · intro w'
      go_simp
      with_reducible rfl
    rotate_left
    · simp only [Act.put, List.setIfInBounds_toArray, List.set_cons_zero, List.set_cons_succ]
      rfl
    refine Go.Proofs.YtacokmkbikdmmaaGreatDoorW.PrintLast.pure_ (i := 4) (N := some 47) (v := ?_) (a' := ?_) #[true, true, true, true, true, false, false, false, false, false, false, false, false, false, false, false, false, false] rfl rfl (by kernel_rfl) (fun _ _ _ h => h) (Or.inl ⟨by rfl, ?_⟩) ?_ ?_
    rotate_left
    · intro w'
      go_simp
      with_reducible rfl
    rotate_left
    · simp only [Act.put, List.setIfInBounds_toArray, List.set_cons_zero, List.set_cons_succ]
      rfl
    refine Go.Proofs.YtacokmkbikdmmaaGreatDoorW.PrintLast.take_ (i := 5) (N := some 48) (v := ?_) (a' := ?_) #[true, true, true, true, true, true, false, false, false, false, false, false, false, false, false, false, false, false] rfl rfl (by kernel_rfl) (fun _ _ _ h => h) (Or.inl ⟨by rfl, ?_⟩) hHeld0 ?_ ?_
    rotate_left
    · rintro w' ⟨s0, s1, s2, s3, s4, s5, s6, s7, s8, s9, s10, s11, s12, s13, s14, s15, s16⟩
      go_simp
      with_reducible rfl
    rotate_left
    · simp only [Act.put, List.setIfInBounds_toArray, List.set_cons_zero, List.set_cons_succ]
      rfl
    refine Go.Proofs.YtacokmkbikdmmaaGreatDoorW.PrintLast.pure_ (i := 6) (N := some 49) (v := ?_) (a' := ?_) #[true, true, true, true, true, true, true, false, false, false, false, false, false, false, false, false, false, false] rfl rfl (by kernel_rfl) (fun _ _ _ h => h) (Or.inl ⟨by rfl, ?_⟩) ?_ ?_
    rotate_left
    · intro w'
      go_simp
      with_reducible rfl
    rotate_left
    · simp only [Act.put, List.setIfInBounds_toArray, List.set_cons_zero, List.set_cons_succ]
      rfl
    refine Go.Proofs.YtacokmkbikdmmaaGreatDoorW.PrintLast.take_ (i := 7) (N := some 50) (v := ?_) (a' := ?_) #[true, true, true, true, true, true, true, true, false, false, false, false, false, false, false, false, false, false] rfl rfl (by kernel_rfl) (fun _ _ _ h => h) (Or.inl ⟨by rfl, ?_⟩) hHeld0 ?_ ?_
    rotate_left
    · rintro w' ⟨s0, s1, s2, s3, s4, s5, s6, s7, s8, s9, s10, s11, s12, s13, s14, s15, s16⟩
      go_simp
      with_reducible rfl
    rotate_left
    · simp only [Act.put, List.setIfInBounds_toArray, List.set_cons_zero, List.set_cons_succ]
      rfl
    refine Go.Proofs.YtacokmkbikdmmaaGreatDoorW.PrintLast.take_ (i := 9) (N := some 52) (v := ?_) (a' := ?_) #[true, true, true, true, true, true, true, true, false, true, false, false, false, false, false, false, false, false] rfl rfl (by kernel_rfl) (fun _ _ _ h => h) (Or.inl ⟨by rfl, ?_⟩) hHeld0 ?_ ?_
    rotate_left
    · rintro w' ⟨s0, s1, s2, s3, s4, s5, s6, s7, s8, s9, s10, s11, s12, s13, s14, s15, s16⟩
      go_simp
      with_reducible rfl
    rotate_left
    · simp only [Act.put, List.setIfInBounds_toArray, List.set_cons_zero, List.set_cons_succ]
      rfl
    refine Go.Proofs.YtacokmkbikdmmaaGreatDoorW.PrintLast.take_ (i := 11) (N := some 54) (v := ?_) (a' := ?_) #[true, true, true, true, true, true, true, true, false, true, false, true, false, false, false, false, false, false] rfl rfl (by kernel_rfl) (fun _ _ _ h => h) (Or.inl ⟨by rfl, ?_⟩) hHeld0 ?_ ?_
    rotate_left
    · rintro w' ⟨s0, s1, s2, s3, s4, s5, s6, s7, s8, s9, s10, s11, s12, s13, s14, s15, s16⟩
      go_simp
      with_reducible rfl
    rotate_left
    · simp only [Act.put, List.setIfInBounds_toArray, List.set_cons_zero, List.set_cons_succ]
      rfl
    refine Go.Proofs.YtacokmkbikdmmaaGreatDoorW.PrintLast.one_ (i := 8) (N := some 51) #[true, true, true, true, true, true, true, true, true, true, false, true, false, false, false, false, false, false] rfl rfl (by kernel_rfl) (by decide) (fun K hK => ?_)
    go_simp
    refine (HH.out 1 _).mono ?_
    rintro e wt1 ⟨rfl, hbt1⟩
    refine hK.out _ _ ⟨(hbt1.cell (World.block_lt_of_cell? _ _ hHeld0.1)).trans hHeld0.1, (hbt1.cell (World.block_lt_of_cell? _ _ hHeld0.2.1)).trans hHeld0.2.1, (hbt1.cell (World.block_lt_of_cell? _ _ hHeld0.2.2.1)).trans hHeld0.2.2.1, (hbt1.cell (World.block_lt_of_cell? _ _ hHeld0.2.2.2.1)).trans hHeld0.2.2.2.1, (hbt1.cell (World.block_lt_of_cell? _ _ hHeld0.2.2.2.2.1)).trans hHeld0.2.2.2.2.1, (hbt1.cell (World.block_lt_of_cell? _ _ hHeld0.2.2.2.2.2.1)).trans hHeld0.2.2.2.2.2.1, (hbt1.cell (World.block_lt_of_cell? _ _ hHeld0.2.2.2.2.2.2.1)).trans hHeld0.2.2.2.2.2.2.1, (hbt1.cell (World.block_lt_of_cell? _ _ hHeld0.2.2.2.2.2.2.2.1)).trans hHeld0.2.2.2.2.2.2.2.1, (hbt1.cell (World.block_lt_of_cell? _ _ hHeld0.2.2.2.2.2.2.2.2.1)).trans hHeld0.2.2.2.2.2.2.2.2.1, (hbt1.cell (World.block_lt_of_cell? _ _ hHeld0.2.2.2.2.2.2.2.2.2.1)).trans hHeld0.2.2.2.2.2.2.2.2.2.1, (hbt1.cell (World.block_lt_of_cell? _ _ hHeld0.2.2.2.2.2.2.2.2.2.2.1)).trans hHeld0.2.2.2.2.2.2.2.2.2.2.1, (hbt1.cell (World.block_lt_of_cell? _ _ hHeld0.2.2.2.2.2.2.2.2.2.2.2.1)).trans hHeld0.2.2.2.2.2.2.2.2.2.2.2.1, (hbt1.cell (World.block_lt_of_cell? _ _ hHeld0.2.2.2.2.2.2.2.2.2.2.2.2.1)).trans hHeld0.2.2.2.2.2.2.2.2.2.2.2.2.1, (hbt1.cell (World.block_lt_of_cell? _ _ hHeld0.2.2.2.2.2.2.2.2.2.2.2.2.2.1)).trans hHeld0.2.2.2.2.2.2.2.2.2.2.2.2.2.1, (hbt1.cell (World.block_lt_of_cell? _ _ hHeld0.2.2.2.2.2.2.2.2.2.2.2.2.2.2.1)).trans hHeld0.2.2.2.2.2.2.2.2.2.2.2.2.2.2.1, (hbt1.cell (World.block_lt_of_cell? _ _ hHeld0.2.2.2.2.2.2.2.2.2.2.2.2.2.2.2.1)).trans hHeld0.2.2.2.2.2.2.2.2.2.2.2.2.2.2.2.1, (hbt1.cell (World.block_lt_of_cell? _ _ hHeld0.2.2.2.2.2.2.2.2.2.2.2.2.2.2.2.2)).trans hHeld0.2.2.2.2.2.2.2.2.2.2.2.2.2.2.2.2⟩ (fun hHeld1 => ?_)
    clear hK K
    have HT1 := Lib.hid (hb2 HT0.out hbt1)
    clear hbt1 hHeld0
    refine Go.Proofs.YtacokmkbikdmmaaGreatDoorW.PrintLast.one_ (i := 10) (N := some 53) #[true, true, true, true, true, true, true, true, true, true, true, true, false, false, false, false, false, false] rfl rfl (by kernel_rfl) (by decide) (fun K hK => ?_)
    go_simp
    refine (HH.out 2 _).mono ?_
    rintro e wt2 ⟨rfl, hbt2⟩
    refine hK.out _ _ ⟨(hbt2.cell (World.block_lt_of_cell? _ _ hHeld1.1)).trans hHeld1.1, (hbt2.cell (World.block_lt_of_cell? _ _ hHeld1.2.1)).trans hHeld1.2.1, (hbt2.cell (World.block_lt_of_cell? _ _ hHeld1.2.2.1)).trans hHeld1.2.2.1, (hbt2.cell (World.block_lt_of_cell? _ _ hHeld1.2.2.2.1)).trans hHeld1.2.2.2.1, (hbt2.cell (World.block_lt_of_cell? _ _ hHeld1.2.2.2.2.1)).trans hHeld1.2.2.2.2.1, (hbt2.cell (World.block_lt_of_cell? _ _ hHeld1.2.2.2.2.2.1)).trans hHeld1.2.2.2.2.2.1, (hbt2.cell (World.block_lt_of_cell? _ _ hHeld1.2.2.2.2.2.2.1)).trans hHeld1.2.2.2.2.2.2.1, (hbt2.cell (World.block_lt_of_cell? _ _ hHeld1.2.2.2.2.2.2.2.1)).trans hHeld1.2.2.2.2.2.2.2.1, (hbt2.cell (World.block_lt_of_cell? _ _ hHeld1.2.2.2.2.2.2.2.2.1)).trans hHeld1.2.2.2.2.2.2.2.2.1, (hbt2.cell (World.block_lt_of_cell? _ _ hHeld1.2.2.2.2.2.2.2.2.2.1)).trans hHeld1.2.2.2.2.2.2.2.2.2.1, (hbt2.cell (World.block_lt_of_cell? _ _ hHeld1.2.2.2.2.2.2.2.2.2.2.1)).trans hHeld1.2.2.2.2.2.2.2.2.2.2.1, (hbt2.cell (World.block_lt_of_cell? _ _ hHeld1.2.2.2.2.2.2.2.2.2.2.2.1)).trans hHeld1.2.2.2.2.2.2.2.2.2.2.2.1, (hbt2.cell (World.block_lt_of_cell? _ _ hHeld1.2.2.2.2.2.2.2.2.2.2.2.2.1)).trans hHeld1.2.2.2.2.2.2.2.2.2.2.2.2.1, (hbt2.cell (World.block_lt_of_cell? _ _ hHeld1.2.2.2.2.2.2.2.2.2.2.2.2.2.1)).trans hHeld1.2.2.2.2.2.2.2.2.2.2.2.2.2.1, (hbt2.cell (World.block_lt_of_cell? _ _ hHeld1.2.2.2.2.2.2.2.2.2.2.2.2.2.2.1)).trans hHeld1.2.2.2.2.2.2.2.2.2.2.2.2.2.2.1, (hbt2.cell (World.block_lt_of_cell? _ _ hHeld1.2.2.2.2.2.2.2.2.2.2.2.2.2.2.2.1)).trans hHeld1.2.2.2.2.2.2.2.2.2.2.2.2.2.2.2.1, (hbt2.cell (World.block_lt_of_cell? _ _ hHeld1.2.2.2.2.2.2.2.2.2.2.2.2.2.2.2.2)).trans hHeld1.2.2.2.2.2.2.2.2.2.2.2.2.2.2.2.2⟩ (fun hHeld2 => ?_)
    clear hK K
    have HT2 := Lib.hid (hb2 HT1.out hbt2)
    clear hbt2 hHeld1
    refine Go.Proofs.YtacokmkbikdmmaaGreatDoorW.PrintLast.one_ (i := 12) (N := some 55) #[true, true, true, true, true, true, true, true, true, true, true, true, true, false, false, false, false, false] rfl rfl (by kernel_rfl) (by decide) (fun K hK => ?_)
    go_simp
    refine (HH.out 4 _).mono ?_
    rintro e wt3 ⟨rfl, hbt3⟩
    refine hK.out _ _ ⟨(hbt3.cell (World.block_lt_of_cell? _ _ hHeld2.1)).trans hHeld2.1, (hbt3.cell (World.block_lt_of_cell? _ _ hHeld2.2.1)).trans hHeld2.2.1, (hbt3.cell (World.block_lt_of_cell? _ _ hHeld2.2.2.1)).trans hHeld2.2.2.1, (hbt3.cell (World.block_lt_of_cell? _ _ hHeld2.2.2.2.1)).trans hHeld2.2.2.2.1, (hbt3.cell (World.block_lt_of_cell? _ _ hHeld2.2.2.2.2.1)).trans hHeld2.2.2.2.2.1, (hbt3.cell (World.block_lt_of_cell? _ _ hHeld2.2.2.2.2.2.1)).trans hHeld2.2.2.2.2.2.1, (hbt3.cell (World.block_lt_of_cell? _ _ hHeld2.2.2.2.2.2.2.1)).trans hHeld2.2.2.2.2.2.2.1, (hbt3.cell (World.block_lt_of_cell? _ _ hHeld2.2.2.2.2.2.2.2.1)).trans hHeld2.2.2.2.2.2.2.2.1, (hbt3.cell (World.block_lt_of_cell? _ _ hHeld2.2.2.2.2.2.2.2.2.1)).trans hHeld2.2.2.2.2.2.2.2.2.1, (hbt3.cell (World.block_lt_of_cell? _ _ hHeld2.2.2.2.2.2.2.2.2.2.1)).trans hHeld2.2.2.2.2.2.2.2.2.2.1, (hbt3.cell (World.block_lt_of_cell? _ _ hHeld2.2.2.2.2.2.2.2.2.2.2.1)).trans hHeld2.2.2.2.2.2.2.2.2.2.2.1, (hbt3.cell (World.block_lt_of_cell? _ _ hHeld2.2.2.2.2.2.2.2.2.2.2.2.1)).trans hHeld2.2.2.2.2.2.2.2.2.2.2.2.1, (hbt3.cell (World.block_lt_of_cell? _ _ hHeld2.2.2.2.2.2.2.2.2.2.2.2.2.1)).trans hHeld2.2.2.2.2.2.2.2.2.2.2.2.2.1, (hbt3.cell (World.block_lt_of_cell? _ _ hHeld2.2.2.2.2.2.2.2.2.2.2.2.2.2.1)).trans hHeld2.2.2.2.2.2.2.2.2.2.2.2.2.2.1, (hbt3.cell (World.block_lt_of_cell? _ _ hHeld2.2.2.2.2.2.2.2.2.2.2.2.2.2.2.1)).trans hHeld2.2.2.2.2.2.2.2.2.2.2.2.2.2.2.1, (hbt3.cell (World.block_lt_of_cell? _ _ hHeld2.2.2.2.2.2.2.2.2.2.2.2.2.2.2.2.1)).trans hHeld2.2.2.2.2.2.2.2.2.2.2.2.2.2.2.2.1, (hbt3.cell (World.block_lt_of_cell? _ _ hHeld2.2.2.2.2.2.2.2.2.2.2.2.2.2.2.2.2)).trans hHeld2.2.2.2.2.2.2.2.2.2.2.2.2.2.2.2.2⟩ (fun hHeld3 => ?_)
    clear hK K
    have HT3 := Lib.hid (hb2 HT2.out hbt3)
    clear hbt3 hHeld2
    refine Go.Proofs.YtacokmkbikdmmaaGreatDoorW.PrintLast.pure_ (i := 13) (N := some 56) (v := ?_) (a' := ?_) #[true, true, true, true, true, true, true, true, true, true, true, true, true, true, false, false, false, false] rfl rfl (by kernel_rfl) (fun _ _ _ h => h) (Or.inl ⟨by rfl, ?_⟩) ?_ ?_
    rotate_left
    · intro w'
      go_simp
      with_reducible rfl
    rotate_left
    · simp only [Act.put, List.setIfInBounds_toArray, List.set_cons_zero, List.set_cons_succ]
      rfl
    refine Go.Proofs.YtacokmkbikdmmaaGreatDoorW.PrintLast.one_ (i := 14) (N := some 57) #[true, true, true, true, true, true, true, true, true, true, true, true, true, true, true, false, false, false] rfl rfl (by kernel_rfl) (by decide) (fun K hK => ?_)
    go_simp
    have hbt4 := (Below.refl wt3.heap.size wt3).alloc (Nat.le_refl _) (.cells #[.iface p0.1 (.pointer (some ⟨p0.2, 0, none⟩)), .int .i32 0, .iface p1.1 (.pointer (some ⟨p1.2, 0, none⟩)), .int .i32 0, .int .i32 0, .int .u8 (x.chain % 256), .bool (bits .and .i64 x.flags 1 != 0), .bool (bits .and .i64 x.flags 2 != 0), .bool (bits .and .i64 x.flags 4 != 0)] 72)
    have hnew := heap_alloc_new wt3 (.cells #[.iface p0.1 (.pointer (some ⟨p0.2, 0, none⟩)), .int .i32 0, .iface p1.1 (.pointer (some ⟨p1.2, 0, none⟩)), .int .i32 0, .int .i32 0, .int .u8 (x.chain % 256), .bool (bits .and .i64 x.flags 1 != 0), .bool (bits .and .i64 x.flags 2 != 0), .bool (bits .and .i64 x.flags 4 != 0)] 72)
    generalize wt3.alloc (.cells #[.iface p0.1 (.pointer (some ⟨p0.2, 0, none⟩)), .int .i32 0, .iface p1.1 (.pointer (some ⟨p1.2, 0, none⟩)), .int .i32 0, .int .i32 0, .int .u8 (x.chain % 256), .bool (bits .and .i64 x.flags 1 != 0), .bool (bits .and .i64 x.flags 2 != 0), .bool (bits .and .i64 x.flags 4 != 0)] 72) = wt4 at hbt4 hnew ⊢
    have HNEW := Lib.hid hnew
    clear hnew
    refine hK.out _ _ ⟨(hbt4.cell (World.block_lt_of_cell? _ _ hHeld3.1)).trans hHeld3.1, (hbt4.cell (World.block_lt_of_cell? _ _ hHeld3.2.1)).trans hHeld3.2.1, (hbt4.cell (World.block_lt_of_cell? _ _ hHeld3.2.2.1)).trans hHeld3.2.2.1, (hbt4.cell (World.block_lt_of_cell? _ _ hHeld3.2.2.2.1)).trans hHeld3.2.2.2.1, (hbt4.cell (World.block_lt_of_cell? _ _ hHeld3.2.2.2.2.1)).trans hHeld3.2.2.2.2.1, (hbt4.cell (World.block_lt_of_cell? _ _ hHeld3.2.2.2.2.2.1)).trans hHeld3.2.2.2.2.2.1, (hbt4.cell (World.block_lt_of_cell? _ _ hHeld3.2.2.2.2.2.2.1)).trans hHeld3.2.2.2.2.2.2.1, (hbt4.cell (World.block_lt_of_cell? _ _ hHeld3.2.2.2.2.2.2.2.1)).trans hHeld3.2.2.2.2.2.2.2.1, (hbt4.cell (World.block_lt_of_cell? _ _ hHeld3.2.2.2.2.2.2.2.2.1)).trans hHeld3.2.2.2.2.2.2.2.2.1, (hbt4.cell (World.block_lt_of_cell? _ _ hHeld3.2.2.2.2.2.2.2.2.2.1)).trans hHeld3.2.2.2.2.2.2.2.2.2.1, (hbt4.cell (World.block_lt_of_cell? _ _ hHeld3.2.2.2.2.2.2.2.2.2.2.1)).trans hHeld3.2.2.2.2.2.2.2.2.2.2.1, (hbt4.cell (World.block_lt_of_cell? _ _ hHeld3.2.2.2.2.2.2.2.2.2.2.2.1)).trans hHeld3.2.2.2.2.2.2.2.2.2.2.2.1, (hbt4.cell (World.block_lt_of_cell? _ _ hHeld3.2.2.2.2.2.2.2.2.2.2.2.2.1)).trans hHeld3.2.2.2.2.2.2.2.2.2.2.2.2.1, (hbt4.cell (World.block_lt_of_cell? _ _ hHeld3.2.2.2.2.2.2.2.2.2.2.2.2.2.1)).trans hHeld3.2.2.2.2.2.2.2.2.2.2.2.2.2.1, (hbt4.cell (World.block_lt_of_cell? _ _ hHeld3.2.2.2.2.2.2.2.2.2.2.2.2.2.2.1)).trans hHeld3.2.2.2.2.2.2.2.2.2.2.2.2.2.2.1, (hbt4.cell (World.block_lt_of_cell? _ _ hHeld3.2.2.2.2.2.2.2.2.2.2.2.2.2.2.2.1)).trans hHeld3.2.2.2.2.2.2.2.2.2.2.2.2.2.2.2.1, (hbt4.cell (World.block_lt_of_cell? _ _ hHeld3.2.2.2.2.2.2.2.2.2.2.2.2.2.2.2.2)).trans hHeld3.2.2.2.2.2.2.2.2.2.2.2.2.2.2.2.2⟩ (fun hHeld4 => ?_)
    clear hK K
    have HT4 := Lib.hid (hb2 HT3.out hbt4)
    clear hbt4 hHeld3
    refine Go.Proofs.YtacokmkbikdmmaaGreatDoorW.PrintLast.pure_ (i := 15) (N := some 58) (v := ?_) (a' := ?_) #[true, true, true, true, true, true, true, true, true, true, true, true, true, true, true, true, false, false] rfl rfl (by kernel_rfl) (fun _ _ _ h => h) (Or.inl ⟨by rfl, ?_⟩) ?_ ?_
    rotate_left
    · intro w'
      go_simp
      with_reducible rfl
    rotate_left
    · simp only [Act.put, List.setIfInBounds_toArray, List.set_cons_zero, List.set_cons_succ]
      rfl
    refine Go.Proofs.YtacokmkbikdmmaaGreatDoorW.PrintLast.pure_ (i := 16) (N := some 4) (v := ?_) (a' := ?_) #[true, true, true, true, true, true, true, true, true, true, true, true, true, true, true, true, true, false] rfl rfl (by kernel_rfl) (fun _ _ _ h => h) (Or.inl ⟨by rfl, ?_⟩) ?_ ?_
    rotate_left
    · intro w'
      go_simp
      with_reducible rfl
    rotate_left
    · simp only [Act.put, List.setIfInBounds_toArray, List.set_cons_zero, List.set_cons_succ]
      rfl
    refine Go.Proofs.YtacokmkbikdmmaaGreatDoorW.PrintLast.pure_ (i := 17) (N := some 5) (v := ?_) (a' := ?_) #[true, true, true, true, true, true, true, true, true, true, true, true, true, true, true, true, true, true] rfl rfl (by kernel_rfl) (fun _ _ _ h => h) (Or.inl ⟨by rfl, ?_⟩) ?_ ?_
    rotate_left
    · intro w'
      go_simp
      with_reducible rfl
    rotate_left
    · simp only [Act.put, List.setIfInBounds_toArray, List.set_cons_zero, List.set_cons_succ]
      rfl
    refine Go.Proofs.YtacokmkbikdmmaaGreatDoorW.PrintLast.done_ (by kernel_rfl) ?_
    clear hHeld4
    go_wp2_with (fail)
    all_goals
      go_ret2
      exact ⟨fun _ => ⟨(70, wt3.heap.size), rfl, ⟨fun h => by have := HKK.out; omega, fun _ => ⟨rfl, blk_cell HNEW.out 5, blk_cell HNEW.out 8⟩, fun h => by have := HKK.out; omega, fun h1 h2 h3 => by have := HKK.out; omega⟩⟩, fun h => absurd (by have := HKK.out; omega) h, HT4.out⟩
  · clear hlo hhi
    have hk0 : 0 < kn := by have := HK.out.1.call HKK.out.symm; have := HKN.out; omega
    have y1 : (1 : Int) ≤ (kn : Int) := by omega
    have y0 : (0 : Int) < (kn : Int) := by omega
    obtain ⟨p0, kr, HL⟩ : ∃ (p0 : Nd) (kr : List Nd), Hid (ks = p0 :: kr) := by
      have hl := HK.out.2.1
      rw [← HKN.out] at hl
      match ks, hl with
      | [], h => simp at h; omega
      | p :: r, _ => exact ⟨p, r, Lib.hid rfl⟩
    obtain ⟨g, rfl⟩ : ∃ g, A = some ⟨g, 0, none⟩ := by
      obtain ⟨g, e, _⟩ := HO.out 0 p0 (by rw [HL.out]; rfl)
      exact ⟨g, e⟩
    have q0 : w1.cell? ⟨g, 0, none⟩ = some (.iface p0.1 (.pointer (some ⟨p0.2, 0, none⟩))) := by
      obtain ⟨g_, e_, h1, h2⟩ := HO.out 0 p0 (by rw [HL.out]; rfl)
      cases e_
      exact h1
    have q1 : w1.cell? ⟨g, 1, none⟩ = some (.int .i32 0) := by
      obtain ⟨g_, e_, h1, h2⟩ := HO.out 0 p0 (by rw [HL.out]; rfl)
      cases e_
      exact h2
    have hh : ∀ (k : Int) (w : World), Calls Tryz.prog 55 #[.agg #[.int .i64 18, .int .i64 x.op, .int .i64 x.ref, .int .i64 x.chain, .int .i64 x.flags, .float .f64 x.num, .slice x.sa x.sn x.sc, .string x.text, .slice x.ka kn x.kc, .slice x.pa x.pn x.pc, .slice x.qa x.qn x.qc, .slice x.fa x.fn x.fc, .slice x.ca x.cn x.cc], .int .i64 k] w (fun e w' => e = .returned (.bool (bits .and .i64 x.flags k != 0)) ∧ Below w.heap.size w w') := by
      intro k w
      have := has x k w
      rw [← HKK.out, ← HKN.out] at this
      exact this
    have HH := Lib.hid hh
    clear hh
    go_upto_region 7 with (fail)
    have HA := Lib.hid HD.out.2.1
    have HT0 := Lib.hid (show Below W.heap.size W w1.drew from HA.out.trans ⟨rfl, rfl, rfl, Nat.le_refl _, fun _ _ => rfl⟩)
    refine Go.Proofs.YtacokmkbikdmmaaGreatDoorW.PrintLast.start_ (n := 16) (S := (fun w' => w'.cell? ⟨W.heap.size, 0, none⟩ = some (.int .i64 18) ∧ w'.cell? ⟨W.heap.size, 1, none⟩ = some (.int .i64 x.op) ∧ w'.cell? ⟨W.heap.size, 2, none⟩ = some (.int .i64 x.ref) ∧ w'.cell? ⟨W.heap.size, 3, none⟩ = some (.int .i64 x.chain) ∧ w'.cell? ⟨W.heap.size, 4, none⟩ = some (.int .i64 x.flags) ∧ w'.cell? ⟨W.heap.size, 5, none⟩ = some (.float .f64 x.num) ∧ w'.cell? ⟨W.heap.size, 6, none⟩ = some (.slice x.sa x.sn x.sc) ∧ w'.cell? ⟨W.heap.size, 7, none⟩ = some (.string x.text) ∧ w'.cell? ⟨W.heap.size, 8, none⟩ = some (.slice x.ka kn x.kc) ∧ w'.cell? ⟨W.heap.size, 9, none⟩ = some (.slice x.pa x.pn x.pc) ∧ w'.cell? ⟨W.heap.size, 10, none⟩ = some (.slice x.qa x.qn x.qc) ∧ w'.cell? ⟨W.heap.size, 11, none⟩ = some (.slice x.fa x.fn x.fc) ∧ w'.cell? ⟨W.heap.size, 12, none⟩ = some (.slice x.ca x.cn x.cc) ∧ w'.cell? ⟨g, 0, none⟩ = some (.iface p0.1 (.pointer (some ⟨p0.2, 0, none⟩))) ∧ w'.cell? ⟨g, 1, none⟩ = some (.int .i32 0))) (ds := []) #[false, false, false, false, false, false, false, false, false, false, false, false, false, false, false, false] (by kernel_rfl) rfl rfl ⟨d0, d1, d2, d3, d4, d5, d6, d7, d8, d9, d10, d11, d12, q0, q1⟩ (fun hHeld0 => ?_)
    clear d0 d1 d2 d3 d4 d5 d6 d7 d8 d9 d10 d11 d12 q0 q1
    refine Go.Proofs.YtacokmkbikdmmaaGreatDoorW.PrintLast.pure_ (i := 0) (N := some 68) (v := ?_) (a' := ?_) #[true, false, false, false, false, false, false, false, false, false, false, false, false, false, false, false] rfl rfl (by kernel_rfl) (fun _ _ _ h => h) (Or.inl ⟨by rfl, ?_⟩) ?_ ?_
    rotate_left
    · intro w'
      go_simp
      with_reducible rfl
    rotate_left
    · simp only [Act.put, List.setIfInBounds_toArray, List.set_cons_zero, List.set_cons_succ]
      rfl
    refine Go.Proofs.YtacokmkbikdmmaaGreatDoorW.PrintLast.pure_ (i := 1) (N := some 69) (v := ?_) (a' := ?_) #[true, true, false, false, false, false, false, false, false, false, false, false, false, false, false, false] rfl rfl (by kernel_rfl) (fun _ _ _ h => h) (Or.inl ⟨by rfl, ?_⟩) ?_ ?_
    rotate_left
    · intro w'
      go_simp
      with_reducible rfl
    rotate_left
    · simp only [Act.put, List.setIfInBounds_toArray, List.set_cons_zero, List.set_cons_succ]
      rfl
    refine Go.Proofs.YtacokmkbikdmmaaGreatDoorW.PrintLast.take_ (i := 2) (N := some 70) (v := ?_) (a' := ?_) #[true, true, true, false, false, false, false, false, false, false, false, false, false, false, false, false] rfl rfl (by kernel_rfl) (fun _ _ _ h => h) (Or.inl ⟨by rfl, ?_⟩) hHeld0 ?_ ?_
    rotate_left
    · rintro w' ⟨s0, s1, s2, s3, s4, s5, s6, s7, s8, s9, s10, s11, s12, s13, s14⟩
      go_simp
      with_reducible rfl
    rotate_left
    · simp only [Act.put, List.setIfInBounds_toArray, List.set_cons_zero, List.set_cons_succ]
      rfl
    refine Go.Proofs.YtacokmkbikdmmaaGreatDoorW.PrintLast.pure_ (i := 3) (N := some 71) (v := ?_) (a' := ?_) #[true, true, true, true, false, false, false, false, false, false, false, false, false, false, false, false] rfl rfl (by kernel_rfl) (fun _ _ _ h => h) (Or.inl ⟨by rfl, ?_⟩) ?_ ?_
    rotate_left
    · intro w'
      go_simp
      with_reducible rfl
    rotate_left
    · simp only [Act.put, List.setIfInBounds_toArray, List.set_cons_zero, List.set_cons_succ]
      rfl
    refine Go.Proofs.YtacokmkbikdmmaaGreatDoorW.PrintLast.pure_ (i := 4) (N := some 72) (v := ?_) (a' := ?_) #[true, true, true, true, true, false, false, false, false, false, false, false, false, false, false, false] rfl rfl (by kernel_rfl) (fun _ _ _ h => h) (Or.inl ⟨by rfl, ?_⟩) ?_ ?_
    rotate_left
    · intro w'
      go_simp
      with_reducible rfl
    rotate_left
    · simp only [Act.put, List.setIfInBounds_toArray, List.set_cons_zero, List.set_cons_succ]
      rfl
    refine Go.Proofs.YtacokmkbikdmmaaGreatDoorW.PrintLast.pure_ (i := 5) (N := some 73) (v := ?_) (a' := ?_) #[true, true, true, true, true, true, false, false, false, false, false, false, false, false, false, false] rfl rfl (by kernel_rfl) (fun _ _ _ h => h) (Or.inl ⟨by rfl, ?_⟩) ?_ ?_
    rotate_left
    · intro w'
      go_simp
      with_reducible rfl
    rotate_left
    · simp only [Act.put, List.setIfInBounds_toArray, List.set_cons_zero, List.set_cons_succ]
      rfl
    refine Go.Proofs.YtacokmkbikdmmaaGreatDoorW.PrintLast.pure_ (i := 6) (N := some 74) (v := ?_) (a' := ?_) #[true, true, true, true, true, true, true, false, false, false, false, false, false, false, false, false] rfl rfl (by kernel_rfl) (fun _ _ _ h => h) (Or.inl ⟨by rfl, ?_⟩) ?_ ?_
    rotate_left
    · intro w'
      go_simp
      with_reducible rfl
    rotate_left
    · simp only [Act.put, List.setIfInBounds_toArray, List.set_cons_zero, List.set_cons_succ]
      rfl
    refine Go.Proofs.YtacokmkbikdmmaaGreatDoorW.PrintLast.take_ (i := 7) (N := some 75) (v := ?_) (a' := ?_) #[true, true, true, true, true, true, true, true, false, false, false, false, false, false, false, false] rfl rfl (by kernel_rfl) (fun _ _ _ h => h) (Or.inl ⟨by rfl, ?_⟩) hHeld0 ?_ ?_
    rotate_left
    · rintro w' ⟨s0, s1, s2, s3, s4, s5, s6, s7, s8, s9, s10, s11, s12, s13, s14⟩
      go_simp
      with_reducible rfl
    rotate_left
    · simp only [Act.put, List.setIfInBounds_toArray, List.set_cons_zero, List.set_cons_succ]
      rfl
    refine Go.Proofs.YtacokmkbikdmmaaGreatDoorW.PrintLast.pure_ (i := 8) (N := some 76) (v := ?_) (a' := ?_) #[true, true, true, true, true, true, true, true, true, false, false, false, false, false, false, false] rfl rfl (by kernel_rfl) (fun _ _ _ h => h) (Or.inl ⟨by rfl, ?_⟩) ?_ ?_
    rotate_left
    · intro w'
      go_simp
      with_reducible rfl
    rotate_left
    · simp only [Act.put, List.setIfInBounds_toArray, List.set_cons_zero, List.set_cons_succ]
      rfl
    refine Go.Proofs.YtacokmkbikdmmaaGreatDoorW.PrintLast.take_ (i := 9) (N := some 77) (v := ?_) (a' := ?_) #[true, true, true, true, true, true, true, true, true, true, false, false, false, false, false, false] rfl rfl (by kernel_rfl) (fun _ _ _ h => h) (Or.inl ⟨by rfl, ?_⟩) hHeld0 ?_ ?_
    rotate_left
    · rintro w' ⟨s0, s1, s2, s3, s4, s5, s6, s7, s8, s9, s10, s11, s12, s13, s14⟩
      go_simp
      with_reducible rfl
    rotate_left
    · simp only [Act.put, List.setIfInBounds_toArray, List.set_cons_zero, List.set_cons_succ]
      rfl
    refine Go.Proofs.YtacokmkbikdmmaaGreatDoorW.PrintLast.one_ (i := 10) (N := some 78) #[true, true, true, true, true, true, true, true, true, true, true, false, false, false, false, false] rfl rfl (by kernel_rfl) (by decide) (fun K hK => ?_)
    go_simp
    refine (HH.out 64 _).mono ?_
    rintro e wt1 ⟨rfl, hbt1⟩
    refine hK.out _ _ ⟨(hbt1.cell (World.block_lt_of_cell? _ _ hHeld0.1)).trans hHeld0.1, (hbt1.cell (World.block_lt_of_cell? _ _ hHeld0.2.1)).trans hHeld0.2.1, (hbt1.cell (World.block_lt_of_cell? _ _ hHeld0.2.2.1)).trans hHeld0.2.2.1, (hbt1.cell (World.block_lt_of_cell? _ _ hHeld0.2.2.2.1)).trans hHeld0.2.2.2.1, (hbt1.cell (World.block_lt_of_cell? _ _ hHeld0.2.2.2.2.1)).trans hHeld0.2.2.2.2.1, (hbt1.cell (World.block_lt_of_cell? _ _ hHeld0.2.2.2.2.2.1)).trans hHeld0.2.2.2.2.2.1, (hbt1.cell (World.block_lt_of_cell? _ _ hHeld0.2.2.2.2.2.2.1)).trans hHeld0.2.2.2.2.2.2.1, (hbt1.cell (World.block_lt_of_cell? _ _ hHeld0.2.2.2.2.2.2.2.1)).trans hHeld0.2.2.2.2.2.2.2.1, (hbt1.cell (World.block_lt_of_cell? _ _ hHeld0.2.2.2.2.2.2.2.2.1)).trans hHeld0.2.2.2.2.2.2.2.2.1, (hbt1.cell (World.block_lt_of_cell? _ _ hHeld0.2.2.2.2.2.2.2.2.2.1)).trans hHeld0.2.2.2.2.2.2.2.2.2.1, (hbt1.cell (World.block_lt_of_cell? _ _ hHeld0.2.2.2.2.2.2.2.2.2.2.1)).trans hHeld0.2.2.2.2.2.2.2.2.2.2.1, (hbt1.cell (World.block_lt_of_cell? _ _ hHeld0.2.2.2.2.2.2.2.2.2.2.2.1)).trans hHeld0.2.2.2.2.2.2.2.2.2.2.2.1, (hbt1.cell (World.block_lt_of_cell? _ _ hHeld0.2.2.2.2.2.2.2.2.2.2.2.2.1)).trans hHeld0.2.2.2.2.2.2.2.2.2.2.2.2.1, (hbt1.cell (World.block_lt_of_cell? _ _ hHeld0.2.2.2.2.2.2.2.2.2.2.2.2.2.1)).trans hHeld0.2.2.2.2.2.2.2.2.2.2.2.2.2.1, (hbt1.cell (World.block_lt_of_cell? _ _ hHeld0.2.2.2.2.2.2.2.2.2.2.2.2.2.2)).trans hHeld0.2.2.2.2.2.2.2.2.2.2.2.2.2.2⟩ (fun hHeld1 => ?_)
    clear hK K
    have HT1 := Lib.hid (hb2 HT0.out hbt1)
    clear hbt1 hHeld0
    refine Go.Proofs.YtacokmkbikdmmaaGreatDoorW.PrintLast.pure_ (i := 11) (N := some 79) (v := ?_) (a' := ?_) #[true, true, true, true, true, true, true, true, true, true, true, true, false, false, false, false] rfl rfl (by kernel_rfl) (fun _ _ _ h => h) (Or.inl ⟨by rfl, ?_⟩) ?_ ?_
    rotate_left
    · intro w'
      go_simp
      with_reducible rfl
    rotate_left
    · simp only [Act.put, List.setIfInBounds_toArray, List.set_cons_zero, List.set_cons_succ]
      rfl
    refine Go.Proofs.YtacokmkbikdmmaaGreatDoorW.PrintLast.one_ (i := 12) (N := some 80) #[true, true, true, true, true, true, true, true, true, true, true, true, true, false, false, false] rfl rfl (by kernel_rfl) (by decide) (fun K hK => ?_)
    go_simp
    have hbt2 := (Below.refl wt1.heap.size wt1).alloc (Nat.le_refl _) (.cells #[.iface p0.1 (.pointer (some ⟨p0.2, 0, none⟩)), .int .i32 0, .slice (if cap = 1 then some ⟨g, 0, none⟩ else some ⟨g, 2, none⟩) (kn - 1) (cap - 1), .int .i32 0, .int .u8 (x.chain % 256), .int .u8 (IntKind.u8.wrap x.op), .bool false, .bool (bits .and .i64 x.flags 64 != 0)] 76)
    have hnew := heap_alloc_new wt1 (.cells #[.iface p0.1 (.pointer (some ⟨p0.2, 0, none⟩)), .int .i32 0, .slice (if cap = 1 then some ⟨g, 0, none⟩ else some ⟨g, 2, none⟩) (kn - 1) (cap - 1), .int .i32 0, .int .u8 (x.chain % 256), .int .u8 (IntKind.u8.wrap x.op), .bool false, .bool (bits .and .i64 x.flags 64 != 0)] 76)
    generalize wt1.alloc (.cells #[.iface p0.1 (.pointer (some ⟨p0.2, 0, none⟩)), .int .i32 0, .slice (if cap = 1 then some ⟨g, 0, none⟩ else some ⟨g, 2, none⟩) (kn - 1) (cap - 1), .int .i32 0, .int .u8 (x.chain % 256), .int .u8 (IntKind.u8.wrap x.op), .bool false, .bool (bits .and .i64 x.flags 64 != 0)] 76) = wt2 at hbt2 hnew ⊢
    have HNEW := Lib.hid hnew
    clear hnew
    refine hK.out _ _ ⟨(hbt2.cell (World.block_lt_of_cell? _ _ hHeld1.1)).trans hHeld1.1, (hbt2.cell (World.block_lt_of_cell? _ _ hHeld1.2.1)).trans hHeld1.2.1, (hbt2.cell (World.block_lt_of_cell? _ _ hHeld1.2.2.1)).trans hHeld1.2.2.1, (hbt2.cell (World.block_lt_of_cell? _ _ hHeld1.2.2.2.1)).trans hHeld1.2.2.2.1, (hbt2.cell (World.block_lt_of_cell? _ _ hHeld1.2.2.2.2.1)).trans hHeld1.2.2.2.2.1, (hbt2.cell (World.block_lt_of_cell? _ _ hHeld1.2.2.2.2.2.1)).trans hHeld1.2.2.2.2.2.1, (hbt2.cell (World.block_lt_of_cell? _ _ hHeld1.2.2.2.2.2.2.1)).trans hHeld1.2.2.2.2.2.2.1, (hbt2.cell (World.block_lt_of_cell? _ _ hHeld1.2.2.2.2.2.2.2.1)).trans hHeld1.2.2.2.2.2.2.2.1, (hbt2.cell (World.block_lt_of_cell? _ _ hHeld1.2.2.2.2.2.2.2.2.1)).trans hHeld1.2.2.2.2.2.2.2.2.1, (hbt2.cell (World.block_lt_of_cell? _ _ hHeld1.2.2.2.2.2.2.2.2.2.1)).trans hHeld1.2.2.2.2.2.2.2.2.2.1, (hbt2.cell (World.block_lt_of_cell? _ _ hHeld1.2.2.2.2.2.2.2.2.2.2.1)).trans hHeld1.2.2.2.2.2.2.2.2.2.2.1, (hbt2.cell (World.block_lt_of_cell? _ _ hHeld1.2.2.2.2.2.2.2.2.2.2.2.1)).trans hHeld1.2.2.2.2.2.2.2.2.2.2.2.1, (hbt2.cell (World.block_lt_of_cell? _ _ hHeld1.2.2.2.2.2.2.2.2.2.2.2.2.1)).trans hHeld1.2.2.2.2.2.2.2.2.2.2.2.2.1, (hbt2.cell (World.block_lt_of_cell? _ _ hHeld1.2.2.2.2.2.2.2.2.2.2.2.2.2.1)).trans hHeld1.2.2.2.2.2.2.2.2.2.2.2.2.2.1, (hbt2.cell (World.block_lt_of_cell? _ _ hHeld1.2.2.2.2.2.2.2.2.2.2.2.2.2.2)).trans hHeld1.2.2.2.2.2.2.2.2.2.2.2.2.2.2⟩ (fun hHeld2 => ?_)
    clear hK K
    have HT2 := Lib.hid (hb2 HT1.out hbt2)
    clear hbt2 hHeld1
    refine Go.Proofs.YtacokmkbikdmmaaGreatDoorW.PrintLast.pure_ (i := 13) (N := some 81) (v := ?_) (a' := ?_) #[true, true, true, true, true, true, true, true, true, true, true, true, true, true, false, false] rfl rfl (by kernel_rfl) (fun _ _ _ h => h) (Or.inl ⟨by rfl, ?_⟩) ?_ ?_
    rotate_left
    · intro w'
      go_simp
      with_reducible rfl
    rotate_left
    · simp only [Act.put, List.setIfInBounds_toArray, List.set_cons_zero, List.set_cons_succ]
      rfl
    refine Go.Proofs.YtacokmkbikdmmaaGreatDoorW.PrintLast.pure_ (i := 14) (N := some 4) (v := ?_) (a' := ?_) #[true, true, true, true, true, true, true, true, true, true, true, true, true, true, true, false] rfl rfl (by kernel_rfl) (fun _ _ _ h => h) (Or.inl ⟨by rfl, ?_⟩) ?_ ?_
    rotate_left
    · intro w'
      go_simp
      with_reducible rfl
    rotate_left
    · simp only [Act.put, List.setIfInBounds_toArray, List.set_cons_zero, List.set_cons_succ]
      rfl
    refine Go.Proofs.YtacokmkbikdmmaaGreatDoorW.PrintLast.pure_ (i := 15) (N := some 5) (v := ?_) (a' := ?_) #[true, true, true, true, true, true, true, true, true, true, true, true, true, true, true, true] rfl rfl (by kernel_rfl) (fun _ _ _ h => h) (Or.inl ⟨by rfl, ?_⟩) ?_ ?_
    rotate_left
    · intro w'
      go_simp
      with_reducible rfl
    rotate_left
    · simp only [Act.put, List.setIfInBounds_toArray, List.set_cons_zero, List.set_cons_succ]
      rfl
    refine Go.Proofs.YtacokmkbikdmmaaGreatDoorW.PrintLast.done_ (by kernel_rfl) ?_
    clear hHeld2
    go_wp2_with (fail)
    all_goals
      go_ret2
      exact ⟨fun _ => ⟨(73, wt1.heap.size), rfl, ⟨fun h => by have := HKK.out; omega, fun h => by have := HKK.out; omega, fun _ => ⟨rfl, blk_cell HNEW.out 4⟩, fun h1 h2 h3 => by have := HKK.out; omega⟩⟩, fun h => absurd (by have := HKK.out; omega) h, HT2.out⟩
  · clear hlo hhi
    have hk0 : 0 < kn := by have := HK.out.1.new HKK.out.symm; have := HKN.out; omega
    have y1 : (1 : Int) ≤ (kn : Int) := by omega
    have y0 : (0 : Int) < (kn : Int) := by omega
    obtain ⟨p0, kr, HL⟩ : ∃ (p0 : Nd) (kr : List Nd), Hid (ks = p0 :: kr) := by
      have hl := HK.out.2.1
      rw [← HKN.out] at hl
      match ks, hl with
      | [], h => simp at h; omega
      | p :: r, _ => exact ⟨p, r, Lib.hid rfl⟩
    obtain ⟨g, rfl⟩ : ∃ g, A = some ⟨g, 0, none⟩ := by
      obtain ⟨g, e, _⟩ := HO.out 0 p0 (by rw [HL.out]; rfl)
      exact ⟨g, e⟩
    have q0 : w1.cell? ⟨g, 0, none⟩ = some (.iface p0.1 (.pointer (some ⟨p0.2, 0, none⟩))) := by
      obtain ⟨g_, e_, h1, h2⟩ := HO.out 0 p0 (by rw [HL.out]; rfl)
      cases e_
      exact h1
    have q1 : w1.cell? ⟨g, 1, none⟩ = some (.int .i32 0) := by
      obtain ⟨g_, e_, h1, h2⟩ := HO.out 0 p0 (by rw [HL.out]; rfl)
      cases e_
      exact h2
    have hh : ∀ (k : Int) (w : World), Calls Tryz.prog 55 #[.agg #[.int .i64 19, .int .i64 x.op, .int .i64 x.ref, .int .i64 x.chain, .int .i64 x.flags, .float .f64 x.num, .slice x.sa x.sn x.sc, .string x.text, .slice x.ka kn x.kc, .slice x.pa x.pn x.pc, .slice x.qa x.qn x.qc, .slice x.fa x.fn x.fc, .slice x.ca x.cn x.cc], .int .i64 k] w (fun e w' => e = .returned (.bool (bits .and .i64 x.flags k != 0)) ∧ Below w.heap.size w w') := by
      intro k w
      have := has x k w
      rw [← HKK.out, ← HKN.out] at this
      exact this
    have HH := Lib.hid hh
    clear hh
    go_upto_region 9 with (fail)
    have HA := Lib.hid HD.out.2.1
    have HT0 := Lib.hid (show Below W.heap.size W w1.drew from HA.out.trans ⟨rfl, rfl, rfl, Nat.le_refl _, fun _ _ => rfl⟩)
    refine Go.Proofs.YtacokmkbikdmmaaGreatDoorW.PrintLast.start_ (n := 12) (S := (fun w' => w'.cell? ⟨W.heap.size, 0, none⟩ = some (.int .i64 19) ∧ w'.cell? ⟨W.heap.size, 1, none⟩ = some (.int .i64 x.op) ∧ w'.cell? ⟨W.heap.size, 2, none⟩ = some (.int .i64 x.ref) ∧ w'.cell? ⟨W.heap.size, 3, none⟩ = some (.int .i64 x.chain) ∧ w'.cell? ⟨W.heap.size, 4, none⟩ = some (.int .i64 x.flags) ∧ w'.cell? ⟨W.heap.size, 5, none⟩ = some (.float .f64 x.num) ∧ w'.cell? ⟨W.heap.size, 6, none⟩ = some (.slice x.sa x.sn x.sc) ∧ w'.cell? ⟨W.heap.size, 7, none⟩ = some (.string x.text) ∧ w'.cell? ⟨W.heap.size, 8, none⟩ = some (.slice x.ka kn x.kc) ∧ w'.cell? ⟨W.heap.size, 9, none⟩ = some (.slice x.pa x.pn x.pc) ∧ w'.cell? ⟨W.heap.size, 10, none⟩ = some (.slice x.qa x.qn x.qc) ∧ w'.cell? ⟨W.heap.size, 11, none⟩ = some (.slice x.fa x.fn x.fc) ∧ w'.cell? ⟨W.heap.size, 12, none⟩ = some (.slice x.ca x.cn x.cc) ∧ w'.cell? ⟨g, 0, none⟩ = some (.iface p0.1 (.pointer (some ⟨p0.2, 0, none⟩))) ∧ w'.cell? ⟨g, 1, none⟩ = some (.int .i32 0))) (ds := []) #[false, false, false, false, false, false, false, false, false, false, false, false] (by kernel_rfl) rfl rfl ⟨d0, d1, d2, d3, d4, d5, d6, d7, d8, d9, d10, d11, d12, q0, q1⟩ (fun hHeld0 => ?_)
    clear d0 d1 d2 d3 d4 d5 d6 d7 d8 d9 d10 d11 d12 q0 q1
    refine Go.Proofs.YtacokmkbikdmmaaGreatDoorW.PrintLast.pure_ (i := 0) (N := some 91) (v := ?_) (a' := ?_) #[true, false, false, false, false, false, false, false, false, false, false, false] rfl rfl (by kernel_rfl) (fun _ _ _ h => h) (Or.inl ⟨by rfl, ?_⟩) ?_ ?_
    rotate_left
    · intro w'
      go_simp
      with_reducible rfl
    rotate_left
    · simp only [Act.put, List.setIfInBounds_toArray, List.set_cons_zero, List.set_cons_succ]
      rfl
    refine Go.Proofs.YtacokmkbikdmmaaGreatDoorW.PrintLast.pure_ (i := 1) (N := some 92) (v := ?_) (a' := ?_) #[true, true, false, false, false, false, false, false, false, false, false, false] rfl rfl (by kernel_rfl) (fun _ _ _ h => h) (Or.inl ⟨by rfl, ?_⟩) ?_ ?_
    rotate_left
    · intro w'
      go_simp
      with_reducible rfl
    rotate_left
    · simp only [Act.put, List.setIfInBounds_toArray, List.set_cons_zero, List.set_cons_succ]
      rfl
    refine Go.Proofs.YtacokmkbikdmmaaGreatDoorW.PrintLast.take_ (i := 2) (N := some 93) (v := ?_) (a' := ?_) #[true, true, true, false, false, false, false, false, false, false, false, false] rfl rfl (by kernel_rfl) (fun _ _ _ h => h) (Or.inl ⟨by rfl, ?_⟩) hHeld0 ?_ ?_
    rotate_left
    · rintro w' ⟨s0, s1, s2, s3, s4, s5, s6, s7, s8, s9, s10, s11, s12, s13, s14⟩
      go_simp
      with_reducible rfl
    rotate_left
    · simp only [Act.put, List.setIfInBounds_toArray, List.set_cons_zero, List.set_cons_succ]
      rfl
    refine Go.Proofs.YtacokmkbikdmmaaGreatDoorW.PrintLast.pure_ (i := 3) (N := some 94) (v := ?_) (a' := ?_) #[true, true, true, true, false, false, false, false, false, false, false, false] rfl rfl (by kernel_rfl) (fun _ _ _ h => h) (Or.inl ⟨by rfl, ?_⟩) ?_ ?_
    rotate_left
    · intro w'
      go_simp
      with_reducible rfl
    rotate_left
    · simp only [Act.put, List.setIfInBounds_toArray, List.set_cons_zero, List.set_cons_succ]
      rfl
    refine Go.Proofs.YtacokmkbikdmmaaGreatDoorW.PrintLast.pure_ (i := 4) (N := some 95) (v := ?_) (a' := ?_) #[true, true, true, true, true, false, false, false, false, false, false, false] rfl rfl (by kernel_rfl) (fun _ _ _ h => h) (Or.inl ⟨by rfl, ?_⟩) ?_ ?_
    rotate_left
    · intro w'
      go_simp
      with_reducible rfl
    rotate_left
    · simp only [Act.put, List.setIfInBounds_toArray, List.set_cons_zero, List.set_cons_succ]
      rfl
    refine Go.Proofs.YtacokmkbikdmmaaGreatDoorW.PrintLast.take_ (i := 5) (N := some 96) (v := ?_) (a' := ?_) #[true, true, true, true, true, true, false, false, false, false, false, false] rfl rfl (by kernel_rfl) (fun _ _ _ h => h) (Or.inl ⟨by rfl, ?_⟩) hHeld0 ?_ ?_
    rotate_left
    · rintro w' ⟨s0, s1, s2, s3, s4, s5, s6, s7, s8, s9, s10, s11, s12, s13, s14⟩
      go_simp
      with_reducible rfl
    rotate_left
    · simp only [Act.put, List.setIfInBounds_toArray, List.set_cons_zero, List.set_cons_succ]
      rfl
    refine Go.Proofs.YtacokmkbikdmmaaGreatDoorW.PrintLast.one_ (i := 6) (N := some 97) #[true, true, true, true, true, true, true, false, false, false, false, false] rfl rfl (by kernel_rfl) (by decide) (fun K hK => ?_)
    go_simp
    refine (HH.out 64 _).mono ?_
    rintro e wt1 ⟨rfl, hbt1⟩
    refine hK.out _ _ ⟨(hbt1.cell (World.block_lt_of_cell? _ _ hHeld0.1)).trans hHeld0.1, (hbt1.cell (World.block_lt_of_cell? _ _ hHeld0.2.1)).trans hHeld0.2.1, (hbt1.cell (World.block_lt_of_cell? _ _ hHeld0.2.2.1)).trans hHeld0.2.2.1, (hbt1.cell (World.block_lt_of_cell? _ _ hHeld0.2.2.2.1)).trans hHeld0.2.2.2.1, (hbt1.cell (World.block_lt_of_cell? _ _ hHeld0.2.2.2.2.1)).trans hHeld0.2.2.2.2.1, (hbt1.cell (World.block_lt_of_cell? _ _ hHeld0.2.2.2.2.2.1)).trans hHeld0.2.2.2.2.2.1, (hbt1.cell (World.block_lt_of_cell? _ _ hHeld0.2.2.2.2.2.2.1)).trans hHeld0.2.2.2.2.2.2.1, (hbt1.cell (World.block_lt_of_cell? _ _ hHeld0.2.2.2.2.2.2.2.1)).trans hHeld0.2.2.2.2.2.2.2.1, (hbt1.cell (World.block_lt_of_cell? _ _ hHeld0.2.2.2.2.2.2.2.2.1)).trans hHeld0.2.2.2.2.2.2.2.2.1, (hbt1.cell (World.block_lt_of_cell? _ _ hHeld0.2.2.2.2.2.2.2.2.2.1)).trans hHeld0.2.2.2.2.2.2.2.2.2.1, (hbt1.cell (World.block_lt_of_cell? _ _ hHeld0.2.2.2.2.2.2.2.2.2.2.1)).trans hHeld0.2.2.2.2.2.2.2.2.2.2.1, (hbt1.cell (World.block_lt_of_cell? _ _ hHeld0.2.2.2.2.2.2.2.2.2.2.2.1)).trans hHeld0.2.2.2.2.2.2.2.2.2.2.2.1, (hbt1.cell (World.block_lt_of_cell? _ _ hHeld0.2.2.2.2.2.2.2.2.2.2.2.2.1)).trans hHeld0.2.2.2.2.2.2.2.2.2.2.2.2.1, (hbt1.cell (World.block_lt_of_cell? _ _ hHeld0.2.2.2.2.2.2.2.2.2.2.2.2.2.1)).trans hHeld0.2.2.2.2.2.2.2.2.2.2.2.2.2.1, (hbt1.cell (World.block_lt_of_cell? _ _ hHeld0.2.2.2.2.2.2.2.2.2.2.2.2.2.2)).trans hHeld0.2.2.2.2.2.2.2.2.2.2.2.2.2.2⟩ (fun hHeld1 => ?_)
    clear hK K
    have HT1 := Lib.hid (hb2 HT0.out hbt1)
    clear hbt1 hHeld0
    refine Go.Proofs.YtacokmkbikdmmaaGreatDoorW.PrintLast.pure_ (i := 7) (N := some 98) (v := ?_) (a' := ?_) #[true, true, true, true, true, true, true, true, false, false, false, false] rfl rfl (by kernel_rfl) (fun _ _ _ h => h) (Or.inl ⟨by rfl, ?_⟩) ?_ ?_
    rotate_left
    · intro w'
      go_simp
      with_reducible rfl
    rotate_left
    · simp only [Act.put, List.setIfInBounds_toArray, List.set_cons_zero, List.set_cons_succ]
      rfl
    refine Go.Proofs.YtacokmkbikdmmaaGreatDoorW.PrintLast.one_ (i := 8) (N := some 99) #[true, true, true, true, true, true, true, true, true, false, false, false] rfl rfl (by kernel_rfl) (by decide) (fun K hK => ?_)
    go_simp
    have hbt2 := (Below.refl wt1.heap.size wt1).alloc (Nat.le_refl _) (.cells #[.iface p0.1 (.pointer (some ⟨p0.2, 0, none⟩)), .int .i32 0, .slice (if cap = 1 then some ⟨g, 0, none⟩ else some ⟨g, 2, none⟩) (kn - 1) (cap - 1), .int .i32 0, .bool false, .bool (bits .and .i64 x.flags 64 != 0)] 192)
    have hnew := heap_alloc_new wt1 (.cells #[.iface p0.1 (.pointer (some ⟨p0.2, 0, none⟩)), .int .i32 0, .slice (if cap = 1 then some ⟨g, 0, none⟩ else some ⟨g, 2, none⟩) (kn - 1) (cap - 1), .int .i32 0, .bool false, .bool (bits .and .i64 x.flags 64 != 0)] 192)
    generalize wt1.alloc (.cells #[.iface p0.1 (.pointer (some ⟨p0.2, 0, none⟩)), .int .i32 0, .slice (if cap = 1 then some ⟨g, 0, none⟩ else some ⟨g, 2, none⟩) (kn - 1) (cap - 1), .int .i32 0, .bool false, .bool (bits .and .i64 x.flags 64 != 0)] 192) = wt2 at hbt2 hnew ⊢
    have HNEW := Lib.hid hnew
    clear hnew
    refine hK.out _ _ ⟨(hbt2.cell (World.block_lt_of_cell? _ _ hHeld1.1)).trans hHeld1.1, (hbt2.cell (World.block_lt_of_cell? _ _ hHeld1.2.1)).trans hHeld1.2.1, (hbt2.cell (World.block_lt_of_cell? _ _ hHeld1.2.2.1)).trans hHeld1.2.2.1, (hbt2.cell (World.block_lt_of_cell? _ _ hHeld1.2.2.2.1)).trans hHeld1.2.2.2.1, (hbt2.cell (World.block_lt_of_cell? _ _ hHeld1.2.2.2.2.1)).trans hHeld1.2.2.2.2.1, (hbt2.cell (World.block_lt_of_cell? _ _ hHeld1.2.2.2.2.2.1)).trans hHeld1.2.2.2.2.2.1, (hbt2.cell (World.block_lt_of_cell? _ _ hHeld1.2.2.2.2.2.2.1)).trans hHeld1.2.2.2.2.2.2.1, (hbt2.cell (World.block_lt_of_cell? _ _ hHeld1.2.2.2.2.2.2.2.1)).trans hHeld1.2.2.2.2.2.2.2.1, (hbt2.cell (World.block_lt_of_cell? _ _ hHeld1.2.2.2.2.2.2.2.2.1)).trans hHeld1.2.2.2.2.2.2.2.2.1, (hbt2.cell (World.block_lt_of_cell? _ _ hHeld1.2.2.2.2.2.2.2.2.2.1)).trans hHeld1.2.2.2.2.2.2.2.2.2.1, (hbt2.cell (World.block_lt_of_cell? _ _ hHeld1.2.2.2.2.2.2.2.2.2.2.1)).trans hHeld1.2.2.2.2.2.2.2.2.2.2.1, (hbt2.cell (World.block_lt_of_cell? _ _ hHeld1.2.2.2.2.2.2.2.2.2.2.2.1)).trans hHeld1.2.2.2.2.2.2.2.2.2.2.2.1, (hbt2.cell (World.block_lt_of_cell? _ _ hHeld1.2.2.2.2.2.2.2.2.2.2.2.2.1)).trans hHeld1.2.2.2.2.2.2.2.2.2.2.2.2.1, (hbt2.cell (World.block_lt_of_cell? _ _ hHeld1.2.2.2.2.2.2.2.2.2.2.2.2.2.1)).trans hHeld1.2.2.2.2.2.2.2.2.2.2.2.2.2.1, (hbt2.cell (World.block_lt_of_cell? _ _ hHeld1.2.2.2.2.2.2.2.2.2.2.2.2.2.2)).trans hHeld1.2.2.2.2.2.2.2.2.2.2.2.2.2.2⟩ (fun hHeld2 => ?_)
    clear hK K
    have HT2 := Lib.hid (hb2 HT1.out hbt2)
    clear hbt2 hHeld1
    refine Go.Proofs.YtacokmkbikdmmaaGreatDoorW.PrintLast.pure_ (i := 9) (N := some 100) (v := ?_) (a' := ?_) #[true, true, true, true, true, true, true, true, true, true, false, false] rfl rfl (by kernel_rfl) (fun _ _ _ h => h) (Or.inl ⟨by rfl, ?_⟩) ?_ ?_
    rotate_left
    · intro w'
      go_simp
      with_reducible rfl
    rotate_left
    · simp only [Act.put, List.setIfInBounds_toArray, List.set_cons_zero, List.set_cons_succ]
      rfl
    refine Go.Proofs.YtacokmkbikdmmaaGreatDoorW.PrintLast.pure_ (i := 10) (N := some 4) (v := ?_) (a' := ?_) #[true, true, true, true, true, true, true, true, true, true, true, false] rfl rfl (by kernel_rfl) (fun _ _ _ h => h) (Or.inl ⟨by rfl, ?_⟩) ?_ ?_
    rotate_left
    · intro w'
      go_simp
      with_reducible rfl
    rotate_left
    · simp only [Act.put, List.setIfInBounds_toArray, List.set_cons_zero, List.set_cons_succ]
      rfl
    refine Go.Proofs.YtacokmkbikdmmaaGreatDoorW.PrintLast.pure_ (i := 11) (N := some 5) (v := ?_) (a' := ?_) #[true, true, true, true, true, true, true, true, true, true, true, true] rfl rfl (by kernel_rfl) (fun _ _ _ h => h) (Or.inl ⟨by rfl, ?_⟩) ?_ ?_
    rotate_left
    · intro w'
      go_simp
      with_reducible rfl
    rotate_left
    · simp only [Act.put, List.setIfInBounds_toArray, List.set_cons_zero, List.set_cons_succ]
      rfl
    refine Go.Proofs.YtacokmkbikdmmaaGreatDoorW.PrintLast.done_ (by kernel_rfl) ?_
    clear hHeld2
    go_wp2_with (fail)
    all_goals
      go_ret2
      exact ⟨fun _ => ⟨(190, wt1.heap.size), rfl, ⟨fun h => by have := HKK.out; omega, fun h => by have := HKK.out; omega, fun h => by have := HKK.out; omega, fun _ _ _ => ⟨(by decide : (190 : Nat) ≠ 66), (by decide : (190 : Nat) ≠ 70), (by decide : (190 : Nat) ≠ 73)⟩⟩⟩, fun h => absurd (by have := HKK.out; omega) h, HT2.out⟩
  · clear hlo hhi
    clear d1 d2 d4 d5 d6 d7 d8 d9 d10 d11 d12
    go_wp2_with (fail)
    go_ret2
    exact ⟨fun h => by have := HKK.out; omega, fun _ => rfl, HD.out.2.1⟩
  · clear hlo hhi
    clear d1 d2 d4 d5 d6 d7 d8 d9 d10 d11 d12
    go_wp2_with (fail)
    go_ret2
    exact ⟨fun h => by have := HKK.out; omega, fun _ => rfl, HD.out.2.1⟩
  · clear hlo hhi
    clear d1 d2 d4 d5 d6 d7 d8 d9 d10 d11 d12
    go_wp2_with (fail)
    go_ret2
    exact ⟨fun h => by have := HKK.out; omega, fun _ => rfl, HD.out.2.1⟩
  · clear hlo hhi
    clear d1 d2 d4 d5 d6 d7 d8 d9 d10 d11 d12
    go_wp2_with (fail)
    go_ret2
    exact ⟨fun h => by have := HKK.out; omega, fun _ => rfl, HD.out.2.1⟩
  · clear hlo hhi
    clear d1 d2 d4 d5 d6 d7 d8 d9 d10 d11 d12
    go_wp2_with (fail)
    go_ret2
    exact ⟨fun h => by have := HKK.out; omega, fun _ => rfl, HD.out.2.1⟩
  · clear hlo hhi
    clear d1 d2 d4 d5 d6 d7 d8 d9 d10 d11 d12
    go_wp2_with (fail)
    go_ret2
    exact ⟨fun h => by have := HKK.out; omega, fun _ => rfl, HD.out.2.1⟩
  · clear hlo hhi
    clear d1 d2 d4 d5 d6 d7 d8 d9 d10 d11 d12
    go_wp2_with (fail)
    go_ret2
    exact ⟨fun h => by have := HKK.out; omega, fun _ => rfl, HD.out.2.1⟩
end Go.Proofs.YtacokmkbikdmmaaGreatDoor.trees
