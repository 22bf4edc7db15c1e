/-
  impl.leaf: an expression without parts becomes a node of its kind.
  Conditions: none.
-/
import Derived.Test.YtacokmkbikdmmaaGreatDoorAccess
import Derived.Test.YtacokmkbikdmmaaGreatDoorWLast
import Derived.Laws.BitsAllLaws
import Derived.Laws.AppendOwnNone
namespace Go.Proofs.YtacokmkbikdmmaaGreatDoor.trees
open Go Go.RowKit
set_option linter.unusedVariables false
set_option linter.unusedSimpArgs false

attribute [local go_sem] run_store_float
theorem neq_float (b c : Nat) (w : World) : Sem.run Tryz.prog (binOp .neq 22 (.float .f64 b) (.float .f64 c)) w = .ok (.bool (FloatKind.f64.format.order b c != some Ordering.eq)) w := by kernel_rfl
attribute [local go_sem high] neq_float
theorem info81 : (Tryz.prog.info? 81).map (fun i => (i.zero, i.size, i.bytes)) = some (some (.int .u16 0), 1, 2) := by kernel_rfl
theorem own_len {w : World} {B e n : Nat} {v : Value} {xs : List Value} (h : w.ownsRow B e 1 v n xs) : ∃ A c, v = .slice A n c := by
  rcases h.2 with ⟨hv, h0⟩ | ⟨g, cap, cur, hv, _⟩
  · exact ⟨none, 0, by rw [hv, h0]⟩
  · exact ⟨_, cap, hv⟩
/-- append([]uint16{}, s...) in a region that draws its order -/
theorem step_units {w : World} {N1 : Nat} {ops : Array Oper} {o : Oper} {a : Act} {K : Act → World → Prop} {Q : Exit → Act → World → Prop} {E : Prop} (hgd : o.guard = none) (s x : Operand)
    (ho : o.op = .call { callee := .builtin .append, args := #[s, x], argTypes := #[23, 23] })
    (base : Nat) (v : Value) (hs : a.eval s = v) (hown : w.ownsRow base 81 1 v 0 []) (A : Option Addr) (n c : Nat) (hx : a.eval x = .slice A n c) (hr : rows w N1 1 A n c unit) (hn : n ≤ 1000) (hbase : base ≤ w.heap.size)
    (h : ∀ B c' xs w', w'.ownsRow base 81 1 (.slice B n c') n xs → w.grownBy w' v.ownBlock → K (a.put o.dst (.slice B n c')) w') :
    if Region.wanted o (yielded ops a.tmps) = true then Oper.wp Tryz.prog o a w K Q else E := by
  obtain ⟨i0, hi, hz0, hz1, hz2⟩ := info_parts info81
  have hw : Region.wanted o (yielded ops a.tmps) = true := by simp [Region.wanted, hgd]
  rw [if_pos hw]
  cases A with
  | none =>
    have hc0 := hr.2.1.2 rfl
    have hn0 : n = 0 := by have := hr.1; omega
    subst hc0
    subst hn0
    have hrun := run_append_owned_none (P := Tryz.prog) (w := w) base 23 o.type 81 i0 1 Tryz.underlying23 hi v 0 [] hown
    obtain ⟨B, c', e⟩ := own_len hown
    have hk := h B c' [] w (by rw [← e]; exact hown) (World.grownBy.refl _ _)
    rw [← e] at hk
    unfold Oper.wp
    simp [execOp, ho, resolve, invoke, builtin, hs, hx, hrun, Result.andThen]
    exact hk
  | some ad =>
    have hcs : ∃ us : List Value, us.length = n ∧ (∀ j u, us[j]? = some u → w.cell? (ad.add j) = some u) ∧ ∀ u ∈ us, u.oneCell' = true := by
      by_cases h0 : n = 0
      · subst h0
        exact ⟨[], rfl, fun j u h => by simp at h, fun u h => by simp at h⟩
      · obtain ⟨g, o', e, hg, hi'⟩ := hr.2.2 h0
        cases e
        have each : ∀ j, j < n → ∃ u : Int, w.cell? ⟨g, o' + j, none⟩ = some (.int .u16 u) := by
          intro j hj
          obtain ⟨cs, _, ⟨u, rfl, _⟩, hc⟩ := hi' j hj
          exact ⟨u, by have := hc 0 _ rfl; simpa using this⟩
        refine ⟨(List.range n).map (fun j => (w.cell? ⟨g, o' + j, none⟩).getD undef), by simp, fun j u hu => ?_, fun u hu => ?_⟩
        · have hj : j < n := by
            have := (List.getElem?_eq_some_iff.1 hu).1
            simpa using this
          obtain ⟨k, hk⟩ := each j hj
          have e2 : (⟨g, o', none⟩ : Addr).add j = ⟨g, o' + j, none⟩ := by unfold Addr.add; split <;> simp_all
          simp [List.getElem?_map, List.getElem?_range hj, hk] at hu
          rw [e2, hk, hu]
        · obtain ⟨j, hj, rfl⟩ := List.mem_map.1 hu
          obtain ⟨k, hk⟩ := each j (List.mem_range.1 hj)
          rw [hk]
          rfl
    obtain ⟨us, hl, hc, h1⟩ := hcs
    refine wp_append_own w s x 23 ho base 81 i0 (.int .u16 0) 1 2 Tryz.underlying23 hi hz0 hz1 hz2 rfl (by decide) v 0 [] hs hown ad n c us hx (by omega) hc h1 (by unfold maxLen; omega) (by omega) hbase ?_
    intro v' w' h1' h2 _
    obtain ⟨B, c', e⟩ := own_len h1'
    rw [Nat.zero_add] at h1' e
    subst e
    exact h B c' _ w' h1' h2

set_option maxHeartbeats 4000000 in
set_option maxRecDepth 100000 in
theorem leaf (x : X) (N : Nat) (W0 W : World) (hk : Kc x) (hs : rows W0 N 1 x.sa x.sn x.sc unit) (hsn : x.sn ≤ 1000) (h0 : Below N W0 W) (hN : N ≤ W0.heap.size) : Calls Tryz.prog 32 #[.agg #[.int .i64 x.kind, .int .i64 x.op, .int .i64 x.ref, .int .i64 x.chain, .int .i64 x.flags, .float .f64 x.num, .slice x.sa x.sn x.sc, .string x.text, .slice x.ka x.kn x.kc, .slice x.pa x.pn x.pc, .slice x.qa x.qn x.qc, .slice x.fa x.fn x.fc, .slice x.ca x.cn x.cc]] W (fun e w' => NodeR (x.kind = 0 ∨ x.kind = 1 ∨ x.kind = 2 ∨ x.kind = 3 ∨ x.kind = 4 ∨ x.kind = 5 ∨ x.kind = 6 ∨ x.kind = 7 ∨ x.kind = 8 ∨ x.kind = 9 ∨ x.kind = 21 ∨ x.kind = 22 ∨ x.kind = 25 ∨ x.kind = 26) x W e w') := by
  have HK := Lib.hid (⟨hk, hs, hsn, h0⟩ : _ ∧ _ ∧ _ ∧ _)
  clear hk hs hsn h0
  go_enter Tryz.func32, Tryz.ntmps32
  go_upto_region 1 with (fail)
  have hD := heap_alloc_new W (.cells #[.int .i64 x.kind, .int .i64 x.op, .int .i64 x.ref, .int .i64 x.chain, .int .i64 x.flags, .float .f64 x.num, .slice x.sa x.sn x.sc, .string x.text, .slice x.ka x.kn x.kc, .slice x.pa x.pn x.pc, .slice x.qa x.qn x.qc, .slice x.fa x.fn x.fc, .slice x.ca x.cn x.cc] 30)
  have hDb := (Below.refl W.heap.size W).alloc (Nat.le_refl _) (.cells #[.int .i64 x.kind, .int .i64 x.op, .int .i64 x.ref, .int .i64 x.chain, .int .i64 x.flags, .float .f64 x.num, .slice x.sa x.sn x.sc, .string x.text, .slice x.ka x.kn x.kc, .slice x.pa x.pn x.pc, .slice x.qa x.qn x.qc, .slice x.fa x.fn x.fc, .slice x.ca x.cn x.cc] 30)
  have hDs : (W.alloc (.cells #[.int .i64 x.kind, .int .i64 x.op, .int .i64 x.ref, .int .i64 x.chain, .int .i64 x.flags, .float .f64 x.num, .slice x.sa x.sn x.sc, .string x.text, .slice x.ka x.kn x.kc, .slice x.pa x.pn x.pc, .slice x.qa x.qn x.qc, .slice x.fa x.fn x.fc, .slice x.ca x.cn x.cc] 30)).heap.size = W.heap.size + 1 := by simp
  generalize W.alloc (.cells #[.int .i64 x.kind, .int .i64 x.op, .int .i64 x.ref, .int .i64 x.chain, .int .i64 x.flags, .float .f64 x.num, .slice x.sa x.sn x.sc, .string x.text, .slice x.ka x.kn x.kc, .slice x.pa x.pn x.pc, .slice x.qa x.qn x.qc, .slice x.fa x.fn x.fc, .slice x.ca x.cn x.cc] 30) = w1 at hD hDb hDs ⊢
  have d0 : w1.cell? ⟨W.heap.size, 0, none⟩ = some (.int .i64 x.kind) := blk_cell hD 0
  have d1 : w1.cell? ⟨W.heap.size, 1, none⟩ = some (.int .i64 x.op) := blk_cell hD 1
  have d2 : w1.cell? ⟨W.heap.size, 2, none⟩ = some (.int .i64 x.ref) := blk_cell hD 2
  have d3 : w1.cell? ⟨W.heap.size, 3, none⟩ = some (.int .i64 x.chain) := blk_cell hD 3
  have d4 : w1.cell? ⟨W.heap.size, 4, none⟩ = some (.int .i64 x.flags) := blk_cell hD 4
  have d5 : w1.cell? ⟨W.heap.size, 5, none⟩ = some (.float .f64 x.num) := blk_cell hD 5
  have d6 : w1.cell? ⟨W.heap.size, 6, none⟩ = some (.slice x.sa x.sn x.sc) := blk_cell hD 6
  have d7 : w1.cell? ⟨W.heap.size, 7, none⟩ = some (.string x.text) := blk_cell hD 7
  have d8 : w1.cell? ⟨W.heap.size, 8, none⟩ = some (.slice x.ka x.kn x.kc) := blk_cell hD 8
  have d9 : w1.cell? ⟨W.heap.size, 9, none⟩ = some (.slice x.pa x.pn x.pc) := blk_cell hD 9
  have d10 : w1.cell? ⟨W.heap.size, 10, none⟩ = some (.slice x.qa x.qn x.qc) := blk_cell hD 10
  have d11 : w1.cell? ⟨W.heap.size, 11, none⟩ = some (.slice x.fa x.fn x.fc) := blk_cell hD 11
  have d12 : w1.cell? ⟨W.heap.size, 12, none⟩ = some (.slice x.ca x.cn x.cc) := blk_cell hD 12
  have HD := Lib.hid (⟨hD, hDb, hDs⟩ : _ ∧ _ ∧ _)
  clear hD hDb hDs
  generalize Value.agg #[.int .i64 x.kind, .int .i64 x.op, .int .i64 x.ref, .int .i64 x.chain, .int .i64 x.flags, .float .f64 x.num, .slice x.sa x.sn x.sc, .string x.text, .slice x.ka x.kn x.kc, .slice x.pa x.pn x.pc, .slice x.qa x.qn x.qc, .slice x.fa x.fn x.fc, .slice x.ca x.cn x.cc] = arg
  have hlo := HK.out.1.lo
  have hhi := HK.out.1.hi
  obtain ⟨kk, hkk⟩ : ∃ kk, kk = x.kind := ⟨_, rfl⟩
  rw [← hkk] at d0 hlo hhi
  have HKK := Lib.hid hkk
  clear hkk
  have HA := Lib.hid HD.out.2.1
  rcases (show kk = 0 ∨ kk = 1 ∨ kk = 2 ∨ kk = 3 ∨ kk = 4 ∨ kk = 5 ∨ kk = 6 ∨ kk = 7 ∨ kk = 8 ∨ kk = 9 ∨ kk = 10 ∨ kk = 11 ∨ kk = 12 ∨ kk = 13 ∨ kk = 14 ∨ kk = 15 ∨ kk = 16 ∨ kk = 17 ∨ kk = 18 ∨ kk = 19 ∨ kk = 20 ∨ kk = 21 ∨ kk = 22 ∨ kk = 23 ∨ kk = 24 ∨ kk = 25 ∨ kk = 26 by omega) with rfl | rfl | rfl | rfl | rfl | rfl | rfl | rfl | rfl | rfl | rfl | rfl | rfl | rfl | rfl | rfl | rfl | rfl | rfl | rfl | rfl | rfl | rfl | rfl | rfl | rfl | rfl
  · clear hlo hhi
    clear d1 d2 d3 d4 d5 d6 d7 d8 d9 d10 d11 d12
    have hba := fun o => hb2 HA.out ((Below.refl w1.heap.size w1).alloc (Nat.le_refl _) o)
    have HBA := Lib.hid hba
    clear hba
    go_wp2_with (fail)
    go_ret2
    exact ⟨fun _ => ⟨(137, w1.heap.size), rfl, ⟨fun h => by have := HKK.out; omega, fun h => by have := HKK.out; omega, fun h => by have := HKK.out; omega, fun _ _ _ => ⟨(by decide : (137 : Nat) ≠ 66), (by decide : (137 : Nat) ≠ 70), (by decide : (137 : Nat) ≠ 73)⟩⟩⟩, fun h => absurd (by have := HKK.out; omega) h, HBA.out _⟩
  · clear hlo hhi
    clear d1 d2 d3 d4 d5 d6 d7 d8 d9 d10 d11 d12
    have hba := fun o => hb2 HA.out ((Below.refl w1.heap.size w1).alloc (Nat.le_refl _) o)
    have HBA := Lib.hid hba
    clear hba
    go_wp2_with (fail)
    go_ret2
    exact ⟨fun _ => ⟨(139, w1.heap.size), rfl, ⟨fun h => by have := HKK.out; omega, fun h => by have := HKK.out; omega, fun h => by have := HKK.out; omega, fun _ _ _ => ⟨(by decide : (139 : Nat) ≠ 66), (by decide : (139 : Nat) ≠ 70), (by decide : (139 : Nat) ≠ 73)⟩⟩⟩, fun h => absurd (by have := HKK.out; omega) h, HBA.out _⟩
  · clear hlo hhi
    have hba := fun o => hb2 HA.out ((Below.refl w1.heap.size w1).alloc (Nat.le_refl _) o)
    have HBA := Lib.hid hba
    clear hba
    go_wp2_with (fail)
    go_ret2
    exact ⟨fun _ => ⟨(141, w1.heap.size), rfl, ⟨fun h => by have := HKK.out; omega, fun h => by have := HKK.out; omega, fun h => by have := HKK.out; omega, fun _ _ _ => ⟨(by decide : (141 : Nat) ≠ 66), (by decide : (141 : Nat) ≠ 70), (by decide : (141 : Nat) ≠ 73)⟩⟩⟩, fun h => absurd (by have := HKK.out; omega) h, HBA.out _⟩
  · clear hlo hhi
    have hba := fun o => hb2 HA.out ((Below.refl w1.heap.size w1).alloc (Nat.le_refl _) o)
    have HBA := Lib.hid hba
    clear hba
    go_wp2_with (fail)
    go_ret2
    exact ⟨fun _ => ⟨(144, w1.heap.size), rfl, ⟨fun h => by have := HKK.out; omega, fun h => by have := HKK.out; omega, fun h => by have := HKK.out; omega, fun _ _ _ => ⟨(by decide : (144 : Nat) ≠ 66), (by decide : (144 : Nat) ≠ 70), (by decide : (144 : Nat) ≠ 73)⟩⟩⟩, fun h => absurd (by have := HKK.out; omega) h, HBA.out _⟩
  · clear hlo hhi
    have hh : ∀ (k : Int) (w : World), Calls Tryz.prog 55 #[.agg #[.int .i64 4, .int .i64 x.op, .int .i64 x.ref, .int .i64 x.chain, .int .i64 x.flags, .float .f64 x.num, .slice x.sa x.sn x.sc, .string x.text, .slice x.ka x.kn x.kc, .slice x.pa x.pn x.pc, .slice x.qa x.qn x.qc, .slice x.fa x.fn x.fc, .slice x.ca x.cn x.cc], .int .i64 k] w (fun e w' => e = .returned (.bool (bits .and .i64 x.flags k != 0)) ∧ Below w.heap.size w w') := by
      intro k w
      have := has x k w
      rw [← HKK.out] at this
      exact this
    have HH := Lib.hid hh
    clear hh
    go_upto_region 11 with (fail)
    have HT0 := Lib.hid (show Below W.heap.size W w1.drew from HA.out.trans ⟨rfl, rfl, rfl, Nat.le_refl _, fun _ _ => rfl⟩)
    refine Go.Proofs.YtacokmkbikdmmaaGreatDoorW.PrintLast.start_ (n := 11) (S := (fun w' => w'.cell? ⟨W.heap.size, 0, none⟩ = some (.int .i64 4) ∧ w'.cell? ⟨W.heap.size, 1, none⟩ = some (.int .i64 x.op) ∧ w'.cell? ⟨W.heap.size, 2, none⟩ = some (.int .i64 x.ref) ∧ w'.cell? ⟨W.heap.size, 3, none⟩ = some (.int .i64 x.chain) ∧ w'.cell? ⟨W.heap.size, 4, none⟩ = some (.int .i64 x.flags) ∧ w'.cell? ⟨W.heap.size, 5, none⟩ = some (.float .f64 x.num) ∧ w'.cell? ⟨W.heap.size, 6, none⟩ = some (.slice x.sa x.sn x.sc) ∧ w'.cell? ⟨W.heap.size, 7, none⟩ = some (.string x.text) ∧ w'.cell? ⟨W.heap.size, 8, none⟩ = some (.slice x.ka x.kn x.kc) ∧ w'.cell? ⟨W.heap.size, 9, none⟩ = some (.slice x.pa x.pn x.pc) ∧ w'.cell? ⟨W.heap.size, 10, none⟩ = some (.slice x.qa x.qn x.qc) ∧ w'.cell? ⟨W.heap.size, 11, none⟩ = some (.slice x.fa x.fn x.fc) ∧ w'.cell? ⟨W.heap.size, 12, none⟩ = some (.slice x.ca x.cn x.cc))) (ds := []) #[false, false, false, false, false, false, false, false, false, false, false] (by kernel_rfl) rfl rfl ⟨d0, d1, d2, d3, d4, d5, d6, d7, d8, d9, d10, d11, d12⟩ (fun hHeld0 => ?_)
    clear d0 d1 d2 d3 d4 d5 d6 d7 d8 d9 d10 d11 d12
    generalize w1.drew = wt0 at HT0 hHeld0 ⊢
    refine Go.Proofs.YtacokmkbikdmmaaGreatDoorW.PrintLast.pure_ (i := 1) (N := some 34) (v := ?_) (a' := ?_) #[false, true, false, false, false, false, false, false, false, false, false] rfl rfl (by kernel_rfl) (fun _ _ _ h => h) (Or.inl ⟨by rfl, ?_⟩) ?_ ?_
    rotate_left
    · intro w'
      go_simp
      with_reducible rfl
    rotate_left
    · simp only [Act.put, List.setIfInBounds_toArray, List.set_cons_zero, List.set_cons_succ]
      rfl
    refine Go.Proofs.YtacokmkbikdmmaaGreatDoorW.PrintLast.take_ (i := 2) (N := some 35) (v := ?_) (a' := ?_) #[false, true, true, false, false, false, false, false, false, false, false] rfl rfl (by kernel_rfl) (fun _ _ _ h => h) (Or.inl ⟨by rfl, ?_⟩) hHeld0 ?_ ?_
    rotate_left
    · rintro w' ⟨s0, s1, s2, s3, s4, s5, s6, s7, s8, s9, s10, s11, s12⟩
      go_simp
      with_reducible rfl
    rotate_left
    · simp only [Act.put, List.setIfInBounds_toArray, List.set_cons_zero, List.set_cons_succ]
      rfl
    refine Go.Proofs.YtacokmkbikdmmaaGreatDoorW.PrintLast.take_ (i := 4) (N := some 37) (v := ?_) (a' := ?_) #[false, true, true, false, true, false, false, false, false, false, false] rfl rfl (by kernel_rfl) (fun _ _ _ h => h) (Or.inl ⟨by rfl, ?_⟩) hHeld0 ?_ ?_
    rotate_left
    · rintro w' ⟨s0, s1, s2, s3, s4, s5, s6, s7, s8, s9, s10, s11, s12⟩
      go_simp
      with_reducible rfl
    rotate_left
    · simp only [Act.put, List.setIfInBounds_toArray, List.set_cons_zero, List.set_cons_succ]
      rfl
    refine Go.Proofs.YtacokmkbikdmmaaGreatDoorW.PrintLast.one_ (i := 0) (N := some 33) #[true, true, true, false, true, false, false, false, false, false, false] rfl rfl (by kernel_rfl) (by decide) (fun K hK => ?_)
    go_simp
    have hbt1 := (Below.refl wt0.heap.size wt0).alloc (Nat.le_refl _) (.cells #[] 81)
    have hnew := heap_alloc_new wt0 (.cells #[] 81)
    generalize wt0.alloc (.cells #[] 81) = wt1 at hbt1 hnew ⊢
    have HNEW := Lib.hid hnew
    clear hnew
    refine hK.out _ _ ⟨(hbt1.cell (World.block_lt_of_cell? _ _ hHeld0.1)).trans hHeld0.1, (hbt1.cell (World.block_lt_of_cell? _ _ hHeld0.2.1)).trans hHeld0.2.1, (hbt1.cell (World.block_lt_of_cell? _ _ hHeld0.2.2.1)).trans hHeld0.2.2.1, (hbt1.cell (World.block_lt_of_cell? _ _ hHeld0.2.2.2.1)).trans hHeld0.2.2.2.1, (hbt1.cell (World.block_lt_of_cell? _ _ hHeld0.2.2.2.2.1)).trans hHeld0.2.2.2.2.1, (hbt1.cell (World.block_lt_of_cell? _ _ hHeld0.2.2.2.2.2.1)).trans hHeld0.2.2.2.2.2.1, (hbt1.cell (World.block_lt_of_cell? _ _ hHeld0.2.2.2.2.2.2.1)).trans hHeld0.2.2.2.2.2.2.1, (hbt1.cell (World.block_lt_of_cell? _ _ hHeld0.2.2.2.2.2.2.2.1)).trans hHeld0.2.2.2.2.2.2.2.1, (hbt1.cell (World.block_lt_of_cell? _ _ hHeld0.2.2.2.2.2.2.2.2.1)).trans hHeld0.2.2.2.2.2.2.2.2.1, (hbt1.cell (World.block_lt_of_cell? _ _ hHeld0.2.2.2.2.2.2.2.2.2.1)).trans hHeld0.2.2.2.2.2.2.2.2.2.1, (hbt1.cell (World.block_lt_of_cell? _ _ hHeld0.2.2.2.2.2.2.2.2.2.2.1)).trans hHeld0.2.2.2.2.2.2.2.2.2.2.1, (hbt1.cell (World.block_lt_of_cell? _ _ hHeld0.2.2.2.2.2.2.2.2.2.2.2.1)).trans hHeld0.2.2.2.2.2.2.2.2.2.2.2.1, (hbt1.cell (World.block_lt_of_cell? _ _ hHeld0.2.2.2.2.2.2.2.2.2.2.2.2)).trans hHeld0.2.2.2.2.2.2.2.2.2.2.2.2⟩ (fun hHeld1 => ?_)
    clear hK K
    have HT1 := Lib.hid (hb2 HT0.out hbt1)
    have hbp := hbt1
    clear hbt1
    refine Go.Proofs.YtacokmkbikdmmaaGreatDoorW.PrintLast.one_ (i := 3) (N := some 36) #[true, true, true, true, true, false, false, false, false, false, false] rfl rfl (by kernel_rfl) (by decide) (fun K hK => ?_)
    have hown : wt1.ownsRow wt0.heap.size 81 1 (.slice (some ⟨wt0.heap.size, 0, none⟩) 0 0) 0 [] := ⟨rfl, .inr ⟨_, 0, #[], rfl, Nat.le_refl _, HNEW.out, Nat.le_refl _, by decide, rfl, rfl⟩⟩
    refine step_units rfl (.tmp 33) (.tmp 35) rfl wt0.heap.size _ rfl hown _ _ _ rfl (HK.out.2.1.imp (Nat.le_refl _) (below_cells (bl HK.out.2.2.2 hN HT1.out)) (fun _ h => h)) (HK.out.2.2.1) (Nat.le_of_lt (blk_lt HNEW.out)) ?_
    intro vsB vsC vsX wt2 hown2 hgr
    have HU2 := Lib.hid hown2
    have hbt2 := hbp.grown hgr hbp.size (own_base hown)
    refine hK.out _ _ ⟨(hbt2.cell (World.block_lt_of_cell? _ _ hHeld0.1)).trans hHeld0.1, (hbt2.cell (World.block_lt_of_cell? _ _ hHeld0.2.1)).trans hHeld0.2.1, (hbt2.cell (World.block_lt_of_cell? _ _ hHeld0.2.2.1)).trans hHeld0.2.2.1, (hbt2.cell (World.block_lt_of_cell? _ _ hHeld0.2.2.2.1)).trans hHeld0.2.2.2.1, (hbt2.cell (World.block_lt_of_cell? _ _ hHeld0.2.2.2.2.1)).trans hHeld0.2.2.2.2.1, (hbt2.cell (World.block_lt_of_cell? _ _ hHeld0.2.2.2.2.2.1)).trans hHeld0.2.2.2.2.2.1, (hbt2.cell (World.block_lt_of_cell? _ _ hHeld0.2.2.2.2.2.2.1)).trans hHeld0.2.2.2.2.2.2.1, (hbt2.cell (World.block_lt_of_cell? _ _ hHeld0.2.2.2.2.2.2.2.1)).trans hHeld0.2.2.2.2.2.2.2.1, (hbt2.cell (World.block_lt_of_cell? _ _ hHeld0.2.2.2.2.2.2.2.2.1)).trans hHeld0.2.2.2.2.2.2.2.2.1, (hbt2.cell (World.block_lt_of_cell? _ _ hHeld0.2.2.2.2.2.2.2.2.2.1)).trans hHeld0.2.2.2.2.2.2.2.2.2.1, (hbt2.cell (World.block_lt_of_cell? _ _ hHeld0.2.2.2.2.2.2.2.2.2.2.1)).trans hHeld0.2.2.2.2.2.2.2.2.2.2.1, (hbt2.cell (World.block_lt_of_cell? _ _ hHeld0.2.2.2.2.2.2.2.2.2.2.2.1)).trans hHeld0.2.2.2.2.2.2.2.2.2.2.2.1, (hbt2.cell (World.block_lt_of_cell? _ _ hHeld0.2.2.2.2.2.2.2.2.2.2.2.2)).trans hHeld0.2.2.2.2.2.2.2.2.2.2.2.2⟩ (fun hHeld2 => ?_)
    clear hK K
    have HT2 := Lib.hid (hb2 HT0.out hbt2)
    clear hbt2 hbp hgr hown hown2 hHeld0 hHeld1
    refine Go.Proofs.YtacokmkbikdmmaaGreatDoorW.PrintLast.one_ (i := 5) (N := some 38) #[true, true, true, true, true, true, false, false, false, false, false] rfl rfl (by kernel_rfl) (by decide) (fun K hK => ?_)
    go_simp
    refine (HH.out 256 _).mono ?_
    rintro e wt3 ⟨rfl, hbt3⟩
    refine hK.out _ _ ⟨(hbt3.cell (World.block_lt_of_cell? _ _ hHeld2.1)).trans hHeld2.1, (hbt3.cell (World.block_lt_of_cell? _ _ hHeld2.2.1)).trans hHeld2.2.1, (hbt3.cell (World.block_lt_of_cell? _ _ hHeld2.2.2.1)).trans hHeld2.2.2.1, (hbt3.cell (World.block_lt_of_cell? _ _ hHeld2.2.2.2.1)).trans hHeld2.2.2.2.1, (hbt3.cell (World.block_lt_of_cell? _ _ hHeld2.2.2.2.2.1)).trans hHeld2.2.2.2.2.1, (hbt3.cell (World.block_lt_of_cell? _ _ hHeld2.2.2.2.2.2.1)).trans hHeld2.2.2.2.2.2.1, (hbt3.cell (World.block_lt_of_cell? _ _ hHeld2.2.2.2.2.2.2.1)).trans hHeld2.2.2.2.2.2.2.1, (hbt3.cell (World.block_lt_of_cell? _ _ hHeld2.2.2.2.2.2.2.2.1)).trans hHeld2.2.2.2.2.2.2.2.1, (hbt3.cell (World.block_lt_of_cell? _ _ hHeld2.2.2.2.2.2.2.2.2.1)).trans hHeld2.2.2.2.2.2.2.2.2.1, (hbt3.cell (World.block_lt_of_cell? _ _ hHeld2.2.2.2.2.2.2.2.2.2.1)).trans hHeld2.2.2.2.2.2.2.2.2.2.1, (hbt3.cell (World.block_lt_of_cell? _ _ hHeld2.2.2.2.2.2.2.2.2.2.2.1)).trans hHeld2.2.2.2.2.2.2.2.2.2.2.1, (hbt3.cell (World.block_lt_of_cell? _ _ hHeld2.2.2.2.2.2.2.2.2.2.2.2.1)).trans hHeld2.2.2.2.2.2.2.2.2.2.2.2.1, (hbt3.cell (World.block_lt_of_cell? _ _ hHeld2.2.2.2.2.2.2.2.2.2.2.2.2)).trans hHeld2.2.2.2.2.2.2.2.2.2.2.2.2⟩ (fun hHeld3 => ?_)
    clear hK K
    have HT3 := Lib.hid (hb2 HT2.out hbt3)
    clear hbt3 hHeld2
    refine Go.Proofs.YtacokmkbikdmmaaGreatDoorW.PrintLast.pure_ (i := 6) (N := some 39) (v := ?_) (a' := ?_) #[true, true, true, true, true, true, true, false, false, false, false] rfl rfl (by kernel_rfl) (fun _ _ _ h => h) (Or.inl ⟨by rfl, ?_⟩) ?_ ?_
    rotate_left
    · intro w'
      go_simp
      with_reducible rfl
    rotate_left
    · simp only [Act.put, List.setIfInBounds_toArray, List.set_cons_zero, List.set_cons_succ]
      rfl
    refine Go.Proofs.YtacokmkbikdmmaaGreatDoorW.PrintLast.one_ (i := 7) (N := some 40) #[true, true, true, true, true, true, true, true, false, false, false] rfl rfl (by kernel_rfl) (by decide) (fun K hK => ?_)
    go_simp
    have hbt4 := (Below.refl wt3.heap.size wt3).alloc (Nat.le_refl _) (.cells #[.slice vsB x.sn vsC, .int .i32 0, .bool (bits .and .i64 x.flags 256 != 0), .bool false, .bool false] 149)
    have hnew := heap_alloc_new wt3 (.cells #[.slice vsB x.sn vsC, .int .i32 0, .bool (bits .and .i64 x.flags 256 != 0), .bool false, .bool false] 149)
    generalize wt3.alloc (.cells #[.slice vsB x.sn vsC, .int .i32 0, .bool (bits .and .i64 x.flags 256 != 0), .bool false, .bool false] 149) = wt4 at hbt4 hnew ⊢
    have HNEW := Lib.hid hnew
    clear hnew
    refine hK.out _ _ ⟨(hbt4.cell (World.block_lt_of_cell? _ _ hHeld3.1)).trans hHeld3.1, (hbt4.cell (World.block_lt_of_cell? _ _ hHeld3.2.1)).trans hHeld3.2.1, (hbt4.cell (World.block_lt_of_cell? _ _ hHeld3.2.2.1)).trans hHeld3.2.2.1, (hbt4.cell (World.block_lt_of_cell? _ _ hHeld3.2.2.2.1)).trans hHeld3.2.2.2.1, (hbt4.cell (World.block_lt_of_cell? _ _ hHeld3.2.2.2.2.1)).trans hHeld3.2.2.2.2.1, (hbt4.cell (World.block_lt_of_cell? _ _ hHeld3.2.2.2.2.2.1)).trans hHeld3.2.2.2.2.2.1, (hbt4.cell (World.block_lt_of_cell? _ _ hHeld3.2.2.2.2.2.2.1)).trans hHeld3.2.2.2.2.2.2.1, (hbt4.cell (World.block_lt_of_cell? _ _ hHeld3.2.2.2.2.2.2.2.1)).trans hHeld3.2.2.2.2.2.2.2.1, (hbt4.cell (World.block_lt_of_cell? _ _ hHeld3.2.2.2.2.2.2.2.2.1)).trans hHeld3.2.2.2.2.2.2.2.2.1, (hbt4.cell (World.block_lt_of_cell? _ _ hHeld3.2.2.2.2.2.2.2.2.2.1)).trans hHeld3.2.2.2.2.2.2.2.2.2.1, (hbt4.cell (World.block_lt_of_cell? _ _ hHeld3.2.2.2.2.2.2.2.2.2.2.1)).trans hHeld3.2.2.2.2.2.2.2.2.2.2.1, (hbt4.cell (World.block_lt_of_cell? _ _ hHeld3.2.2.2.2.2.2.2.2.2.2.2.1)).trans hHeld3.2.2.2.2.2.2.2.2.2.2.2.1, (hbt4.cell (World.block_lt_of_cell? _ _ hHeld3.2.2.2.2.2.2.2.2.2.2.2.2)).trans hHeld3.2.2.2.2.2.2.2.2.2.2.2.2⟩ (fun hHeld4 => ?_)
    clear hK K
    have HT4 := Lib.hid (hb2 HT3.out hbt4)
    clear hbt4 hHeld3
    refine Go.Proofs.YtacokmkbikdmmaaGreatDoorW.PrintLast.pure_ (i := 8) (N := some 41) (v := ?_) (a' := ?_) #[true, true, true, true, true, true, true, true, true, false, false] rfl rfl (by kernel_rfl) (fun _ _ _ h => h) (Or.inl ⟨by rfl, ?_⟩) ?_ ?_
    rotate_left
    · intro w'
      go_simp
      with_reducible rfl
    rotate_left
    · simp only [Act.put, List.setIfInBounds_toArray, List.set_cons_zero, List.set_cons_succ]
      rfl
    refine Go.Proofs.YtacokmkbikdmmaaGreatDoorW.PrintLast.pure_ (i := 9) (N := some 2) (v := ?_) (a' := ?_) #[true, true, true, true, true, true, true, true, true, true, false] rfl rfl (by kernel_rfl) (fun _ _ _ h => h) (Or.inl ⟨by rfl, ?_⟩) ?_ ?_
    rotate_left
    · intro w'
      go_simp
      with_reducible rfl
    rotate_left
    · simp only [Act.put, List.setIfInBounds_toArray, List.set_cons_zero, List.set_cons_succ]
      rfl
    refine Go.Proofs.YtacokmkbikdmmaaGreatDoorW.PrintLast.pure_ (i := 10) (N := some 3) (v := ?_) (a' := ?_) #[true, true, true, true, true, true, true, true, true, true, true] rfl rfl (by kernel_rfl) (fun _ _ _ h => h) (Or.inl ⟨by rfl, ?_⟩) ?_ ?_
    rotate_left
    · intro w'
      go_simp
      with_reducible rfl
    rotate_left
    · simp only [Act.put, List.setIfInBounds_toArray, List.set_cons_zero, List.set_cons_succ]
      rfl
    refine Go.Proofs.YtacokmkbikdmmaaGreatDoorW.PrintLast.done_ (by kernel_rfl) ?_
    clear hHeld4
    go_wp2_with (fail)
    go_ret2
    exact ⟨fun _ => ⟨(147, wt3.heap.size), rfl, ⟨fun h => by have := HKK.out; omega, fun h => by have := HKK.out; omega, fun h => by have := HKK.out; omega, fun _ _ _ => ⟨(by decide : (147 : Nat) ≠ 66), (by decide : (147 : Nat) ≠ 70), (by decide : (147 : Nat) ≠ 73)⟩⟩⟩, fun h => absurd (by have := HKK.out; omega) h, HT4.out⟩
  · clear hlo hhi
    have hba := fun o => hb2 HA.out ((Below.refl w1.heap.size w1).alloc (Nat.le_refl _) o)
    have HBA := Lib.hid hba
    clear hba
    go_wp2_with (fail)
    go_ret2
    exact ⟨fun _ => ⟨(150, w1.heap.size), rfl, ⟨fun h => by have := HKK.out; omega, fun h => by have := HKK.out; omega, fun h => by have := HKK.out; omega, fun _ _ _ => ⟨(by decide : (150 : Nat) ≠ 66), (by decide : (150 : Nat) ≠ 70), (by decide : (150 : Nat) ≠ 73)⟩⟩⟩, fun h => absurd (by have := HKK.out; omega) h, HBA.out _⟩
  · clear hlo hhi
    have hba := fun o => hb2 HA.out ((Below.refl w1.heap.size w1).alloc (Nat.le_refl _) o)
    have HBA := Lib.hid hba
    clear hba
    go_wp2_with (fail)
    go_ret2
    exact ⟨fun _ => ⟨(153, w1.heap.size), rfl, ⟨fun h => by have := HKK.out; omega, fun h => by have := HKK.out; omega, fun h => by have := HKK.out; omega, fun _ _ _ => ⟨(by decide : (153 : Nat) ≠ 66), (by decide : (153 : Nat) ≠ 70), (by decide : (153 : Nat) ≠ 73)⟩⟩⟩, fun h => absurd (by have := HKK.out; omega) h, HBA.out _⟩
  · clear hlo hhi
    clear d1 d2 d3 d4 d5 d6 d7 d8 d9 d10 d11 d12
    have hba := fun o => hb2 HA.out ((Below.refl w1.heap.size w1).alloc (Nat.le_refl _) o)
    have HBA := Lib.hid hba
    clear hba
    go_wp2_with (fail)
    go_ret2
    exact ⟨fun _ => ⟨(155, w1.heap.size), rfl, ⟨fun h => by have := HKK.out; omega, fun h => by have := HKK.out; omega, fun h => by have := HKK.out; omega, fun _ _ _ => ⟨(by decide : (155 : Nat) ≠ 66), (by decide : (155 : Nat) ≠ 70), (by decide : (155 : Nat) ≠ 73)⟩⟩⟩, fun h => absurd (by have := HKK.out; omega) h, HBA.out _⟩
  · clear hlo hhi
    have hh : ∀ (k : Int) (w : World), Calls Tryz.prog 55 #[.agg #[.int .i64 8, .int .i64 x.op, .int .i64 x.ref, .int .i64 x.chain, .int .i64 x.flags, .float .f64 x.num, .slice x.sa x.sn x.sc, .string x.text, .slice x.ka x.kn x.kc, .slice x.pa x.pn x.pc, .slice x.qa x.qn x.qc, .slice x.fa x.fn x.fc, .slice x.ca x.cn x.cc], .int .i64 k] w (fun e w' => e = .returned (.bool (bits .and .i64 x.flags k != 0)) ∧ Below w.heap.size w w') := by
      intro k w
      have := has x k w
      rw [← HKK.out] at this
      exact this
    have HH := Lib.hid hh
    clear hh
    go_upto_region 19 with (fail)
    have HT0 := Lib.hid (show Below W.heap.size W w1.drew from HA.out.trans ⟨rfl, rfl, rfl, Nat.le_refl _, fun _ _ => rfl⟩)
    refine Go.Proofs.YtacokmkbikdmmaaGreatDoorW.PrintLast.start_ (n := 14) (S := (fun w' => w'.cell? ⟨W.heap.size, 0, none⟩ = some (.int .i64 8) ∧ w'.cell? ⟨W.heap.size, 1, none⟩ = some (.int .i64 x.op) ∧ w'.cell? ⟨W.heap.size, 2, none⟩ = some (.int .i64 x.ref) ∧ w'.cell? ⟨W.heap.size, 3, none⟩ = some (.int .i64 x.chain) ∧ w'.cell? ⟨W.heap.size, 4, none⟩ = some (.int .i64 x.flags) ∧ w'.cell? ⟨W.heap.size, 5, none⟩ = some (.float .f64 x.num) ∧ w'.cell? ⟨W.heap.size, 6, none⟩ = some (.slice x.sa x.sn x.sc) ∧ w'.cell? ⟨W.heap.size, 7, none⟩ = some (.string x.text) ∧ w'.cell? ⟨W.heap.size, 8, none⟩ = some (.slice x.ka x.kn x.kc) ∧ w'.cell? ⟨W.heap.size, 9, none⟩ = some (.slice x.pa x.pn x.pc) ∧ w'.cell? ⟨W.heap.size, 10, none⟩ = some (.slice x.qa x.qn x.qc) ∧ w'.cell? ⟨W.heap.size, 11, none⟩ = some (.slice x.fa x.fn x.fc) ∧ w'.cell? ⟨W.heap.size, 12, none⟩ = some (.slice x.ca x.cn x.cc))) (ds := []) #[false, false, false, false, false, false, false, false, false, false, false, false, false, false] (by kernel_rfl) rfl rfl ⟨d0, d1, d2, d3, d4, d5, d6, d7, d8, d9, d10, d11, d12⟩ (fun hHeld0 => ?_)
    clear d0 d1 d2 d3 d4 d5 d6 d7 d8 d9 d10 d11 d12
    generalize w1.drew = wt0 at HT0 hHeld0 ⊢
    refine Go.Proofs.YtacokmkbikdmmaaGreatDoorW.PrintLast.pure_ (i := 0) (N := some 63) (v := ?_) (a' := ?_) #[true, false, false, false, false, false, false, false, false, false, false, false, false, false] rfl rfl (by kernel_rfl) (fun _ _ _ h => h) (Or.inl ⟨by rfl, ?_⟩) ?_ ?_
    rotate_left
    · intro w'
      go_simp
      with_reducible rfl
    rotate_left
    · simp only [Act.put, List.setIfInBounds_toArray, List.set_cons_zero, List.set_cons_succ]
      rfl
    refine Go.Proofs.YtacokmkbikdmmaaGreatDoorW.PrintLast.take_ (i := 1) (N := some 64) (v := ?_) (a' := ?_) #[true, true, false, false, false, false, false, false, false, false, false, false, false, false] rfl rfl (by kernel_rfl) (fun _ _ _ h => h) (Or.inl ⟨by rfl, ?_⟩) hHeld0 ?_ ?_
    rotate_left
    · rintro w' ⟨s0, s1, s2, s3, s4, s5, s6, s7, s8, s9, s10, s11, s12⟩
      go_simp
      with_reducible rfl
    rotate_left
    · simp only [Act.put, List.setIfInBounds_toArray, List.set_cons_zero, List.set_cons_succ]
      rfl
    refine Go.Proofs.YtacokmkbikdmmaaGreatDoorW.PrintLast.take_ (i := 3) (N := some 66) (v := ?_) (a' := ?_) #[true, true, false, true, false, false, false, false, false, false, false, false, false, false] rfl rfl (by kernel_rfl) (fun _ _ _ h => h) (Or.inl ⟨by rfl, ?_⟩) hHeld0 ?_ ?_
    rotate_left
    · rintro w' ⟨s0, s1, s2, s3, s4, s5, s6, s7, s8, s9, s10, s11, s12⟩
      go_simp
      with_reducible rfl
    rotate_left
    · simp only [Act.put, List.setIfInBounds_toArray, List.set_cons_zero, List.set_cons_succ]
      rfl
    refine Go.Proofs.YtacokmkbikdmmaaGreatDoorW.PrintLast.take_ (i := 5) (N := some 68) (v := ?_) (a' := ?_) #[true, true, false, true, false, true, false, false, false, false, false, false, false, false] rfl rfl (by kernel_rfl) (fun _ _ _ h => h) (Or.inl ⟨by rfl, ?_⟩) hHeld0 ?_ ?_
    rotate_left
    · rintro w' ⟨s0, s1, s2, s3, s4, s5, s6, s7, s8, s9, s10, s11, s12⟩
      go_simp
      with_reducible rfl
    rotate_left
    · simp only [Act.put, List.setIfInBounds_toArray, List.set_cons_zero, List.set_cons_succ]
      rfl
    refine Go.Proofs.YtacokmkbikdmmaaGreatDoorW.PrintLast.take_ (i := 7) (N := some 70) (v := ?_) (a' := ?_) #[true, true, false, true, false, true, false, true, false, false, false, false, false, false] rfl rfl (by kernel_rfl) (fun _ _ _ h => h) (Or.inl ⟨by rfl, ?_⟩) hHeld0 ?_ ?_
    rotate_left
    · rintro w' ⟨s0, s1, s2, s3, s4, s5, s6, s7, s8, s9, s10, s11, s12⟩
      go_simp
      with_reducible rfl
    rotate_left
    · simp only [Act.put, List.setIfInBounds_toArray, List.set_cons_zero, List.set_cons_succ]
      rfl
    refine Go.Proofs.YtacokmkbikdmmaaGreatDoorW.PrintLast.one_ (i := 2) (N := some 65) #[true, true, true, true, false, true, false, true, false, false, false, false, false, false] rfl rfl (by kernel_rfl) (by decide) (fun K hK => ?_)
    go_simp
    refine (ref x.ref _).mono ?_
    rintro e wt1 ⟨rfl, hbt1⟩
    refine hK.out _ _ ⟨(hbt1.cell (World.block_lt_of_cell? _ _ hHeld0.1)).trans hHeld0.1, (hbt1.cell (World.block_lt_of_cell? _ _ hHeld0.2.1)).trans hHeld0.2.1, (hbt1.cell (World.block_lt_of_cell? _ _ hHeld0.2.2.1)).trans hHeld0.2.2.1, (hbt1.cell (World.block_lt_of_cell? _ _ hHeld0.2.2.2.1)).trans hHeld0.2.2.2.1, (hbt1.cell (World.block_lt_of_cell? _ _ hHeld0.2.2.2.2.1)).trans hHeld0.2.2.2.2.1, (hbt1.cell (World.block_lt_of_cell? _ _ hHeld0.2.2.2.2.2.1)).trans hHeld0.2.2.2.2.2.1, (hbt1.cell (World.block_lt_of_cell? _ _ hHeld0.2.2.2.2.2.2.1)).trans hHeld0.2.2.2.2.2.2.1, (hbt1.cell (World.block_lt_of_cell? _ _ hHeld0.2.2.2.2.2.2.2.1)).trans hHeld0.2.2.2.2.2.2.2.1, (hbt1.cell (World.block_lt_of_cell? _ _ hHeld0.2.2.2.2.2.2.2.2.1)).trans hHeld0.2.2.2.2.2.2.2.2.1, (hbt1.cell (World.block_lt_of_cell? _ _ hHeld0.2.2.2.2.2.2.2.2.2.1)).trans hHeld0.2.2.2.2.2.2.2.2.2.1, (hbt1.cell (World.block_lt_of_cell? _ _ hHeld0.2.2.2.2.2.2.2.2.2.2.1)).trans hHeld0.2.2.2.2.2.2.2.2.2.2.1, (hbt1.cell (World.block_lt_of_cell? _ _ hHeld0.2.2.2.2.2.2.2.2.2.2.2.1)).trans hHeld0.2.2.2.2.2.2.2.2.2.2.2.1, (hbt1.cell (World.block_lt_of_cell? _ _ hHeld0.2.2.2.2.2.2.2.2.2.2.2.2)).trans hHeld0.2.2.2.2.2.2.2.2.2.2.2.2⟩ (fun hHeld1 => ?_)
    clear hK K
    have HT1 := Lib.hid (hb2 HT0.out hbt1)
    clear hbt1 hHeld0
    refine Go.Proofs.YtacokmkbikdmmaaGreatDoorW.PrintLast.one_ (i := 4) (N := some 67) #[true, true, true, true, true, true, false, true, false, false, false, false, false, false] rfl rfl (by kernel_rfl) (by decide) (fun K hK => ?_)
    go_simp
    refine (HH.out 8 _).mono ?_
    rintro e wt2 ⟨rfl, hbt2⟩
    refine hK.out _ _ ⟨(hbt2.cell (World.block_lt_of_cell? _ _ hHeld1.1)).trans hHeld1.1, (hbt2.cell (World.block_lt_of_cell? _ _ hHeld1.2.1)).trans hHeld1.2.1, (hbt2.cell (World.block_lt_of_cell? _ _ hHeld1.2.2.1)).trans hHeld1.2.2.1, (hbt2.cell (World.block_lt_of_cell? _ _ hHeld1.2.2.2.1)).trans hHeld1.2.2.2.1, (hbt2.cell (World.block_lt_of_cell? _ _ hHeld1.2.2.2.2.1)).trans hHeld1.2.2.2.2.1, (hbt2.cell (World.block_lt_of_cell? _ _ hHeld1.2.2.2.2.2.1)).trans hHeld1.2.2.2.2.2.1, (hbt2.cell (World.block_lt_of_cell? _ _ hHeld1.2.2.2.2.2.2.1)).trans hHeld1.2.2.2.2.2.2.1, (hbt2.cell (World.block_lt_of_cell? _ _ hHeld1.2.2.2.2.2.2.2.1)).trans hHeld1.2.2.2.2.2.2.2.1, (hbt2.cell (World.block_lt_of_cell? _ _ hHeld1.2.2.2.2.2.2.2.2.1)).trans hHeld1.2.2.2.2.2.2.2.2.1, (hbt2.cell (World.block_lt_of_cell? _ _ hHeld1.2.2.2.2.2.2.2.2.2.1)).trans hHeld1.2.2.2.2.2.2.2.2.2.1, (hbt2.cell (World.block_lt_of_cell? _ _ hHeld1.2.2.2.2.2.2.2.2.2.2.1)).trans hHeld1.2.2.2.2.2.2.2.2.2.2.1, (hbt2.cell (World.block_lt_of_cell? _ _ hHeld1.2.2.2.2.2.2.2.2.2.2.2.1)).trans hHeld1.2.2.2.2.2.2.2.2.2.2.2.1, (hbt2.cell (World.block_lt_of_cell? _ _ hHeld1.2.2.2.2.2.2.2.2.2.2.2.2)).trans hHeld1.2.2.2.2.2.2.2.2.2.2.2.2⟩ (fun hHeld2 => ?_)
    clear hK K
    have HT2 := Lib.hid (hb2 HT1.out hbt2)
    clear hbt2 hHeld1
    refine Go.Proofs.YtacokmkbikdmmaaGreatDoorW.PrintLast.one_ (i := 6) (N := some 69) #[true, true, true, true, true, true, true, true, false, false, false, false, false, false] rfl rfl (by kernel_rfl) (by decide) (fun K hK => ?_)
    go_simp
    refine (HH.out 1 _).mono ?_
    rintro e wt3 ⟨rfl, hbt3⟩
    refine hK.out _ _ ⟨(hbt3.cell (World.block_lt_of_cell? _ _ hHeld2.1)).trans hHeld2.1, (hbt3.cell (World.block_lt_of_cell? _ _ hHeld2.2.1)).trans hHeld2.2.1, (hbt3.cell (World.block_lt_of_cell? _ _ hHeld2.2.2.1)).trans hHeld2.2.2.1, (hbt3.cell (World.block_lt_of_cell? _ _ hHeld2.2.2.2.1)).trans hHeld2.2.2.2.1, (hbt3.cell (World.block_lt_of_cell? _ _ hHeld2.2.2.2.2.1)).trans hHeld2.2.2.2.2.1, (hbt3.cell (World.block_lt_of_cell? _ _ hHeld2.2.2.2.2.2.1)).trans hHeld2.2.2.2.2.2.1, (hbt3.cell (World.block_lt_of_cell? _ _ hHeld2.2.2.2.2.2.2.1)).trans hHeld2.2.2.2.2.2.2.1, (hbt3.cell (World.block_lt_of_cell? _ _ hHeld2.2.2.2.2.2.2.2.1)).trans hHeld2.2.2.2.2.2.2.2.1, (hbt3.cell (World.block_lt_of_cell? _ _ hHeld2.2.2.2.2.2.2.2.2.1)).trans hHeld2.2.2.2.2.2.2.2.2.1, (hbt3.cell (World.block_lt_of_cell? _ _ hHeld2.2.2.2.2.2.2.2.2.2.1)).trans hHeld2.2.2.2.2.2.2.2.2.2.1, (hbt3.cell (World.block_lt_of_cell? _ _ hHeld2.2.2.2.2.2.2.2.2.2.2.1)).trans hHeld2.2.2.2.2.2.2.2.2.2.2.1, (hbt3.cell (World.block_lt_of_cell? _ _ hHeld2.2.2.2.2.2.2.2.2.2.2.2.1)).trans hHeld2.2.2.2.2.2.2.2.2.2.2.2.1, (hbt3.cell (World.block_lt_of_cell? _ _ hHeld2.2.2.2.2.2.2.2.2.2.2.2.2)).trans hHeld2.2.2.2.2.2.2.2.2.2.2.2.2⟩ (fun hHeld3 => ?_)
    clear hK K
    have HT3 := Lib.hid (hb2 HT2.out hbt3)
    clear hbt3 hHeld2
    refine Go.Proofs.YtacokmkbikdmmaaGreatDoorW.PrintLast.one_ (i := 8) (N := some 71) #[true, true, true, true, true, true, true, true, true, false, false, false, false, false] rfl rfl (by kernel_rfl) (by decide) (fun K hK => ?_)
    go_simp
    refine (HH.out 2 _).mono ?_
    rintro e wt4 ⟨rfl, hbt4⟩
    refine hK.out _ _ ⟨(hbt4.cell (World.block_lt_of_cell? _ _ hHeld3.1)).trans hHeld3.1, (hbt4.cell (World.block_lt_of_cell? _ _ hHeld3.2.1)).trans hHeld3.2.1, (hbt4.cell (World.block_lt_of_cell? _ _ hHeld3.2.2.1)).trans hHeld3.2.2.1, (hbt4.cell (World.block_lt_of_cell? _ _ hHeld3.2.2.2.1)).trans hHeld3.2.2.2.1, (hbt4.cell (World.block_lt_of_cell? _ _ hHeld3.2.2.2.2.1)).trans hHeld3.2.2.2.2.1, (hbt4.cell (World.block_lt_of_cell? _ _ hHeld3.2.2.2.2.2.1)).trans hHeld3.2.2.2.2.2.1, (hbt4.cell (World.block_lt_of_cell? _ _ hHeld3.2.2.2.2.2.2.1)).trans hHeld3.2.2.2.2.2.2.1, (hbt4.cell (World.block_lt_of_cell? _ _ hHeld3.2.2.2.2.2.2.2.1)).trans hHeld3.2.2.2.2.2.2.2.1, (hbt4.cell (World.block_lt_of_cell? _ _ hHeld3.2.2.2.2.2.2.2.2.1)).trans hHeld3.2.2.2.2.2.2.2.2.1, (hbt4.cell (World.block_lt_of_cell? _ _ hHeld3.2.2.2.2.2.2.2.2.2.1)).trans hHeld3.2.2.2.2.2.2.2.2.2.1, (hbt4.cell (World.block_lt_of_cell? _ _ hHeld3.2.2.2.2.2.2.2.2.2.2.1)).trans hHeld3.2.2.2.2.2.2.2.2.2.2.1, (hbt4.cell (World.block_lt_of_cell? _ _ hHeld3.2.2.2.2.2.2.2.2.2.2.2.1)).trans hHeld3.2.2.2.2.2.2.2.2.2.2.2.1, (hbt4.cell (World.block_lt_of_cell? _ _ hHeld3.2.2.2.2.2.2.2.2.2.2.2.2)).trans hHeld3.2.2.2.2.2.2.2.2.2.2.2.2⟩ (fun hHeld4 => ?_)
    clear hK K
    have HT4 := Lib.hid (hb2 HT3.out hbt4)
    clear hbt4 hHeld3
    refine Go.Proofs.YtacokmkbikdmmaaGreatDoorW.PrintLast.pure_ (i := 9) (N := some 72) (v := ?_) (a' := ?_) #[true, true, true, true, true, true, true, true, true, true, false, false, false, false] rfl rfl (by kernel_rfl) (fun _ _ _ h => h) (Or.inl ⟨by rfl, ?_⟩) ?_ ?_
    rotate_left
    · intro w'
      go_simp
      with_reducible rfl
    rotate_left
    · simp only [Act.put, List.setIfInBounds_toArray, List.set_cons_zero, List.set_cons_succ]
      rfl
    refine Go.Proofs.YtacokmkbikdmmaaGreatDoorW.PrintLast.one_ (i := 10) (N := some 73) #[true, true, true, true, true, true, true, true, true, true, true, false, false, false] rfl rfl (by kernel_rfl) (by decide) (fun K hK => ?_)
    go_simp
    have hbt5 := (Below.refl wt4.heap.size wt4).alloc (Nat.le_refl _) (.cells #[.int .u32 0, .int .u32 (x.ref % 4294967296), .bool (bits .and .i64 x.flags 8 != 0), .bool (bits .and .i64 x.flags 1 != 0), .bool (bits .and .i64 x.flags 2 != 0)] 159)
    have hnew := heap_alloc_new wt4 (.cells #[.int .u32 0, .int .u32 (x.ref % 4294967296), .bool (bits .and .i64 x.flags 8 != 0), .bool (bits .and .i64 x.flags 1 != 0), .bool (bits .and .i64 x.flags 2 != 0)] 159)
    generalize wt4.alloc (.cells #[.int .u32 0, .int .u32 (x.ref % 4294967296), .bool (bits .and .i64 x.flags 8 != 0), .bool (bits .and .i64 x.flags 1 != 0), .bool (bits .and .i64 x.flags 2 != 0)] 159) = wt5 at hbt5 hnew ⊢
    have HNEW := Lib.hid hnew
    clear hnew
    refine hK.out _ _ ⟨(hbt5.cell (World.block_lt_of_cell? _ _ hHeld4.1)).trans hHeld4.1, (hbt5.cell (World.block_lt_of_cell? _ _ hHeld4.2.1)).trans hHeld4.2.1, (hbt5.cell (World.block_lt_of_cell? _ _ hHeld4.2.2.1)).trans hHeld4.2.2.1, (hbt5.cell (World.block_lt_of_cell? _ _ hHeld4.2.2.2.1)).trans hHeld4.2.2.2.1, (hbt5.cell (World.block_lt_of_cell? _ _ hHeld4.2.2.2.2.1)).trans hHeld4.2.2.2.2.1, (hbt5.cell (World.block_lt_of_cell? _ _ hHeld4.2.2.2.2.2.1)).trans hHeld4.2.2.2.2.2.1, (hbt5.cell (World.block_lt_of_cell? _ _ hHeld4.2.2.2.2.2.2.1)).trans hHeld4.2.2.2.2.2.2.1, (hbt5.cell (World.block_lt_of_cell? _ _ hHeld4.2.2.2.2.2.2.2.1)).trans hHeld4.2.2.2.2.2.2.2.1, (hbt5.cell (World.block_lt_of_cell? _ _ hHeld4.2.2.2.2.2.2.2.2.1)).trans hHeld4.2.2.2.2.2.2.2.2.1, (hbt5.cell (World.block_lt_of_cell? _ _ hHeld4.2.2.2.2.2.2.2.2.2.1)).trans hHeld4.2.2.2.2.2.2.2.2.2.1, (hbt5.cell (World.block_lt_of_cell? _ _ hHeld4.2.2.2.2.2.2.2.2.2.2.1)).trans hHeld4.2.2.2.2.2.2.2.2.2.2.1, (hbt5.cell (World.block_lt_of_cell? _ _ hHeld4.2.2.2.2.2.2.2.2.2.2.2.1)).trans hHeld4.2.2.2.2.2.2.2.2.2.2.2.1, (hbt5.cell (World.block_lt_of_cell? _ _ hHeld4.2.2.2.2.2.2.2.2.2.2.2.2)).trans hHeld4.2.2.2.2.2.2.2.2.2.2.2.2⟩ (fun hHeld5 => ?_)
    clear hK K
    have HT5 := Lib.hid (hb2 HT4.out hbt5)
    clear hbt5 hHeld4
    refine Go.Proofs.YtacokmkbikdmmaaGreatDoorW.PrintLast.pure_ (i := 11) (N := some 74) (v := ?_) (a' := ?_) #[true, true, true, true, true, true, true, true, true, true, true, true, false, false] rfl rfl (by kernel_rfl) (fun _ _ _ h => h) (Or.inl ⟨by rfl, ?_⟩) ?_ ?_
    rotate_left
    · intro w'
      go_simp
      with_reducible rfl
    rotate_left
    · simp only [Act.put, List.setIfInBounds_toArray, List.set_cons_zero, List.set_cons_succ]
      rfl
    refine Go.Proofs.YtacokmkbikdmmaaGreatDoorW.PrintLast.pure_ (i := 12) (N := some 2) (v := ?_) (a' := ?_) #[true, true, true, true, true, true, true, true, true, true, true, true, true, false] rfl rfl (by kernel_rfl) (fun _ _ _ h => h) (Or.inl ⟨by rfl, ?_⟩) ?_ ?_
    rotate_left
    · intro w'
      go_simp
      with_reducible rfl
    rotate_left
    · simp only [Act.put, List.setIfInBounds_toArray, List.set_cons_zero, List.set_cons_succ]
      rfl
    refine Go.Proofs.YtacokmkbikdmmaaGreatDoorW.PrintLast.pure_ (i := 13) (N := some 3) (v := ?_) (a' := ?_) #[true, true, true, true, true, true, true, true, true, true, true, true, true, true] rfl rfl (by kernel_rfl) (fun _ _ _ h => h) (Or.inl ⟨by rfl, ?_⟩) ?_ ?_
    rotate_left
    · intro w'
      go_simp
      with_reducible rfl
    rotate_left
    · simp only [Act.put, List.setIfInBounds_toArray, List.set_cons_zero, List.set_cons_succ]
      rfl
    refine Go.Proofs.YtacokmkbikdmmaaGreatDoorW.PrintLast.done_ (by kernel_rfl) ?_
    clear hHeld5
    go_wp2_with (fail)
    go_ret2
    exact ⟨fun _ => ⟨(157, wt4.heap.size), rfl, ⟨fun h => by have := HKK.out; omega, fun h => by have := HKK.out; omega, fun h => by have := HKK.out; omega, fun _ _ _ => ⟨(by decide : (157 : Nat) ≠ 66), (by decide : (157 : Nat) ≠ 70), (by decide : (157 : Nat) ≠ 73)⟩⟩⟩, fun h => absurd (by have := HKK.out; omega) h, HT5.out⟩
  · clear hlo hhi
    clear d1 d2 d3 d4 d5 d6 d7 d8 d9 d10 d11 d12
    have hba := fun o => hb2 HA.out ((Below.refl w1.heap.size w1).alloc (Nat.le_refl _) o)
    have HBA := Lib.hid hba
    clear hba
    go_wp2_with (fail)
    go_ret2
    exact ⟨fun _ => ⟨(160, w1.heap.size), rfl, ⟨fun h => by have := HKK.out; omega, fun h => by have := HKK.out; omega, fun h => by have := HKK.out; omega, fun _ _ _ => ⟨(by decide : (160 : Nat) ≠ 66), (by decide : (160 : Nat) ≠ 70), (by decide : (160 : Nat) ≠ 73)⟩⟩⟩, fun h => absurd (by have := HKK.out; omega) h, HBA.out _⟩
  · clear hlo hhi
    clear d1 d2 d3 d4 d5 d6 d7 d8 d9 d10 d11 d12
    go_wp2_with (fail)
    go_ret2
    exact ⟨fun h => by have := HKK.out; omega, fun _ => rfl, HD.out.2.1⟩
  · clear hlo hhi
    clear d1 d2 d3 d4 d5 d6 d7 d8 d9 d10 d11 d12
    go_wp2_with (fail)
    go_ret2
    exact ⟨fun h => by have := HKK.out; omega, fun _ => rfl, HD.out.2.1⟩
  · clear hlo hhi
    clear d1 d2 d3 d4 d5 d6 d7 d8 d9 d10 d11 d12
    go_wp2_with (fail)
    go_ret2
    exact ⟨fun h => by have := HKK.out; omega, fun _ => rfl, HD.out.2.1⟩
  · clear hlo hhi
    clear d1 d2 d3 d4 d5 d6 d7 d8 d9 d10 d11 d12
    go_wp2_with (fail)
    go_ret2
    exact ⟨fun h => by have := HKK.out; omega, fun _ => rfl, HD.out.2.1⟩
  · clear hlo hhi
    clear d1 d2 d3 d4 d5 d6 d7 d8 d9 d10 d11 d12
    go_wp2_with (fail)
    go_ret2
    exact ⟨fun h => by have := HKK.out; omega, fun _ => rfl, HD.out.2.1⟩
  · clear hlo hhi
    clear d1 d2 d3 d4 d5 d6 d7 d8 d9 d10 d11 d12
    go_wp2_with (fail)
    go_ret2
    exact ⟨fun h => by have := HKK.out; omega, fun _ => rfl, HD.out.2.1⟩
  · clear hlo hhi
    clear d1 d2 d3 d4 d5 d6 d7 d8 d9 d10 d11 d12
    go_wp2_with (fail)
    go_ret2
    exact ⟨fun h => by have := HKK.out; omega, fun _ => rfl, HD.out.2.1⟩
  · clear hlo hhi
    clear d1 d2 d3 d4 d5 d6 d7 d8 d9 d10 d11 d12
    go_wp2_with (fail)
    go_ret2
    exact ⟨fun h => by have := HKK.out; omega, fun _ => rfl, HD.out.2.1⟩
  · clear hlo hhi
    clear d1 d2 d3 d4 d5 d6 d7 d8 d9 d10 d11 d12
    go_wp2_with (fail)
    go_ret2
    exact ⟨fun h => by have := HKK.out; omega, fun _ => rfl, HD.out.2.1⟩
  · clear hlo hhi
    clear d1 d2 d3 d4 d5 d6 d7 d8 d9 d10 d11 d12
    go_wp2_with (fail)
    go_ret2
    exact ⟨fun h => by have := HKK.out; omega, fun _ => rfl, HD.out.2.1⟩
  · clear hlo hhi
    clear d1 d2 d3 d4 d5 d6 d7 d8 d9 d10 d11 d12
    go_wp2_with (fail)
    go_ret2
    exact ⟨fun h => by have := HKK.out; omega, fun _ => rfl, HD.out.2.1⟩
  · clear hlo hhi
    clear d1 d2 d3 d4 d5 d6 d7 d8 d9 d10 d11 d12
    have hba := fun o => hb2 HA.out ((Below.refl w1.heap.size w1).alloc (Nat.le_refl _) o)
    have HBA := Lib.hid hba
    clear hba
    go_wp2_with (fail)
    go_ret2
    exact ⟨fun _ => ⟨(133, w1.heap.size), rfl, ⟨fun h => by have := HKK.out; omega, fun h => by have := HKK.out; omega, fun h => by have := HKK.out; omega, fun _ _ _ => ⟨(by decide : (133 : Nat) ≠ 66), (by decide : (133 : Nat) ≠ 70), (by decide : (133 : Nat) ≠ 73)⟩⟩⟩, fun h => absurd (by have := HKK.out; omega) h, HBA.out _⟩
  · clear hlo hhi
    clear d1 d2 d3 d4 d5 d6 d7 d8 d9 d10 d11 d12
    have hba := fun o => hb2 HA.out ((Below.refl w1.heap.size w1).alloc (Nat.le_refl _) o)
    have HBA := Lib.hid hba
    clear hba
    go_wp2_with (fail)
    go_ret2
    exact ⟨fun _ => ⟨(162, w1.heap.size), rfl, ⟨fun h => by have := HKK.out; omega, fun h => by have := HKK.out; omega, fun h => by have := HKK.out; omega, fun _ _ _ => ⟨(by decide : (162 : Nat) ≠ 66), (by decide : (162 : Nat) ≠ 70), (by decide : (162 : Nat) ≠ 73)⟩⟩⟩, fun h => absurd (by have := HKK.out; omega) h, HBA.out _⟩
  · clear hlo hhi
    clear d1 d2 d3 d4 d5 d6 d7 d8 d9 d10 d11 d12
    go_wp2_with (fail)
    go_ret2
    exact ⟨fun h => by have := HKK.out; omega, fun _ => rfl, HD.out.2.1⟩
  · clear hlo hhi
    clear d1 d2 d3 d4 d5 d6 d7 d8 d9 d10 d11 d12
    go_wp2_with (fail)
    go_ret2
    exact ⟨fun h => by have := HKK.out; omega, fun _ => rfl, HD.out.2.1⟩
  · clear hlo hhi
    clear d1 d2 d3 d4 d5 d6 d7 d8 d9 d10 d11 d12
    have hba := fun o => hb2 HA.out ((Below.refl w1.heap.size w1).alloc (Nat.le_refl _) o)
    have HBA := Lib.hid hba
    clear hba
    go_wp2_with (fail)
    go_ret2
    exact ⟨fun _ => ⟨(165, w1.heap.size), rfl, ⟨fun h => by have := HKK.out; omega, fun h => by have := HKK.out; omega, fun h => by have := HKK.out; omega, fun _ _ _ => ⟨(by decide : (165 : Nat) ≠ 66), (by decide : (165 : Nat) ≠ 70), (by decide : (165 : Nat) ≠ 73)⟩⟩⟩, fun h => absurd (by have := HKK.out; omega) h, HBA.out _⟩
  · clear hlo hhi
    clear d1 d2 d3 d4 d5 d6 d7 d8 d9 d10 d11 d12
    have hba := fun o => hb2 HA.out ((Below.refl w1.heap.size w1).alloc (Nat.le_refl _) o)
    have HBA := Lib.hid hba
    clear hba
    go_wp2_with (fail)
    go_ret2
    exact ⟨fun _ => ⟨(168, w1.heap.size), rfl, ⟨fun h => by have := HKK.out; omega, fun h => by have := HKK.out; omega, fun h => by have := HKK.out; omega, fun _ _ _ => ⟨(by decide : (168 : Nat) ≠ 66), (by decide : (168 : Nat) ≠ 70), (by decide : (168 : Nat) ≠ 73)⟩⟩⟩, fun h => absurd (by have := HKK.out; omega) h, HBA.out _⟩
end Go.Proofs.YtacokmkbikdmmaaGreatDoor.trees
