/-
  Small questions about one expression: each ends.
  Conditions: none.
-/
import Derived.Test.YtacokmkbikdmmaaGreatDoorShallow
import Derived.Laws.BitsAllLaws
namespace Go.Proofs.YtacokmkbikdmmaaGreatDoor.trees
open Go Go.RowKit
set_option linter.unusedVariables false
set_option linter.unusedSimpArgs false

theorem pb {W W' : World} (b : Bool) (h : Below W.heap.size W W') : Pb W True (.returned (.bool b)) W' := ⟨b, rfl, fun _ => trivial, h⟩
theorem run_store_float (P : Program) (w : World) (a : Addr) (k : FloatKind) (b : Nat) (m : Mode) : (store a (.float k b) m).run P w = stored P w a (.float k b) m := run_store P w a _ m rfl
attribute [local go_sem] run_store_float
theorem has_cells {c : Cnd} {N : Nat} {W : World} {n : Nat} {cs : List Value} (h : Ex c N W n cs) : ∃ y : X, cs = y.cells := h.cells
def Kr (N : Nat) (W : World) (x : X) : Prop := rows W N 13 x.ka x.kn x.kc (fun cs => ∃ y : X, cs = y.cells)
theorem Ex.kr {c : Cnd} {N n : Nat} {W : World} {x : X} (h : Ex c N W n x.cells) : Kr N W x := by
  cases n with
  | zero => exact h.elim
  | succ n => exact (Ex_x.1 h).2.2.1.imp (Nat.le_refl _) (fun _ _ _ _ h => h) (fun _ h => h.cells)
set_option maxHeartbeats 4000000 in
set_option maxRecDepth 100000 in
theorem accessed (x : X) (W : World) : Calls Tryz.prog 53 #[.agg #[.int .i64 x.kind, .int .i64 x.op, .int .i64 x.ref, .int .i64 x.chain, .int .i64 x.flags, .float .f64 x.num, .slice x.sa x.sn x.sc, .string x.text, .slice x.ka x.kn x.kc, .slice x.pa x.pn x.pc, .slice x.qa x.qn x.qc, .slice x.fa x.fn x.fc, .slice x.ca x.cn x.cc]] W (fun e w' => Pb W True e w') := by
  go_enter Tryz.func53, Tryz.ntmps53
  go_upto_region 1 with (fail)
  have hD := heap_alloc_new W (.cells #[.int .i64 x.kind, .int .i64 x.op, .int .i64 x.ref, .int .i64 x.chain, .int .i64 x.flags, .float .f64 x.num, .slice x.sa x.sn x.sc, .string x.text, .slice x.ka x.kn x.kc, .slice x.pa x.pn x.pc, .slice x.qa x.qn x.qc, .slice x.fa x.fn x.fc, .slice x.ca x.cn x.cc] 30)
  have hDb := (Below.refl W.heap.size W).alloc (Nat.le_refl _) (.cells #[.int .i64 x.kind, .int .i64 x.op, .int .i64 x.ref, .int .i64 x.chain, .int .i64 x.flags, .float .f64 x.num, .slice x.sa x.sn x.sc, .string x.text, .slice x.ka x.kn x.kc, .slice x.pa x.pn x.pc, .slice x.qa x.qn x.qc, .slice x.fa x.fn x.fc, .slice x.ca x.cn x.cc] 30)
  have hDs : (W.alloc (.cells #[.int .i64 x.kind, .int .i64 x.op, .int .i64 x.ref, .int .i64 x.chain, .int .i64 x.flags, .float .f64 x.num, .slice x.sa x.sn x.sc, .string x.text, .slice x.ka x.kn x.kc, .slice x.pa x.pn x.pc, .slice x.qa x.qn x.qc, .slice x.fa x.fn x.fc, .slice x.ca x.cn x.cc] 30)).heap.size = W.heap.size + 1 := by simp
  generalize W.alloc (.cells #[.int .i64 x.kind, .int .i64 x.op, .int .i64 x.ref, .int .i64 x.chain, .int .i64 x.flags, .float .f64 x.num, .slice x.sa x.sn x.sc, .string x.text, .slice x.ka x.kn x.kc, .slice x.pa x.pn x.pc, .slice x.qa x.qn x.qc, .slice x.fa x.fn x.fc, .slice x.ca x.cn x.cc] 30) = w1 at hD hDb hDs ⊢
  have d0 : w1.cell? ⟨W.heap.size, 0, none⟩ = some (.int .i64 x.kind) := blk_cell hD 0
  have d1 : w1.cell? ⟨W.heap.size, 1, none⟩ = some (.int .i64 x.op) := blk_cell hD 1
  have d3 : w1.cell? ⟨W.heap.size, 3, none⟩ = some (.int .i64 x.chain) := blk_cell hD 3
  have d4 : w1.cell? ⟨W.heap.size, 4, none⟩ = some (.int .i64 x.flags) := blk_cell hD 4
  have HD := Lib.hid (⟨hD, hDb, hDs⟩ : _ ∧ _ ∧ _)
  clear hD hDb hDs
  have hb := HD.out.2.1
  go_wp2_with (fail)
  all_goals
    go_ret
    exact pb _ hb
set_option maxHeartbeats 4000000 in
set_option maxRecDepth 100000 in
theorem inChain (x : X) (W : World) : Calls Tryz.prog 51 #[.agg #[.int .i64 x.kind, .int .i64 x.op, .int .i64 x.ref, .int .i64 x.chain, .int .i64 x.flags, .float .f64 x.num, .slice x.sa x.sn x.sc, .string x.text, .slice x.ka x.kn x.kc, .slice x.pa x.pn x.pc, .slice x.qa x.qn x.qc, .slice x.fa x.fn x.fc, .slice x.ca x.cn x.cc]] W (fun e w' => Pb W True e w') := by
  go_enter Tryz.func51, Tryz.ntmps51
  go_upto_region 1 with (fail)
  have hD := heap_alloc_new W (.cells #[.int .i64 x.kind, .int .i64 x.op, .int .i64 x.ref, .int .i64 x.chain, .int .i64 x.flags, .float .f64 x.num, .slice x.sa x.sn x.sc, .string x.text, .slice x.ka x.kn x.kc, .slice x.pa x.pn x.pc, .slice x.qa x.qn x.qc, .slice x.fa x.fn x.fc, .slice x.ca x.cn x.cc] 30)
  have hDb := (Below.refl W.heap.size W).alloc (Nat.le_refl _) (.cells #[.int .i64 x.kind, .int .i64 x.op, .int .i64 x.ref, .int .i64 x.chain, .int .i64 x.flags, .float .f64 x.num, .slice x.sa x.sn x.sc, .string x.text, .slice x.ka x.kn x.kc, .slice x.pa x.pn x.pc, .slice x.qa x.qn x.qc, .slice x.fa x.fn x.fc, .slice x.ca x.cn x.cc] 30)
  have hDs : (W.alloc (.cells #[.int .i64 x.kind, .int .i64 x.op, .int .i64 x.ref, .int .i64 x.chain, .int .i64 x.flags, .float .f64 x.num, .slice x.sa x.sn x.sc, .string x.text, .slice x.ka x.kn x.kc, .slice x.pa x.pn x.pc, .slice x.qa x.qn x.qc, .slice x.fa x.fn x.fc, .slice x.ca x.cn x.cc] 30)).heap.size = W.heap.size + 1 := by simp
  generalize W.alloc (.cells #[.int .i64 x.kind, .int .i64 x.op, .int .i64 x.ref, .int .i64 x.chain, .int .i64 x.flags, .float .f64 x.num, .slice x.sa x.sn x.sc, .string x.text, .slice x.ka x.kn x.kc, .slice x.pa x.pn x.pc, .slice x.qa x.qn x.qc, .slice x.fa x.fn x.fc, .slice x.ca x.cn x.cc] 30) = w1 at hD hDb hDs ⊢
  have d0 : w1.cell? ⟨W.heap.size, 0, none⟩ = some (.int .i64 x.kind) := blk_cell hD 0
  have d1 : w1.cell? ⟨W.heap.size, 1, none⟩ = some (.int .i64 x.op) := blk_cell hD 1
  have d3 : w1.cell? ⟨W.heap.size, 3, none⟩ = some (.int .i64 x.chain) := blk_cell hD 3
  have d4 : w1.cell? ⟨W.heap.size, 4, none⟩ = some (.int .i64 x.flags) := blk_cell hD 4
  have HD := Lib.hid (⟨hD, hDb, hDs⟩ : _ ∧ _ ∧ _)
  clear hD hDb hDs
  have hb := HD.out.2.1
  go_wp2_with (fail)
  all_goals
    go_ret
    exact pb _ hb
set_option maxHeartbeats 4000000 in
set_option maxRecDepth 100000 in
theorem assignable (x : X) (W : World) : Calls Tryz.prog 49 #[.agg #[.int .i64 x.kind, .int .i64 x.op, .int .i64 x.ref, .int .i64 x.chain, .int .i64 x.flags, .float .f64 x.num, .slice x.sa x.sn x.sc, .string x.text, .slice x.ka x.kn x.kc, .slice x.pa x.pn x.pc, .slice x.qa x.qn x.qc, .slice x.fa x.fn x.fc, .slice x.ca x.cn x.cc]] W (fun e w' => Pb W True e w') := by
  go_enter Tryz.func49, Tryz.ntmps49
  go_upto_region 1 with (fail)
  have hD := heap_alloc_new W (.cells #[.int .i64 x.kind, .int .i64 x.op, .int .i64 x.ref, .int .i64 x.chain, .int .i64 x.flags, .float .f64 x.num, .slice x.sa x.sn x.sc, .string x.text, .slice x.ka x.kn x.kc, .slice x.pa x.pn x.pc, .slice x.qa x.qn x.qc, .slice x.fa x.fn x.fc, .slice x.ca x.cn x.cc] 30)
  have hDb := (Below.refl W.heap.size W).alloc (Nat.le_refl _) (.cells #[.int .i64 x.kind, .int .i64 x.op, .int .i64 x.ref, .int .i64 x.chain, .int .i64 x.flags, .float .f64 x.num, .slice x.sa x.sn x.sc, .string x.text, .slice x.ka x.kn x.kc, .slice x.pa x.pn x.pc, .slice x.qa x.qn x.qc, .slice x.fa x.fn x.fc, .slice x.ca x.cn x.cc] 30)
  have hDs : (W.alloc (.cells #[.int .i64 x.kind, .int .i64 x.op, .int .i64 x.ref, .int .i64 x.chain, .int .i64 x.flags, .float .f64 x.num, .slice x.sa x.sn x.sc, .string x.text, .slice x.ka x.kn x.kc, .slice x.pa x.pn x.pc, .slice x.qa x.qn x.qc, .slice x.fa x.fn x.fc, .slice x.ca x.cn x.cc] 30)).heap.size = W.heap.size + 1 := by simp
  generalize W.alloc (.cells #[.int .i64 x.kind, .int .i64 x.op, .int .i64 x.ref, .int .i64 x.chain, .int .i64 x.flags, .float .f64 x.num, .slice x.sa x.sn x.sc, .string x.text, .slice x.ka x.kn x.kc, .slice x.pa x.pn x.pc, .slice x.qa x.qn x.qc, .slice x.fa x.fn x.fc, .slice x.ca x.cn x.cc] 30) = w1 at hD hDb hDs ⊢
  have d0 : w1.cell? ⟨W.heap.size, 0, none⟩ = some (.int .i64 x.kind) := blk_cell hD 0
  have d1 : w1.cell? ⟨W.heap.size, 1, none⟩ = some (.int .i64 x.op) := blk_cell hD 1
  have d3 : w1.cell? ⟨W.heap.size, 3, none⟩ = some (.int .i64 x.chain) := blk_cell hD 3
  have d4 : w1.cell? ⟨W.heap.size, 4, none⟩ = some (.int .i64 x.flags) := blk_cell hD 4
  have HD := Lib.hid (⟨hD, hDb, hDs⟩ : _ ∧ _ ∧ _)
  clear hD hDb hDs
  have hb := HD.out.2.1
  go_wp2_with (fail)
  all_goals
    go_ret
    exact pb _ hb
set_option maxHeartbeats 4000000 in
set_option maxRecDepth 100000 in
theorem run42 (b : Nat) (w : World) : Sem.run Tryz.prog (callFunc 42 #[.float .f64 b]) w = Result.ok (Next.value (.int .u64 b)) w := by
  rw [run_callFunc_extern Tryz.func42 (by kernel_rfl) (by kernel_rfl) (by kernel_rfl) (e := Extern.MathFloatBits.float64bits) (by kernel_rfl)]
  rfl
attribute [local go_sem high] run42
set_option maxHeartbeats 4000000 in
set_option maxRecDepth 100000 in
theorem plainZero (b : Nat) (W : World) : Calls Tryz.prog 26 #[.float .f64 b] W (fun e w' => ∃ r, e = .returned (.bool r) ∧ w' = W ∧ (r = true ↔ b = 0)) := by
  go_enter Tryz.func26, Tryz.ntmps26
  go_wp2_with (fail)
  go_ret
  exact ⟨_, rfl, rfl, by simp⟩
theorem wrap_i64 (n : Int) : IntKind.i64.wrap n = (n + 9223372036854775808) % 18446744073709551616 - 9223372036854775808 := by
  rw [IntWalk.i64_left]
  unfold wrap64
  omega
theorem bits_i64 (op : BinOp) (x y : Int) : -9223372036854775808 ≤ bits op .i64 x y ∧ bits op .i64 x y ≤ 9223372036854775807 := by
  unfold bits
  simp only []
  rw [wrap_i64]
  omega
theorem or_i64 (x y : Int) (hx : -9223372036854775808 ≤ x ∧ x ≤ 9223372036854775807) (hy : -9223372036854775808 ≤ y ∧ y ≤ 9223372036854775807) (h : bits .or .i64 x y = 0) : x = 0 ∧ y = 0 := by
  have e : bits .or .i64 x y = IntKind.i64.wrap ((BitVec.ofInt 64 x ||| BitVec.ofInt 64 y).toNat) := rfl
  rw [e, wrap_i64] at h
  have hlt := (BitVec.ofInt 64 x ||| BitVec.ofInt 64 y).isLt
  have h0 : (BitVec.ofInt 64 x ||| BitVec.ofInt 64 y).toNat = 0 := by omega
  have h1 : BitVec.ofInt 64 x ||| BitVec.ofInt 64 y = 0#64 := BitVec.eq_of_toNat_eq (by rw [h0]; rfl)
  have h2 := BitVec.or_eq_zero_iff.1 h1
  have a := congrArg BitVec.toNat h2.1
  have b := congrArg BitVec.toNat h2.2
  rw [BitVec.toNat_ofInt] at a b
  simp at a b
  omega

set_option maxHeartbeats 4000000 in
set_option maxRecDepth 100000 in
theorem onChain (x : X) (N : Nat) (W W1 : World) (hk : Kr N W x) (h0 : Below N W W1) (hN : N ≤ W.heap.size) : Calls Tryz.prog 44 #[.agg #[.int .i64 x.kind, .int .i64 x.op, .int .i64 x.ref, .int .i64 x.chain, .int .i64 x.flags, .float .f64 x.num, .slice x.sa x.sn x.sc, .string x.text, .slice x.ka x.kn x.kc, .slice x.pa x.pn x.pc, .slice x.qa x.qn x.qc, .slice x.fa x.fn x.fc, .slice x.ca x.cn x.cc]] W1 (fun e w' => Pb W1 True e w') := by
  go_enter Tryz.func44, Tryz.ntmps44
  go_upto_region 1 with (fail)
  have hD := heap_alloc_new W1 (.cells #[.int .i64 x.kind, .int .i64 x.op, .int .i64 x.ref, .int .i64 x.chain, .int .i64 x.flags, .float .f64 x.num, .slice x.sa x.sn x.sc, .string x.text, .slice x.ka x.kn x.kc, .slice x.pa x.pn x.pc, .slice x.qa x.qn x.qc, .slice x.fa x.fn x.fc, .slice x.ca x.cn x.cc] 30)
  have hDb := (Below.refl W1.heap.size W1).alloc (Nat.le_refl _) (.cells #[.int .i64 x.kind, .int .i64 x.op, .int .i64 x.ref, .int .i64 x.chain, .int .i64 x.flags, .float .f64 x.num, .slice x.sa x.sn x.sc, .string x.text, .slice x.ka x.kn x.kc, .slice x.pa x.pn x.pc, .slice x.qa x.qn x.qc, .slice x.fa x.fn x.fc, .slice x.ca x.cn x.cc] 30)
  have hDs : (W1.alloc (.cells #[.int .i64 x.kind, .int .i64 x.op, .int .i64 x.ref, .int .i64 x.chain, .int .i64 x.flags, .float .f64 x.num, .slice x.sa x.sn x.sc, .string x.text, .slice x.ka x.kn x.kc, .slice x.pa x.pn x.pc, .slice x.qa x.qn x.qc, .slice x.fa x.fn x.fc, .slice x.ca x.cn x.cc] 30)).heap.size = W1.heap.size + 1 := by simp
  generalize W1.alloc (.cells #[.int .i64 x.kind, .int .i64 x.op, .int .i64 x.ref, .int .i64 x.chain, .int .i64 x.flags, .float .f64 x.num, .slice x.sa x.sn x.sc, .string x.text, .slice x.ka x.kn x.kc, .slice x.pa x.pn x.pc, .slice x.qa x.qn x.qc, .slice x.fa x.fn x.fc, .slice x.ca x.cn x.cc] 30) = w1 at hD hDb hDs ⊢
  have d0 : w1.cell? ⟨W1.heap.size, 0, none⟩ = some (.int .i64 x.kind) := blk_cell hD 0
  have d3 : w1.cell? ⟨W1.heap.size, 3, none⟩ = some (.int .i64 x.chain) := blk_cell hD 3
  have HD := Lib.hid (⟨hD, hDb, hDs⟩ : _ ∧ _ ∧ _)
  clear hD hDb hDs
  have d8 : w1.cell? ⟨W1.heap.size, 8, none⟩ = some (.slice x.ka x.kn x.kc) := blk_cell HD.out.1 8
  have hb := HD.out.2.1
  have hbi := bl h0 hN hb
  have HBI := Lib.hid hbi
  by_cases hn : x.kn = 0
  · rw [hn] at d8
    clear hk h0 hbi
    go_wp2_with (fail)
    all_goals
      go_ret
      exact pb _ hb
  · have x0 : ¬ ((x.kn : Int) = 0) := by omega
    have x1 : (0 : Int) < (x.kn : Int) := by omega
    obtain ⟨gk, ok, csk, eAk, hgk, _, hEk, hck, hstk⟩ := (hk).at (show 0 < x.kn by omega)
    obtain ⟨y, rfl⟩ := hEk
    have k0 := inp HBI.out hgk (hck 0 _ rfl)
    rw [show ok + 0 * 13 + 0 = ok by omega] at k0
    have k1 := inp HBI.out hgk (hck 1 _ rfl)
    rw [show ok + 0 * 13 + 1 = ok + 1 by omega] at k1
    have k2 := inp HBI.out hgk (hck 2 _ rfl)
    rw [show ok + 0 * 13 + 2 = ok + 2 by omega] at k2
    have k3 := inp HBI.out hgk (hck 3 _ rfl)
    rw [show ok + 0 * 13 + 3 = ok + 3 by omega] at k3
    have k4 := inp HBI.out hgk (hck 4 _ rfl)
    rw [show ok + 0 * 13 + 4 = ok + 4 by omega] at k4
    have k5 := inp HBI.out hgk (hck 5 _ rfl)
    rw [show ok + 0 * 13 + 5 = ok + 5 by omega] at k5
    have k6 := inp HBI.out hgk (hck 6 _ rfl)
    rw [show ok + 0 * 13 + 6 = ok + 6 by omega] at k6
    have k7 := inp HBI.out hgk (hck 7 _ rfl)
    rw [show ok + 0 * 13 + 7 = ok + 7 by omega] at k7
    have k8 := inp HBI.out hgk (hck 8 _ rfl)
    rw [show ok + 0 * 13 + 8 = ok + 8 by omega] at k8
    have k9 := inp HBI.out hgk (hck 9 _ rfl)
    rw [show ok + 0 * 13 + 9 = ok + 9 by omega] at k9
    have k10 := inp HBI.out hgk (hck 10 _ rfl)
    rw [show ok + 0 * 13 + 10 = ok + 10 by omega] at k10
    have k11 := inp HBI.out hgk (hck 11 _ rfl)
    rw [show ok + 0 * 13 + 11 = ok + 11 by omega] at k11
    have k12 := inp HBI.out hgk (hck 12 _ rfl)
    rw [show ok + 0 * 13 + 12 = ok + 12 by omega] at k12
    rw [eAk] at d8
    clear hck hstk eAk hk h0 hbi hn
    go_wp2_with (fail)
    all_goals
      go_ret
      exact pb _ hb
set_option maxHeartbeats 4000000 in
set_option maxRecDepth 100000 in
theorem unaryFlags (x : X) (N : Nat) (W W1 : World) (hk : Kr N W x) (h0 : Below N W W1) (hN : N ≤ W.heap.size) (h1 : x.kn = 1) : Calls Tryz.prog 47 #[.agg #[.int .i64 x.kind, .int .i64 x.op, .int .i64 x.ref, .int .i64 x.chain, .int .i64 x.flags, .float .f64 x.num, .slice x.sa x.sn x.sc, .string x.text, .slice x.ka x.kn x.kc, .slice x.pa x.pn x.pc, .slice x.qa x.qn x.qc, .slice x.fa x.fn x.fc, .slice x.ca x.cn x.cc]] W1 (fun e w' => ∃ r : Int, e = .returned (.int .i64 r) ∧ Below W1.heap.size W1 w') := by
  have H1 := Lib.hid h1
  clear h1
  go_enter Tryz.func47, Tryz.ntmps47
  go_upto_region 1 with (fail)
  have hD := heap_alloc_new W1 (.cells #[.int .i64 x.kind, .int .i64 x.op, .int .i64 x.ref, .int .i64 x.chain, .int .i64 x.flags, .float .f64 x.num, .slice x.sa x.sn x.sc, .string x.text, .slice x.ka x.kn x.kc, .slice x.pa x.pn x.pc, .slice x.qa x.qn x.qc, .slice x.fa x.fn x.fc, .slice x.ca x.cn x.cc] 30)
  have hDb := (Below.refl W1.heap.size W1).alloc (Nat.le_refl _) (.cells #[.int .i64 x.kind, .int .i64 x.op, .int .i64 x.ref, .int .i64 x.chain, .int .i64 x.flags, .float .f64 x.num, .slice x.sa x.sn x.sc, .string x.text, .slice x.ka x.kn x.kc, .slice x.pa x.pn x.pc, .slice x.qa x.qn x.qc, .slice x.fa x.fn x.fc, .slice x.ca x.cn x.cc] 30)
  have hDs : (W1.alloc (.cells #[.int .i64 x.kind, .int .i64 x.op, .int .i64 x.ref, .int .i64 x.chain, .int .i64 x.flags, .float .f64 x.num, .slice x.sa x.sn x.sc, .string x.text, .slice x.ka x.kn x.kc, .slice x.pa x.pn x.pc, .slice x.qa x.qn x.qc, .slice x.fa x.fn x.fc, .slice x.ca x.cn x.cc] 30)).heap.size = W1.heap.size + 1 := by simp
  generalize W1.alloc (.cells #[.int .i64 x.kind, .int .i64 x.op, .int .i64 x.ref, .int .i64 x.chain, .int .i64 x.flags, .float .f64 x.num, .slice x.sa x.sn x.sc, .string x.text, .slice x.ka x.kn x.kc, .slice x.pa x.pn x.pc, .slice x.qa x.qn x.qc, .slice x.fa x.fn x.fc, .slice x.ca x.cn x.cc] 30) = w1 at hD hDb hDs ⊢
  have d1 : w1.cell? ⟨W1.heap.size, 1, none⟩ = some (.int .i64 x.op) := blk_cell hD 1
  have HD := Lib.hid (⟨hD, hDb, hDs⟩ : _ ∧ _ ∧ _)
  clear hD hDb hDs
  have d8 : w1.cell? ⟨W1.heap.size, 8, none⟩ = some (.slice x.ka x.kn x.kc) := blk_cell HD.out.1 8
  have hb := HD.out.2.1
  have hbi := bl h0 hN hb
  have HBI := Lib.hid hbi
  have x1 : (0 : Int) < (x.kn : Int) := by have := H1.out; omega
  obtain ⟨gk, ok, csk, eAk, hgk, _, hEk, hck, hstk⟩ := (hk).at (show 0 < x.kn by have := H1.out; omega)
  obtain ⟨y, rfl⟩ := hEk
  have k0 := inp HBI.out hgk (hck 0 _ rfl)
  rw [show ok + 0 * 13 + 0 = ok by omega] at k0
  have k1 := inp HBI.out hgk (hck 1 _ rfl)
  rw [show ok + 0 * 13 + 1 = ok + 1 by omega] at k1
  have k2 := inp HBI.out hgk (hck 2 _ rfl)
  rw [show ok + 0 * 13 + 2 = ok + 2 by omega] at k2
  have k3 := inp HBI.out hgk (hck 3 _ rfl)
  rw [show ok + 0 * 13 + 3 = ok + 3 by omega] at k3
  have k4 := inp HBI.out hgk (hck 4 _ rfl)
  rw [show ok + 0 * 13 + 4 = ok + 4 by omega] at k4
  have k5 := inp HBI.out hgk (hck 5 _ rfl)
  rw [show ok + 0 * 13 + 5 = ok + 5 by omega] at k5
  have k6 := inp HBI.out hgk (hck 6 _ rfl)
  rw [show ok + 0 * 13 + 6 = ok + 6 by omega] at k6
  have k7 := inp HBI.out hgk (hck 7 _ rfl)
  rw [show ok + 0 * 13 + 7 = ok + 7 by omega] at k7
  have k8 := inp HBI.out hgk (hck 8 _ rfl)
  rw [show ok + 0 * 13 + 8 = ok + 8 by omega] at k8
  have k9 := inp HBI.out hgk (hck 9 _ rfl)
  rw [show ok + 0 * 13 + 9 = ok + 9 by omega] at k9
  have k10 := inp HBI.out hgk (hck 10 _ rfl)
  rw [show ok + 0 * 13 + 10 = ok + 10 by omega] at k10
  have k11 := inp HBI.out hgk (hck 11 _ rfl)
  rw [show ok + 0 * 13 + 11 = ok + 11 by omega] at k11
  have k12 := inp HBI.out hgk (hck 12 _ rfl)
  rw [show ok + 0 * 13 + 12 = ok + 12 by omega] at k12
  have HA := Lib.hid eAk
  rw [eAk, H1.out] at d8
  clear hck hstk eAk hk h0 hbi
  go_upto_region 4 with (fail)
  have hP := heap_alloc_new w1 (.cells #[.int .i64 y.kind, .int .i64 y.op, .int .i64 y.ref, .int .i64 y.chain, .int .i64 y.flags, .float .f64 y.num, .slice y.sa y.sn y.sc, .string y.text, .slice y.ka y.kn y.kc, .slice y.pa y.pn y.pc, .slice y.qa y.qn y.qc, .slice y.fa y.fn y.fc, .slice y.ca y.cn y.cc] 30)
  have hPb := (Below.refl w1.heap.size w1).alloc (Nat.le_refl _) (.cells #[.int .i64 y.kind, .int .i64 y.op, .int .i64 y.ref, .int .i64 y.chain, .int .i64 y.flags, .float .f64 y.num, .slice y.sa y.sn y.sc, .string y.text, .slice y.ka y.kn y.kc, .slice y.pa y.pn y.pc, .slice y.qa y.qn y.qc, .slice y.fa y.fn y.fc, .slice y.ca y.cn y.cc] 30)
  replace d1 := (hPb.cell (World.block_lt_of_cell? _ _ d1)).trans d1
  replace d8 := (hPb.cell (World.block_lt_of_cell? _ _ d8)).trans d8
  generalize w1.alloc (.cells #[.int .i64 y.kind, .int .i64 y.op, .int .i64 y.ref, .int .i64 y.chain, .int .i64 y.flags, .float .f64 y.num, .slice y.sa y.sn y.sc, .string y.text, .slice y.ka y.kn y.kc, .slice y.pa y.pn y.pc, .slice y.qa y.qn y.qc, .slice y.fa y.fn y.fc, .slice y.ca y.cn y.cc] 30) = w2 at hP hPb d1 d8 ⊢
  have p0 : w2.cell? ⟨w1.heap.size, 0, none⟩ = some (.int .i64 y.kind) := blk_cell hP 0
  have p3 : w2.cell? ⟨w1.heap.size, 3, none⟩ = some (.int .i64 y.chain) := blk_cell hP 3
  have HP := Lib.hid hP
  have hb2 := bl2 hb hPb
  have HPb := Lib.hid hPb
  clear hP hPb hb k0 k1 k2 k3 k4 k5 k6 k7 k8 k9 k10 k11 k12
  clear x1
  go_wp2_with (fail)
  all_goals
    go_ret
    exact ⟨_, rfl, hb2⟩
set_option maxHeartbeats 4000000 in
set_option maxRecDepth 100000 in
theorem unaryRight (x : X) (N : Nat) (W W1 : World) (hk : Kr N W x) (h0 : Below N W W1) (hN : N ≤ W.heap.size) (h1 : x.kn = 1) : Calls Tryz.prog 48 #[.agg #[.int .i64 x.kind, .int .i64 x.op, .int .i64 x.ref, .int .i64 x.chain, .int .i64 x.flags, .float .f64 x.num, .slice x.sa x.sn x.sc, .string x.text, .slice x.ka x.kn x.kc, .slice x.pa x.pn x.pc, .slice x.qa x.qn x.qc, .slice x.fa x.fn x.fc, .slice x.ca x.cn x.cc]] W1 (fun e w' => Pb W1 True e w') := by
  have H1 := Lib.hid h1
  clear h1
  go_enter Tryz.func48, Tryz.ntmps48
  go_upto_region 1 with (fail)
  have hD := heap_alloc_new W1 (.cells #[.int .i64 x.kind, .int .i64 x.op, .int .i64 x.ref, .int .i64 x.chain, .int .i64 x.flags, .float .f64 x.num, .slice x.sa x.sn x.sc, .string x.text, .slice x.ka x.kn x.kc, .slice x.pa x.pn x.pc, .slice x.qa x.qn x.qc, .slice x.fa x.fn x.fc, .slice x.ca x.cn x.cc] 30)
  have hDb := (Below.refl W1.heap.size W1).alloc (Nat.le_refl _) (.cells #[.int .i64 x.kind, .int .i64 x.op, .int .i64 x.ref, .int .i64 x.chain, .int .i64 x.flags, .float .f64 x.num, .slice x.sa x.sn x.sc, .string x.text, .slice x.ka x.kn x.kc, .slice x.pa x.pn x.pc, .slice x.qa x.qn x.qc, .slice x.fa x.fn x.fc, .slice x.ca x.cn x.cc] 30)
  have hDs : (W1.alloc (.cells #[.int .i64 x.kind, .int .i64 x.op, .int .i64 x.ref, .int .i64 x.chain, .int .i64 x.flags, .float .f64 x.num, .slice x.sa x.sn x.sc, .string x.text, .slice x.ka x.kn x.kc, .slice x.pa x.pn x.pc, .slice x.qa x.qn x.qc, .slice x.fa x.fn x.fc, .slice x.ca x.cn x.cc] 30)).heap.size = W1.heap.size + 1 := by simp
  generalize W1.alloc (.cells #[.int .i64 x.kind, .int .i64 x.op, .int .i64 x.ref, .int .i64 x.chain, .int .i64 x.flags, .float .f64 x.num, .slice x.sa x.sn x.sc, .string x.text, .slice x.ka x.kn x.kc, .slice x.pa x.pn x.pc, .slice x.qa x.qn x.qc, .slice x.fa x.fn x.fc, .slice x.ca x.cn x.cc] 30) = w1 at hD hDb hDs ⊢
  have d1 : w1.cell? ⟨W1.heap.size, 1, none⟩ = some (.int .i64 x.op) := blk_cell hD 1
  have d4 : w1.cell? ⟨W1.heap.size, 4, none⟩ = some (.int .i64 x.flags) := blk_cell hD 4
  have HD := Lib.hid (⟨hD, hDb, hDs⟩ : _ ∧ _ ∧ _)
  clear hD hDb hDs
  have d8 : w1.cell? ⟨W1.heap.size, 8, none⟩ = some (.slice x.ka x.kn x.kc) := blk_cell HD.out.1 8
  have hb := HD.out.2.1
  have hbi := bl h0 hN hb
  have HBI := Lib.hid hbi
  have x1 : (0 : Int) < (x.kn : Int) := by have := H1.out; omega
  obtain ⟨gk, ok, csk, eAk, hgk, _, hEk, hck, hstk⟩ := (hk).at (show 0 < x.kn by have := H1.out; omega)
  obtain ⟨y, rfl⟩ := hEk
  have k0 := inp HBI.out hgk (hck 0 _ rfl)
  rw [show ok + 0 * 13 + 0 = ok by omega] at k0
  have k1 := inp HBI.out hgk (hck 1 _ rfl)
  rw [show ok + 0 * 13 + 1 = ok + 1 by omega] at k1
  have k2 := inp HBI.out hgk (hck 2 _ rfl)
  rw [show ok + 0 * 13 + 2 = ok + 2 by omega] at k2
  have k3 := inp HBI.out hgk (hck 3 _ rfl)
  rw [show ok + 0 * 13 + 3 = ok + 3 by omega] at k3
  have k4 := inp HBI.out hgk (hck 4 _ rfl)
  rw [show ok + 0 * 13 + 4 = ok + 4 by omega] at k4
  have k5 := inp HBI.out hgk (hck 5 _ rfl)
  rw [show ok + 0 * 13 + 5 = ok + 5 by omega] at k5
  have k6 := inp HBI.out hgk (hck 6 _ rfl)
  rw [show ok + 0 * 13 + 6 = ok + 6 by omega] at k6
  have k7 := inp HBI.out hgk (hck 7 _ rfl)
  rw [show ok + 0 * 13 + 7 = ok + 7 by omega] at k7
  have k8 := inp HBI.out hgk (hck 8 _ rfl)
  rw [show ok + 0 * 13 + 8 = ok + 8 by omega] at k8
  have k9 := inp HBI.out hgk (hck 9 _ rfl)
  rw [show ok + 0 * 13 + 9 = ok + 9 by omega] at k9
  have k10 := inp HBI.out hgk (hck 10 _ rfl)
  rw [show ok + 0 * 13 + 10 = ok + 10 by omega] at k10
  have k11 := inp HBI.out hgk (hck 11 _ rfl)
  rw [show ok + 0 * 13 + 11 = ok + 11 by omega] at k11
  have k12 := inp HBI.out hgk (hck 12 _ rfl)
  rw [show ok + 0 * 13 + 12 = ok + 12 by omega] at k12
  have HA := Lib.hid eAk
  rw [eAk, H1.out] at d8
  clear hck hstk eAk hk h0 hbi
  go_upto_region 2 with (fail)
  have hP := heap_alloc_new w1 (.cells #[.int .i64 y.kind, .int .i64 y.op, .int .i64 y.ref, .int .i64 y.chain, .int .i64 y.flags, .float .f64 y.num, .slice y.sa y.sn y.sc, .string y.text, .slice y.ka y.kn y.kc, .slice y.pa y.pn y.pc, .slice y.qa y.qn y.qc, .slice y.fa y.fn y.fc, .slice y.ca y.cn y.cc] 30)
  have hPb := (Below.refl w1.heap.size w1).alloc (Nat.le_refl _) (.cells #[.int .i64 y.kind, .int .i64 y.op, .int .i64 y.ref, .int .i64 y.chain, .int .i64 y.flags, .float .f64 y.num, .slice y.sa y.sn y.sc, .string y.text, .slice y.ka y.kn y.kc, .slice y.pa y.pn y.pc, .slice y.qa y.qn y.qc, .slice y.fa y.fn y.fc, .slice y.ca y.cn y.cc] 30)
  replace d1 := (hPb.cell (World.block_lt_of_cell? _ _ d1)).trans d1
  replace d4 := (hPb.cell (World.block_lt_of_cell? _ _ d4)).trans d4
  replace d8 := (hPb.cell (World.block_lt_of_cell? _ _ d8)).trans d8
  generalize w1.alloc (.cells #[.int .i64 y.kind, .int .i64 y.op, .int .i64 y.ref, .int .i64 y.chain, .int .i64 y.flags, .float .f64 y.num, .slice y.sa y.sn y.sc, .string y.text, .slice y.ka y.kn y.kc, .slice y.pa y.pn y.pc, .slice y.qa y.qn y.qc, .slice y.fa y.fn y.fc, .slice y.ca y.cn y.cc] 30) = w2 at hP hPb d1 d4 d8 ⊢
  have p0 : w2.cell? ⟨w1.heap.size, 0, none⟩ = some (.int .i64 y.kind) := blk_cell hP 0
  have p1 : w2.cell? ⟨w1.heap.size, 1, none⟩ = some (.int .i64 y.op) := blk_cell hP 1
  have p2 : w2.cell? ⟨w1.heap.size, 2, none⟩ = some (.int .i64 y.ref) := blk_cell hP 2
  have p3 : w2.cell? ⟨w1.heap.size, 3, none⟩ = some (.int .i64 y.chain) := blk_cell hP 3
  have p4 : w2.cell? ⟨w1.heap.size, 4, none⟩ = some (.int .i64 y.flags) := blk_cell hP 4
  have p5 : w2.cell? ⟨w1.heap.size, 5, none⟩ = some (.float .f64 y.num) := blk_cell hP 5
  have p6 : w2.cell? ⟨w1.heap.size, 6, none⟩ = some (.slice y.sa y.sn y.sc) := blk_cell hP 6
  have p7 : w2.cell? ⟨w1.heap.size, 7, none⟩ = some (.string y.text) := blk_cell hP 7
  have p8 : w2.cell? ⟨w1.heap.size, 8, none⟩ = some (.slice y.ka y.kn y.kc) := blk_cell hP 8
  have p9 : w2.cell? ⟨w1.heap.size, 9, none⟩ = some (.slice y.pa y.pn y.pc) := blk_cell hP 9
  have p10 : w2.cell? ⟨w1.heap.size, 10, none⟩ = some (.slice y.qa y.qn y.qc) := blk_cell hP 10
  have p11 : w2.cell? ⟨w1.heap.size, 11, none⟩ = some (.slice y.fa y.fn y.fc) := blk_cell hP 11
  have p12 : w2.cell? ⟨w1.heap.size, 12, none⟩ = some (.slice y.ca y.cn y.cc) := blk_cell hP 12
  have HP := Lib.hid hP
  have hb2 := bl2 hb hPb
  have HPb := Lib.hid hPb
  clear hP hPb hb k0 k1 k2 k3 k4 k5 k6 k7 k8 k9 k10 k11 k12
  go_wp2_with (first | (go_at_call 53; refine (accessed _ _).mono ?_; rintro e w3 ⟨b, rfl, -, hbel⟩; (try replace d0 := (hbel.cell (World.block_lt_of_cell? _ _ d0)).trans d0); (try replace d1 := (hbel.cell (World.block_lt_of_cell? _ _ d1)).trans d1); (try replace d3 := (hbel.cell (World.block_lt_of_cell? _ _ d3)).trans d3); (try replace d4 := (hbel.cell (World.block_lt_of_cell? _ _ d4)).trans d4); (try replace d8 := (hbel.cell (World.block_lt_of_cell? _ _ d8)).trans d8); (try replace p0 := (hbel.cell (World.block_lt_of_cell? _ _ p0)).trans p0); (try replace p4 := (hbel.cell (World.block_lt_of_cell? _ _ p4)).trans p4); (try replace z0 := (hbel.cell (World.block_lt_of_cell? _ _ z0)).trans z0); replace hb2 := bl2 hb2 hbel; clear hbel) | (go_at_call 49; refine (assignable _ _).mono ?_; rintro e w3 ⟨b, rfl, -, hbel⟩; (try replace d0 := (hbel.cell (World.block_lt_of_cell? _ _ d0)).trans d0); (try replace d1 := (hbel.cell (World.block_lt_of_cell? _ _ d1)).trans d1); (try replace d3 := (hbel.cell (World.block_lt_of_cell? _ _ d3)).trans d3); (try replace d4 := (hbel.cell (World.block_lt_of_cell? _ _ d4)).trans d4); (try replace d8 := (hbel.cell (World.block_lt_of_cell? _ _ d8)).trans d8); (try replace p0 := (hbel.cell (World.block_lt_of_cell? _ _ p0)).trans p0); (try replace p4 := (hbel.cell (World.block_lt_of_cell? _ _ p4)).trans p4); (try replace z0 := (hbel.cell (World.block_lt_of_cell? _ _ z0)).trans z0); replace hb2 := bl2 hb2 hbel; clear hbel))
  all_goals
    go_ret
    exact pb _ hb2
end Go.Proofs.YtacokmkbikdmmaaGreatDoor.trees
