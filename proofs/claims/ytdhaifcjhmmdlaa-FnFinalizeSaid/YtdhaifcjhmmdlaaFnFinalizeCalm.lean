/-
  FnFinalize: calm calls the closure, which comes back; the closure lays Finalize's bytes as a string.
  Conditions: fewer than 2^32 bytes.
-/
import Derived.Test.YtdhaifcjhmmdlaaFnFinalizeOne
import Derived.Test.YtdhaifcjhmmdlaaFnFinalizeFin
import Derived.Defers
import Derived.Recover
import Derived.Laws.Pointers
import Derived.Laws.EntriesVeiled
import Derived.Laws.IdiomStrings
import Derived.Laws.ResultCell
namespace Go.Proofs.Ytdhaifcjhmmdlaa.fnFinalize
open Go.RowKit Go.Proofs.YtdhaifcjhmmdlaaW.PrintWords Go.Proofs.YtdhaifcjhmmdlaaW.PrintLast Go.Proofs.YtdhaifcjhmmdlaaW.PrintMore Go.Proofs.Ytdhaifcjhmmdlaa.PFnFinalize
set_option linter.unusedVariables false
set_option linter.unusedSimpArgs false

theorem conv_back {W : World} {N : Nat} {v : Value} {l : List UInt8} (h : Bt W N v l) : (convert 47 9 v).run Try.prog W = .ok (.string (bs l)) W := by
  obtain ⟨a, cap, rfl, hle, hc⟩ := h
  cases a with
  | none =>
    cases l with
    | nil => exact run_convert_bytes_nil W 47 5 Try.underlying47 Try.underlying5 0 cap 9 Try.underlying9
    | cons b r => obtain ⟨g, o, e, _⟩ := hc 0 (by simp); cases e
  | some a =>
    refine run_convert_bytes_back W 47 9 5 a cap l Try.underlying47 Try.underlying5 Try.underlying9 fun j hj => ?_
    obtain ⟨g, o, e, _, h⟩ := hc j hj
    cases e
    rw [add_at]
    exact h
set_option maxHeartbeats 8000000 in
set_option maxRecDepth 100000 in
theorem closure (W : World) (pB lB oB gp : Nat) (vp vm vs vsh : Value) (s0 : ByteArray) (R : List UInt8) (hp : W.heap[pB]? = some (.cells #[vp, vm, vs] 49 (0, 0))) (hl : W.heap[lB]? = some (.cells #[vsh] 42 (0, 0))) (ho : W.heap[oB]? = some (.cells #[.string s0] 9 (0, 0))) (hne : oB ≠ gp)
    (hF : Calls Try.prog 15 #[.agg #[vp, vm, vs], vsh] W fun e w' => ∃ v, e = .returned v ∧ Bt w' w'.heap.size v R ∧ Gr gp none W w') :
    Calls Try.prog 14 #[.pointer (some ⟨pB, 0, none⟩), .pointer (some ⟨lB, 0, none⟩), .pointer (some ⟨oB, 0, none⟩)] W fun e w' => e = .returned (.tuple #[]) ∧ w'.heap[oB]? = some (.cells #[.string (bs R)] 9 (0, 0)) ∧ ∃ w1, Gr gp none W w1 ∧ Up oB w1 w' := by
  have c0 : W.cell? ⟨pB, 0, none⟩ = some vp := blk_cell hp 0
  have c1 : W.cell? ⟨pB, 1, none⟩ = some vm := blk_cell hp 1
  have c2 : W.cell? ⟨pB, 2, none⟩ = some vs := blk_cell hp 2
  have c3 : W.cell? ⟨lB, 0, none⟩ = some vsh := blk_cell hl 0
  have HF := Lib.hid hF
  have HO := Lib.hid ho
  clear hF hp hl ho
  go_enter Try.func14, Try.ntmps14
  go_wp2_with (fail)
  refine (HF.out).mono ?_
  rintro e w1 ⟨v, rfl, hv, hg⟩
  have cv := conv_back hv
  have ho1 := (hg.block oB (blk_lt HO.out) hne (by simp)).trans HO.out
  have d0 : w1.cell? ⟨oB, 0, none⟩ = some (.string s0) := blk_cell ho1 0
  have f0 : w1.frozen? ⟨oB, 0, none⟩ = false := blk_frozen ho1 0
  have HO1 := Lib.hid ho1
  have HG := Lib.hid hg
  clear hv ho1 hg c0 c1 c2 c3
  go_wp2_with (fail)
  go_end0
  exact ⟨rfl, blk_put HO1.out 0 (.string (bs R)) rfl, w1, HG.out, Up.put (Up.refl _ _) 0 _⟩
theorem catch_idle (p : Addr) (w : World) :
    CallsD Try.prog 19 #[.pointer (some p)] .returning w fun e u' w' => e = .returned (.tuple #[]) ∧ u' = .returning ∧ w' = w := by
  refine callsD_of_wpS Try.func19 rfl fun c₀ cs hu => ?_
  apply wpS_seq
  apply wpS_region
  simp [wpOpsS, go_sem, recoverD, hu, Try.ntmps19, Exit.thenS]
  refine wpS_cond (t := false) (by simp [Act.eval, Array.replicate]) ?_
  simp only [Bool.false_eq_true, if_false]
  refine wpS_of_wp (wp_skip ?_)
  cases c₀
  simp_all [bodyPostS, results, Try.results19]
set_option maxHeartbeats 8000000 in
set_option maxRecDepth 100000 in
theorem calm (W : World) (caps : Array Value) (Q : World → Prop) (hC : Calls Try.prog 14 caps (W.alloc (.cells #[.bool false] 4)) fun e w' => e = .returned (.tuple #[]) ∧ Q w') (hQ : ∀ w', Q w' → w'.heap[W.heap.size]? = some (.cells #[.bool false] 4 (0, 0))) :
    Calls Try.prog 13 #[.func (.func 14) #[] caps] W fun e w' => e = .returned (.bool true) ∧ ∃ w1, Q w1 ∧ Up W.heap.size w1 w' := by
  have hmf : ∀ (fn : Fn) (first cap : Array Value) (w : World), (Instr.makeFunc fn first cap).run Try.prog w = .ok (.func fn first cap) w := fun _ _ _ _ => rfl
  go_enter_defers Try.func13, Try.ntmps13
  go_wp2_with (fail)
  refine hC.mono ?_
  rintro e w1 ⟨rfl, hq⟩
  have hb := hQ w1 hq
  have d0 : w1.cell? ⟨W.heap.size, 0, none⟩ = some (.bool false) := blk_cell hb 0
  have f0 : w1.frozen? ⟨W.heap.size, 0, none⟩ = false := blk_frozen hb 0
  have HB := Lib.hid hb
  have HQ := Lib.hid hq
  clear hb hq hC hQ
  go_wp2_with (fail)
  refine leaves_cons (f := 19) (args := #[.pointer (some ⟨W.heap.size, 0, none⟩)]) (by simp) (by simp [go_sem]) ?_
  refine (catch_idle ⟨W.heap.size, 0, none⟩ _).mono ?_
  rintro e u' w'' ⟨rfl, rfl, rfl⟩
  have hB2 := blk_put HB.out 0 (.bool true) (cs' := #[.bool true]) rfl
  have d2 : (w1.setCell ⟨W.heap.size, 0, none⟩ (.bool true)).cell? ⟨W.heap.size, 0, none⟩ = some (.bool true) := blk_cell hB2 0
  have hu : Up W.heap.size w1 (w1.setCell ⟨W.heap.size, 0, none⟩ (.bool true)) := Up.put (Up.refl _ _) 0 _
  simp [Leaves, settle, results, Try.results13, go_sem, d2]
  exact ⟨w1, HQ.out, hu⟩
end Go.Proofs.Ytdhaifcjhmmdlaa.fnFinalize
