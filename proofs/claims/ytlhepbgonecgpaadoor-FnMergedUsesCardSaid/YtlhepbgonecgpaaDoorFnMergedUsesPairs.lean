/-
  FnMergedUses: rows of pairs and of numbers in memory, and the walk of laws.pairsOf.
  Conditions: at most 800 numbers, none below 0.
-/
import Derived.Test.YtlhepbgonecgpaaDoorFnMergedUsesMerge
import Derived.Deep.RegionHeld3
import Derived.Deep.AppendLies
import Derived.Laws.AppendOwn
import Derived.Laws.OwnMore
namespace Go.Proofs.YtlhepbgonecgpaaDoor.fnMergedUses
open Go.RowKit Go.Proofs.YtlhepbgonecgpaaDoorW.PrintWords Go.Proofs.YtlhepbgonecgpaaDoorW.PrintLast Go.Proofs.YtlhepbgonecgpaaDoorW.PrintMore Go.Proofs.YtlhepbgonecgpaaDoor.PFnMergedUses
set_option linter.unusedVariables false
set_option linter.unusedSimpArgs false

def cellsP (ps : List (Nat × Nat)) : List Value := ps.flatMap fun p => [.int .i64 p.1, .int .i64 p.2]
theorem cellsP_app (a b : List (Nat × Nat)) : cellsP (a ++ b) = cellsP a ++ cellsP b := by simp [cellsP]
theorem cellsP_get : ∀ (ps : List (Nat × Nat)) (i : Nat) (h : i < ps.length), (cellsP ps)[i * 2]? = some (.int .i64 (ps[i]).1) ∧ (cellsP ps)[i * 2 + 1]? = some (.int .i64 (ps[i]).2) := by
  intro ps
  induction ps with
  | nil => intro i h; simp at h
  | cons x r ih =>
    intro i h
    cases i with
    | zero => exact ⟨rfl, rfl⟩
    | succ i =>
      have e : ∀ j, (cellsP (x :: r))[j + 2]? = (cellsP r)[j]? := fun j => rfl
      have := ih i (by simpa using h)
      refine ⟨?_, ?_⟩
      · rw [show (i + 1) * 2 = i * 2 + 2 by omega, e]; exact this.1
      · rw [show (i + 1) * 2 + 1 = (i * 2 + 1) + 2 by omega, e]; exact this.2
/-- the pairs of numbers -/
def at' (xs : List Int) (i : Nat) : Nat := (rd xs i).toNat
def prs (xs : List Int) (k : Nat) : List (Nat × Nat) := (List.range k).map fun j => (at' xs (2 * j), at' xs (2 * j + 1))
theorem prs_len (xs : List Int) (k : Nat) : (prs xs k).length = k := by simp [prs]
theorem prs_succ (xs : List Int) (k : Nat) : prs xs (k + 1) = prs xs k ++ [(at' xs (2 * k), at' xs (2 * k + 1))] := by simp [prs, List.range_succ]
/-- pairs in memory -/
def PR (W : World) (N : Nat) (v : Value) (ps : List (Nat × Nat)) : Prop := ∃ a cap, v = .slice a ps.length cap ∧ ps.length ≤ cap ∧ ∀ i (hi : i < ps.length), ∃ g, a = some ⟨g, 0, none⟩ ∧ g < N ∧ W.cell? ⟨g, i * 2, none⟩ = some (.int .i64 (ps[i]).1) ∧ W.cell? ⟨g, i * 2 + 1, none⟩ = some (.int .i64 (ps[i]).2)
theorem PR.keep {W W' : World} {N : Nat} {v : Value} {ps : List (Nat × Nat)} (h : PR W N v ps) (hk : ∀ g, g < N → W'.heap[g]? = W.heap[g]?) : PR W' N v ps := by
  obtain ⟨a, cap, h1, h2, h3⟩ := h
  refine ⟨a, cap, h1, h2, fun i hi => ?_⟩
  obtain ⟨g, e, hg, c1, c2⟩ := h3 i hi
  exact ⟨g, e, hg, (cell_of (hk g hg)).trans c1, (cell_of (hk g hg)).trans c2⟩
theorem PR.mono {W : World} {N N' : Nat} {v : Value} {ps : List (Nat × Nat)} (h : PR W N v ps) (hn : N ≤ N') : PR W N' v ps := by
  obtain ⟨a, cap, h1, h2, h3⟩ := h
  exact ⟨a, cap, h1, h2, fun i hi => by obtain ⟨g, e, hg, c⟩ := h3 i hi; exact ⟨g, e, Nat.lt_of_lt_of_le hg hn, c⟩⟩
theorem PR.of_own {W : World} {base : Nat} {v : Value} {ps : List (Nat × Nat)} (h : W.ownsRow base 39 2 v ps.length (cellsP ps)) : PR W W.heap.size v ps := by
  have h0 := h
  rcases h.2 with ⟨rfl, hn⟩ | ⟨g, cap, cur, rfl, hb, hg, hc, _⟩
  · exact ⟨none, 0, by rw [hn], by omega, fun i hi => by omega⟩
  · refine ⟨some ⟨g, 0, none⟩, cap, rfl, hc, fun i hi => ⟨g, rfl, (Array.getElem?_eq_some_iff.1 hg).1, ?_⟩⟩
    have := cellsP_get ps i hi
    rw [h0.cellAt _ (by omega), h0.cellAt _ (by omega)]
    exact this
theorem info39 : (Tryd.prog.info? 39).map (fun i => (i.zero, i.size, i.bytes)) = some (some (.agg #[.int .i64 0, .int .i64 0]), 2, 16) := by kernel_rfl
theorem own_base {W : World} {B e sz n : Nat} {v : Value} {xs : List Value} (h : W.ownsRow B e sz v n xs) : ∀ k, v.ownBlock = some k → B ≤ k := fun k hk => (h.lt k hk).1
theorem own_ne {W : World} {B e sz n : Nat} {v : Value} {xs : List Value} (h : W.ownsRow B e sz v n xs) {k : Nat} (hk : k < B) : some k ≠ v.ownBlock := fun e => by have := own_base h k e.symm; omega
set_option maxHeartbeats 8000000 in
set_option maxRecDepth 100000 in
theorem pairsOf (W : World) (A : Option Addr) (c : Nat) (xs : List Int) (hC : Kd.C (Kd.int .i64) W A xs.length xs) (hc : xs.length ≤ c) (hn : xs.length ≤ 800) (h0 : ∀ i : Nat, i < xs.length → 0 ≤ rd xs i) :
    Calls Tryd.prog 8 #[.slice A xs.length c] W fun e w' => ∃ v, e = .returned v ∧ PR w' w'.heap.size v (prs xs (xs.length / 2)) ∧ Below W.heap.size W w' := by
  obtain ⟨i0, hi, hz0, hz1, hz2⟩ := info_parts info39
  have HC := Lib.hid hC
  have HZ := Lib.hid h0
  clear hC h0
  go_enter Tryd.func8, Tryd.ntmps8
  go_wp2_with (fail)
  go_loopw [3, 4] (fun v3 v4 wr => ∃ k : Nat, v4 = .int .i64 (2 * k) ∧ 2 * k ≤ xs.length ∧ Hid (wr.ownsRow W.heap.size 39 2 v3 k (cellsP (prs xs k))) ∧ Hid (Below W.heap.size W wr)) (fun _ v4 _ => xs.length - (intOf v4).toNat)
  case atStart => exact ⟨0, rfl, Nat.zero_le _, Lib.hid (World.ownsRow_nil _ _ _ _), Lib.hid (Below.refl _ _)⟩
  case round =>
    obtain ⟨k, rfl, hkl, HO, HB⟩ := hrel
    have w1 : IntKind.i64.wrap (2 * (k : Int) + 1) = 2 * (k : Int) + 1 := by rw [IntKind.wrap_i64]; omega
    by_cases hlt : 2 * k + 1 < xs.length
    · have hlt' : 2 * (k : Int) + 1 < xs.length := by omega
      have p0 : (0 : Int) ≤ 2 * (k : Int) := by omega
      have q0 : 2 * (k : Int) < xs.length := by omega
      have p1 : (0 : Int) ≤ 2 * (k : Int) + 1 := by omega
      obtain ⟨ad, e1, hx1⟩ := Kd.at_int HC.out (2 * (k : Int)) p0 q0
      obtain ⟨ad', e2, hx2⟩ := Kd.at_int HC.out (2 * (k : Int) + 1) p1 hlt'
      rw [e1] at e2
      obtain rfl := Option.some.inj e2
      subst e1
      have l1 := World.block_lt_of_cell? W _ hx1
      have y1 := (HB.out.cell l1).trans hx1
      have l2 := World.block_lt_of_cell? W _ hx2
      have y2 := (HB.out.cell l2).trans hx2
      have hsz : W.heap.size ≤ wr.heap.size := HB.out.size
      clear hx1 hx2
      go_wp2_with (fail)
      have hO := HO.out
      have hk63 : k + 1 ≤ maxLen := by unfold maxLen; omega
      have hkb : (k + 1) * 16 ≤ 140737488355328 := by omega
      generalize hr1 : rd xs (2 * (k : Int)) = r1 at y1
      generalize hr2 : rd xs (2 * (k : Int) + 1) = r2 at y2
      go_region_held3 (fun w' => w'.cell? (ad.add (2 * (k : Int)).toNat) = some (.int .i64 r1) ∧ w'.cell? (ad.add (2 * (k : Int) + 1).toNat) = some (.int .i64 r2))
        (first
          | go_keep
          | (go_split_ands
             refine ⟨?_, ?_⟩
             · (rw [hgrow.cell_far _ (by simp; omega) (own_ne hO l1)]; assumption)
             · (rw [hgrow.cell_far _ (by simp; omega) (own_ne hO l2)]; assumption)))
        ((refine step_append_lies _ (by rfl) _ _ _ (by rfl) W.heap.size 39 i0 _ 2 16 Tryd.underlying33 hi hz0 hz1 hz2 rfl (by omega) u3 k (cellsP (prs xs k)) (by rfl) ((hO.alloc _).drew)
            ⟨wr.heap.size, 0, none⟩ 1 1 [.int .i64 r1, .int .i64 r2] (by rfl) (by rfl) (World.news_of_block (cs := #[.int .i64 r1, .int .i64 r2]) (t := 39) (fr := (0, 0)) (heap_alloc_new wr _)) (by simp [Value.oneCell'])
            (by omega) hk63 hkb (by simp; omega) (wr.heap.size + 1) (by simp) ?_; intro gg cap w1 hown1 hgrow hat hltg))
      have HB2 := Lib.hid (show Below W.heap.size W w1 from ((HB.out.alloc hsz (.cells #[.int .i64 r1, .int .i64 r2] 39)).drew).grown hgrow (by simp; omega) (own_base hO))
      have e1 : Value.int .i64 r1 = .int .i64 (at' xs (2 * k)) := by
        have h := HZ.out (2 * k) (by omega)
        unfold at'
        rw [← hr1]
        congr 1
        rw [show ((2 * k : Nat) : Int) = 2 * (k : Int) by omega] at h ⊢
        omega
      have e2 : Value.int .i64 r2 = .int .i64 (at' xs (2 * k + 1)) := by
        have h := HZ.out (2 * k + 1) (by omega)
        unfold at'
        rw [← hr2]
        congr 1
        rw [show ((2 * k + 1 : Nat) : Int) = 2 * (k : Int) + 1 by omega] at h ⊢
        omega
      have HO2 := Lib.hid (show w1.ownsRow W.heap.size 39 2 (.slice (some ⟨gg, 0, none⟩) (k + 1) cap) (k + 1) (cellsP (prs xs (k + 1))) by
        rw [prs_succ, cellsP_app, show cellsP [(at' xs (2 * k), at' xs (2 * k + 1))] = [.int .i64 (at' xs (2 * k)), .int .i64 (at' xs (2 * k + 1))] from rfl, ← e1, ← e2]
        exact hown1)
      clear hown1 hgrow hO e1 e2 hat
      have w2 : IntKind.i64.wrap (2 * (k : Int) + 2) = 2 * ((k + 1 : Nat) : Int) := by rw [IntKind.wrap_i64]; omega
      go_wp2_with (fail)
      go_roundw
      case rel => exact ⟨k + 1, by simp [w2], by omega, HO2, HB2⟩
      case measure =>
        simp only [intOf]
        omega
    · have hlt' : ¬ 2 * (k : Int) + 1 < xs.length := by omega
      obtain rfl : k = xs.length / 2 := by omega
      go_wp2_with (fail)
      go_ret
      exact ⟨_, rfl, PR.of_own (by rw [prs_len]; exact HO.out), HB.out⟩
end Go.Proofs.YtlhepbgonecgpaaDoor.fnMergedUses
