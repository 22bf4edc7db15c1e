/-
  FnMergedUses: the walk of the reference: spec.SymUses.
  Conditions: at most 200 symbols; pairs of them.
-/
import Derived.Test.YtlhepbgonecgpaaDoorFnMergedUsesSpec
namespace Go.Proofs.YtlhepbgonecgpaaDoor.fnMergedUses
open Go.RowKit Go.Proofs.YtlhepbgonecgpaaDoorW.PrintWords Go.Proofs.YtlhepbgonecgpaaDoorW.PrintLast Go.Proofs.YtlhepbgonecgpaaDoorW.PrintMore Go.Proofs.YtlhepbgonecgpaaDoor.PFnMergedUses
set_option linter.unusedVariables false
set_option linter.unusedSimpArgs false

/-- a row that is read -/
def RA (W : World) (N : Nat) (v : Value) (n : Nat) (cs : List Value) : Prop := ∃ A cap, v = .slice A n cap ∧ n ≤ cap ∧ ∀ i, i < n → ∃ g, A = some ⟨g, 0, none⟩ ∧ g < N ∧ W.cell? ⟨g, i, none⟩ = cs[i]?
theorem RA.keep {W W' : World} {N n : Nat} {v : Value} {cs : List Value} (h : RA W N v n cs) (hk : ∀ g, g < N → W'.heap[g]? = W.heap[g]?) : RA W' N v n cs := by
  obtain ⟨a, cap, h1, h2, h3⟩ := h
  refine ⟨a, cap, h1, h2, fun i hi => ?_⟩
  obtain ⟨g, e, hg, c1⟩ := h3 i hi
  exact ⟨g, e, hg, (cell_of (hk g hg)).trans c1⟩
theorem RA.mono {W : World} {N N' n : Nat} {v : Value} {cs : List Value} (h : RA W N v n cs) (hn : N ≤ N') : RA W N' v n cs := by
  obtain ⟨a, cap, h1, h2, h3⟩ := h
  exact ⟨a, cap, h1, h2, fun i hi => by obtain ⟨g, e, hg, c⟩ := h3 i hi; exact ⟨g, e, Nat.lt_of_lt_of_le hg hn, c⟩⟩
theorem RA.of_own {W : World} {base e n : Nat} {v : Value} {cs : List Value} (h : W.ownsRow base e 1 v n cs) : RA W W.heap.size v n cs := by
  have h0 := h
  rcases h.2 with ⟨rfl, hn⟩ | ⟨g, cap, cur, rfl, hb, hg, hc, _⟩
  · exact ⟨none, 0, by rw [hn], by omega, fun i hi => by omega⟩
  · refine ⟨some ⟨g, 0, none⟩, cap, rfl, hc, fun i hi => ⟨g, rfl, (Array.getElem?_eq_some_iff.1 hg).1, ?_⟩⟩
    rw [h0.cellAt _ (by omega)]
theorem stands_lt (n : Nat) (ps : List (Nat × Nat)) (hps : ∀ p ∈ ps, p.1 < n ∧ p.2 < n) : ∀ v ∈ stands n ps, v < n := by
  suffices ∀ (ps : List (Nat × Nat)) (S : List Nat), (∀ p ∈ ps, p.1 < n ∧ p.2 < n) → S.length = n → (∀ v ∈ S, v < n) → ∀ v ∈ ps.foldl (fun S p => sm S p.1 p.2) S, v < n by
    exact this ps _ hps (by simp) (fun v hv => by simpa using hv)
  intro ps
  induction ps with
  | nil => intro S _ _ h; exact h
  | cons p r ih =>
    intro S hp hl h
    rw [List.foldl_cons]
    refine ih _ (fun q hq => hp q (List.mem_cons_of_mem _ hq)) (by simpa [sm] using hl) ?_
    intro v hv
    obtain ⟨x, hx, rfl⟩ := List.mem_map.1 hv
    show (if x = S.getD p.1 0 then S.getD p.2 0 else x) < n
    split
    · have h2 := (hp p List.mem_cons_self).2
      simp only [List.getD, List.getElem?_eq_getElem (show p.2 < S.length by omega), Option.getD_some]
      exact h _ (List.getElem_mem _)
    · exact h x hx
def cellsU (U : List Int) : List Value := U.map fun x => Value.int .u32 x
def tots (S : List Nat) (U : List Int) (n m : Nat) : List Int := (List.range n).map fun r => tot S U r m
theorem tots_len (S : List Nat) (U : List Int) (n m : Nat) : (tots S U n m).length = n := by simp [tots]
theorem tots_get (S : List Nat) (U : List Int) (n m r : Nat) (hr : r < n) : (cellsU (tots S U n m))[r]? = some (.int .u32 (tot S U r m)) := by simp [cellsU, tots, hr]
theorem tots_succ (S : List Nat) (U : List Int) (n m : Nat) : tots S U n (m + 1) = (tots S U n m).set (S.getD m 0) (w32 (tot S U (S.getD m 0) m + U.getD m 0)) := by
  apply List.ext_getElem?
  intro y
  rw [List.getElem?_set]
  unfold tots
  rw [List.getElem?_map, List.length_map, List.length_range]
  by_cases h : S.getD m 0 = y
  · subst h
    rw [if_pos rfl]
    by_cases hy : S.getD m 0 < n
    · rw [if_pos hy, List.getElem?_range hy]
      simp only [Option.map_some, tot, if_true]
    · rw [if_neg hy, List.getElem?_eq_none (by rw [List.length_range]; omega)]; rfl
  · rw [if_neg h, List.getElem?_map]
    by_cases hy : y < n
    · rw [List.getElem?_range hy]
      simp only [Option.map_some, tot, if_neg h]
    · rw [List.getElem?_eq_none (by rw [List.length_range]; omega)]; rfl
theorem info28 : (Tryd.prog.info? 28).map (fun i => (i.zero, i.size, i.bytes)) = some (some (.int .u32 0), 1, 4) := by kernel_rfl
set_option maxHeartbeats 8000000 in
set_option maxRecDepth 100000 in
theorem symUses (W : World) (N : Nat) (u v : Value) (U : List Int) (ps : List (Nat × Nat)) (hu : RA W N u U.length (cellsU U)) (hp : PR W N v ps) (hN : N ≤ W.heap.size) (hn : U.length ≤ 200) (hps : ∀ p ∈ ps, p.1 < U.length ∧ p.2 < U.length) (hl : ps.length ≤ 800) :
    Calls Tryd.prog 9 #[u, v] W fun e w' => ∃ r, e = .returned r ∧ RA w' w'.heap.size r U.length (cellsU (tots (stands U.length ps) U U.length U.length)) ∧ Below W.heap.size W w' := by
  obtain ⟨i0, hi, hz0, hz1, hz2⟩ := info_parts info28
  obtain ⟨A, cap, rfl, hcap, hat⟩ := hu
  have HAT := Lib.hid hat
  have HP := Lib.hid hp
  have HPS := Lib.hid hps
  clear hat hp hps
  go_enter Tryd.func9, Tryd.ntmps9
  go_wp2_with (go_at_call 10; refine (symMerge W _ N v ps HP.out hN hn HPS.out hl).mono ?_)
  rintro e w1 ⟨r, rfl, hr, hb1⟩
  have hlt := stands_lt U.length ps HPS.out
  have hsl := stands_len U.length ps
  generalize hS : stands U.length ps = S at hr hlt hsl ⊢
  have hR := RA.of_own (show w1.ownsRow W.heap.size 3 1 r U.length (cellsN S) by rw [← hsl]; exact hr)
  have HR := Lib.hid hR
  have HB1 := Lib.hid hb1
  have HLT := Lib.hid hlt
  clear hR hb1 hlt hr
  have hsz1 : W.heap.size ≤ w1.heap.size := HB1.out.size
  go_wp2_with (at_make; refine wpList_make_full _ rfl _ _ 27 rfl w1.heap.size 28 i0 (.int .u32 0) 1 Tryd.underlying27 hi hz0 hz1 .i64 .i64 _ _ U.length rfl rfl rfl rfl (by rw [hz2]; omega) (by unfold maxLen; omega) (Nat.le_refl _) ?_; intro w2 hown2 hgrow2)
  have HB2 := Lib.hid (HB1.out.grown hgrow2 hsz1 (fun k hk => by cases hk))
  have HR2 := Lib.hid (HR.out.keep (fun g hg => hgrow2.block g hg (by simp)))
  have hz : (madeCells (Value.int .u32 0).cells (U.length * 1)).toList = cellsU (tots S U U.length 0) := by
    apply List.ext_getElem?
    intro y
    by_cases hy : y < U.length
    · rw [tots_get S U _ _ _ hy]
      simp [madeCells, hy, tot, Value.cells, Nat.mod_one]
    · rw [List.getElem?_eq_none (by simp [madeCells]; omega), List.getElem?_eq_none (by simp [cellsU, tots]; omega)]
  have HO2 := Lib.hid (show w2.ownsRow w1.heap.size 28 1 (.slice (some ⟨w1.heap.size, 0, none⟩) U.length U.length) U.length (cellsU (tots S U U.length 0)) by rw [← hz]; exact hown2)
  clear hown2 hz HR
  have hlt2 : w1.heap.size < w2.heap.size := (World.ownsRow.lt HO2.out _ rfl).2
  clear hgrow2
  obtain ⟨A2, cap2, rfl, hcap2, hat2⟩ := HR2.out
  have HAT2 := Lib.hid hat2
  clear hat2 HR2
  generalize hq : w1.heap.size = q at *
  have HB3 := HB2
  clear HB2
  go_loopw [7] (fun v7 wr => ∃ x : Nat, v7 = .int .i64 x ∧ x ≤ U.length ∧ Hid (wr.ownsRow q 28 1 (.slice (some ⟨q, 0, none⟩) U.length U.length) U.length (cellsU (tots S U U.length x))) ∧ Hid (Below W.heap.size W wr) ∧ Hid (w2.grownBy wr (some q))) (fun v7 _ => U.length - (intOf v7).toNat)
  case atStart => exact ⟨0, rfl, Nat.zero_le _, HO2, HB3, Lib.hid (World.grownBy.refl _ _)⟩
  case round =>
    obtain ⟨x, rfl, hxl, HO, HB, HG⟩ := hrel
    clear HO2 HB3
    by_cases hx : x < U.length
    · have hx' : (x : Int) < U.length := by omega
      have x0 : (0 : Int) ≤ x := by omega
      obtain ⟨ug, rfl, hug, c1⟩ := HAT.out x hx
      obtain ⟨sg, rfl, hsg, c2⟩ := HAT2.out x hx
      have c1 : wr.cell? ⟨ug, x, none⟩ = some (.int .u32 (U.getD x 0)) := (HB.out.cell (by exact Nat.lt_of_lt_of_le hug hN)).trans (c1.trans (by simp [cellsU, hx]))
      have c2 : wr.cell? ⟨sg, x, none⟩ = some (.int .i64 (S.getD x 0)) := (cell_of (HG.out.block sg (by omega) (by simp; omega))).trans (c2.trans (by simp [cellsN, hsl, hx]))
      have hsx : S.getD x 0 < U.length := by
        have := HLT.out (S[x]'(by omega)) (List.getElem_mem _)
        simpa [List.getD, List.getElem?_eq_getElem (show x < S.length by omega)] using this
      have c3 : wr.cell? ⟨q, S.getD x 0, none⟩ = some (.int .u32 (tot S U (S.getD x 0) x)) := (World.ownsRow.cellAt HO.out _ (by omega)).trans (tots_get S U _ _ _ hsx)
      have hts := tots_succ S U U.length x
      generalize hsv : S.getD x 0 = sv at *
      generalize huv : U.getD x 0 = uv at *
      generalize htv : tot S U sv x = tv at *
      have s0 : (0 : Int) ≤ sv := by omega
      have s1 : (sv : Int) < U.length := by omega
      have HTS := Lib.hid hts
      clear hts
      have wv : IntKind.u32.wrap (tv + uv) = w32 (tv + uv) := by rw [IntKind.wrap_u32]; rfl
      have wx : IntKind.i64.wrap ((x : Int) + 1) = ((x + 1 : Nat) : Int) := by rw [IntKind.wrap_i64]; omega
      go_wp2_with (fail)
      go_still_tail 13, (by kernel_rfl)
      change wpList _ _ _ _ _ wr.drew
      have h1 : Below W.heap.size W wr.drew := HB.out.drew
      have h2 : w2.grownBy wr.drew (some q) := ⟨HG.out.os, HG.out.tape, HG.out.output, HG.out.size, HG.out.block⟩
      have h3 : wr.drew.ownsRow q 28 1 (.slice (some ⟨q, 0, none⟩) U.length U.length) U.length (cellsU (tots S U U.length x)) := HO.out
      clear c1 c2 c3 HO HB HG
      generalize wr.drew = W3 at h1 h2 h3 ⊢
      have z3 := World.ownsRow.frozenAt h3 sv
      have c3 : W3.cell? ⟨q, sv, none⟩ = some (.int .u32 (tot S U sv x)) := (World.ownsRow.cellAt h3 _ (by omega)).trans (tots_get S U _ _ _ (by omega))
      have hst := World.ownsRow.stored h3 sv (.int .u32 (w32 (tv + uv)))
      have HO4 := Lib.hid (show (W3.setCell ⟨q, sv, none⟩ (.int .u32 (w32 (tv + uv)))).ownsRow q 28 1 (.slice (some ⟨q, 0, none⟩) U.length U.length) U.length (cellsU (tots S U U.length (x + 1))) by
        rw [HTS.out, cellsU, List.map_set]
        exact hst.1)
      have HB4 := Lib.hid (h1.grown hst.2 h1.size (fun k hk => by obtain rfl := Option.some.inj hk; exact hsz1))
      have HG4 := Lib.hid (h2.trans hst.2)
      clear hst h1 h2 h3
      go_wp2_with (fail)
      go_roundw
      case rel => exact ⟨x + 1, by simp [wx], by omega, HO4, HB4, HG4⟩
      case measure =>
        simp only [intOf]
        omega
    · have hx' : ¬ (x : Int) < U.length := by omega
      obtain rfl : x = U.length := by omega
      go_wp2_with (fail)
      go_ret
      exact ⟨_, rfl, RA.of_own HO.out, HB.out⟩
end Go.Proofs.YtlhepbgonecgpaaDoor.fnMergedUses
