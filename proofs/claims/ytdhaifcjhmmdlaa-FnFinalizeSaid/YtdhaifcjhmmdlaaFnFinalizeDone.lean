/-
  FnFinalize: Joiner.Done lays the pieces one behind the other.
  Conditions: fewer than 2^32 bytes.
-/
import Derived.Test.YtdhaifcjhmmdlaaFnFinalizeJoin
import Derived.Laws.CopyOwn
import Derived.Deep.RegionLaw
namespace Go.Proofs.Ytdhaifcjhmmdlaa.fnFinalize
open Go.RowKit Go.Proofs.YtdhaifcjhmmdlaaW.PrintWords Go.Proofs.YtdhaifcjhmmdlaaW.PrintLast Go.Proofs.YtdhaifcjhmmdlaaW.PrintMore
set_option linter.unusedVariables false
set_option linter.unusedSimpArgs false

theorem cellsJ_get : ∀ (chs : Chs) (i o : Nat) (h : i < chs.length), (cellsJ o chs)[i * 2]? = some chs[i].1 ∧ (cellsJ o chs)[i * 2 + 1]? = some (.int .u32 ((o + tot (chs.take i) : Nat) : Int)) := by
  intro chs
  induction chs with
  | nil => intro i o h; simp at h
  | cons x r ih =>
    intro i o h
    cases i with
    | zero => exact ⟨rfl, by simp [cellsJ, tot]⟩
    | succ i =>
      have e : ∀ q, (cellsJ o (x :: r))[q + 2]? = (cellsJ (o + x.2.length) r)[q]? := fun q => rfl
      have := ih i (o + x.2.length) (by simpa using h)
      refine ⟨?_, ?_⟩
      · rw [show (i + 1) * 2 = i * 2 + 2 by omega, e]; exact this.1
      · rw [show (i + 1) * 2 + 1 = (i * 2 + 1) + 2 by omega, e, this.2]
        simp only [List.take_succ_cons, tot, List.map_cons, List.sum_cons]
        rw [Nat.add_assoc]
def all (chs : Chs) : List UInt8 := chs.flatMap (·.2)
theorem all_len (chs : Chs) : (all chs).length = tot chs := by simp [all, tot, List.length_flatMap]
theorem tot_take_succ (chs : Chs) (i : Nat) (h : i < chs.length) : tot (chs.take (i + 1)) = tot (chs.take i) + chs[i].2.length := by
  rw [List.take_succ_eq_append_getElem h, tot_app]
  simp [tot]
theorem all_take_succ (chs : Chs) (i : Nat) (h : i < chs.length) : all (chs.take (i + 1)) = all (chs.take i) ++ chs[i].2 := by
  unfold all
  rw [List.take_succ_eq_append_getElem h, List.flatMap_append]
  simp
theorem tot_take_le (chs : Chs) (i : Nat) : tot (chs.take i) ≤ tot chs := by
  have := tot_app (chs.take i) (chs.drop i)
  rw [List.take_append_drop] at this
  omega
theorem splice_app {α : Type} (D Z cs : List α) (T : Nat) (h : D.length = T) : splice (D ++ Z) T cs = D ++ (cs ++ Z.drop cs.length) := by
  subst h
  unfold splice
  rw [List.take_left, List.drop_append, List.drop_of_length_le (by omega), List.nil_append]
  congr 3
  omega
theorem add_at (g o y : Nat) : (⟨g, o, none⟩ : Addr).add y = ⟨g, o + y, none⟩ := by unfold Addr.add; split <;> simp_all
theorem sz5 : (Try.prog.info? 5).map (·.size) = some 1 := by kernel_rfl
theorem Ck.bt {W : World} {X : List Nat} {rv v : Value} {l : List UInt8} (h : Ck W X rv v l) : Bt W W.heap.size v l := by
  obtain ⟨a, cap, h1, h2, h3⟩ := h
  exact ⟨_, cap, h1, h2, fun i hi => by obtain ⟨g, o, e, h3, _, _, h6⟩ := h3 i hi; exact ⟨g, o, e, h3, h6⟩⟩
set_option maxHeartbeats 8000000 in
set_option maxRecDepth 100000 in
theorem joinDone (W : World) (B j : Nat) (X : List Nat) (rv : Value) (chs : Chs) (hJ : Jo W B j X rv chs) (ht : tot chs < 4294967296) (hn : chs.length ≤ 1000000) :
    Calls Try.prog 24 #[.pointer (some ⟨j, 0, none⟩)] W fun e w' => ∃ v, e = .returned v ∧ Bt w' w'.heap.size v (all chs) ∧ Below W.heap.size W w' := by
  obtain ⟨i0, hi, hz0, hz1, hz2⟩ := info_parts info5
  obtain ⟨lb, hb⟩ := hJ.blk
  have hown := hJ.own
  have HJ := Lib.hid hJ
  have c0 : W.cell? ⟨j, 0, none⟩ = some (.slice none 0 0) := blk_cell hb 0
  have c1 : W.cell? ⟨j, 1, none⟩ = some rv := blk_cell hb 1
  have c2 : W.cell? ⟨j, 2, none⟩ = some (.int .u32 (tot chs : Int)) := blk_cell hb 2
  have hw : IntKind.u32.wrap (tot chs : Int) = (tot chs : Int) := by rw [IntKind.wrap_u32]; omega
  by_cases h1 : chs.length = 1
  · obtain ⟨gr, cap, e, hgB, hgl⟩ := World.ownsRow.form hown (by omega)
    subst e
    have hp := cellsJ_get chs 0 0 (by omega)
    have d0 : W.cell? ⟨gr, 0, none⟩ = some (chs[0]'(by omega)).1 := (hown.cellAt 0 (by omega)).trans hp.1
    have d1 : W.cell? ⟨gr, 1, none⟩ = some (.int .u32 0) := (hown.cellAt 1 (by omega)).trans (hp.2.trans (by simp [tot]))
    obtain ⟨p, rfl⟩ : ∃ p, chs = [p] := List.length_eq_one_iff.1 h1
    have hck := HJ.out.ck p (by simp)
    simp only [List.getElem_cons_zero] at d0
    have HB := Lib.hid hb
    clear hJ hb hown hp h1
    go_enter Try.func24, Try.ntmps24
    go_wp2_with (fail)
    go_ret
    refine ⟨_, rfl, ?_, Below.refl _ _⟩
    have : all [p] = p.2 := by simp [all]
    rw [this]
    exact hck.bt
  · have l1 : ((chs.length : Int) == 1) = false := beq_eq_false_iff_ne.mpr (by omega)
    have hrow : ∃ ao cap, rv = .slice ao chs.length cap ∧ ∀ i (hi : i < chs.length), ∃ gr, ao = some ⟨gr, 0, none⟩ ∧ gr < W.heap.size ∧ W.cell? ⟨gr, i * 2, none⟩ = some chs[i].1 ∧ W.cell? ⟨gr, i * 2 + 1, none⟩ = some (.int .u32 ((tot (chs.take i) : Nat) : Int)) := by
      rcases hown.2 with ⟨e, hz⟩ | ⟨gr, cap, cur, e, hB, hg, hc, _⟩
      · exact ⟨none, 0, by rw [e, hz], fun i hi => by omega⟩
      · subst e
        refine ⟨_, cap, rfl, fun i hi => ⟨gr, rfl, blk_lt hg, ?_⟩⟩
        have := cellsJ_get chs i 0 hi
        rw [hown.cellAt _ (by omega), hown.cellAt _ (by omega)]
        exact ⟨this.1, by rw [this.2, Nat.zero_add]⟩
    obtain ⟨ao, cap, rfl, hrow⟩ := hrow
    have HR := Lib.hid hrow
    have HB := Lib.hid hb
    have HN1 := Lib.hid h1
    clear hJ hb hown hrow h1
    go_enter Try.func24, Try.ntmps24
    go_wp2_with (at_make; refine wpList_make_full _ rfl _ _ 47 rfl W.heap.size 5 i0 (.int .u8 0) 1 Try.underlying47 hi hz0 hz1 .u32 .u32 _ _ (tot chs) rfl rfl rfl rfl (by rw [hz2]; omega) (by unfold maxLen; omega) (Nat.le_refl _) ?_)
    intro w1 hown1 hgr1
    have hsz1 := hgr1.size
    have e0 : ∀ k, k < W.heap.size → w1.heap[k]? = W.heap[k]? := fun k hk => hgr1.block k hk (by simp)
    have hBl : Below W.heap.size W w1 := ⟨hgr1.os, hgr1.tape, hgr1.output, hsz1, e0⟩
    have hjl := blk_lt HB.out
    have c0 : w1.cell? ⟨j, 0, none⟩ = some (.slice none 0 0) := (cell_of' (e0 j hjl)).trans c0
    have c1 : w1.cell? ⟨j, 1, none⟩ = some (.slice ao chs.length cap) := (cell_of' (e0 j hjl)).trans c1
    have hG : w1.heap[W.heap.size]? = some (.cells (((all (chs.take 0)).map bval) ++ List.replicate (tot chs) (Value.int .u8 0)).toArray 5 (0, 0)) := by
      rcases hown1.2 with ⟨e, _⟩ | ⟨gq, cq, cur, e, _, hq, _, _, hcs, htk⟩
      · cases e
      · injection e with e1 e2 e3
        injection e1 with e1
        injection e1 with e1
        subst e1 e3
        rw [hq]
        congr 2
        apply Array.toList_inj.1
        have this := htk
        rw [List.take_of_length_le (by simp [hcs])] at this
        rw [this]
        apply List.ext_getElem?
        intro y
        by_cases hy : y < tot chs
        · simp [madeCells, hy, all, Value.cells, Nat.mod_one]
        · rw [List.getElem?_eq_none (by simp [madeCells]; omega), List.getElem?_eq_none (by simp [all]; omega)]
    have HO1 := Lib.hid hown1
    have HBl := Lib.hid hBl
    have HG := Lib.hid hG
    have HE0 := Lib.hid e0
    clear hown1 hgr1 hBl hG e0
    go_wp2_with (fail)
    go_loopw [49] (fun v49 wr => v49 = .int .i64 0 ∧ wr = w1) (fun _ _ => 0)
    case atStart => exact ⟨rfl, rfl⟩
    case round =>
      obtain ⟨rfl, rfl⟩ := hrel
      go_wp2_with (fail)
      go_loopw [66] (fun v66 wr => ∃ i : Nat, v66 = .int .i64 (i : Int) ∧ i ≤ chs.length ∧ Hid (wr.heap[W.heap.size]? = some (.cells (((all (chs.take i)).map bval) ++ List.replicate (tot chs - tot (chs.take i)) (Value.int .u8 0)).toArray 5 (0, 0))) ∧ Hid (Below W.heap.size W wr)) (fun v66 _ => chs.length - (intOf v66).toNat)
      case atStart => exact ⟨0, rfl, Nat.zero_le _, HG, HBl⟩
      case round =>
        obtain ⟨i, rfl, hil, HGz, HBz⟩ := hrel
        by_cases hlt : i < chs.length
        · obtain ⟨gr, rfl, hgl, d0, d1⟩ := HR.out i hlt
          have d0 : wr.cell? ⟨gr, i * 2, none⟩ = some chs[i].1 := (HBz.out.cell (by exact hgl)).trans d0
          have d1 : wr.cell? ⟨gr, i * 2 + 1, none⟩ = some (.int .u32 ((tot (chs.take i) : Nat) : Int)) := (HBz.out.cell (by exact hgl)).trans d1
          have hck := HJ.out.ck chs[i] (List.getElem_mem hlt)
          have hts := tot_take_succ chs i hlt
          have hle := tot_take_le chs (i + 1)
          have HAS := Lib.hid (all_take_succ chs i hlt)
          obtain ⟨aa, cp, hv, hcap, hcell⟩ := hck
          generalize chs[i] = p at *
          obtain ⟨pv, pl⟩ := p
          simp only at hv hcap hcell d0 hts HAS
          subst hv
          have hx' : (i : Int) < chs.length := by omega
          have x0 : (0 : Int) ≤ i := by omega
          have HCL := Lib.hid hcell
          have HTS := Lib.hid hts
          generalize htk : tot (chs.take i) = T at *
          have t0 : (0 : Int) ≤ (T : Int) := by omega
          have t1 : (T : Int) ≤ (tot chs : Int) := by omega
          clear hcell hts
          go_wp2_with (fail)
          have hsz2 : W.heap.size ≤ wr.heap.size := HBz.out.size
          have hGl := blk_lt HGz.out
          have hG2 := (Below.heap_alloc wr (.cells #[.slice aa pl.length cp, .int .u32 (T : Int)] 71) W.heap.size hGl).trans HGz.out
          have hB2 := HBz.out.alloc hsz2 (.cells #[.slice aa pl.length cp, .int .u32 (T : Int)] 71)
          have hF := heap_alloc_new wr (.cells #[.slice aa pl.length cp, .int .u32 (T : Int)] 71)
          generalize wr.alloc (.cells #[.slice aa pl.length cp, .int .u32 (T : Int)] 71) = W2 at hG2 hB2 hF ⊢
          have d2 : W2.cell? ⟨wr.heap.size, 0, none⟩ = some (.slice aa pl.length cp) := blk_cell hF 0
          have d3 : W2.cell? ⟨wr.heap.size, 1, none⟩ = some (.int .u32 (T : Int)) := blk_cell hF 1
          generalize wr.heap.size = F at *
          have hal : ((all (chs.take i)).map bval).length = T := by rw [List.length_map, all_len, htk]
          have HG2 := Lib.hid hG2
          have HB2 := Lib.hid hB2
          clear hG2 hB2 hF d0 d1
          have hsrc : 0 < (pl.map bval).length → ∃ ad, aa = some ad ∧ ∀ y v, (pl.map bval)[y]? = some v → W2.cell? (ad.add y) = some v := by
            intro hp
            rw [List.length_map] at hp
            obtain ⟨g, o, rfl, hg, _⟩ := HCL.out 0 hp
            refine ⟨_, rfl, fun y v hy => ?_⟩
            obtain ⟨hy1, rfl⟩ := List.getElem?_eq_some_iff.1 hy
            have hy2 : y < pl.length := by simpa using hy1
            obtain ⟨g', o', e, hg', _, _, hc⟩ := HCL.out y hy2
            obtain ⟨rfl, rfl⟩ : g' = g ∧ o' = o := by
              injection e with e
              injection e with e1 e2
              exact ⟨e1.symm, e2.symm⟩
            rw [List.getElem_map, add_at]
            exact (HB2.out.cell (by exact hg)).trans hc
          have HSRC := Lib.hid hsrc
          clear hsrc
          go_region_law (refine step_copy_splice (by rfl) (.tmp 73) (.tmp 75) 47 47 (by rfl) 5 Try.underlying47 sz5 (if tot chs = T then some ⟨W.heap.size, 0, none⟩ else some ⟨W.heap.size, T, none⟩) aa (tot chs - T) (tot chs - T) pl.length cp (by first | rfl | (rw [if_neg hNE]; rfl) | (simp only [if_neg hNE]; rfl)) (by rfl) W.heap.size T _ 5 HG2.out (pl.map bval) (by have := HTS.out; rw [List.length_map]; exact (Nat.min_eq_left (by omega)).symm) (fun hp => ⟨if_neg (by rw [List.length_map] at hp; have := HTS.out; omega), HSRC.out hp⟩) (by have := HTS.out; rw [List.length_append, hal, List.length_replicate, List.length_map]; omega) (by intro v hv; obtain ⟨b, _, rfl⟩ := List.mem_map.1 hv; rfl) W.heap.size W HB2.out.drew (Nat.le_refl _) ?_; intro w4 hg4 hb4)
          all_goals
            have wx : IntKind.i64.wrap ((i : Int) + 1) = ((i + 1 : Nat) : Int) := by rw [IntKind.wrap_i64]; omega
            have HG4 := Lib.hid (show w4.heap[W.heap.size]? = some (.cells (((all (chs.take (i + 1))).map bval) ++ List.replicate (tot chs - tot (chs.take (i + 1))) (Value.int .u8 0)).toArray 5 (0, 0)) by
              have e := hg4.out
              have e1 : splice (((all (chs.take i)).map bval) ++ List.replicate (tot chs - T) (Value.int .u8 0)) T (pl.map bval) = ((all (chs.take (i + 1))).map bval) ++ List.replicate (tot chs - tot (chs.take (i + 1))) (Value.int .u8 0) := by
                rw [splice_app _ _ _ _ hal, HTS.out, HAS.out, List.map_append, List.append_assoc, List.drop_replicate, List.length_map, Nat.sub_add_eq]
              rw [e1] at e
              exact e)
            have HB4 := Lib.hid hb4
            clear hg4 hb4
            go_wp2_with (fail)
            go_roundw
            case rel => exact ⟨i + 1, by simp [wx], by omega, HG4, HB4⟩
            case measure =>
              simp only [intOf]
              omega
        · have hx' : ¬ (i : Int) < chs.length := by omega
          obtain rfl : i = chs.length := by omega
          go_wp2_with (fail)
          go_ret
          refine ⟨.slice (some ⟨W.heap.size, 0, none⟩) (tot chs) (tot chs), rfl, ?_, HBz.out⟩
          have hG := HGz.out
          rw [List.take_length, Nat.sub_self, List.replicate_zero, List.append_nil] at hG
          have hl := all_len chs
          refine ⟨_, tot chs, by rw [hl], by omega, fun q hq => ⟨W.heap.size, 0, rfl, blk_lt hG, ?_⟩⟩
          rw [Nat.zero_add, blk_cell hG]
          simp [hq]
end Go.Proofs.Ytdhaifcjhmmdlaa.fnFinalize
