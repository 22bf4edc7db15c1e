/-
  FnMergedUses: the walks of ast.NewSymbolMap and impl.table: the symbols, as the package keeps them.
  Conditions: at most 200 symbols; ast.InvalidRef is what it is laid as.
-/
import Derived.Test.YtlhepbgonecgpaaDoorFnMergedUsesGuard
import Derived.BigRegion
import Derived.Deep.RegionLaw
namespace Go.Proofs.YtlhepbgonecgpaaDoor.fnMergedUses
open Go.RowKit Go.Proofs.YtlhepbgonecgpaaDoorW.PrintWords Go.Proofs.YtlhepbgonecgpaaDoorW.PrintLast Go.Proofs.YtlhepbgonecgpaaDoorW.PrintMore Go.Proofs.YtlhepbgonecgpaaDoor.PFnMergedUses
set_option linter.unusedVariables false
set_option linter.unusedSimpArgs false

theorem info53 : (Tryd.prog.info? 53).map (fun i => (i.zero, i.size, i.bytes)) = some (some (.slice none 0 0), 1, 24) := by kernel_rfl
theorem info62 : (Tryd.prog.info? 62).map (fun i => (i.zero, i.size, i.bytes)) = some (some (.agg #[.pointer none, .string ⟨#[]⟩, .int .u32 0, .int .u32 0, .int .u32 0, .int .u32 0, .int .u32 0, .int .u16 0, .int .u8 0, .int .u8 0]), 10, 48) := by kernel_rfl
theorem info46 : (Tryd.prog.info? 46).map (·.size) = some 1 := by kernel_rfl
set_option maxHeartbeats 4000000 in
set_option maxRecDepth 100000 in
theorem newMap (W : World) : Calls Tryd.prog 22 #[.int .i64 1] W fun e w' => ∃ SB, e = .returned (.agg #[.slice (some ⟨SB, 0, none⟩) 1 1]) ∧ w'.heap[SB]? = some (.cells #[.slice none 0 0] 53 (0, 0)) ∧ W.heap.size ≤ SB ∧ Below W.heap.size W w' := by
  obtain ⟨i0, hi, hz0, hz1, hz2⟩ := info_parts info53
  have HB := Lib.hid ((Below.refl W.heap.size W).alloc (Nat.le_refl _) (.cells #[.slice none 0 0] 46))
  go_enter Tryd.func22, Tryd.ntmps22
  go_wp2_with (at_make; refine wpList_make_full _ rfl _ _ 44 rfl W.heap.size 53 i0 (.slice none 0 0) 1 Tryd.underlying44 hi hz0 hz1 .i64 .i64 _ _ 1 rfl rfl rfl rfl (by rw [hz2]; omega) (by unfold maxLen; omega) (by simp) ?_; intro w2 hown2 hgrow2; have f1 : w2.cell? ⟨W.heap.size, 0, none⟩ = some (.slice none 0 0) := (cell_of (hgrow2.block _ (by simp) (by simp))).trans (blk_cell (heap_alloc_new W _) 0); have f2 : w2.frozen? ⟨W.heap.size, 0, none⟩ = false := (World.frozen?_of_block (hgrow2.block _ (by simp) (by simp))).trans (Lib.frozen_of_heap (heap_alloc_new W _) 0))
  have hs : W.heap.size < (W.alloc (.cells #[.slice none 0 0] 46)).heap.size := by simp
  have hb2 := HB.out.grown hgrow2 (Nat.le_of_lt hs) (fun k hk => by cases hk)
  have hg0 : w2.heap[W.heap.size]? = some (.cells #[.slice none 0 0] 46 (0, 0)) := (hgrow2.block _ hs (by simp)).trans (heap_alloc_new W _)
  rw [show (madeCells (Value.slice none 0 0).cells (1 * 1)).toList = [.slice none 0 0] from (by kernel_rfl)] at hown2
  have hsb : w2.heap[W.heap.size + 1]? = some (.cells #[.slice none 0 0] 53 (0, 0)) := by
    rcases hown2.2 with ⟨h, _⟩ | ⟨g, cap, cur, h, hb, hg, hnc, _, hcs, hk⟩
    · cases h
    · simp only [Value.slice.injEq, Option.some.injEq, Addr.mk.injEq, and_true, true_and] at h
      obtain ⟨rfl, rfl⟩ := h
      rw [← hcs] at hk
      have e : cur.toList = [.slice none 0 0] := by
        rw [List.take_of_length_le (by simp)] at hk
        exact hk
      rw [show W.heap.size + 1 = (W.alloc (.cells #[.slice none 0 0] 46)).heap.size by simp, hg]
      congr 2
      exact Array.toList_inj.1 e
  have hr := blk_put hg0 0 (.slice (some ⟨W.heap.size + 1, 0, none⟩) 1 1) (cs' := #[.slice (some ⟨W.heap.size + 1, 0, none⟩) 1 1]) rfl
  refine bodyPost_ret (results_cell_row rfl _ _ W.heap.size 46 _ (0, 0) _ rfl hr Tryd.underlying46 rfl (by rw [info46]; rfl)) rfl ⟨W.heap.size + 1, rfl, ?_, by omega, hb2.setCell (Nat.le_refl _) _⟩
  exact (Below.heap_setCell w2 _ _ _ (by show W.heap.size + 1 ≠ W.heap.size; omega)).trans hsb
/-- a symbol of the law's, as the package keeps it -/
def toSy (x : S30) : Sy := ⟨x.f0, none, x.f1, IntKind.u16.wrap x.f2, IntKind.u8.wrap x.f3⟩
def cellsL (L : List Sy) : List Value := L.flatMap fun s => (cellsS s).toList
theorem cellsL_app (a b : List Sy) : cellsL (a ++ b) = cellsL a ++ cellsL b := by simp [cellsL]
/-- the table, as it is built: none, or a row -/
def TE (W : World) (SB N : Nat) (L : List Sy) : Prop := (L = [] ∧ W.heap[SB]? = some (.cells #[.slice none 0 0] 53 (0, 0))) ∨ ∃ B cap, N ≤ B ∧ Tab W SB B cap L
theorem cellsL_get : ∀ (L : List Sy) (i : Nat) (s : Sy), L[i]? = some s → ∀ f, f < 10 → (cellsL L)[i * 10 + f]? = (cellsS s)[f]? := by
  intro L
  induction L with
  | nil => intro i s h; simp at h
  | cons x r ih =>
    intro i s h f hf
    have hx : (cellsS x).toList.length = 10 := rfl
    have e : cellsL (x :: r) = (cellsS x).toList ++ cellsL r := rfl
    cases i with
    | zero =>
      obtain rfl : x = s := by simpa using h
      rw [e, List.getElem?_append_left (by rw [hx]; omega), Nat.zero_mul, Nat.zero_add, Array.getElem?_toList]
    | succ i =>
      rw [e, List.getElem?_append_right (by rw [hx]; omega), hx, show (i + 1) * 10 + f - 10 = i * 10 + f by omega]
      exact ih i s (by simpa using h) f hf
theorem Row.of_own {W : World} {base g cap n : Nat} {L : List Sy} (h : W.ownsRow base 62 10 (.slice (some ⟨g, 0, none⟩) n cap) n (cellsL L)) (hn : L.length = n) : ∃ cs, W.heap[g]? = some (.cells cs 62 (0, 0)) ∧ Row cs L := by
  have h0 := h
  rcases h.2 with ⟨h', _⟩ | ⟨g', cap', cur, h', hb, hg, hnc, _, hcs, htake⟩
  · cases h'
  · simp only [Value.slice.injEq, Option.some.injEq, Addr.mk.injEq, and_true, true_and] at h'
    obtain ⟨rfl, rfl⟩ := h'
    refine ⟨cur, hg, by rw [hcs, hn]; exact Nat.mul_le_mul_right 10 hnc, fun i s hs f hf => ?_⟩
    have hi : i < L.length := (List.getElem?_eq_some_iff.1 hs).1
    have := cellsL_get L i s hs f hf
    rw [← this, ← htake, List.getElem?_take, if_pos (by omega)]
    simp
set_option maxHeartbeats 8000000 in
set_option maxRecDepth 100000 in
theorem table (W : World) (A : Option Addr) (c : Nat) (xs : List S30) (hC : Kd.C k30 W A xs.length xs) (hc : xs.length ≤ c) (hn : xs.length ≤ 200) (g0 : W.cell? ⟨0, 0, none⟩ = some (.int .u32 4294967295)) (g1 : W.cell? ⟨0, 1, none⟩ = some (.int .u32 4294967295)) :
    Calls Tryd.prog 16 #[.slice A xs.length c] W fun e w' => ∃ SB, e = .returned (.agg #[.slice (some ⟨SB, 0, none⟩) 1 1]) ∧ W.heap.size ≤ SB ∧ TE w' SB W.heap.size (xs.map toSy) ∧ Below W.heap.size W w' := by
  obtain ⟨i0, hi, hz0, hz1, hz2⟩ := info_parts info62
  have HC := Lib.hid hC
  have HB := Lib.hid ((Below.refl W.heap.size W).alloc (Nat.le_refl _) (.cells #[.slice none 0 0] 46))
  have HM := Lib.hid (heap_alloc_new W (.cells #[.slice none 0 0] 46))
  clear hC
  have h0 : 0 < W.heap.size := World.block_lt_of_cell? W _ g0
  have HG0 := Lib.hid g0
  have HG1 := Lib.hid g1
  clear g0 g1
  go_enter Tryd.func16, Tryd.ntmps16
  go_wp2_with (go_at_call 22; refine (newMap _).mono ?_)
  rintro e w1 ⟨SB, rfl, hsb, hle, hb1⟩
  have hs1 : W.heap.size < SB := by have : (W.alloc (.cells #[.slice none 0 0] 46)).heap.size = W.heap.size + 1 := by simp
                                    omega
  have HB1 := Lib.hid (HB.out.trans (hb1.mono (by simp)))
  have HM1 := Lib.hid ((hb1.block W.heap.size (by simp)).trans HM.out)
  have HS1 := Lib.hid hsb
  clear hb1 hsb hle HB HM
  go_wp2_with (fail)
  have hsz1 : W.heap.size ≤ w1.heap.size := HB1.out.size
  have hsb2 : SB < w1.heap.size := (Array.getElem?_eq_some_iff.1 HS1.out).1
  have HM2 := Lib.hid ((Below.heap_alloc w1 (.cells #[.slice (some ⟨SB, 0, none⟩) 1 1] 46) W.heap.size (by omega)).trans HM1.out)
  have HS2 := Lib.hid ((Below.heap_alloc w1 (.cells #[.slice (some ⟨SB, 0, none⟩) 1 1] 46) SB hsb2).trans HS1.out)
  have HN2 := Lib.hid (heap_alloc_new w1 (.cells #[.slice (some ⟨SB, 0, none⟩) 1 1] 46))
  have HB2 := Lib.hid (HB1.out.alloc hsz1 (.cells #[.slice (some ⟨SB, 0, none⟩) 1 1] 46))
  have hq : w1.heap.size < (w1.alloc (.cells #[.slice (some ⟨SB, 0, none⟩) 1 1] 46)).heap.size := by simp
  generalize hw2 : w1.alloc (.cells #[.slice (some ⟨SB, 0, none⟩) 1 1] 46) = w2 at HM2 HS2 HN2 HB2 hq ⊢
  clear hw2 HM1 HS1 HB1
  generalize w1.heap.size = MB at *
  go_loopw [9] (fun v9 wr => ∃ x : Nat, v9 = .int .i64 x ∧ x ≤ xs.length ∧ Hid (∃ v, wr.heap[SB]? = some (.cells #[v] 53 (0, 0)) ∧ wr.ownsRow (MB + 1) 62 10 v x (cellsL ((xs.take x).map toSy)) ∧ (x = 0 → v = .slice none 0 0)) ∧ Hid (wr.heap[MB]? = some (.cells #[.slice (some ⟨SB, 0, none⟩) 1 1] 46 (0, 0))) ∧ Hid (wr.heap[W.heap.size]? = some (.cells #[.slice none 0 0] 46 (0, 0))) ∧ Hid (Below W.heap.size W wr)) (fun v9 _ => xs.length - (intOf v9).toNat)
  case atStart => exact ⟨0, rfl, Nat.zero_le _, Lib.hid ⟨_, HS2.out, World.ownsRow_nil _ _ _ _, fun _ => rfl⟩, HN2, HM2, HB2⟩
  case round =>
    obtain ⟨x, rfl, hxl, HS, HN, HM, HB⟩ := hrel
    clear HS2 HN2 HM2 HB2
    obtain ⟨v, hsb, hown, hv0⟩ := HS.out
    clear HS
    have hsb3 : SB < wr.heap.size := (Array.getElem?_eq_some_iff.1 hsb).1
    have hmb3 : MB < wr.heap.size := (Array.getElem?_eq_some_iff.1 HN.out).1
    by_cases hx : x < xs.length
    · have hx' : (x : Int) < xs.length := by omega
      have x0 : (0 : Int) ≤ x := by omega
      obtain ⟨ad, rfl, c0, c1, c2, c3⟩ := at_T30 HC.out (x : Int) x0 hx'
      have c0 := (HB.out.cell (by exact World.block_lt_of_cell? _ _ c0)).trans c0
      have c1 := (HB.out.cell (by exact World.block_lt_of_cell? _ _ c1)).trans c1
      have c2 := (HB.out.cell (by exact World.block_lt_of_cell? _ _ c2)).trans c2
      have c3 := (HB.out.cell (by exact World.block_lt_of_cell? _ _ c3)).trans c3
      have hrd : rd_T30 xs x = xs[x] := by simp [rd_T30, List.getD, hx]
      have HTK := Lib.hid (List.take_succ_eq_append_getElem hx)
      rw [hrd, Int.toNat_natCast] at c0 c1 c2 c3
      generalize xs[x] = s at *
      go_wp2_with (fail)
      have hszr : W.heap.size ≤ wr.heap.size := HB.out.size
      have hvF : ∀ k, v.ownBlock = some k → MB + 1 ≤ k ∧ k < wr.heap.size := hown.lt
      have hO := hown.alloc (.cells #[.string s.f0, .int .u32 s.f1, .int .i64 s.f2, .int .i64 s.f3] 30)
      have hB := HB.out.alloc hszr (.cells #[.string s.f0, .int .u32 s.f1, .int .i64 s.f2, .int .i64 s.f3] 30)
      have hF := heap_alloc_new wr (.cells #[.string s.f0, .int .u32 s.f1, .int .i64 s.f2, .int .i64 s.f3] 30)
      have hS := alloc_old (o := .cells #[.string s.f0, .int .u32 s.f1, .int .i64 s.f2, .int .i64 s.f3] 30) hsb
      have hN := alloc_old (o := .cells #[.string s.f0, .int .u32 s.f1, .int .i64 s.f2, .int .i64 s.f3] 30) HN.out
      have hM := alloc_old (o := .cells #[.string s.f0, .int .u32 s.f1, .int .i64 s.f2, .int .i64 s.f3] 30) HM.out
      clear c0 c1 c2 c3 hown HB HN HM hsb
      generalize wr.alloc (.cells #[.string s.f0, .int .u32 s.f1, .int .i64 s.f2, .int .i64 s.f3] 30) = W2 at hO hB hF hS hN hM ⊢
      generalize wr.heap.size = F at *
      have hFl : F < W2.heap.size := (Array.getElem?_eq_some_iff.1 hF).1
      have d0 : W2.cell? ⟨F, 0, none⟩ = some (.string s.f0) := blk_cell hF 0
      have d1 : W2.cell? ⟨F, 1, none⟩ = some (.int .u32 s.f1) := blk_cell hF 1
      have d2 : W2.cell? ⟨F, 2, none⟩ = some (.int .i64 s.f2) := blk_cell hF 2
      have d3 : W2.cell? ⟨F, 3, none⟩ = some (.int .i64 s.f3) := blk_cell hF 3
      have d4 : W2.cell? ⟨SB, 0, none⟩ = some v := blk_cell hS 0
      have d5 : W2.cell? ⟨MB, 0, none⟩ = some (.slice (some ⟨SB, 0, none⟩) 1 1) := blk_cell hN 0
      have d6 : W2.frozen? ⟨SB, 0, none⟩ = false := Lib.frozen_of_heap hS 0
      have d7 : W2.cell? ⟨0, 0, none⟩ = some (.int .u32 4294967295) := (hB.cell (by exact h0)).trans HG0.out
      have d8 : W2.cell? ⟨0, 1, none⟩ = some (.int .u32 4294967295) := (hB.cell (by exact h0)).trans HG1.out
      have nF : some F ≠ v.ownBlock := fun e => by have := (hvF F e.symm).2; omega
      have nS : some SB ≠ v.ownBlock := fun e => by have := (hvF SB e.symm).1; omega
      have nM : some MB ≠ v.ownBlock := fun e => by have := (hvF MB e.symm).1; omega
      have n0 : some 0 ≠ v.ownBlock := fun e => by have := (hvF 0 e.symm).1; omega
      have hSl : SB < W2.heap.size := (Array.getElem?_eq_some_iff.1 hS).1
      have hMl : MB < W2.heap.size := (Array.getElem?_eq_some_iff.1 hN).1
      have h0l : 0 < W2.heap.size := by omega
      have hk63 : x + 1 ≤ maxLen := by unfold maxLen; omega
      have hkb : (x + 1) * 48 ≤ 140737488355328 := by omega
      have hMB : MB + 1 ≤ W2.heap.size := by omega
      have HB' := Lib.hid hB
      have HS' := Lib.hid hS
      have HN' := Lib.hid hN
      have HM' := Lib.hid hM
      have hWM : W.heap.size < W2.heap.size := (Array.getElem?_eq_some_iff.1 hM).1
      have nW : some W.heap.size ≠ v.ownBlock := fun e => by have := (hvF _ e.symm).1; omega
      have wx : IntKind.i64.wrap ((x : Int) + 1) = ((x + 1 : Nat) : Int) := by rw [IntKind.wrap_i64]; omega
      clear hB hF hS hN hM
      have hSF : SB ≠ F := by omega
      have hSM : SB ≠ MB := by omega
      have hS0 : SB ≠ 0 := by omega
      rw [show Op.load 53 (Operand.tmp 17) = id (Op.load 53 (Operand.tmp 17)) from rfl]
      go_region_held3 (fun w' => w'.cell? ⟨F, 0, none⟩ = some (.string s.f0) ∧ w'.cell? ⟨F, 1, none⟩ = some (.int .u32 s.f1) ∧ w'.cell? ⟨F, 2, none⟩ = some (.int .i64 s.f2) ∧ w'.cell? ⟨F, 3, none⟩ = some (.int .i64 s.f3) ∧ w'.cell? ⟨MB, 0, none⟩ = some (.slice (some ⟨SB, 0, none⟩) 1 1) ∧ w'.cell? ⟨0, 0, none⟩ = some (.int .u32 4294967295) ∧ w'.cell? ⟨0, 1, none⟩ = some (.int .u32 4294967295))
        (go_keep)
        ((refine step_append_lies _ (by rfl) _ _ _ (by rfl) (MB + 1) 62 i0 _ 10 48 Tryd.underlying53 hi hz0 hz1 hz2 rfl (by omega) v x (cellsL ((xs.take x).map toSy)) (by rfl) ((hO.alloc _).drew)
            ⟨W2.heap.size, 0, none⟩ 1 1 (cellsS (toSy s)).toList (by rfl) (by rfl) (World.news_of_block (cs := cellsS (toSy s)) (t := 62) (fr := (0, 0)) (heap_alloc_new W2 _)) (by simp [Value.oneCell', cellsS, toSy])
            (by omega) hk63 hkb (by simp; omega) (W2.heap.size + 1) (by simp) ?_; intro gg cap w4 hown1 hgrow hat hltg; have d9 : w4.frozen? ⟨SB, 0, none⟩ = false := (hgrow.frozen_far ⟨SB, 0, none⟩ (by simp; omega) nS).trans ((World.frozen?_of_block (Below.heap_alloc W2 _ SB hSl)).trans d6); have d10 : w4.cell? ⟨SB, 0, none⟩ = some v := (hgrow.cell_far ⟨SB, 0, none⟩ (by simp; omega) nS).trans ((World.cell?_of_block (Below.heap_alloc W2 _ SB hSl)).trans d4); have q0 : w4.cell? ⟨F, 0, none⟩ = some (.string s.f0) := (hgrow.cell_far ⟨F, 0, none⟩ (by simp; omega) nF).trans ((World.cell?_of_block (Below.heap_alloc W2 _ F hFl)).trans d0); have q1 : w4.cell? ⟨F, 1, none⟩ = some (.int .u32 s.f1) := (hgrow.cell_far ⟨F, 1, none⟩ (by simp; omega) nF).trans ((World.cell?_of_block (Below.heap_alloc W2 _ F hFl)).trans d1); have q2 : w4.cell? ⟨F, 2, none⟩ = some (.int .i64 s.f2) := (hgrow.cell_far ⟨F, 2, none⟩ (by simp; omega) nF).trans ((World.cell?_of_block (Below.heap_alloc W2 _ F hFl)).trans d2); have q3 : w4.cell? ⟨F, 3, none⟩ = some (.int .i64 s.f3) := (hgrow.cell_far ⟨F, 3, none⟩ (by simp; omega) nF).trans ((World.cell?_of_block (Below.heap_alloc W2 _ F hFl)).trans d3); have q4 : w4.cell? ⟨MB, 0, none⟩ = some (.slice (some ⟨SB, 0, none⟩) 1 1) := (hgrow.cell_far ⟨MB, 0, none⟩ (by simp; omega) nM).trans ((World.cell?_of_block (Below.heap_alloc W2 _ MB hMl)).trans d5); have q5 : w4.cell? ⟨0, 0, none⟩ = some (.int .u32 4294967295) := (hgrow.cell_far ⟨0, 0, none⟩ (by simp) n0).trans ((World.cell?_of_block (Below.heap_alloc W2 _ 0 h0l)).trans d7); have q6 : w4.cell? ⟨0, 1, none⟩ = some (.int .u32 4294967295) := (hgrow.cell_far ⟨0, 1, none⟩ (by simp) n0).trans ((World.cell?_of_block (Below.heap_alloc W2 _ 0 h0l)).trans d8)))
      all_goals
        have e4 : ∀ k, k < W2.heap.size → some k ≠ v.ownBlock → w4.heap[k]? = W2.heap[k]? := fun k hk hne => (hgrow.block k (by simp; omega) hne).trans (Below.heap_alloc W2 _ k hk)
        have hO4 := ownsRow_setCell_below hown1 (a := ⟨SB, 0, none⟩) (by show SB < MB + 1; omega) (.slice (some ⟨gg, 0, none⟩) (x + 1) cap)
        have HO4 := Lib.hid (show (w4.setCell ⟨SB, 0, none⟩ (.slice (some ⟨gg, 0, none⟩) (x + 1) cap)).ownsRow (MB + 1) 62 10 (.slice (some ⟨gg, 0, none⟩) (x + 1) cap) (x + 1) (cellsL ((xs.take (x + 1)).map toSy)) by
          rw [HTK.out, List.map_append, cellsL_app]
          exact hO4)
        have HS4 := Lib.hid (blk_put ((e4 SB hSl nS).trans HS'.out) 0 (.slice (some ⟨gg, 0, none⟩) (x + 1) cap) (cs' := #[.slice (some ⟨gg, 0, none⟩) (x + 1) cap]) rfl)
        have HN4 := Lib.hid ((Below.heap_setCell w4 ⟨SB, 0, none⟩ (.slice (some ⟨gg, 0, none⟩) (x + 1) cap) MB (by show MB ≠ SB; omega)).trans ((e4 MB hMl nM).trans HN'.out))
        have HM4 := Lib.hid ((Below.heap_setCell w4 ⟨SB, 0, none⟩ (.slice (some ⟨gg, 0, none⟩) (x + 1) cap) W.heap.size (by show W.heap.size ≠ SB; omega)).trans ((e4 _ hWM nW).trans HM'.out))
        have HB4 := Lib.hid (show Below W.heap.size W (w4.setCell ⟨SB, 0, none⟩ (.slice (some ⟨gg, 0, none⟩) (x + 1) cap)) from (((HB'.out.alloc (by omega) (.cells (cellsS (toSy s)) 62)).drew).grown hgrow (by simp; omega) (fun k hk => by have := (hvF k hk).1; omega)).setCell (by show W.heap.size ≤ SB; omega) _)
        clear hown1 hgrow hO4 e4 hat
        go_wp2_with (fail)
        go_roundw
        case rel => exact ⟨x + 1, by simp [wx], by omega, Lib.hid ⟨_, HS4.out, HO4.out, fun h => by omega⟩, HN4, HM4, HB4⟩
        case measure =>
          simp only [intOf]
          omega
    · have hx' : ¬ (x : Int) < xs.length := by omega
      obtain rfl : x = xs.length := by omega
      have c5 : wr.cell? ⟨MB, 0, none⟩ = some (.slice (some ⟨SB, 0, none⟩) 1 1) := blk_cell HN.out 0
      have c6 : wr.cell? ⟨W.heap.size, 0, none⟩ = some (.slice none 0 0) := blk_cell HM.out 0
      have c7 : wr.frozen? ⟨W.heap.size, 0, none⟩ = false := Lib.frozen_of_heap HM.out 0
      rw [List.take_length] at hown
      have HO5 := Lib.hid hown
      have HS5 := Lib.hid hsb
      have HV0 := Lib.hid hv0
      clear hown hsb hv0
      go_wp2_with (fail)
      have hr := blk_put HM.out 0 (.slice (some ⟨SB, 0, none⟩) 1 1) (cs' := #[.slice (some ⟨SB, 0, none⟩) 1 1]) rfl
      have hb5 : Below W.heap.size W (wr.setCell ⟨W.heap.size, 0, none⟩ (.slice (some ⟨SB, 0, none⟩) 1 1)) := HB.out.setCell (Nat.le_refl _) _
      have hs5 := (Below.heap_setCell wr ⟨W.heap.size, 0, none⟩ (.slice (some ⟨SB, 0, none⟩) 1 1) SB (by show SB ≠ W.heap.size; omega)).trans HS5.out
      refine bodyPost_ret (results_cell_row rfl _ _ W.heap.size 46 _ (0, 0) _ rfl hr Tryd.underlying46 rfl (by rw [info46]; rfl)) rfl ⟨SB, rfl, by omega, ?_, hb5⟩
      by_cases hz : xs.length = 0
      · obtain rfl : xs = [] := List.eq_nil_of_length_eq_zero hz
        rw [HV0.out hz] at hs5
        exact .inl ⟨rfl, hs5⟩
      · obtain ⟨g, cap, rfl, hg1, hg2⟩ := World.ownsRow.form HO5.out (by omega)
        obtain ⟨cs, hcs, hrow⟩ := Row.of_own HO5.out (by simp)
        refine .inr ⟨g, cap, by omega, ⟨by simpa using hs5, ⟨cs, (Below.heap_setCell wr ⟨W.heap.size, 0, none⟩ _ g (by show g ≠ W.heap.size; omega)).trans hcs, hrow⟩, (hb5.cell (by exact h0)).trans HG0.out, (hb5.cell (by exact h0)).trans HG1.out, by omega, by omega, by simpa using hn⟩⟩
end Go.Proofs.YtlhepbgonecgpaaDoor.fnMergedUses
