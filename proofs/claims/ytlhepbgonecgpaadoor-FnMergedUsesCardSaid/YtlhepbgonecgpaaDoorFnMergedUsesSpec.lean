/-
  FnMergedUses: the walk of the reference: spec.SymMerge.
  Conditions: at most 200 symbols; pairs of them.
-/
import Derived.Test.YtlhepbgonecgpaaDoorFnMergedUsesPairs
namespace Go.Proofs.YtlhepbgonecgpaaDoor.fnMergedUses
open Go.RowKit Go.Proofs.YtlhepbgonecgpaaDoorW.PrintWords Go.Proofs.YtlhepbgonecgpaaDoorW.PrintLast Go.Proofs.YtlhepbgonecgpaaDoorW.PrintMore Go.Proofs.YtlhepbgonecgpaaDoor.PFnMergedUses
set_option linter.unusedVariables false
set_option linter.unusedSimpArgs false

def cellsN (S : List Nat) : List Value := S.map fun (x : Nat) => Value.int .i64 x
/-- the numbers that a row of the call's own holds -/
def NR (W : World) (base : Nat) (v : Value) (S : List Nat) : Prop := W.ownsRow base 3 1 v S.length (cellsN S)
theorem info3 : (Tryd.prog.info? 3).map (fun i => (i.zero, i.size, i.bytes)) = some (some (.int .i64 0), 1, 8) := by kernel_rfl
theorem NR.cell {W : World} {base g cap : Nat} {S : List Nat} (h : NR W base (.slice (some ⟨g, 0, none⟩) S.length cap) S) (i : Nat) (hi : i < S.length) : W.cell? ⟨g, i, none⟩ = some (.int .i64 (S.getD i 0)) := by
  have := World.ownsRow.cellAt h i (by omega)
  rw [this, cellsN, List.getElem?_map, List.getElem?_eq_getElem hi]
  simp [List.getElem?_eq_getElem hi]
/-- the stands behind some pairs -/
def stands (n : Nat) (ps : List (Nat × Nat)) : List Nat := ps.foldl (fun S p => sm S p.1 p.2) (List.range n)
theorem stands_len (n : Nat) (ps : List (Nat × Nat)) : (stands n ps).length = n := by
  suffices ∀ (ps : List (Nat × Nat)) (S : List Nat), (ps.foldl (fun S p => sm S p.1 p.2) S).length = S.length by
    unfold stands
    rw [this]; simp
  intro ps
  induction ps with
  | nil => intro S; rfl
  | cons p r ih => intro S; rw [List.foldl_cons, ih]; simp [sm]
theorem stands_take (n : Nat) (ps : List (Nat × Nat)) (k : Nat) (hk : k < ps.length) : stands n (ps.take (k + 1)) = sm (stands n (ps.take k)) (ps[k]).1 (ps[k]).2 := by
  unfold stands
  rw [List.take_succ_eq_append_getElem hk, List.foldl_append]
  rfl
/-- a part of a merge -/
def mid (S : List Nat) (a b x : Nat) : List Nat := (S.take x).map (fun v => if v = a then b else v) ++ S.drop x
theorem mid_len (S : List Nat) (a b x : Nat) (hx : x ≤ S.length) : (mid S a b x).length = S.length := by simp [mid]; omega
theorem mid_get (S : List Nat) (a b x : Nat) (hx : x < S.length) : (mid S a b x).getD x 0 = S.getD x 0 := by
  have hl : ((S.take x).map (fun v => if v = a then b else v)).length = x := by simp; omega
  simp only [mid, List.getD]
  rw [List.getElem?_append_right (by rw [hl]; exact Nat.le_refl _), hl, Nat.sub_self, List.getElem?_drop]
  simp
theorem mid_succ (S : List Nat) (a b x : Nat) (hx : x < S.length) : mid S a b (x + 1) = (mid S a b x).set x (if S.getD x 0 = a then b else S.getD x 0) := by
  have hl : ((S.take x).map (fun v => if v = a then b else v)).length = x := by simp; omega
  have hd : S.drop x = S[x] :: S.drop (x + 1) := List.drop_eq_getElem_cons hx
  have hg : S.getD x 0 = S[x] := by simp [List.getD, List.getElem?_eq_getElem hx]
  unfold mid
  rw [List.take_succ_eq_append_getElem hx, List.map_append, hd, hg]
  rw [List.set_append_right _ _ (by rw [hl]; exact Nat.le_refl _), hl, Nat.sub_self, List.append_assoc]
  rfl
theorem mid_same (S : List Nat) (a b x : Nat) (hx : x < S.length) (h : S.getD x 0 ≠ a) : mid S a b (x + 1) = mid S a b x := by
  rw [mid_succ S a b x hx, if_neg h]
  have hl := mid_len S a b x (by omega)
  have hg := mid_get S a b x hx
  apply List.ext_getElem?
  intro y
  rw [List.getElem?_set]
  by_cases hy : x = y
  · subst hy
    rw [if_pos rfl, if_pos (by omega), ← hg, List.getElem?_eq_getElem (by omega)]
    simp [List.getD, List.getElem?_eq_getElem (show x < (mid S a b x).length by omega)]
  · rw [if_neg hy]
theorem mid_all (S : List Nat) (a b : Nat) : mid S a b S.length = S.map (fun v => if v = a then b else v) := by simp [mid]
set_option maxHeartbeats 8000000 in
set_option maxRecDepth 100000 in
theorem symMerge (W : World) (n N : Nat) (v : Value) (ps : List (Nat × Nat)) (hp : PR W N v ps) (hN : N ≤ W.heap.size) (hn : n ≤ 200) (hps : ∀ p ∈ ps, p.1 < n ∧ p.2 < n) (hl : ps.length ≤ 800) :
    Calls Tryd.prog 10 #[.int .i64 n, v] W fun e w' => ∃ r, e = .returned r ∧ NR w' W.heap.size r (stands n ps) ∧ Below W.heap.size W w' := by
  obtain ⟨i0, hi, hz0, hz1, hz2⟩ := info_parts info3
  obtain ⟨A, cap, rfl, hcap, hat⟩ := hp
  have HAT := Lib.hid hat
  have HPS := Lib.hid hps
  clear hat hps
  go_enter Tryd.func10, Tryd.ntmps10
  go_wp2_with (at_make; refine wpList_make_own _ rfl _ _ 23 rfl W.heap.size 3 i0 (.int .i64 0) 1 Tryd.underlying23 hi hz0 hz1 .i64 .i64 _ n rfl rfl rfl (by rw [hz2]; omega) (by unfold maxLen; omega) (Nat.le_refl _) ?_; intro w0 hown0 hgrow0)
  have HB0 := Lib.hid ((Below.refl W.heap.size W).grown hgrow0 (Nat.le_refl _) (fun k hk => by cases hk))
  have HO0 := Lib.hid hown0
  clear hown0 hgrow0
  go_loopw [5, 6] (fun v5 v6 wr => ∃ k : Nat, v5 = .slice (some ⟨W.heap.size, 0, none⟩) k n ∧ v6 = .int .i64 k ∧ k ≤ n ∧ Hid (wr.ownsRow W.heap.size 3 1 (.slice (some ⟨W.heap.size, 0, none⟩) k n) k (cellsN (List.range k))) ∧ Hid (Below W.heap.size W wr)) (fun _ v6 _ => n - (intOf v6).toNat)
  case atStart => exact ⟨0, rfl, rfl, Nat.zero_le _, HO0, HB0⟩
  case round =>
    obtain ⟨k, rfl, rfl, hkn, HO, HB⟩ := hrel
    clear HO0 HB0
    have hsz : W.heap.size ≤ wr.heap.size := HB.out.size
    by_cases hlt : k < n
    · have hlt' : (k : Int) < n := by omega
      go_wp2_with (at_builtin; refine wpList_append_fits _ rfl (.tmp 19) (.tmp 21) 23 rfl W.heap.size 3 i0 1 Tryd.underlying23 hi hz1 W.heap.size k n (cellsN (List.range k)) rfl (HO.out.alloc _) ⟨wr.heap.size, 0, none⟩ 1 1 [.int .i64 k] rfl rfl (World.news_of_block (cs := #[.int .i64 k]) (t := 3) (fr := (0, 0)) (heap_alloc_new wr _)) (by simp [Value.oneCell']) (by omega) ?_; intro w1 hown1 hgrow1)
      have HB2 := Lib.hid ((HB.out.alloc hsz (.cells #[.int .i64 k] 3)).grown hgrow1 (by simp; omega) (own_base HO.out))
      have HO2 := Lib.hid (show w1.ownsRow W.heap.size 3 1 (.slice (some ⟨W.heap.size, 0, none⟩) (k + 1) n) (k + 1) (cellsN (List.range (k + 1))) by
        rw [List.range_succ]
        simpa [cellsN] using hown1)
      clear hown1 hgrow1
      have w2 : IntKind.i64.wrap ((k : Int) + 1) = ((k + 1 : Nat) : Int) := by rw [IntKind.wrap_i64]; omega
      go_wp2_with (fail)
      go_roundw
      case rel => exact ⟨k + 1, rfl, by simp [w2], by omega, HO2, HB2⟩
      case measure =>
        simp only [intOf]
        omega
    · have hlt' : ¬ (k : Int) < n := by omega
      obtain rfl : k = n := by omega
      have HO1 := HO
      have HB1 := HB
      clear HO HB
      go_wp2_with (fail)
      have HO1 := Lib.hid (show wr.ownsRow W.heap.size 3 1 (.slice (some ⟨W.heap.size, 0, none⟩) k k) k (cellsN (stands k (ps.take 0))) from HO1.out)
      go_loopw [25] (fun v25 wr => ∃ j : Nat, v25 = .int .i64 j ∧ j ≤ ps.length ∧ Hid (wr.ownsRow W.heap.size 3 1 (.slice (some ⟨W.heap.size, 0, none⟩) k k) k (cellsN (stands k (ps.take j)))) ∧ Hid (Below W.heap.size W wr)) (fun v25 _ => ps.length - (intOf v25).toNat)
      case atStart => exact ⟨0, rfl, Nat.zero_le _, HO1, HB1⟩
      case round =>
        clear HO1 HB1
        obtain ⟨j, rfl, hjl, HO, HB⟩ := hrel
        have hsz : W.heap.size ≤ wr.heap.size := HB.out.size
        by_cases hlt : j < ps.length
        · have hlt' : (j : Int) < ps.length := by omega
          obtain ⟨pb, rfl, hpb, c1, c2⟩ := HAT.out j hlt
          obtain ⟨ha, hb⟩ := HPS.out _ (List.getElem_mem hlt)
          have hst := stands_take k ps j hlt
          have c1 : wr.cell? ⟨pb, j * 2, none⟩ = some (.int .i64 (ps[j]).1) := (HB.out.cell (by exact Nat.lt_of_lt_of_le hpb hN)).trans c1
          have c2 : wr.cell? ⟨pb, j * 2 + 1, none⟩ = some (.int .i64 (ps[j]).2) := (HB.out.cell (by exact Nat.lt_of_lt_of_le hpb hN)).trans c2
          generalize (ps[j]).1 = a at *
          generalize (ps[j]).2 = b at *
          have a0 : ¬ (a : Int) < 0 := by omega
          have b0 : ¬ (b : Int) < 0 := by omega
          have a1 : ¬ (k : Int) ≤ a := by omega
          have b1 : ¬ (k : Int) ≤ b := by omega
          have a2 : (0 : Int) ≤ a := by omega
          have b2 : (0 : Int) ≤ b := by omega
          have a3 : (a : Int) < k := by omega
          have b3 : (b : Int) < k := by omega
          have HST := Lib.hid hst
          clear hst
          generalize hS : stands k (ps.take j) = S at HO HST
          have hSl : S.length = k := by rw [← hS]; exact stands_len _ _
          go_wp2_with (fail)
          have hO := (HO.out).alloc (.cells #[.int .i64 a, .int .i64 b] 39)
          have HB1 := Lib.hid (HB.out.alloc hsz (.cells #[.int .i64 a, .int .i64 b] 39))
          have d1 : (wr.alloc (.cells #[.int .i64 a, .int .i64 b] 39)).cell? ⟨wr.heap.size, 0, none⟩ = some (.int .i64 a) := blk_cell (heap_alloc_new wr _) 0
          have d2 : (wr.alloc (.cells #[.int .i64 a, .int .i64 b] 39)).cell? ⟨wr.heap.size, 1, none⟩ = some (.int .i64 b) := blk_cell (heap_alloc_new wr _) 1
          clear c1 c2
          generalize wr.alloc (.cells #[.int .i64 a, .int .i64 b] 39) = W1 at hO HB1 d1 d2 ⊢
          subst hSl
          have d3 := NR.cell hO a (by omega)
          have d4 := NR.cell hO b (by omega)
          generalize hr0 : S.getD a 0 = r0 at d3
          generalize hr1 : S.getD b 0 = r1 at d4
          have HO1 := Lib.hid hO
          clear hO
          go_quiet (fail)
          have hx1 := HO1.out
          have hx2 := below_drewN HB1.out nq
          have hx3 : (W1.drewN nq).ownsRow W.heap.size 3 1 (.slice (some ⟨W.heap.size, 0, none⟩) S.length S.length) S.length (cellsN S) := hx1
          generalize W1.drewN nq = W2 at hx2 hx3 ⊢
          clear hx1 HO1 HB1 d1 d2 d3 d4
          have HO2 := Lib.hid (show W2.ownsRow W.heap.size 3 1 (.slice (some ⟨W.heap.size, 0, none⟩) S.length S.length) S.length (cellsN (mid S r0 r1 0)) from hx3)
          have HB2 := Lib.hid hx2
          clear hx2 hx3
          go_wp2_with (fail)
          go_loopw [11] (fun v11 wr => ∃ x : Nat, v11 = .int .i64 x ∧ x ≤ S.length ∧ Hid (wr.ownsRow W.heap.size 3 1 (.slice (some ⟨W.heap.size, 0, none⟩) S.length S.length) S.length (cellsN (mid S r0 r1 x))) ∧ Hid (Below W.heap.size W wr)) (fun v11 _ => S.length - (intOf v11).toNat)
          case atStart => exact ⟨0, rfl, Nat.zero_le _, HO2, HB2⟩
          case round =>
            clear HO2 HB2
            obtain ⟨x, rfl, hxl, HO3, HB3⟩ := hrel
            have x0 : (0 : Int) ≤ x := by omega
            have wx : IntKind.i64.wrap ((x : Int) + 1) = ((x + 1 : Nat) : Int) := by rw [IntKind.wrap_i64]; omega
            by_cases hx : x < S.length
            · have hx' : (x : Int) < S.length := by omega
              have hml := mid_len S r0 r1 x hxl
              have hO3 : NR wr W.heap.size (.slice (some ⟨W.heap.size, 0, none⟩) (mid S r0 r1 x).length S.length) (mid S r0 r1 x) := by unfold NR; rw [hml]; exact HO3.out
              have e1 := NR.cell hO3 x (by omega)
              rw [mid_get S r0 r1 x hx] at e1
              have z1 : wr.frozen? ⟨W.heap.size, x, none⟩ = false := World.ownsRow.frozenAt hO3 x
              have hst := World.ownsRow.stored HO3.out x (.int .i64 r1)
              clear hO3
              by_cases hv : S.getD x 0 = r0
              · have hd : ((S.getD x 0 : Nat) : Int) = r0 := by omega
                rw [hd] at e1
                have HO4 := Lib.hid (show (wr.setCell ⟨W.heap.size, x, none⟩ (.int .i64 r1)).ownsRow W.heap.size 3 1 (.slice (some ⟨W.heap.size, 0, none⟩) S.length S.length) S.length (cellsN (mid S r0 r1 (x + 1))) by
                  rw [mid_succ S r0 r1 x hx, if_pos hv, cellsN, List.map_set]
                  exact hst.1)
                have HB4 := Lib.hid (HB3.out.grown hst.2 HB3.out.size (fun k hk => by obtain rfl := Option.some.inj hk; exact Nat.le_refl _))
                clear hst
                go_wp2_with (fail)
                go_roundw
                case rel => exact ⟨x + 1, by simp [wx], by omega, HO4, HB4⟩
                case measure =>
                  simp only [intOf]
                  omega
              · have hd : ¬ ((S.getD x 0 : Nat) : Int) = r0 := by omega
                generalize ((S.getD x 0 : Nat) : Int) = vx at e1 hd
                have HO4 := Lib.hid (show wr.ownsRow W.heap.size 3 1 (.slice (some ⟨W.heap.size, 0, none⟩) S.length S.length) S.length (cellsN (mid S r0 r1 (x + 1))) by
                  rw [mid_same S r0 r1 x hx hv]
                  exact HO3.out)
                clear hst
                go_wp2_with (fail)
                go_roundw
                case rel => exact ⟨x + 1, by simp [wx], by omega, HO4, HB3⟩
                case measure =>
                  simp only [intOf]
                  omega
            · have hx' : ¬ (x : Int) < S.length := by omega
              obtain rfl : x = S.length := by omega
              have wj : IntKind.i64.wrap ((j : Int) + 1) = ((j + 1 : Nat) : Int) := by rw [IntKind.wrap_i64]; omega
              have HO5 := Lib.hid (show wr.ownsRow W.heap.size 3 1 (.slice (some ⟨W.heap.size, 0, none⟩) S.length S.length) S.length (cellsN (stands S.length (ps.take (j + 1)))) by
                have := HO3.out
                rw [mid_all] at this
                rw [HST.out]
                unfold sm
                rw [hr0, hr1]
                exact this)
              go_wp2_with (fail)
              go_roundw
              case rel => exact ⟨j + 1, by simp [wj], by omega, HO5, HB3⟩
              case measure =>
                simp only [intOf]
                omega
        · have hlt' : ¬ (j : Int) < ps.length := by omega
          obtain rfl : j = ps.length := by omega
          go_wp2_with (fail)
          go_ret
          refine ⟨_, rfl, ?_, HB.out⟩
          have := HO.out
          rw [List.take_length] at this
          unfold NR
          rw [stands_len]
          exact this
end Go.Proofs.YtlhepbgonecgpaaDoor.fnMergedUses
