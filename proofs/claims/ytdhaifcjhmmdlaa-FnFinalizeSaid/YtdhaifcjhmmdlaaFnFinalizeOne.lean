/-
  FnFinalize: SourceMapPieces.Finalize with one shift lays the pieces behind each other.
  Conditions: fewer than 2^32 bytes.
-/
import Derived.Test.YtdhaifcjhmmdlaaFnFinalizeIs
import Derived.ArgAppend
namespace Go.Proofs.Ytdhaifcjhmmdlaa.fnFinalize
open Go.RowKit Go.Proofs.YtdhaifcjhmmdlaaW.PrintWords Go.Proofs.YtdhaifcjhmmdlaaW.PrintLast Go.Proofs.YtdhaifcjhmmdlaaW.PrintMore Go.Proofs.Ytdhaifcjhmmdlaa.PFnFinalize
set_option linter.unusedVariables false
set_option linter.unusedSimpArgs false

def Cl (W : World) (g : Nat) (l : List UInt8) : Prop := ∀ i (hi : i < l.length), W.cell? ⟨g, i, none⟩ = some (bval l[i])
/-- bytes at the head of a block of cap cells -/
structure Rm (W : World) (g cap : Nat) (l : List UInt8) : Prop where
  cells : Cl W g l
  le : l.length ≤ cap
  there : ∀ j, j < cap → (W.cell? ⟨g, j, none⟩).isSome = true
  thaw : ∀ j, j < cap → W.frozen? ⟨g, j, none⟩ = false
theorem Cl.news {W : World} {g : Nat} {l : List UInt8} (h : Cl W g l) : ∀ j u, (l.map bval)[j]? = some u → W.cell? ((⟨g, 0, none⟩ : Addr).add j) = some u := by
  intro j u hu
  rw [List.getElem?_map] at hu
  obtain ⟨b, hb, rfl⟩ := Option.map_eq_some_iff.1 hu
  obtain ⟨hj, rfl⟩ := List.getElem?_eq_some_iff.1 hb
  rw [add_at, Nat.zero_add]
  exact h j hj
theorem one_bval (l : List UInt8) : ∀ u ∈ l.map bval, u.oneCell' = true := by
  intro u hu
  obtain ⟨b, _, rfl⟩ := List.mem_map.1 hu
  rfl
theorem Rm.app {W : World} {g cap : Nat} {l m : List UInt8} (h : Rm W g cap l) (hr : l.length + m.length ≤ cap) : Rm (W.setCells g l.length (m.map bval)) g cap (l ++ m) := by
  refine ⟨fun i hi => ?_, by rw [List.length_append]; exact hr, fun j hj => ?_, fun j hj => (World.frozen?_setCells g _ _ W _).trans (h.thaw j hj)⟩
  · by_cases hil : i < l.length
    · rw [World.cell?_setCells_out g _ _ W _ (fun _ _ => .inl hil), h.cells i hil, List.getElem_append_left hil]
    · rw [List.length_append] at hi
      have := World.cell?_setCells_in g (m.map bval) l.length W (fun j hj => h.there _ (by rw [List.length_map] at hj; omega)) (i - l.length) (by rw [List.length_map]; omega)
      rw [show l.length + (i - l.length) = i by omega] at this
      rw [this, List.getElem_append_right (by omega)]
      simp
  · by_cases hjl : j < l.length ∨ l.length + m.length ≤ j
    · rw [World.cell?_setCells_out g _ _ W _ (fun _ _ => by rw [List.length_map]; exact hjl)]
      exact h.there j hj
    · have := World.cell?_setCells_in g (m.map bval) l.length W (fun j hj => h.there _ (by rw [List.length_map] at hj; omega)) (j - l.length) (by rw [List.length_map]; omega)
      rw [show l.length + (j - l.length) = j by omega] at this
      rw [this]
      rfl
theorem cl_other {W : World} {g g' o : Nat} {l : List UInt8} {vs : List Value} (h : Cl W g' l) (hne : g' ≠ g) : Cl (W.setCells g o vs) g' l := fun i hi => (World.cell?_setCells_out g vs o W _ (fun e => absurd e hne)).trans (h i hi)
theorem setCells_below (g : Nat) {N : Nat} (hN : N ≤ g) : ∀ (vs : List Value) (o : Nat) (W : World), Below N W (W.setCells g o vs)
  | [], _, W => Below.refl N W
  | v :: r, o, W => by
    have h1 : Below N W (W.setCell ⟨g, o, none⟩ v) := (Below.refl N W).setCell hN v
    exact h1.trans (setCells_below g hN r (o + 1) _)
theorem sz5b : (Try.prog.info? 5).map (fun i => (i.zero, i.size, i.bytes)) = some (some (.int .u8 0), 1, 1) := by kernel_rfl
theorem wpList_append_room {ops : Array Oper} {rest : List Oper} {o : Oper} {a : Act} {Q : Exit → Act → World → Prop} (hgd : o.guard = none) (s x : Operand) (ho : o.op = .call { callee := .builtin .append, args := #[s, x], argTypes := #[47, 47] })
    {W : World} {g gm cap cm n : Nat} {l m : List UInt8} (hn : n = l.length) (hs : a.eval s = .slice (some ⟨g, 0, none⟩) n cap) (hx : a.eval x = .slice (some ⟨gm, 0, none⟩) m.length cm) (h : Rm W g cap l) (hm : Cl W gm m) (hr : l.length + m.length ≤ cap)
    (hK : wpList Try.prog ops Q rest (a.put o.dst (.slice (some ⟨g, 0, none⟩) (n + m.length) cap)) (W.setCells g l.length (m.map bval))) : wpList Try.prog ops Q (o :: rest) a W := by
  subst hn
  obtain ⟨i5, hi5, hz0, hz1, hz2⟩ := info_parts sz5b
  refine wpList_plain hgd fun K hK' => ?_
  have hrun := run_append_room_cells (P := Try.prog) W 47 o.type 5 i5 Try.underlying47 hi5 g 0 l.length cap ⟨gm, 0, none⟩ m.length cm (m.map bval) (by rw [List.length_map, hz1, Nat.mul_one]) hm.news (one_bval m) hr (by
    intro j hj
    rw [List.length_map] at hj
    rw [hz1, Nat.mul_one, Nat.zero_add]
    exact h.there _ (by omega)) (by
    intro j hj
    rw [List.length_map] at hj
    rw [hz1, Nat.mul_one, Nat.zero_add]
    exact h.thaw _ (by omega))
  rw [hz1, Nat.mul_one, Nat.zero_add] at hrun
  unfold Oper.wp execOp
  simp only [ho, resolve, invoke, builtin, Sem.run_bind, Sem.run_pure, Result.andThen_ok, List.map_toArray, List.map_cons, List.map_nil, hs, hx, hrun]
  exact hK' _ _ hK
theorem wrap_n (n : Nat) (h : n < 4294967296) : wrap64 (n : Int) = (n : Int) := by unfold wrap64; omega
theorem wrap_two (a b : Nat) (h : a + b < 4294967296) : wrap64 ((a : Int) + (b : Int)) = (a : Int) + (b : Int) := by unfold wrap64; omega
theorem wrap_three (a b c : Nat) (h : a + b + c < 4294967296) : wrap64 ((a : Int) + (b : Int) + (c : Int)) = (a : Int) + (b : Int) + (c : Int) := by unfold wrap64; omega
theorem dec_room {a b c d : Nat} (h : a + b + c ≤ d) : decide ((d : Int) < (a : Int) + (b : Int) + (c : Int)) = false := decide_eq_false (by omega)
theorem dec_grow {a b c d : Nat} (h : ¬ a + b + c ≤ d) : decide ((d : Int) < (a : Int) + (b : Int) + (c : Int)) = true := decide_eq_true (by omega)
theorem own_bt {W : World} {base e : Nat} {v : Value} {l : List UInt8} {n : Nat} (h : W.ownsRow base e 1 v n (l.map bval)) (hn : n = l.length) : Bt W W.heap.size v l := by
  subst hn
  exact Bt.of_own h
set_option maxHeartbeats 8000000 in
set_option maxRecDepth 100000 in
theorem finalize1 (W : World) (N gp gm gs cp cm cs : Nat) (A : Option Addr) (c : Nat) (P T S : List UInt8) (hP : Rm W gp cp P) (hT : Cl W gm T) (hS : Cl W gs S) (hgp : gp < W.heap.size) (hgm : gm < W.heap.size) (hgs : gs < W.heap.size) (hm : gm ≠ gp) (hs : gs ≠ gp) (hN : N ≤ gp) (hl : (P ++ (T ++ S)).length < 4294967296) :
    Calls Try.prog 15 #[.agg #[.slice (some ⟨gp, 0, none⟩) P.length cp, .slice (some ⟨gm, 0, none⟩) T.length cm, .slice (some ⟨gs, 0, none⟩) S.length cs], .slice A 1 c] W fun e w' => ∃ v, e = .returned v ∧ Bt w' w'.heap.size v (P ++ (T ++ S)) ∧ Below N W w' ∧ Gr gp none W w' := by
  obtain ⟨i5, hi5, hz0, hz1, hz2⟩ := info_parts sz5b
  simp only [List.length_append] at hl
  have h3 : P.length + T.length < 4294967296 := by omega
  have h4 : P.length + T.length + S.length < 4294967296 := by omega
  have e1 : wrap64 ((P.length : Int) + (T.length : Int)) = (P.length : Int) + (T.length : Int) := wrap_two P.length T.length h3
  have e2 : wrap64 ((P.length : Int) + (T.length : Int) + (S.length : Int)) = (P.length : Int) + (T.length : Int) + (S.length : Int) := wrap_three P.length T.length S.length h4
  have HP := Lib.hid hP
  have HT := Lib.hid hT
  have HS := Lib.hid hS
  clear hP hT hS
  go_enter Try.func15, Try.ntmps15
  by_cases hr : P.length + T.length + S.length ≤ cp
  · have q : decide ((cp : Int) < (P.length : Int) + (T.length : Int) + (S.length : Int)) = false := dec_room hr
    have HR := Lib.hid hr
    clear hr hl h3 h4
    go_upto_region 6 with (fail)
    have HE := Lib.hid e2
    clear e1 e2 q
    have hA := heap_alloc_new W (.cells #[.slice (some ⟨gp, 0, none⟩) P.length cp, .slice (some ⟨gm, 0, none⟩) T.length cm, .slice (some ⟨gs, 0, none⟩) S.length cs] 49)
    have hAk : ∀ g, g < W.heap.size → (W.alloc (.cells #[.slice (some ⟨gp, 0, none⟩) P.length cp, .slice (some ⟨gm, 0, none⟩) T.length cm, .slice (some ⟨gs, 0, none⟩) S.length cs] 49)).heap[g]? = W.heap[g]? := fun g hg => Below.heap_alloc W _ g hg
    have hAb := (Below.refl N W).alloc (by omega) (.cells #[.slice (some ⟨gp, 0, none⟩) P.length cp, .slice (some ⟨gm, 0, none⟩) T.length cm, .slice (some ⟨gs, 0, none⟩) S.length cs] 49)
    have hAw := (Below.refl W.heap.size W).alloc (Nat.le_refl _) (.cells #[.slice (some ⟨gp, 0, none⟩) P.length cp, .slice (some ⟨gm, 0, none⟩) T.length cm, .slice (some ⟨gs, 0, none⟩) S.length cs] 49)
    have hAs : (W.alloc (.cells #[.slice (some ⟨gp, 0, none⟩) P.length cp, .slice (some ⟨gm, 0, none⟩) T.length cm, .slice (some ⟨gs, 0, none⟩) S.length cs] 49)).heap.size = W.heap.size + 1 := by simp
    have hAc : ∀ (g j : Nat), g < W.heap.size → (W.alloc (.cells #[.slice (some ⟨gp, 0, none⟩) P.length cp, .slice (some ⟨gm, 0, none⟩) T.length cm, .slice (some ⟨gs, 0, none⟩) S.length cs] 49)).cell? ⟨g, j, none⟩ = W.cell? ⟨g, j, none⟩ := fun g j hg => cell_of' (hAk g hg)
    have hAf : ∀ (g j : Nat), g < W.heap.size → (W.alloc (.cells #[.slice (some ⟨gp, 0, none⟩) P.length cp, .slice (some ⟨gm, 0, none⟩) T.length cm, .slice (some ⟨gs, 0, none⟩) S.length cs] 49)).frozen? ⟨g, j, none⟩ = W.frozen? ⟨g, j, none⟩ := fun g j hg => World.frozen?_of_block (hAk g hg)
    generalize W.alloc (.cells #[.slice (some ⟨gp, 0, none⟩) P.length cp, .slice (some ⟨gm, 0, none⟩) T.length cm, .slice (some ⟨gs, 0, none⟩) S.length cs] 49) = W1 at hA hAk hAb hAs hAc hAf hAw ⊢
    have hP1 : Rm W1 gp cp P := ⟨fun i hi => (hAc gp i hgp).trans (HP.out.cells i hi), HP.out.le, fun j hj => by rw [hAc gp j hgp]; exact HP.out.there j hj, fun j hj => (hAf gp j hgp).trans (HP.out.thaw j hj)⟩
    have hT1 : Cl W1 gm T := fun i hi => (hAc gm i hgm).trans (HT.out i hi)
    have hS1 : Cl W1 gs S := fun i hi => (hAc gs i hgs).trans (HS.out i hi)
    have d1 : W1.cell? ⟨W.heap.size, 1, none⟩ = some (.slice (some ⟨gm, 0, none⟩) T.length cm) := blk_cell hA 1
    have HP1 := Lib.hid hP1
    have HT1 := Lib.hid hT1
    have HS1 := Lib.hid hS1
    have HA := Lib.hid (⟨hA, hAb, hAs⟩ : _ ∧ _ ∧ _)
    have HAW := Lib.hid hAw
    clear hA hAk hAb hAs hAc hAf hAw hP1 hT1 hS1
    have d2 : (W1.setCells gp P.length (T.map bval)).cell? ⟨W.heap.size, 2, none⟩ = some (.slice (some ⟨gs, 0, none⟩) S.length cs) := (World.cell?_setCells_out gp _ _ W1 _ (fun e => absurd e (by show W.heap.size ≠ gp; omega))).trans (blk_cell HA.out.1 2)
    have HP2 := Lib.hid (HP1.out.app (m := T) (by have := HR.out; omega))
    have HS2 := Lib.hid (cl_other (o := P.length) (vs := T.map bval) HS1.out hs)
    go_wp2_with (first
      | (at_builtin; refine wpList_append_room rfl (.tmp 42) (.tmp 44) rfl (l := P) (m := T) rfl rfl rfl HP1.out HT1.out (by have := HR.out; omega) ?_)
      | (at_builtin; refine wpList_append_room rfl (.tmp 46) (.tmp 48) rfl (l := P ++ T) (m := S) (by simp) rfl rfl HP2.out HS2.out (by have := HR.out; simp; omega) ?_))
    go_ret
    have h3 := HP2.out.app (m := S) (by have := HR.out; simp; omega)
    refine ⟨_, rfl, ?_, ?_⟩
    · refine ⟨some ⟨gp, 0, none⟩, cp, by simp [Nat.add_assoc], by have := h3.le; simpa [Nat.add_assoc] using this, fun i hi => ⟨gp, 0, rfl, ?_, ?_⟩⟩
      · have h9 := (setCells_below gp (Nat.le_refl gp) (S.map bval) (P.length + T.length) (W1.setCells gp P.length (T.map bval))).size
        have h8 := (setCells_below gp (Nat.le_refl gp) (T.map bval) P.length W1).size
        have h7 := HA.out.2.2
        omega
      · have := h3.cells i (by simpa [Nat.add_assoc] using hi)
        rw [Nat.zero_add]
        simpa [Nat.add_assoc] using this
    · have hb : Below N W ((W1.setCells gp P.length (T.map bval)).setCells gp (P.length + T.length) (S.map bval)) := HA.out.2.1.trans ((setCells_below gp hN _ _ _).trans (setCells_below gp hN _ _ _))
      exact ⟨hb, hb.os, hb.tape, hb.output, hb.size, fun g hg hne _ => ((setCells_far _ _ g hne).trans (setCells_far _ _ g hne)).trans (HAW.out.block g hg)⟩
  · have q : decide ((cp : Int) < (P.length : Int) + (T.length : Int) + (S.length : Int)) = true := dec_grow hr
    have HR := Lib.hid hr
    have HL := Lib.hid h4
    clear hr hl h3 h4
    go_upto_region 5 with (fail)
    have HE := Lib.hid e2
    clear e1 e2 q
    have hA := heap_alloc_new W (.cells #[.slice (some ⟨gp, 0, none⟩) P.length cp, .slice (some ⟨gm, 0, none⟩) T.length cm, .slice (some ⟨gs, 0, none⟩) S.length cs] 49)
    have hAk : ∀ g, g < W.heap.size → (W.alloc (.cells #[.slice (some ⟨gp, 0, none⟩) P.length cp, .slice (some ⟨gm, 0, none⟩) T.length cm, .slice (some ⟨gs, 0, none⟩) S.length cs] 49)).heap[g]? = W.heap[g]? := fun g hg => Below.heap_alloc W _ g hg
    have hAb := (Below.refl N W).alloc (by omega) (.cells #[.slice (some ⟨gp, 0, none⟩) P.length cp, .slice (some ⟨gm, 0, none⟩) T.length cm, .slice (some ⟨gs, 0, none⟩) S.length cs] 49)
    have hAw := (Below.refl W.heap.size W).alloc (Nat.le_refl _) (.cells #[.slice (some ⟨gp, 0, none⟩) P.length cp, .slice (some ⟨gm, 0, none⟩) T.length cm, .slice (some ⟨gs, 0, none⟩) S.length cs] 49)
    have hAs : (W.alloc (.cells #[.slice (some ⟨gp, 0, none⟩) P.length cp, .slice (some ⟨gm, 0, none⟩) T.length cm, .slice (some ⟨gs, 0, none⟩) S.length cs] 49)).heap.size = W.heap.size + 1 := by simp
    have hAc : ∀ (g j : Nat), g < W.heap.size → (W.alloc (.cells #[.slice (some ⟨gp, 0, none⟩) P.length cp, .slice (some ⟨gm, 0, none⟩) T.length cm, .slice (some ⟨gs, 0, none⟩) S.length cs] 49)).cell? ⟨g, j, none⟩ = W.cell? ⟨g, j, none⟩ := fun g j hg => cell_of' (hAk g hg)
    have hAf : ∀ (g j : Nat), g < W.heap.size → (W.alloc (.cells #[.slice (some ⟨gp, 0, none⟩) P.length cp, .slice (some ⟨gm, 0, none⟩) T.length cm, .slice (some ⟨gs, 0, none⟩) S.length cs] 49)).frozen? ⟨g, j, none⟩ = W.frozen? ⟨g, j, none⟩ := fun g j hg => World.frozen?_of_block (hAk g hg)
    generalize W.alloc (.cells #[.slice (some ⟨gp, 0, none⟩) P.length cp, .slice (some ⟨gm, 0, none⟩) T.length cm, .slice (some ⟨gs, 0, none⟩) S.length cs] 49) = W1 at hA hAk hAb hAs hAc hAf hAw ⊢
    have hP1 : Rm W1 gp cp P := ⟨fun i hi => (hAc gp i hgp).trans (HP.out.cells i hi), HP.out.le, fun j hj => by rw [hAc gp j hgp]; exact HP.out.there j hj, fun j hj => (hAf gp j hgp).trans (HP.out.thaw j hj)⟩
    have hT1 : Cl W1 gm T := fun i hi => (hAc gm i hgm).trans (HT.out i hi)
    have hS1 : Cl W1 gs S := fun i hi => (hAc gs i hgs).trans (HS.out i hi)
    have d1 : W1.cell? ⟨W.heap.size, 1, none⟩ = some (.slice (some ⟨gm, 0, none⟩) T.length cm) := blk_cell hA 1
    have HP1 := Lib.hid hP1
    have HT1 := Lib.hid hT1
    have HS1 := Lib.hid hS1
    have HA := Lib.hid (⟨hA, hAb, hAs⟩ : _ ∧ _ ∧ _)
    have HAW := Lib.hid hAw
    clear hA hAk hAb hAs hAc hAf hAw hP1 hT1 hS1
    go_wp2_with (at_make; refine wpList_make_own _ rfl _ _ 47 rfl N 5 i5 (.int .u8 0) 1 Try.underlying47 hi5 hz0 hz1 .i64 .i64 _ (P.length + T.length + S.length) rfl rfl (HE.out.trans (by simp)) (by rw [hz2]; have := HL.out; omega) (by have := HL.out; unfold maxLen; omega) (by have := HA.out.2.2; omega) ?_)
    intro w2 hown2 hg2
    have hk2 : ∀ g, g < W1.heap.size → w2.heap[g]? = W1.heap[g]? := fun g hg => hg2.block g hg (by simp)
    have HG2 := Lib.hid hg2
    have HO2 := Lib.hid hown2
    have HK2 := Lib.hid hk2
    have hz1s := HA.out.2.2
    have HP2 := Lib.hid (show Cl w2 gp P from fun i hi => (cell_of' (hk2 gp (by omega))).trans (HP1.out.cells i hi))
    have HT2 := Lib.hid (show Cl w2 gm T from fun i hi => (cell_of' (hk2 gm (by omega))).trans (HT1.out i hi))
    have HS2 := Lib.hid (show Cl w2 gs S from fun i hi => (cell_of' (hk2 gs (by omega))).trans (HS1.out i hi))
    have HA2 := Lib.hid ((hk2 W.heap.size (by omega)).trans HA.out.1)
    clear hown2 hg2 hk2 hz1s
    go_wp2_with (at_builtin; refine wpList_append_fits _ rfl (.tmp 39) (.tmp 40) 47 rfl N 5 i5 1 Try.underlying47 hi5 hz1 W1.heap.size 0 (P.length + T.length + S.length) [] rfl HO2.out ⟨gp, 0, none⟩ P.length cp (P.map bval) rfl (by simp) HP2.out.news (one_bval P) (by omega) ?_)
    intro w3 hown3 hg3
    have hz1s := HA.out.2.2
    have hs2 := HG2.out.size
    have HO3 := Lib.hid (show w3.ownsRow N 5 1 (.slice (some ⟨W1.heap.size, 0, none⟩) P.length (P.length + T.length + S.length)) P.length (P.map bval) by simpa using hown3)
    have hk3 : ∀ g, g < W1.heap.size → w3.heap[g]? = w2.heap[g]? := fun g hg => hg3.block g (by omega) (by simp; omega)
    have HT3 := Lib.hid (show Cl w3 gm T from fun i hi => (cell_of' (hk3 gm (by omega))).trans (HT2.out i hi))
    have HS3 := Lib.hid (show Cl w3 gs S from fun i hi => (cell_of' (hk3 gs (by omega))).trans (HS2.out i hi))
    have ha3 := (hk3 W.heap.size (by omega)).trans HA2.out
    have HA3 := Lib.hid ha3
    have d1 : w3.cell? ⟨W.heap.size, 1, none⟩ = some (.slice (some ⟨gm, 0, none⟩) T.length cm) := blk_cell ha3 1
    have HK3 := Lib.hid hk3
    have HG3 := Lib.hid hg3
    have HS32 := Lib.hid (Nat.le_trans hs2 hg3.size)
    clear hown3 hg3 hk3 hz1s hs2 ha3
    go_wp2_with (at_builtin; refine wpList_append_fits _ rfl (.tmp 42) (.tmp 44) 47 rfl N 5 i5 1 Try.underlying47 hi5 hz1 W1.heap.size P.length (P.length + T.length + S.length) (P.map bval) rfl HO3.out ⟨gm, 0, none⟩ T.length cm (T.map bval) rfl (by simp) HT3.out.news (one_bval T) (by omega) ?_)
    intro w4 hown4 hg4
    have hz1s := HA.out.2.2
    have hs3 := HS32.out
    have HO4 := Lib.hid (show w4.ownsRow N 5 1 (.slice (some ⟨W1.heap.size, 0, none⟩) (P.length + T.length) (P.length + T.length + S.length)) (P.length + T.length) (P.map bval ++ T.map bval) from hown4)
    have hk4 : ∀ g, g < W1.heap.size → w4.heap[g]? = w3.heap[g]? := fun g hg => hg4.block g (by omega) (by simp; omega)
    have HS4 := Lib.hid (show Cl w4 gs S from fun i hi => (cell_of' (hk4 gs (by omega))).trans (HS3.out i hi))
    have ha4 := (hk4 W.heap.size (by omega)).trans HA3.out
    have d2 : w4.cell? ⟨W.heap.size, 2, none⟩ = some (.slice (some ⟨gs, 0, none⟩) S.length cs) := blk_cell ha4 2
    have HK4 := Lib.hid hk4
    have HG4 := Lib.hid hg4
    have HS42 := Lib.hid (Nat.le_trans hs3 hg4.size)
    clear hown4 hg4 hk4 hz1s hs3 ha4 d1
    go_wp2_with (at_builtin; refine wpList_append_fits _ rfl (.tmp 46) (.tmp 48) 47 rfl N 5 i5 1 Try.underlying47 hi5 hz1 W1.heap.size (P.length + T.length) (P.length + T.length + S.length) (P.map bval ++ T.map bval) rfl HO4.out ⟨gs, 0, none⟩ S.length cs (S.map bval) rfl (by simp) HS4.out.news (one_bval S) (by omega) ?_)
    intro w5 hown5 hg5
    have HO5 := Lib.hid (show w5.ownsRow N 5 1 (.slice (some ⟨W1.heap.size, 0, none⟩) (P.length + T.length + S.length) (P.length + T.length + S.length)) (P.length + T.length + S.length) ((P ++ (T ++ S)).map bval) by simpa using hown5)
    have HG5 := Lib.hid hg5
    clear hown5 hg5 d2
    go_wp2_with (fail)
    go_ret
    refine ⟨_, rfl, own_bt HO5.out (by simp [Nat.add_assoc]), ?_⟩
    have hz1s := HA.out.2.2
    have hs3 := HS32.out
    have hs4 := HS42.out
    have hs2 := HG2.out.size
    have b2 : Below N W1 w2 := ⟨HG2.out.os, HG2.out.tape, HG2.out.output, HG2.out.size, fun g hg => HG2.out.block g (by omega) (by simp)⟩
    have b3 : Below N w2 w3 := ⟨HG3.out.os, HG3.out.tape, HG3.out.output, HG3.out.size, fun g hg => HG3.out.block g (by omega) (by simp; omega)⟩
    have b4 : Below N w3 w4 := ⟨HG4.out.os, HG4.out.tape, HG4.out.output, HG4.out.size, fun g hg => HG4.out.block g (by omega) (by simp; omega)⟩
    have b5 : Below N w4 w5 := ⟨HG5.out.os, HG5.out.tape, HG5.out.output, HG5.out.size, fun g hg => HG5.out.block g (by omega) (by simp; omega)⟩
    have bb := HA.out.2.1.trans (((b2.trans b3).trans b4).trans b5)
    exact ⟨bb, bb.os, bb.tape, bb.output, bb.size, fun g hg _ _ => ((((HG5.out.block g (by omega) (by simp; omega)).trans (HG4.out.block g (by omega) (by simp; omega))).trans (HG3.out.block g (by omega) (by simp; omega))).trans (HG2.out.block g (by omega) (by simp))).trans (HAW.out.block g hg)⟩
end Go.Proofs.Ytdhaifcjhmmdlaa.fnFinalize
