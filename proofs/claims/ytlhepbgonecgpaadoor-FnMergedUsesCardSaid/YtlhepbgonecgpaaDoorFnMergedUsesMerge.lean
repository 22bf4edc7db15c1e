/-
  FnMergedUses: the walk of ast.MergeSymbols: it merges as the plain relation `Mg` says.
  Conditions: at most 200 symbols, each of which stands for one.
-/
import Derived.Test.YtlhepbgonecgpaaDoorFnMergedUsesMem
import Derived.Test.YtlhepbgonecgpaaDoorWEqStruct
namespace Go.Proofs.YtlhepbgonecgpaaDoor.fnMergedUses
open Go.RowKit Go.Proofs.YtlhepbgonecgpaaDoorW.PrintWords Go.Proofs.YtlhepbgonecgpaaDoorW.PrintLast Go.Proofs.YtlhepbgonecgpaaDoorW.PrintMore Go.Proofs.YtlhepbgonecgpaaDoor.PFnMergedUses
set_option linter.unusedVariables false
set_option linter.unusedSimpArgs false

theorem eqA49 (d : Nat) (w : World) (x0 y0 : Int) (x1 y1 : Int) :
    (Op.equalIn (d + 2) 49 (.agg #[.int .u32 x0, .int .u32 x1]) (.agg #[.int .u32 y0, .int .u32 y1])).run Tryd.prog w = .ok (x0 == y0 && (x1 == y1)) w := by
  refine eqA_of Tryd.underlying49 (by kernel_rfl) ?_
  refine eqf_cons (by rfl) (by go_simp; rfl) (by go_simp; rfl) (by go_simp) ?_
  exact eqf_last (by rfl) (by go_simp; rfl) (by go_simp; rfl) (by go_simp)
/-- two references are the same -/
def sameR (x0 x1 y0 y1 : Int) : Bool := x0 == y0 && (x1 == y1)
theorem eqS (d : Nat) (w : World) (x0 y0 : Int) (x1 y1 : Int) :
    (Op.equalIn (d + 2) 49 (.agg #[.int .u32 x0, .int .u32 x1]) (.agg #[.int .u32 y0, .int .u32 y1])).run Tryd.prog w = .ok (sameR x0 x1 y0 y1) w := eqA49 d w _ _ _ _
attribute [local go_sem high] eqS
theorem same_self (x0 x1 : Int) : sameR x0 x1 x0 x1 = true := by unfold sameR; simp
theorem same_not {x0 x1 y0 y1 : Int} (h : x1 ≠ y1) : sameR x0 x1 y0 y1 = false := by unfold sameR; simp [h]
theorem info49 : (Tryd.prog.info? 49).map (·.size) = some 2 := by kernel_rfl
theorem two {w : World} {g : Nat} {a b : Value} (h : w.heap[g]? = some (.cells #[a, b] 49 (0, 0))) (x y : Value) : ((w.setCell ⟨g, 0, none⟩ x).setCell ⟨g, 1, none⟩ y).heap[g]? = some (.cells #[x, y] 49 (0, 0)) :=
  blk_put (blk_put h 0 x (cs' := #[x, b]) rfl) 1 y (cs' := #[x, y]) rfl

theorem alloc_at {W : World} {o : Obj} {k : Nat} (h : W.heap.size = k) : (W.alloc o).heap[k]? = some o := by subst h; exact heap_alloc_new W o
theorem alloc_old {W : World} {o x : Obj} {k : Nat} (h : W.heap[k]? = some x) : (W.alloc o).heap[k]? = some x := (Below.heap_alloc _ _ _ (Array.getElem?_eq_some_iff.1 h).1).trans h
/-- what a merge leaves, in plain words -/
structure Pl (L : List Sy) (rk : Nat → Nat) (i j r0 r1 q : Nat) (L' : List Sy) (rk' : Nat → Nat) : Prop where
  mg : Mg L r0 r1 L'
  rank : Rank L' rk'
  mono : ∀ x y r, R L x r → R L y r → rk x < rk y → rk' x < rk' y
  le0 : rk' q ≤ rk' i
  le1 : rk' q ≤ rk' j
  root : R L' q r1
  lt : q < L'.length
/-- what a merge leaves -/
def Mrg (W : World) (SB B cap : Nat) (L : List Sy) (rk : Nat → Nat) (i j r0 r1 : Nat) (e : Ending) (w' : World) : Prop := ∃ (q : Nat) (L' : List Sy) (rk' : Nat → Nat), e = .returned (.agg #[.int .u32 0, .int .u32 q]) ∧ Pl L rk i j r0 r1 q L' rk' ∧ Tab w' SB B cap L' ∧ Kp B W w'
theorem Pl.same {L : List Sy} {rk : Nat → Nat} {i r : Nat} (hk : Rank L rk) (hi : R L i r) : Pl L rk i i r r i L rk :=
  ⟨Mg.same L r, hk, fun _ _ _ _ _ h => h, Nat.le_refl _, Nat.le_refl _, hi, by obtain ⟨n, hn⟩ := hi; exact hn.lt⟩
/-- a merge of what the first one stands for, and its link made short -/
theorem Pl.left {L L' : List Sy} {rk rk' : Nat → Nat} {i j k r0 r1 q : Nat} (hl : lk L i = some k) (hk : Rank L rk) (hi : R L i r0) (h : Pl L rk k j r0 r1 q L' rk') : Pl L rk i j r0 r1 q (setL L' i q) rk' := by
  have hi' : R L' i r1 := by
    obtain ⟨n, hn⟩ := hi
    have := h.mg.rt hn
    rwa [if_pos rfl] at this
  have h1 : rk' k < rk' i := h.mono k i r0 (R.step hl hi) hi (hk i k hl)
  have hlt : rk' q < rk' i := Nat.lt_of_le_of_lt h.le0 h1
  have hil : i < L'.length := by rw [h.mg.len]; exact lk_lt hl
  exact ⟨h.mg.short h.rank hi' h.root hlt, h.rank.short hil hlt, h.mono, Nat.le_of_lt hlt, h.le1, compress h.rank hi' h.root hlt _ _ _ rfl h.root, by rw [setL_len]; exact h.lt⟩
theorem Pl.right {L L' : List Sy} {rk rk' : Nat → Nat} {i j k r0 r1 q : Nat} (hl : lk L j = some k) (hk : Rank L rk) (hj : R L j r1) (h : Pl L rk i k r0 r1 q L' rk') : Pl L rk i j r0 r1 q (setL L' j q) rk' := by
  have hj' : R L' j r1 := by
    obtain ⟨n, hn⟩ := hj
    have := h.mg.rt hn
    by_cases e : r1 = r0
    · rwa [if_pos e] at this
    · rwa [if_neg e] at this
  have h1 : rk' k < rk' j := h.mono k j r1 (R.step hl hj) hj (hk j k hl)
  have hlt : rk' q < rk' j := Nat.lt_of_le_of_lt h.le1 h1
  have hjl : j < L'.length := by rw [h.mg.len]; exact lk_lt hl
  exact ⟨h.mg.short h.rank hj' h.root hlt, h.rank.short hjl hlt, h.mono, h.le0, Nat.le_of_lt hlt, compress h.rank hj' h.root hlt _ _ _ rfl h.root, by rw [setL_len]; exact h.lt⟩
/-- a merge of two that stand for themselves -/
theorem Pl.join {L : List Sy} {rk : Nat → Nat} {i j : Nat} (hk : Rank L rk) (hi : Rt L 0 i i) (hj : Rt L 0 j j) (hne : i ≠ j) (f : Sy → Sy) (hf : ∀ s, (f s).link = s.link) (hu : ∀ s, L[j]? = some s → (f s).uses = w32 (s.uses + us L i)) :
    ∃ rk', Pl L rk i j i j j (setC (setL L i j) j f) rk' := by
  obtain ⟨rk', h1, h2, h3⟩ := rank_union hk hi hj hne
  have hm := Mg.union hi hj hne f hf hu
  refine ⟨rk', hm, fun x y h => ?_, h2, h3, Nat.le_refl _, ?_, by rw [hm.len]; exact hj.lt⟩
  · rw [lk_setC _ _ _ _ hf] at h
    exact h1 x y h
  · have := hm.rt hj
    rwa [if_neg (fun e => hne e.symm)] at this
/-- the call's own blocks, and the table -/
structure Fr (W W1 : World) (SB B cap : Nat) (i j : Nat) (L : List Sy) : Prop where
  m : W1.heap[W.heap.size]? = some (.cells #[.slice (some ⟨SB, 0, none⟩) 1 1] 46 (0, 0))
  o : W1.heap[W.heap.size + 1]? = some (.cells #[.int .u32 0, .int .u32 i] 49 (0, 0))
  n : W1.heap[W.heap.size + 1 + 1]? = some (.cells #[.int .u32 0, .int .u32 j] 49 (0, 0))
  r : W1.heap[W.heap.size + 1 + 1 + 1]? = some (.cells #[.int .u32 0, .int .u32 0] 49 (0, 0))
  tab : Tab W1 SB B cap L
  kp : Kp B W W1
  lt : B < W.heap.size
section
variable {W W1 W2 : World} {SB B cap i j : Nat} {L L2 : List Sy}
theorem Fr.size (h : Fr W W1 SB B cap i j L) : W.heap.size + 1 + 1 + 1 < W1.heap.size := (Array.getElem?_eq_some_iff.1 h.r).1
theorem Fr.drewN (h : Fr W W1 SB B cap i j L) (n : Nat) : Fr W (W1.drewN n) SB B cap i j L := ⟨h.m, h.o, h.n, h.r, h.tab.drewN n, h.kp.drewN n, h.lt⟩
theorem Fr.call (h : Fr W W1 SB B cap i j L) (k : Kp B W1 W2) (t : Tab W2 SB B cap L2) : Fr W W2 SB B cap i j L2 := by
  have hl := h.lt
  exact ⟨k.blk h.m (by omega), k.blk h.o (by omega), k.blk h.n (by omega), k.blk h.r (by omega), t, h.kp.trans k, hl⟩
theorem Fr.below (h : Fr W W1 SB B cap i j L) (hb : Below W1.heap.size W1 W2) : Fr W W2 SB B cap i j L := h.call (Kp.of_below (by have := h.lt; have := h.size; omega) hb) (h.tab.keep hb)
theorem Fr.start (ht : Tab W SB B cap L) : Fr W ((((W.alloc (.cells #[.slice (some ⟨SB, 0, none⟩) 1 1] 46)).alloc (.cells #[.int .u32 0, .int .u32 i] 49)).alloc (.cells #[.int .u32 0, .int .u32 j] 49)).alloc (.cells #[.int .u32 0, .int .u32 0] 49)) SB B cap i j L := by
  have hb : Below W.heap.size W ((((W.alloc (.cells #[.slice (some ⟨SB, 0, none⟩) 1 1] 46)).alloc (.cells #[.int .u32 0, .int .u32 i] 49)).alloc (.cells #[.int .u32 0, .int .u32 j] 49)).alloc (.cells #[.int .u32 0, .int .u32 0] 49)) := ((((Below.refl _ _).alloc (Nat.le_refl _) _).alloc (by simp) _).alloc (by simp; omega) _).alloc (by simp; omega) _
  refine ⟨?_, ?_, ?_, ?_, ht.keep hb, Kp.of_below (Nat.le_of_lt ht.blt) hb, ht.blt⟩
  · exact alloc_old (alloc_old (alloc_old (alloc_at rfl)))
  · exact alloc_old (alloc_old (alloc_at (by simp)))
  · exact alloc_old (alloc_at (by simp))
  · exact alloc_at (by simp)
theorem Fr.link (h : Fr W W1 SB B cap i j L) {x : Nat} (hx : x < L.length) (k : Nat) : Fr W ((W1.setCell ⟨B, x * 10 + 2, none⟩ (.int .u32 0)).setCell ⟨B, x * 10 + 3, none⟩ (.int .u32 k)) SB B cap i j (setL L x k) :=
  h.call (((Kp.refl B W1).set _ _).set _ _) (h.tab.setLink hx)
theorem Fr.lnk {k x : Nat} (h : Fr W W1 SB B cap i j (setL L x k)) (hx : x < L.length) : W1.cell? ⟨B, x * 10 + 2, none⟩ = some (.int .u32 0) ∧ W1.cell? ⟨B, x * 10 + 3, none⟩ = some (.int .u32 k) := by
  have hs : (setL L x k)[x]? = some { L[x] with link := some k } := by
    unfold setL
    rw [mod_get, if_pos rfl, List.getElem?_eq_getElem hx]
    rfl
  exact ⟨h.tab.cell hs (by decide : 2 < 10), h.tab.cell hs (by decide : 3 < 10)⟩
/-- the result's cells are set, and the call ends -/
theorem Fr.done (h : Fr W W1 SB B cap i j L) (x y : Value) : ((W1.setCell ⟨W.heap.size + 1 + 1 + 1, 0, none⟩ x).setCell ⟨W.heap.size + 1 + 1 + 1, 1, none⟩ y).heap[W.heap.size + 1 + 1 + 1]? = some (.cells #[x, y] 49 (0, 0)) ∧ Tab ((W1.setCell ⟨W.heap.size + 1 + 1 + 1, 0, none⟩ x).setCell ⟨W.heap.size + 1 + 1 + 1, 1, none⟩ y) SB B cap L ∧ Kp B W ((W1.setCell ⟨W.heap.size + 1 + 1 + 1, 0, none⟩ x).setCell ⟨W.heap.size + 1 + 1 + 1, 1, none⟩ y) := by
  have hl := h.lt
  have hs := h.tab.slt
  have far : ∀ k, k ≠ W.heap.size + 1 + 1 + 1 → ((W1.setCell ⟨W.heap.size + 1 + 1 + 1, 0, none⟩ x).setCell ⟨W.heap.size + 1 + 1 + 1, 1, none⟩ y).heap[k]? = W1.heap[k]? := fun k hk => (Below.heap_setCell _ _ _ _ (by show k ≠ _; exact hk)).trans (Below.heap_setCell W1 _ _ _ (by show k ≠ _; exact hk))
  refine ⟨two h.r x y, ?_, ((h.kp.far (by omega) (by omega) _ _).far (by omega) (by omega) _ _)⟩
  obtain ⟨cs, hc, hr⟩ := h.tab.row
  have hsne : SB ≠ W.heap.size + 1 + 1 + 1 := by
    intro e
    have h1 := h.tab.sb
    rw [e, h.r] at h1
    cases h1
  exact ⟨(far SB hsne).trans h.tab.sb, ⟨cs, (far B (by omega)).trans hc, hr⟩, (cell_of (far 0 (by omega))).trans h.tab.g0, (cell_of (far 0 (by omega))).trans h.tab.g1, h.tab.ne, h.tab.b0, h.tab.n⟩
end
set_option maxHeartbeats 16000000 in
set_option maxRecDepth 100000 in
theorem merge_same (W : World) (SB B cap i : Nat) (L : List Sy) (rk : Nat → Nat) (r : Nat) (hk : Rank L rk) (hr : R L i r) (ht : Tab W SB B cap L) :
    Calls Tryd.prog 17 #[.agg #[.slice (some ⟨SB, 0, none⟩) 1 1], .agg #[.int .u32 0, .int .u32 i], .agg #[.int .u32 0, .int .u32 i]] W (Mrg W SB B cap L rk i i r r) := by
  have HT := Lib.hid ht
  have HP := Lib.hid (Pl.same hk hr)
  clear ht hk hr
  have ss := same_self 0 (i : Int)
  go_enter Tryd.func17, Tryd.ntmps17
  go_wp2_with (fail)
  have hb : Below W.heap.size W ((((W.alloc (.cells #[.slice (some ⟨SB, 0, none⟩) 1 1] 46)).alloc (.cells #[.int .u32 0, .int .u32 i] 49)).alloc (.cells #[.int .u32 0, .int .u32 i] 49)).alloc (.cells #[.int .u32 0, .int .u32 i] 49)) := ((((Below.refl _ _).alloc (Nat.le_refl _) _).alloc (by simp) _).alloc (by simp; omega) _).alloc (by simp; omega) _
  exact bodyPost_ret (results_cell_row rfl _ _ (W.heap.size + 1 + 1 + 1) 49 _ (0, 0) _ rfl (alloc_at (by simp)) Tryd.underlying49 rfl (by rw [info49]; rfl)) rfl ⟨i, L, rk, rfl, HP.out, HT.out.keep hb, Kp.of_below (Nat.le_of_lt HT.out.blt) hb⟩
theorem lk_none {L : List Sy} {i : Nat} {s : Sy} (hs : L[i]? = some s) : lk L i = s.link := by unfold lk; rw [hs]; rfl
set_option maxHeartbeats 16000000 in
set_option maxRecDepth 100000 in
theorem merge (SB B cap : Nat) : ∀ (m i j r0 r1 : Nat) (W : World) (L : List Sy) (rk : Nat → Nat), rk i + rk j = m → Rank L rk → R L i r0 → R L j r1 → Tab W SB B cap L →
    Calls Tryd.prog 17 #[.agg #[.slice (some ⟨SB, 0, none⟩) 1 1], .agg #[.int .u32 0, .int .u32 i], .agg #[.int .u32 0, .int .u32 j]] W (Mrg W SB B cap L rk i j r0 r1) := by
  intro m
  induction m using Nat.strongRecOn with
  | _ m ih =>
    intro i j r0 r1 W L rk hm hk hi hj ht
    by_cases hij : i = j
    · subst hij
      obtain rfl := R.det hi hj
      exact merge_same W SB B cap i L rk r0 hk hi ht
    · have hil : i < L.length := by obtain ⟨n, hn⟩ := hi; exact hn.lt
      have hjl : j < L.length := by obtain ⟨n, hn⟩ := hj; exact hn.lt
      obtain ⟨si, hsi⟩ : ∃ s, L[i]? = some s := ⟨_, List.getElem?_eq_getElem hil⟩
      obtain ⟨sj, hsj⟩ : ∃ s, L[j]? = some s := ⟨_, List.getElem?_eq_getElem hjl⟩
      have hli := lk_none hsi
      have hlj := lk_none hsj
      have hn := ht.n
      have ne1 : sameR 0 (i : Int) 0 (j : Int) = false := same_not (by omega)
      have hF0 := Fr.start (i := i) (j := j) ht
      have HF0 := Lib.hid hF0
      have IH := Lib.hid ih
      have HKR := Lib.hid hk
      have HI := Lib.hid hi
      have HJ := Lib.hid hj
      have HSI := Lib.hid hsi
      have HSJ := Lib.hid hsj
      have HM := Lib.hid hm
      clear hF0 ih hk hi hj hsi hsj ht hm
      cases hlki : si.link with
      | some k =>
        rw [hlki] at hli
        have HLI := Lib.hid hli
        have HLK := Lib.hid hlki
        clear hli hlj hlki
        have hg := get _ SB B cap i L HF0.out.tab hil
        have HG := Lib.hid hg
        clear hg
        go_enter Tryd.func17, Tryd.ntmps17
        go_wp2_with (fail)
        refine (HG.out).mono ?_
        rintro e w1 ⟨rfl, hb1⟩
        have HF1 := Lib.hid (HF0.out.below hb1)
        clear HG HF0 hb1
        have a2 : w1.cell? ⟨B, i * 10 + 2, none⟩ = some (.int .u32 0) := by rw [HF1.out.tab.cell HSI.out (by decide : 2 < 10)]; simp [cellsS, HLK.out, lk0]
        have a3 : w1.cell? ⟨B, i * 10 + 3, none⟩ = some (.int .u32 k) := by rw [HF1.out.tab.cell HSI.out (by decide : 3 < 10)]; simp [cellsS, HLK.out, lk1]
        have g0 := HF1.out.tab.g0
        have g1 := HF1.out.tab.g1
        have kn : k < L.length := by
          have hr := R.step HLI.out HI.out
          obtain ⟨n, hn⟩ := hr
          exact hn.lt
        have nk : sameR 0 (k : Int) 4294967295 4294967295 = false := same_not (by omega)
        go_wp2_with (fail)
        go_quiet (fail)
        have hx := HF1.out.drewN nq
        generalize w1.drewN nq = W2 at hx ⊢
        clear a2 a3 g0 g1 HF1 nk
        have HF2 := Lib.hid hx
        clear hx
        have a2 : W2.cell? ⟨B, i * 10 + 2, none⟩ = some (.int .u32 0) := by rw [HF2.out.tab.cell HSI.out (by decide : 2 < 10)]; simp [cellsS, HLK.out, lk0]
        have a3 : W2.cell? ⟨B, i * 10 + 3, none⟩ = some (.int .u32 k) := by rw [HF2.out.tab.cell HSI.out (by decide : 3 < 10)]; simp [cellsS, HLK.out, lk1]
        have m0 : W2.cell? ⟨W.heap.size, 0, none⟩ = some (.slice (some ⟨SB, 0, none⟩) 1 1) := blk_cell HF2.out.m 0
        have o0 : W2.cell? ⟨W.heap.size + 1, 0, none⟩ = some (.int .u32 0) := blk_cell HF2.out.o 0
        have o1 : W2.cell? ⟨W.heap.size + 1, 1, none⟩ = some (.int .u32 i) := blk_cell HF2.out.o 1
        have n0 : W2.cell? ⟨W.heap.size + 1 + 1, 0, none⟩ = some (.int .u32 0) := blk_cell HF2.out.n 0
        have n1 : W2.cell? ⟨W.heap.size + 1 + 1, 1, none⟩ = some (.int .u32 j) := blk_cell HF2.out.n 1
        have hFD : Fr W W2.drew SB B cap i j L := HF2.out.drewN 1
        have HFD := Lib.hid hFD
        have HIH := Lib.hid (IH.out (rk k + rk j) (by have := HKR.out i k HLI.out; have := HM.out; omega) k j r0 r1 W2.drew L rk rfl HKR.out (R.step HLI.out HI.out) HJ.out hFD.tab)
        clear hFD
        go_wp2_with (fail)
        go_region_with (go_at_call 17; refine (HIH.out).mono ?_; rintro e w5 ⟨q, L2, rk2, rfl, hp, ht5, hk5⟩; have hF5 := HFD.out.call hk5 ht5; have hx2 : ∃ v, w5.cell? ⟨B, i * 10 + 2, none⟩ = some v := (by have hl : i < L2.length := (by rw [hp.mg.len]; assumption); exact ⟨_, hF5.tab.cell (List.getElem?_eq_getElem hl) (by decide : 2 < 10)⟩); have hx3 : ∃ v, w5.cell? ⟨B, i * 10 + 3, none⟩ = some v := (by have hl : i < L2.length := (by rw [hp.mg.len]; assumption); exact ⟨_, hF5.tab.cell (List.getElem?_eq_getElem hl) (by decide : 3 < 10)⟩); obtain ⟨v2, y2⟩ := hx2; obtain ⟨v3, y3⟩ := hx3; have y4 := hF5.tab.fz (i * 10 + 2); have y5 := hF5.tab.fz (i * 10 + 3); have HF5 := Lib.hid hF5; have HP5 := Lib.hid hp; clear hF5 hp ht5 hk5)
        all_goals
          have hl2 : i < L2.length := by rw [HP5.out.mg.len]; assumption
          have hx5 := HF5.out.link hl2 q
          generalize (w5.setCell ⟨B, i * 10 + 2, none⟩ (.int .u32 0)).setCell ⟨B, i * 10 + 3, none⟩ (.int .u32 q) = W6 at hx5 ⊢
          have HP6 := Lib.hid (Pl.left HLI.out HKR.out HI.out HP5.out)
          have HF6 := Lib.hid hx5
          clear y2 y3 y4 y5 HF5 HP5 hx5 a2 a3 m0 o0 o1 n0 n1 HF2 HFD HIH
          obtain ⟨b2, b3⟩ := HF6.out.lnk hl2
          have q1 : W6.cell? ⟨W.heap.size + 1 + 1 + 1, 0, none⟩ = some (.int .u32 0) := blk_cell HF6.out.r 0
          have q2 : W6.cell? ⟨W.heap.size + 1 + 1 + 1, 1, none⟩ = some (.int .u32 0) := blk_cell HF6.out.r 1
          have q3 : W6.frozen? ⟨W.heap.size + 1 + 1 + 1, 0, none⟩ = false := Lib.frozen_of_heap HF6.out.r 0
          have q4 : W6.frozen? ⟨W.heap.size + 1 + 1 + 1, 1, none⟩ = false := Lib.frozen_of_heap HF6.out.r 1
          have HD := Lib.hid (HF6.out.done (.int .u32 0) (.int .u32 q))
          go_wp2_with (fail)
          exact bodyPost_ret (results_cell_row rfl _ _ (W.heap.size + 1 + 1 + 1) 49 _ (0, 0) _ rfl HD.out.1 Tryd.underlying49 rfl (by rw [info49]; rfl)) rfl ⟨q, _, rk2, rfl, HP6.out, HD.out.2.1, HD.out.2.2⟩
      | none =>
        rw [hlki] at hli
        have HLI := Lib.hid hli
        have HLKI := Lib.hid hlki
        clear hli hlki
        have hr0 : r0 = i := R.det HI.out ⟨0, .here hil HLI.out⟩
        subst hr0
        have hg := get _ SB B cap r0 L HF0.out.tab hil
        have HG := Lib.hid hg
        clear hg
        cases hlkj : sj.link with
        | some k =>
          rw [hlkj] at hlj
          have HLJ := Lib.hid hlj
          have HLK := Lib.hid hlkj
          clear hlj hlkj
          go_enter Tryd.func17, Tryd.ntmps17
          go_wp2_with (fail)
          refine (HG.out).mono ?_
          rintro e w1 ⟨rfl, hb1⟩
          have HF1 := Lib.hid (HF0.out.below hb1)
          clear HG HF0 hb1
          have a2 : w1.cell? ⟨B, r0 * 10 + 2, none⟩ = some (.int .u32 4294967295) := by rw [HF1.out.tab.cell HSI.out (by decide : 2 < 10)]; simp [cellsS, HLKI.out, lk0]
          have a3 : w1.cell? ⟨B, r0 * 10 + 3, none⟩ = some (.int .u32 4294967295) := by rw [HF1.out.tab.cell HSI.out (by decide : 3 < 10)]; simp [cellsS, HLKI.out, lk1]
          have g0 := HF1.out.tab.g0
          have g1 := HF1.out.tab.g1
          have nk := same_self 4294967295 4294967295
          go_wp2_with (fail)
          go_quiet (fail)
          have hx := HF1.out.drewN nq
          generalize w1.drewN nq = W2 at hx ⊢
          clear a2 a3 g0 g1 HF1
          have HF2 := Lib.hid hx
          clear hx
          have m0 : W2.cell? ⟨W.heap.size, 0, none⟩ = some (.slice (some ⟨SB, 0, none⟩) 1 1) := blk_cell HF2.out.m 0
          have n0 : W2.cell? ⟨W.heap.size + 1 + 1, 0, none⟩ = some (.int .u32 0) := blk_cell HF2.out.n 0
          have n1 : W2.cell? ⟨W.heap.size + 1 + 1, 1, none⟩ = some (.int .u32 j) := blk_cell HF2.out.n 1
          have HG2 := Lib.hid (get W2 SB B cap j L HF2.out.tab hjl)
          go_wp2_with (fail)
          refine (HG2.out).mono ?_
          rintro e w1 ⟨rfl, hb1⟩
          have HF1 := Lib.hid (HF2.out.below hb1)
          clear HG2 HF2 hb1 m0 n0 n1
          have a2 : w1.cell? ⟨B, j * 10 + 2, none⟩ = some (.int .u32 0) := by rw [HF1.out.tab.cell HSJ.out (by decide : 2 < 10)]; simp [cellsS, HLK.out, lk0]
          have a3 : w1.cell? ⟨B, j * 10 + 3, none⟩ = some (.int .u32 k) := by rw [HF1.out.tab.cell HSJ.out (by decide : 3 < 10)]; simp [cellsS, HLK.out, lk1]
          have g0 := HF1.out.tab.g0
          have g1 := HF1.out.tab.g1
          have kn : k < L.length := by
            have hr := R.step HLJ.out HJ.out
            obtain ⟨n, hn⟩ := hr
            exact hn.lt
          have nk : sameR 0 (k : Int) 4294967295 4294967295 = false := same_not (by omega)
          go_wp2_with (fail)
          go_quiet (fail)
          have hx := HF1.out.drewN nq
          generalize w1.drewN nq = W2 at hx ⊢
          clear a2 a3 g0 g1 HF1
          have HF2 := Lib.hid hx
          clear hx
          have a2 : W2.cell? ⟨B, j * 10 + 2, none⟩ = some (.int .u32 0) := by rw [HF2.out.tab.cell HSJ.out (by decide : 2 < 10)]; simp [cellsS, HLK.out, lk0]
          have a3 : W2.cell? ⟨B, j * 10 + 3, none⟩ = some (.int .u32 k) := by rw [HF2.out.tab.cell HSJ.out (by decide : 3 < 10)]; simp [cellsS, HLK.out, lk1]
          have m0 : W2.cell? ⟨W.heap.size, 0, none⟩ = some (.slice (some ⟨SB, 0, none⟩) 1 1) := blk_cell HF2.out.m 0
          have o0 : W2.cell? ⟨W.heap.size + 1, 0, none⟩ = some (.int .u32 0) := blk_cell HF2.out.o 0
          have o1 : W2.cell? ⟨W.heap.size + 1, 1, none⟩ = some (.int .u32 r0) := blk_cell HF2.out.o 1
          have n0 : W2.cell? ⟨W.heap.size + 1 + 1, 0, none⟩ = some (.int .u32 0) := blk_cell HF2.out.n 0
          have n1 : W2.cell? ⟨W.heap.size + 1 + 1, 1, none⟩ = some (.int .u32 j) := blk_cell HF2.out.n 1
          have hFD : Fr W W2.drew SB B cap r0 j L := HF2.out.drewN 1
          have HFD := Lib.hid hFD
          have HIH := Lib.hid (IH.out (rk r0 + rk k) (by have := HKR.out j k HLJ.out; have := HM.out; omega) r0 k r0 r1 W2.drew L rk rfl HKR.out HI.out (R.step HLJ.out HJ.out) hFD.tab)
          clear hFD
          go_wp2_with (fail)
          go_region_with (go_at_call 17; refine (HIH.out).mono ?_; rintro e w5 ⟨q, L2, rk2, rfl, hp, ht5, hk5⟩; have hF5 := HFD.out.call hk5 ht5; have hx2 : ∃ v, w5.cell? ⟨B, j * 10 + 2, none⟩ = some v := (by have hl : j < L2.length := (by rw [hp.mg.len]; assumption); exact ⟨_, hF5.tab.cell (List.getElem?_eq_getElem hl) (by decide : 2 < 10)⟩); have hx3 : ∃ v, w5.cell? ⟨B, j * 10 + 3, none⟩ = some v := (by have hl : j < L2.length := (by rw [hp.mg.len]; assumption); exact ⟨_, hF5.tab.cell (List.getElem?_eq_getElem hl) (by decide : 3 < 10)⟩); obtain ⟨v2, y2⟩ := hx2; obtain ⟨v3, y3⟩ := hx3; have y4 := hF5.tab.fz (j * 10 + 2); have y5 := hF5.tab.fz (j * 10 + 3); have HF5 := Lib.hid hF5; have HP5 := Lib.hid hp; clear hF5 hp ht5 hk5)
          all_goals
            have hl2 : j < L2.length := by rw [HP5.out.mg.len]; assumption
            have hx5 := HF5.out.link hl2 q
            generalize (w5.setCell ⟨B, j * 10 + 2, none⟩ (.int .u32 0)).setCell ⟨B, j * 10 + 3, none⟩ (.int .u32 q) = W6 at hx5 ⊢
            have HP6 := Lib.hid (Pl.right HLJ.out HKR.out HJ.out HP5.out)
            have HF6 := Lib.hid hx5
            clear y2 y3 y4 y5 HF5 HP5 hx5 a2 a3 m0 o0 o1 n0 n1 HF2 HFD HIH
            obtain ⟨b2, b3⟩ := HF6.out.lnk hl2
            have q1 : W6.cell? ⟨W.heap.size + 1 + 1 + 1, 0, none⟩ = some (.int .u32 0) := blk_cell HF6.out.r 0
            have q2 : W6.cell? ⟨W.heap.size + 1 + 1 + 1, 1, none⟩ = some (.int .u32 0) := blk_cell HF6.out.r 1
            have q3 : W6.frozen? ⟨W.heap.size + 1 + 1 + 1, 0, none⟩ = false := Lib.frozen_of_heap HF6.out.r 0
            have q4 : W6.frozen? ⟨W.heap.size + 1 + 1 + 1, 1, none⟩ = false := Lib.frozen_of_heap HF6.out.r 1
            have HD := Lib.hid (HF6.out.done (.int .u32 0) (.int .u32 q))
            go_wp2_with (fail)
            exact bodyPost_ret (results_cell_row rfl _ _ (W.heap.size + 1 + 1 + 1) 49 _ (0, 0) _ rfl HD.out.1 Tryd.underlying49 rfl (by rw [info49]; rfl)) rfl ⟨q, _, rk2, rfl, HP6.out, HD.out.2.1, HD.out.2.2⟩
        | none =>
          rw [hlkj] at hlj
          have HLJ := Lib.hid hlj
          have HLK := Lib.hid hlkj
          clear hlj hlkj
          have hr1 : r1 = j := R.det HJ.out ⟨0, .here hjl HLJ.out⟩
          subst hr1
          go_enter Tryd.func17, Tryd.ntmps17
          go_wp2_with (fail)
          refine (HG.out).mono ?_
          rintro e w1 ⟨rfl, hb1⟩
          have HF1 := Lib.hid (HF0.out.below hb1)
          clear HG HF0 hb1
          have a2 : w1.cell? ⟨B, r0 * 10 + 2, none⟩ = some (.int .u32 4294967295) := by rw [HF1.out.tab.cell HSI.out (by decide : 2 < 10)]; simp [cellsS, HLKI.out, lk0]
          have a3 : w1.cell? ⟨B, r0 * 10 + 3, none⟩ = some (.int .u32 4294967295) := by rw [HF1.out.tab.cell HSI.out (by decide : 3 < 10)]; simp [cellsS, HLKI.out, lk1]
          have g0 := HF1.out.tab.g0
          have g1 := HF1.out.tab.g1
          have nk := same_self 4294967295 4294967295
          go_wp2_with (fail)
          go_quiet (fail)
          have hx := HF1.out.drewN nq
          generalize w1.drewN nq = W2 at hx ⊢
          clear a2 a3 g0 g1 HF1
          have HF2 := Lib.hid hx
          clear hx
          have m0 : W2.cell? ⟨W.heap.size, 0, none⟩ = some (.slice (some ⟨SB, 0, none⟩) 1 1) := blk_cell HF2.out.m 0
          have n0 : W2.cell? ⟨W.heap.size + 1 + 1, 0, none⟩ = some (.int .u32 0) := blk_cell HF2.out.n 0
          have n1 : W2.cell? ⟨W.heap.size + 1 + 1, 1, none⟩ = some (.int .u32 r1) := blk_cell HF2.out.n 1
          have HG2 := Lib.hid (get W2 SB B cap r1 L HF2.out.tab hjl)
          go_wp2_with (fail)
          refine (HG2.out).mono ?_
          rintro e w1 ⟨rfl, hb1⟩
          have HF1 := Lib.hid (HF2.out.below hb1)
          clear HG2 HF2 hb1 m0 n0 n1
          have a2 : w1.cell? ⟨B, r1 * 10 + 2, none⟩ = some (.int .u32 4294967295) := by rw [HF1.out.tab.cell HSJ.out (by decide : 2 < 10)]; simp [cellsS, HLK.out, lk0]
          have a3 : w1.cell? ⟨B, r1 * 10 + 3, none⟩ = some (.int .u32 4294967295) := by rw [HF1.out.tab.cell HSJ.out (by decide : 3 < 10)]; simp [cellsS, HLK.out, lk1]
          have g0 := HF1.out.tab.g0
          have g1 := HF1.out.tab.g1
          go_wp2_with (fail)
          go_quiet (fail)
          have hx := HF1.out.drewN nq
          generalize w1.drewN nq = W4 at hx ⊢
          clear a2 a3 g0 g1 HF1 nk
          have HF4 := Lib.hid hx
          clear hx
          have a2 : W4.cell? ⟨B, r0 * 10 + 2, none⟩ = some (.int .u32 4294967295) := by rw [HF4.out.tab.cell HSI.out (by decide : 2 < 10)]; simp [cellsS, HLKI.out, lk0]
          have a3 : W4.cell? ⟨B, r0 * 10 + 3, none⟩ = some (.int .u32 4294967295) := by rw [HF4.out.tab.cell HSI.out (by decide : 3 < 10)]; simp [cellsS, HLKI.out, lk1]
          have z2 := HF4.out.tab.fz (r0 * 10 + 2)
          have z3 := HF4.out.tab.fz (r0 * 10 + 3)
          have n0 : W4.cell? ⟨W.heap.size + 1 + 1, 0, none⟩ = some (.int .u32 0) := blk_cell HF4.out.n 0
          have n1 : W4.cell? ⟨W.heap.size + 1 + 1, 1, none⟩ = some (.int .u32 r1) := blk_cell HF4.out.n 1
          go_wp2_with (fail)
          have hx := HF4.out.link hil r1
          generalize (W4.setCell ⟨B, r0 * 10 + 2, none⟩ (.int .u32 0)).setCell ⟨B, r0 * 10 + 3, none⟩ (.int .u32 r1) = W5 at hx ⊢
          clear a2 a3 z2 z3 n0 n1 HF4
          have HF5 := Lib.hid hx
          clear hx
          have hsi5 : (setL L r0 r1)[r0]? = some { si with link := some r1 } := by
            unfold setL
            rw [mod_get, if_pos rfl, HSI.out]
            rfl
          have hsj5 : (setL L r0 r1)[r1]? = some sj := by
            unfold setL
            rw [mod_get, if_neg hij, HSJ.out]
          refine (contents W5 SB B cap r0 r1 (setL L r0 r1) HF5.out.tab _ sj hsi5 hsj5 hij).mono ?_
          rintro e w6 ⟨rfl, f, hf1, hf2, ht6, hk6⟩
          have hx6 := HF5.out.call hk6 ht6
          have hrt0 : Rt L 0 r0 r0 := .here hil HLI.out
          have hrt1 : Rt L 0 r1 r1 := .here hjl HLJ.out
          obtain ⟨rk2, hp⟩ := Pl.join HKR.out hrt0 hrt1 hij f hf1 (fun s hs => by rw [hf2 s (by rw [hsj5]; rw [HSJ.out] at hs; exact hs), us_setL])
          have HP6 := Lib.hid hp
          have HF6 := Lib.hid hx6
          clear hx6 hp hf1 hf2 ht6 hk6 HF5 hsi5 hsj5 hrt0 hrt1
          have n0 : w6.cell? ⟨W.heap.size + 1 + 1, 0, none⟩ = some (.int .u32 0) := blk_cell HF6.out.n 0
          have n1 : w6.cell? ⟨W.heap.size + 1 + 1, 1, none⟩ = some (.int .u32 r1) := blk_cell HF6.out.n 1
          have q1 : w6.cell? ⟨W.heap.size + 1 + 1 + 1, 0, none⟩ = some (.int .u32 0) := blk_cell HF6.out.r 0
          have q2 : w6.cell? ⟨W.heap.size + 1 + 1 + 1, 1, none⟩ = some (.int .u32 0) := blk_cell HF6.out.r 1
          have q3 : w6.frozen? ⟨W.heap.size + 1 + 1 + 1, 0, none⟩ = false := Lib.frozen_of_heap HF6.out.r 0
          have q4 : w6.frozen? ⟨W.heap.size + 1 + 1 + 1, 1, none⟩ = false := Lib.frozen_of_heap HF6.out.r 1
          have HD := Lib.hid (HF6.out.done (.int .u32 0) (.int .u32 r1))
          go_wp2_with (fail)
          exact bodyPost_ret (results_cell_row rfl _ _ (W.heap.size + 1 + 1 + 1) 49 _ (0, 0) _ rfl HD.out.1 Tryd.underlying49 rfl (by rw [info49]; rfl)) rfl ⟨r1, _, rk2, rfl, HP6.out, HD.out.2.1, HD.out.2.2⟩
end Go.Proofs.YtlhepbgonecgpaaDoor.fnMergedUses
