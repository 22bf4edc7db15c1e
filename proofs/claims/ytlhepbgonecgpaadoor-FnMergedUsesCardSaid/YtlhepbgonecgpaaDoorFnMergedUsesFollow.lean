/-
  FnMergedUses: the walk of ast.FollowSymbols: it tells what a symbol stands for.
  Conditions: at most 200 symbols, each of which stands for one.
-/
import Derived.Test.YtlhepbgonecgpaaDoorFnMergedUsesTable
namespace Go.Proofs.YtlhepbgonecgpaaDoor.fnMergedUses
open Go.RowKit Go.Proofs.YtlhepbgonecgpaaDoorW.PrintWords Go.Proofs.YtlhepbgonecgpaaDoorW.PrintLast Go.Proofs.YtlhepbgonecgpaaDoorW.PrintMore Go.Proofs.YtlhepbgonecgpaaDoor.PFnMergedUses
set_option linter.unusedVariables false
set_option linter.unusedSimpArgs false
attribute [local go_sem high] eqS
/-- what is left: the same stands, the same uses -/
structure Sm (L : List Sy) (rk : Nat → Nat) (L' : List Sy) : Prop where
  len : L'.length = L.length
  rt : ∀ {x r : Nat}, R L x r → R L' x r
  us : ∀ x, us L' x = us L x
  rank : Rank L' rk
theorem Sm.refl {L : List Sy} {rk : Nat → Nat} (h : Rank L rk) : Sm L rk L := ⟨rfl, fun h => h, fun _ => rfl, h⟩
theorem Sm.short {L L' : List Sy} {rk : Nat → Nat} {i r : Nat} (h : Sm L rk L') (hi : R L i r) (hlt : rk r < rk i) : Sm L rk (setL L' i r) := by
  have hi' := h.rt hi
  have hr' := h.rt hi.self
  refine ⟨by rw [setL_len]; exact h.len, fun hx => compress h.rank hi' hr' hlt _ _ _ rfl (h.rt hx), fun x => by rw [us_setL]; exact h.us x, ?_⟩
  obtain ⟨n, hn⟩ := hi'
  exact h.rank.short hn.lt hlt
theorem Rt.le {L : List Sy} {rk : Nat → Nat} (hk : Rank L rk) {n i r : Nat} (h : Rt L n i r) : rk r ≤ rk i := by
  induction h with
  | here _ _ => exact Nat.le_refl _
  | step h1 _ ih => have := hk _ _ h1; omega
/-- what FollowSymbols leaves -/
def Fol (W : World) (SB B cap : Nat) (L : List Sy) (rk : Nat → Nat) (r : Nat) (e : Ending) (w' : World) : Prop := ∃ L', e = .returned (.agg #[.int .u32 0, .int .u32 r]) ∧ Sm L rk L' ∧ Tab w' SB B cap L' ∧ Kp B W w'
/-- the frame on the way -/
structure Ff (W W1 : World) (SB B cap i : Nat) (L : List Sy) : Prop where
  m : W1.heap[W.heap.size]? = some (.cells #[.slice (some ⟨SB, 0, none⟩) 1 1] 46 (0, 0))
  o : W1.heap[W.heap.size + 1]? = some (.cells #[.int .u32 0, .int .u32 i] 49 (0, 0))
  r : W1.heap[W.heap.size + 1 + 1]? = some (.cells #[.int .u32 0, .int .u32 0] 49 (0, 0))
  tab : Tab W1 SB B cap L
  kp : Kp B W W1
  lt : B < W.heap.size
section
variable {W W1 W2 : World} {SB B cap i : Nat} {L L2 : List Sy}
theorem Ff.size (h : Ff W W1 SB B cap i L) : W.heap.size + 1 + 1 < W1.heap.size := (Array.getElem?_eq_some_iff.1 h.r).1
theorem Ff.drewN (h : Ff W W1 SB B cap i L) (n : Nat) : Ff W (W1.drewN n) SB B cap i L := ⟨h.m, h.o, h.r, h.tab.drewN n, h.kp.drewN n, h.lt⟩
theorem Ff.call (h : Ff W W1 SB B cap i L) (k : Kp B W1 W2) (t : Tab W2 SB B cap L2) : Ff W W2 SB B cap i L2 := by
  have hl := h.lt
  exact ⟨k.blk h.m (by omega), k.blk h.o (by omega), k.blk h.r (by omega), t, h.kp.trans k, hl⟩
theorem Ff.below (h : Ff W W1 SB B cap i L) (hb : Below W1.heap.size W1 W2) : Ff W W2 SB B cap i L := h.call (Kp.of_below (by have := h.lt; have := h.size; omega) hb) (h.tab.keep hb)
theorem Ff.start (ht : Tab W SB B cap L) : Ff W (((W.alloc (.cells #[.slice (some ⟨SB, 0, none⟩) 1 1] 46)).alloc (.cells #[.int .u32 0, .int .u32 i] 49)).alloc (.cells #[.int .u32 0, .int .u32 0] 49)) SB B cap i L := by
  have hb : Below W.heap.size W (((W.alloc (.cells #[.slice (some ⟨SB, 0, none⟩) 1 1] 46)).alloc (.cells #[.int .u32 0, .int .u32 i] 49)).alloc (.cells #[.int .u32 0, .int .u32 0] 49)) := (((Below.refl _ _).alloc (Nat.le_refl _) _).alloc (by simp) _).alloc (by simp; omega) _
  refine ⟨?_, ?_, ?_, ht.keep hb, Kp.of_below (Nat.le_of_lt ht.blt) hb, ht.blt⟩
  · exact alloc_old (alloc_old (alloc_at rfl))
  · exact alloc_old (alloc_at (by simp))
  · exact alloc_at (by simp)
theorem Ff.link (h : Ff W W1 SB B cap i L) {x : Nat} (hx : x < L.length) (k : Nat) : Ff W ((W1.setCell ⟨B, x * 10 + 2, none⟩ (.int .u32 0)).setCell ⟨B, x * 10 + 3, none⟩ (.int .u32 k)) SB B cap i (setL L x k) :=
  h.call (((Kp.refl B W1).set _ _).set _ _) (h.tab.setLink hx)
/-- two cells of a block of the call's own are set -/
theorem Ff.side (h : Ff W W1 SB B cap i L) {q : Nat} {a b : Value} (hq : W1.heap[q]? = some (.cells #[a, b] 49 (0, 0))) (hqW : W.heap.size + 1 + 1 < q) (x y : Value) : Ff W ((W1.setCell ⟨q, 0, none⟩ x).setCell ⟨q, 1, none⟩ y) SB B cap i L := by
  have hl := h.lt
  have far : ∀ k, k ≠ q → ((W1.setCell ⟨q, 0, none⟩ x).setCell ⟨q, 1, none⟩ y).heap[k]? = W1.heap[k]? := fun k hk => (Below.heap_setCell _ _ _ _ (by show k ≠ _; exact hk)).trans (Below.heap_setCell W1 _ _ _ (by show k ≠ _; exact hk))
  obtain ⟨cs, hc, hr⟩ := h.tab.row
  have hsne : SB ≠ q := by
    intro e
    have h1 := h.tab.sb
    rw [e, hq] at h1
    cases h1
  exact ⟨(far _ (by omega)).trans h.m, (far _ (by omega)).trans h.o, (far _ (by omega)).trans h.r, ⟨(far SB hsne).trans h.tab.sb, ⟨cs, (far B (by omega)).trans hc, hr⟩, (cell_of (far 0 (by omega))).trans h.tab.g0, (cell_of (far 0 (by omega))).trans h.tab.g1, h.tab.ne, h.tab.b0, h.tab.n⟩, (h.kp.far (by omega) (by omega) _ _).far (by omega) (by omega) _ _, hl⟩
/-- the result's cells are set, and the call ends -/
theorem Ff.done (h : Ff W W1 SB B cap i L) (x y : Value) : ((W1.setCell ⟨W.heap.size + 1 + 1, 0, none⟩ x).setCell ⟨W.heap.size + 1 + 1, 1, none⟩ y).heap[W.heap.size + 1 + 1]? = some (.cells #[x, y] 49 (0, 0)) ∧ Tab ((W1.setCell ⟨W.heap.size + 1 + 1, 0, none⟩ x).setCell ⟨W.heap.size + 1 + 1, 1, none⟩ y) SB B cap L ∧ Kp B W ((W1.setCell ⟨W.heap.size + 1 + 1, 0, none⟩ x).setCell ⟨W.heap.size + 1 + 1, 1, none⟩ y) := by
  have hl := h.lt
  have hs := h.tab.slt
  have far : ∀ k, k ≠ W.heap.size + 1 + 1 → ((W1.setCell ⟨W.heap.size + 1 + 1, 0, none⟩ x).setCell ⟨W.heap.size + 1 + 1, 1, none⟩ y).heap[k]? = W1.heap[k]? := fun k hk => (Below.heap_setCell _ _ _ _ (by show k ≠ _; exact hk)).trans (Below.heap_setCell W1 _ _ _ (by show k ≠ _; exact hk))
  refine ⟨two h.r x y, ?_, ((h.kp.far (by omega) (by omega) _ _).far (by omega) (by omega) _ _)⟩
  obtain ⟨cs, hc, hr⟩ := h.tab.row
  have hsne : SB ≠ W.heap.size + 1 + 1 := by
    intro e
    have h1 := h.tab.sb
    rw [e, h.r] at h1
    cases h1
  exact ⟨(far SB hsne).trans h.tab.sb, ⟨cs, (far B (by omega)).trans hc, hr⟩, (cell_of (far 0 (by omega))).trans h.tab.g0, (cell_of (far 0 (by omega))).trans h.tab.g1, h.tab.ne, h.tab.b0, h.tab.n⟩
end
set_option maxHeartbeats 16000000 in
set_option maxRecDepth 100000 in
theorem follow (SB B cap : Nat) : ∀ (m i r : Nat) (W : World) (L : List Sy) (rk : Nat → Nat), rk i = m → Rank L rk → R L i r → Tab W SB B cap L →
    Calls Tryd.prog 19 #[.agg #[.slice (some ⟨SB, 0, none⟩) 1 1], .agg #[.int .u32 0, .int .u32 i]] W (Fol W SB B cap L rk r) := by
  intro m
  induction m using Nat.strongRecOn with
  | _ m ih =>
    intro i r W L rk hm hk hi ht
    have hil : i < L.length := by obtain ⟨n, hn⟩ := hi; exact hn.lt
    obtain ⟨si, hsi⟩ : ∃ s, L[i]? = some s := ⟨_, List.getElem?_eq_getElem hil⟩
    have hli := lk_none hsi
    have hn := ht.n
    have hF0 := Ff.start (i := i) ht
    have HF0 := Lib.hid hF0
    have IH := Lib.hid ih
    have HKR := Lib.hid hk
    have HI := Lib.hid hi
    have HSI := Lib.hid hsi
    have HM := Lib.hid hm
    clear hF0 ih hk hi hsi ht hm
    have hg := get _ SB B cap i L HF0.out.tab hil
    have HG := Lib.hid hg
    clear hg
    go_enter Tryd.func19, Tryd.ntmps19
    go_wp2_with (fail)
    refine (HG.out).mono ?_
    rintro e w1 ⟨rfl, hb1⟩
    have HF1 := Lib.hid (HF0.out.below hb1)
    clear HG HF0 hb1
    cases hlki : si.link with
    | none =>
      rw [hlki] at hli
      have a2 : w1.cell? ⟨B, i * 10 + 2, none⟩ = some (.int .u32 4294967295) := by rw [HF1.out.tab.cell HSI.out (by decide : 2 < 10)]; simp [cellsS, hlki, lk0]
      have a3 : w1.cell? ⟨B, i * 10 + 3, none⟩ = some (.int .u32 4294967295) := by rw [HF1.out.tab.cell HSI.out (by decide : 3 < 10)]; simp [cellsS, hlki, lk1]
      have g0 := HF1.out.tab.g0
      have g1 := HF1.out.tab.g1
      have ss := same_self 4294967295 4294967295
      go_wp2_with (fail)
      go_quiet (fail)
      have hx := HF1.out.drewN nq
      generalize w1.drewN nq = W2 at hx ⊢
      clear a2 a3 g0 g1 HF1
      have HF2 := Lib.hid hx
      clear hx
      obtain rfl : r = i := by
        obtain ⟨n, hn⟩ := HI.out
        cases hn with
        | here _ _ => rfl
        | step h _ => rw [hli] at h; cases h
      have o0 : W2.cell? ⟨W.heap.size + 1, 0, none⟩ = some (.int .u32 0) := blk_cell HF2.out.o 0
      have o1 : W2.cell? ⟨W.heap.size + 1, 1, none⟩ = some (.int .u32 r) := blk_cell HF2.out.o 1
      have q1 : W2.cell? ⟨W.heap.size + 1 + 1, 0, none⟩ = some (.int .u32 0) := blk_cell HF2.out.r 0
      have q2 : W2.cell? ⟨W.heap.size + 1 + 1, 1, none⟩ = some (.int .u32 0) := blk_cell HF2.out.r 1
      have q3 : W2.frozen? ⟨W.heap.size + 1 + 1, 0, none⟩ = false := Lib.frozen_of_heap HF2.out.r 0
      have q4 : W2.frozen? ⟨W.heap.size + 1 + 1, 1, none⟩ = false := Lib.frozen_of_heap HF2.out.r 1
      have HD := Lib.hid (HF2.out.done (.int .u32 0) (.int .u32 r))
      go_wp2_with (fail)
      exact bodyPost_ret (results_cell_row rfl _ _ (W.heap.size + 1 + 1) 49 _ (0, 0) _ rfl HD.out.1 Tryd.underlying49 rfl (by rw [info49]; rfl)) rfl ⟨L, rfl, Sm.refl HKR.out, HD.out.2.1, HD.out.2.2⟩
    | some k =>
      rw [hlki] at hli
      have HLI := Lib.hid hli
      have a2 : w1.cell? ⟨B, i * 10 + 2, none⟩ = some (.int .u32 0) := by rw [HF1.out.tab.cell HSI.out (by decide : 2 < 10)]; simp [cellsS, hlki, lk0]
      have a3 : w1.cell? ⟨B, i * 10 + 3, none⟩ = some (.int .u32 k) := by rw [HF1.out.tab.cell HSI.out (by decide : 3 < 10)]; simp [cellsS, hlki, lk1]
      have g0 := HF1.out.tab.g0
      have g1 := HF1.out.tab.g1
      have kn : k < L.length := by
        have hr := R.step hli HI.out
        obtain ⟨n, hn⟩ := hr
        exact hn.lt
      have nk : sameR 0 (k : Int) 4294967295 4294967295 = false := same_not (by omega)
      clear hli
      go_wp2_with (fail)
      go_quiet (fail)
      have hx := HF1.out.drewN nq
      generalize w1.drewN nq = W2 at hx ⊢
      clear a2 a3 g0 g1 HF1 nk
      have HF2 := Lib.hid hx
      clear hx
      have a2 : W2.cell? ⟨B, i * 10 + 2, none⟩ = some (.int .u32 0) := by rw [HF2.out.tab.cell HSI.out (by decide : 2 < 10)]; simp [cellsS, hlki, lk0]
      have a3 : W2.cell? ⟨B, i * 10 + 3, none⟩ = some (.int .u32 k) := by rw [HF2.out.tab.cell HSI.out (by decide : 3 < 10)]; simp [cellsS, hlki, lk1]
      have m0 : W2.cell? ⟨W.heap.size, 0, none⟩ = some (.slice (some ⟨SB, 0, none⟩) 1 1) := blk_cell HF2.out.m 0
      go_wp2_with (fail)
      have hdr := HF2.out.drewN 1
      have hdr : Ff W W2.drew SB B cap i L := hdr
      have hal : Ff W (W2.drew.alloc (.cells #[.int .u32 0, .int .u32 0] 49)) SB B cap i L := hdr.below ((Below.refl _ _).alloc (Nat.le_refl _) _)
      have hks := R.step HLI.out HI.out
      have hlt : rk k < m := by have := HKR.out i k HLI.out; have := HM.out; omega
      have KD := Lib.hid (IH.out (rk k) hlt k r W2.drew L rk rfl HKR.out hks hdr.tab)
      have KA := Lib.hid (IH.out (rk k) hlt k r _ L rk rfl HKR.out hks hal.tab)
      have HFD := Lib.hid hdr
      have HFA := Lib.hid hal
      have hq2 : W.heap.size < W2.heap.size := by have := HF2.out.size; omega
      have hq3 : W.heap.size + 1 + 1 < W2.heap.size := HF2.out.size
      have hBq : B < W2.heap.size := by have := HF2.out.lt; omega
      clear hdr hal hks hlt IH
      go_region_with (go_at_call 19; first
        | (refine (KD.out).mono ?_; rintro e w3 ⟨L', rfl, hs, ht, hk⟩; have HFX := Lib.hid (HFD.out.call hk ht); have HSX := Lib.hid hs; clear hs ht hk)
        | (refine (KA.out).mono ?_; rintro e w3 ⟨L', rfl, hs, ht, hk⟩; have HFX := Lib.hid (HFA.out.call hk ht); have HSX := Lib.hid hs; have e5 : w3.heap[W2.heap.size]? = some (.cells #[.int .u32 0, .int .u32 0] 49 (0, 0)) := hk.blk (heap_alloc_new W2.drew _) (by omega); have z0 : w3.cell? ⟨W2.heap.size, 0, none⟩ = some (.int .u32 0) := blk_cell e5 0; have z1 : w3.cell? ⟨W2.heap.size, 1, none⟩ = some (.int .u32 0) := blk_cell e5 1; have z2 : w3.frozen? ⟨W2.heap.size, 0, none⟩ = false := Lib.frozen_of_heap e5 0; have z3 : w3.frozen? ⟨W2.heap.size, 1, none⟩ = false := Lib.frozen_of_heap e5 1; have HE5 := Lib.hid e5; clear hs ht hk e5))
      all_goals
        first
          | (have hq5 := two HE5.out (.int .u32 0) (.int .u32 r)
             have hF5 := HFX.out.side HE5.out hq3 (.int .u32 0) (.int .u32 r)
             clear z0 z1 z2 z3 HE5
             generalize ((w3.setCell ⟨W2.heap.size, 0, none⟩ (.int .u32 0)).setCell ⟨W2.heap.size, 1, none⟩ (.int .u32 r)) = W5 at hq5 hF5 ⊢
             clear hq3 hBq hq2
             generalize W2.heap.size = q at hq5 ⊢)
          | (have hF5 : Ff W (w3.alloc (.cells #[.int .u32 0, .int .u32 r] 49)) SB B cap i L' := HFX.out.below ((Below.refl _ _).alloc (Nat.le_refl _) _)
             have hq5 := heap_alloc_new w3 (.cells #[.int .u32 0, .int .u32 r] 49)
             generalize w3.alloc (.cells #[.int .u32 0, .int .u32 r] 49) = W5 at hq5 hF5 ⊢
             generalize w3.heap.size = q at hq5 ⊢)
        clear a2 a3 m0 KD KA HFD HFA HFX HF2
        have HF5 := Lib.hid hF5
        have HQ5 := Lib.hid hq5
        clear hF5 hq5
        have hil' : i < L'.length := by rw [HSX.out.len]; exact hil
        obtain ⟨s', hs'⟩ : ∃ s, L'[i]? = some s := ⟨_, List.getElem?_eq_getElem hil'⟩
        have HS' := Lib.hid hs'
        clear hs'
        have c2 : W5.cell? ⟨B, i * 10 + 2, none⟩ = some (.int .u32 (lk0 s'.link)) := by rw [HF5.out.tab.cell HS'.out (by decide : 2 < 10)]; rfl
        have c3 : W5.cell? ⟨B, i * 10 + 3, none⟩ = some (.int .u32 (lk1 s'.link)) := by rw [HF5.out.tab.cell HS'.out (by decide : 3 < 10)]; rfl
        have d0 : W5.cell? ⟨q, 0, none⟩ = some (.int .u32 0) := blk_cell HQ5.out 0
        have d1 : W5.cell? ⟨q, 1, none⟩ = some (.int .u32 r) := blk_cell HQ5.out 1
        generalize lk0 s'.link = l0 at c2
        generalize lk1 s'.link = l1 at c3
        have hrk : rk r < rk i := by
          have := HKR.out i k HLI.out
          obtain ⟨n, hn⟩ := R.step HLI.out HI.out
          have := hn.le HKR.out
          omega
        have HSS := Lib.hid (HSX.out.short HI.out hrk)
        go_wp2_with (fail)
        go_quiet (fail)
        have hx := HF5.out.drewN nq
        have hq6 : (W5.drewN nq).heap[q]? = some (.cells #[.int .u32 0, .int .u32 r] 49 (0, 0)) := HQ5.out
        generalize W5.drewN nq = W6 at hx hq6 ⊢
        clear c2 c3 d0 d1 HF5 HQ5
        have HF6 := Lib.hid hx
        clear hx
        have d0 : W6.cell? ⟨q, 0, none⟩ = some (.int .u32 0) := blk_cell hq6 0
        have d1 : W6.cell? ⟨q, 1, none⟩ = some (.int .u32 r) := blk_cell hq6 1
        have HQ6 := Lib.hid hq6
        clear hq6
        generalize sameR l0 l1 0 (r : Int) = t
        cases t
        · have z2 := HF6.out.tab.fz (i * 10 + 2)
          have z3 := HF6.out.tab.fz (i * 10 + 3)
          obtain ⟨u2, c2⟩ : ∃ u, W6.cell? ⟨B, i * 10 + 2, none⟩ = some u := ⟨_, HF6.out.tab.cell HS'.out (by decide : 2 < 10)⟩
          obtain ⟨u3, c3⟩ : ∃ u, W6.cell? ⟨B, i * 10 + 3, none⟩ = some u := ⟨_, HF6.out.tab.cell HS'.out (by decide : 3 < 10)⟩
          have HF7 := Lib.hid (HF6.out.link hil' r)
          have hqB : q ≠ B := by
            intro e
            obtain ⟨cs, hc, _⟩ := HF6.out.tab.row
            have h := HQ6.out
            rw [e, hc] at h
            cases h
          have e0 : ((W6.setCell ⟨B, i * 10 + 2, none⟩ (.int .u32 0)).setCell ⟨B, i * 10 + 3, none⟩ (.int .u32 r)).heap[q]? = some (.cells #[.int .u32 0, .int .u32 r] 49 (0, 0)) := ((Below.heap_setCell _ _ _ _ (by show q ≠ B; exact hqB)).trans (Below.heap_setCell W6 _ _ _ (by show q ≠ B; exact hqB))).trans HQ6.out
          have HQ7 := Lib.hid e0
          clear e0
          have e0 := blk_cell HQ7.out 0
          have e1 := blk_cell HQ7.out 1
          have e0 : ((W6.setCell ⟨B, i * 10 + 2, none⟩ (.int .u32 0)).setCell ⟨B, i * 10 + 3, none⟩ (.int .u32 r)).cell? ⟨q, 0, none⟩ = some (.int .u32 0) := e0
          have e1 : ((W6.setCell ⟨B, i * 10 + 2, none⟩ (.int .u32 0)).setCell ⟨B, i * 10 + 3, none⟩ (.int .u32 r)).cell? ⟨q, 1, none⟩ = some (.int .u32 r) := e1
          have q1 : ((W6.setCell ⟨B, i * 10 + 2, none⟩ (.int .u32 0)).setCell ⟨B, i * 10 + 3, none⟩ (.int .u32 r)).cell? ⟨W.heap.size + 1 + 1, 0, none⟩ = some (.int .u32 0) := blk_cell HF7.out.r 0
          have q2 : ((W6.setCell ⟨B, i * 10 + 2, none⟩ (.int .u32 0)).setCell ⟨B, i * 10 + 3, none⟩ (.int .u32 r)).cell? ⟨W.heap.size + 1 + 1, 1, none⟩ = some (.int .u32 0) := blk_cell HF7.out.r 1
          have q3 : ((W6.setCell ⟨B, i * 10 + 2, none⟩ (.int .u32 0)).setCell ⟨B, i * 10 + 3, none⟩ (.int .u32 r)).frozen? ⟨W.heap.size + 1 + 1, 0, none⟩ = false := Lib.frozen_of_heap HF7.out.r 0
          have q4 : ((W6.setCell ⟨B, i * 10 + 2, none⟩ (.int .u32 0)).setCell ⟨B, i * 10 + 3, none⟩ (.int .u32 r)).frozen? ⟨W.heap.size + 1 + 1, 1, none⟩ = false := Lib.frozen_of_heap HF7.out.r 1
          have HD := Lib.hid (HF7.out.done (.int .u32 0) (.int .u32 r))
          go_wp2_with (fail)
          exact bodyPost_ret (results_cell_row rfl _ _ (W.heap.size + 1 + 1) 49 _ (0, 0) _ rfl HD.out.1 Tryd.underlying49 rfl (by rw [info49]; rfl)) rfl ⟨_, rfl, HSS.out, HD.out.2.1, HD.out.2.2⟩
        · have q1 : W6.cell? ⟨W.heap.size + 1 + 1, 0, none⟩ = some (.int .u32 0) := blk_cell HF6.out.r 0
          have q2 : W6.cell? ⟨W.heap.size + 1 + 1, 1, none⟩ = some (.int .u32 0) := blk_cell HF6.out.r 1
          have q3 : W6.frozen? ⟨W.heap.size + 1 + 1, 0, none⟩ = false := Lib.frozen_of_heap HF6.out.r 0
          have q4 : W6.frozen? ⟨W.heap.size + 1 + 1, 1, none⟩ = false := Lib.frozen_of_heap HF6.out.r 1
          have HD := Lib.hid (HF6.out.done (.int .u32 0) (.int .u32 r))
          go_wp2_with (fail)
          exact bodyPost_ret (results_cell_row rfl _ _ (W.heap.size + 1 + 1) 49 _ (0, 0) _ rfl HD.out.1 Tryd.underlying49 rfl (by rw [info49]; rfl)) rfl ⟨L', rfl, HSX.out, HD.out.2.1, HD.out.2.2⟩
end Go.Proofs.YtlhepbgonecgpaaDoor.fnMergedUses
