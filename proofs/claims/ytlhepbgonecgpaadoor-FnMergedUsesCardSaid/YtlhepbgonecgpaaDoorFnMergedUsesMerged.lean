/-
  FnMergedUses: the walk of impl.Merged.
  Conditions: at least one and at most 200 symbols; the pairs and what is asked are numbers of symbols.
-/
import Derived.Test.YtlhepbgonecgpaaDoorFnMergedUsesFollow
namespace Go.Proofs.YtlhepbgonecgpaaDoor.fnMergedUses
open Go.RowKit Go.Proofs.YtlhepbgonecgpaaDoorW.PrintWords Go.Proofs.YtlhepbgonecgpaaDoorW.PrintLast Go.Proofs.YtlhepbgonecgpaaDoorW.PrintMore Go.Proofs.YtlhepbgonecgpaaDoor.PFnMergedUses
set_option linter.unusedVariables false
set_option linter.unusedSimpArgs false

theorem refC (a : Nat) (ha : a < 4294967296) (w : World) : Calls Tryd.prog 18 #[.int .i64 a] w fun e w' => e = .returned (.agg #[.int .u32 0, .int .u32 a]) ∧ Below w.heap.size w w' :=
  impl_ref.calls a 0 a w (by unfold impl_ref.f; simp only [Option.some.injEq, Prod.mk.injEq, true_and]; omega)
/-- in a round over the pairs -/
structure St (Wt W1 : World) (MB PB a b SB B cap : Nat) (L : List Sy) : Prop where
  m : W1.heap[MB]? = some (.cells #[.slice (some ⟨SB, 0, none⟩) 1 1] 46 (0, 0))
  p : W1.heap[PB]? = some (.cells #[.int .i64 a, .int .i64 b] 39 (0, 0))
  tab : Tab W1 SB B cap L
  kp : Kp B Wt W1
  lt : B < Wt.heap.size
section
variable {Wt W1 W2 : World} {MB PB a b SB B cap : Nat} {L L2 : List Sy}
theorem St.drew (h : St Wt W1 MB PB a b SB B cap L) : St Wt W1.drew MB PB a b SB B cap L := ⟨h.m, h.p, h.tab.drewN 1, h.kp.drewN 1, h.lt⟩
theorem St.below (h : St Wt W1 MB PB a b SB B cap L) (hb : Below W1.heap.size W1 W2) : St Wt W2 MB PB a b SB B cap L :=
  ⟨(hb.block _ (Array.getElem?_eq_some_iff.1 h.m).1).trans h.m, (hb.block _ (Array.getElem?_eq_some_iff.1 h.p).1).trans h.p, h.tab.keep hb, h.kp.trans (Kp.of_below (Nat.le_of_lt h.tab.blt) hb), h.lt⟩
end
/-- the symbols of the law's, as the merges leave them -/
def Agree (L : List Sy) (xs : List S30) (ps : List (Nat × Nat)) : Prop := Inv L (stands xs.length ps) (xs.map (·.f1)) ∧ ∃ rk, Rank L rk
theorem agree_start (xs : List S30) (hU : ∀ x ∈ xs, 0 ≤ x.f1 ∧ x.f1 < 4294967296) : Agree (xs.map toSy) xs [] := by
  have hl : ∀ i, lk (xs.map toSy) i = none := fun i => by
    unfold lk
    rw [List.getElem?_map]
    cases xs[i]? <;> rfl
  have hst : ∀ i, i < xs.length → (stands xs.length []).getD i 0 = i := fun i hi => by
    show (List.range xs.length).getD i 0 = i
    simp [List.getD, hi]
  refine ⟨⟨by simp [stands_len], fun x hx => ?_, fun r hr _ => ?_⟩, ⟨fun _ => 0, fun x y h => by rw [hl x] at h; cases h⟩⟩
  · rw [stands_len] at hx
    rw [hst x hx]
    exact ⟨0, .here (by simpa using hx) (hl x)⟩
  · rw [stands_len] at hr ⊢
    have key : ∀ m, m ≤ xs.length → tot (stands xs.length []) (xs.map (·.f1)) r m = if r < m then (xs.map (·.f1)).getD r 0 else 0 := by
      intro m
      induction m with
      | zero => intro _; simp [tot]
      | succ m ih =>
        intro hm
        unfold tot
        rw [hst m (by omega), ih (by omega)]
        by_cases h : m = r
        · subst h
          rw [if_pos rfl, if_neg (by omega), if_pos (by omega)]
          have hx := hU _ (List.getElem_mem (show m < xs.length by omega))
          have : (xs.map (·.f1)).getD m 0 = (xs[m]).f1 := by simp [List.getD, List.getElem?_eq_getElem (show m < xs.length by omega)]
          rw [this, Int.zero_add, w32_in hx.1 hx.2]
        · rw [if_neg h]
          by_cases h2 : r < m
          · rw [if_pos h2, if_pos (by omega)]
          · rw [if_neg h2, if_neg (by omega)]
    rw [key _ (Nat.le_refl _), if_pos hr]
    unfold us
    simp [List.getD, List.getElem?_eq_getElem hr, toSy]
theorem agree_merge {L L' : List Sy} {xs : List S30} {ps : List (Nat × Nat)} {k : Nat} {rk rk' : Nat → Nat} {q : Nat} (h : Agree L xs (ps.take k)) (hk : k < ps.length) (ha : (ps[k]).1 < xs.length) (hb : (ps[k]).2 < xs.length)
    (hp : Pl L rk (ps[k]).1 (ps[k]).2 ((stands xs.length (ps.take k)).getD (ps[k]).1 0) ((stands xs.length (ps.take k)).getD (ps[k]).2 0) q L' rk') : Agree L' xs (ps.take (k + 1)) := by
  refine ⟨?_, rk', hp.rank⟩
  rw [stands_take _ _ _ hk]
  exact h.1.merge (by rw [stands_len]; exact ha) (by rw [stands_len]; exact hb) hp.mg
theorem Agree.sm {L L2 : List Sy} {xs : List S30} {ps : List (Nat × Nat)} {rk : Nat → Nat} (h : Agree L xs ps) (k : Sm L rk L2) : Agree L2 xs ps := by
  refine ⟨⟨k.len.trans h.1.len, fun x hx => k.rt (h.1.st x hx), fun r hr hroot => ?_⟩, rk, k.rank⟩
  have h1 := k.rt (h.1.st r hr)
  have h2 : R L2 r r := ⟨0, .here (by rw [k.len, h.1.len]; exact hr) hroot⟩
  have h3 := h1.det h2
  rw [k.us]
  exact h.1.root hr h3
/-- the told symbols' uses, in a row that is read -/
def RS (W : World) (N : Nat) (v : Value) (L : List Sy) : Prop := ∃ A cap, v = .slice A L.length cap ∧ L.length ≤ cap ∧ ∀ i, i < L.length → ∃ g, A = some ⟨g, 0, none⟩ ∧ g < N ∧ W.cell? ⟨g, i * 4 + 1, none⟩ = some (.int .u32 (us L i))
theorem RS.keep {W W' : World} {N : Nat} {v : Value} {L : List Sy} (h : RS W N v L) (hk : ∀ g, g < N → W'.heap[g]? = W.heap[g]?) : RS W' N v L := by
  obtain ⟨a, cap, h1, h2, h3⟩ := h
  refine ⟨a, cap, h1, h2, fun i hi => ?_⟩
  obtain ⟨g, e, hg, c1⟩ := h3 i hi
  exact ⟨g, e, hg, (cell_of (hk g hg)).trans c1⟩
/-- symbols, as they are told -/
def cells30 (L : List Sy) : List Value := L.flatMap fun s => [.string s.nm, .int .u32 s.uses, .int .i64 (wrap64 s.fl), .int .i64 (wrap64 s.kd)]
theorem cells30_get : ∀ (L : List Sy) (i : Nat), i < L.length → (cells30 L)[i * 4 + 1]? = some (.int .u32 (us L i)) := by
  intro L
  induction L with
  | nil => intro i h; simp at h
  | cons x r ih =>
    intro i h
    have e : cells30 (x :: r) = [.string x.nm, .int .u32 x.uses, .int .i64 (wrap64 x.fl), .int .i64 (wrap64 x.kd)] ++ cells30 r := rfl
    cases i with
    | zero => rw [e]; rfl
    | succ i =>
      rw [e, List.getElem?_append_right (by show 4 ≤ _; omega), show (i + 1) * 4 + 1 - [Value.string x.nm, .int .u32 x.uses, .int .i64 (wrap64 x.fl), .int .i64 (wrap64 x.kd)].length = i * 4 + 1 by show (i + 1) * 4 + 1 - 4 = _; omega]
      rw [ih i (by simpa using h)]
      simp [us]
theorem RS.of_own {W : World} {base e : Nat} {v : Value} {L : List Sy} (h : W.ownsRow base e 4 v L.length (cells30 L)) : RS W W.heap.size v L := by
  have h0 := h
  rcases h.2 with ⟨rfl, hn⟩ | ⟨g, cap, cur, rfl, hb, hg, hc, _⟩
  · exact ⟨none, 0, by rw [hn], by omega, fun i hi => by omega⟩
  · refine ⟨some ⟨g, 0, none⟩, cap, rfl, hc, fun i hi => ⟨g, rfl, (Array.getElem?_eq_some_iff.1 hg).1, ?_⟩⟩
    rw [h0.cellAt _ (by omega), cells30_get L i hi]
/-- what impl.Merged tells -/
def ImpPost (W : World) (xs : List S30) (ps : List (Nat × Nat)) (S : List Nat) (e : Ending) (w' : World) : Prop :=
  ∃ (r1 r2 : Value) (L : List Sy), e = .returned (.tuple #[r1, r2]) ∧ RA w' w'.heap.size r1 S.length (cellsN (S.map fun i => (stands xs.length ps).getD i 0)) ∧ RS w' w'.heap.size r2 L ∧ Agree L xs ps ∧ Below W.heap.size W w'
end Go.Proofs.YtlhepbgonecgpaaDoor.fnMergedUses
