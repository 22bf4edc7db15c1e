/-
  FnFinalize, the plain part, closed: all that the law's walk asks of mappings and shifts that fit.
  Conditions: none.
-/
import Derived.Test.YtdhaifcjhmmdlaaFnFinalizeSum
namespace Go.Proofs.Ytdhaifcjhmmdlaa.fnFinalize
open Go.RowKit Go.Proofs.YtdhaifcjhmmdlaaW.PrintWords Go.Proofs.YtdhaifcjhmmdlaaW.PrintLast Go.Proofs.YtdhaifcjhmmdlaaW.PrintMore Go.Proofs.Ytdhaifcjhmmdlaa.PFnFinalize
set_option linter.unusedVariables false
set_option linter.unusedSimpArgs false

theorem fits2_l0 (xs : List S27) (hn : xs.length ≤ 1000) (hr : ∀ i, i < xs.length → -9223372036854775808 ≤ (xs.getD i z27).f5 ∧ (xs.getD i z27).f5 ≤ 9223372036854775807) : ∀ m i, i + m = xs.length →
    ∃ r, spec_MapsFit.l0 (8 * m + 1002) xs xs (xs.length : Int) (i : Int) = some r ∧ (r = true → Sorted xs ∧ ∀ j, i ≤ j → j < xs.length → (Fit' (xs.getD j z27) ∧ (xs.getD j z27).f0 ≤ 1000)) := by
  intro m
  induction m with
  | zero =>
    intro i hi
    unfold spec_MapsFit.l0
    rw [if_neg (by omega)]
    obtain ⟨r, h1, h2⟩ := ordered_f xs hn
    rw [h1]
    exact ⟨r, rfl, fun h => ⟨h2 h, fun j a b => by omega⟩⟩
  | succ m ih =>
    intro i hi
    have hs : 8 * (m + 1) + 1002 = (8 * m + 1002 + 6 + 1) + 1 := by omega
    rw [hs]
    unfold spec_MapsFit.l0
    rw [if_pos (by omega), if_pos (by omega), if_pos (by omega), rd_nat]
    have hf := hr i (by omega)
    generalize hx : xs.getD i z27 = x at hf
    have hl := fits_l1 [x.f0, x.f1, x.f2, x.f3, x.f4, wrap64 (x.f5 + 1)] (by simp) (8 * m + 1002) xs xs (xs.length : Int) (i : Int) x.f0 x.f1 x.f2 x.f3 x.f4 x.f5 6 0 (by simp)
    rw [show ((0 : Nat) : Int) = 0 from rfl] at hl
    show ∃ r, spec_MapsFit.l1 (8 * m + 1002 + 6 + 1) xs xs (xs.length : Int) (i : Int) [x.f0, x.f1, x.f2, x.f3, x.f4, wrap64 (x.f5 + 1)] (([x.f0, x.f1, x.f2, x.f3, x.f4, wrap64 (x.f5 + 1)] : List Int).length : Int) 0 x.f0 x.f1 x.f2 x.f3 x.f4 x.f5 = some r ∧ _
    rcases hl with hl | ⟨hl, hl'⟩
    · rw [hl]; exact ⟨false, rfl, fun h => by cases h⟩
    · rw [hl', up_nat i (by omega)]
      by_cases hbig : x.f0 > 1000
      · rw [if_pos hbig]; exact ⟨false, rfl, fun h => by cases h⟩
      · rw [if_neg hbig]
        obtain ⟨r, h1, h2⟩ := ih (i + 1) (by omega)
        rw [h1]
        refine ⟨r, rfl, fun h => ⟨(h2 h).1, fun j a b => ?_⟩⟩
        by_cases ej : j = i
        · subst ej
          rw [hx]
          have q5 := hl 5 (by omega) (by simp)
          have q5' : 0 ≤ wrap64 (x.f5 + 1) ∧ wrap64 (x.f5 + 1) ≤ 1073741824 := q5
          refine ⟨⟨hl 0 (by omega) (by simp), hl 1 (by omega) (by simp), hl 2 (by omega) (by simp), hl 3 (by omega) (by simp), hl 4 (by omega) (by simp), ?_⟩, by omega⟩
          unfold wrap64 at q5'
          omega
        · exact (h2 h).2 j (by omega) b
theorem fits2_f (xs : List S27) (hn : xs.length ≤ 1000) (hr : ∀ i, i < xs.length → -9223372036854775808 ≤ (xs.getD i z27).f5 ∧ (xs.getD i z27).f5 ≤ 9223372036854775807) :
    ∃ k r, spec_MapsFit.f k xs = some r ∧ (r = true → Sorted xs ∧ ∀ j, j < xs.length → (Fit' (xs.getD j z27) ∧ (xs.getD j z27).f0 ≤ 1000)) := by
  obtain ⟨r, h1, h2⟩ := fits2_l0 xs hn hr xs.length 0 (by omega)
  exact ⟨_, r, h1, fun h => ⟨(h2 h).1, fun j b => (h2 h).2 j (Nat.zero_le _) b⟩⟩

def Small (l : List It) : Prop := ∀ i ∈ l, i.k ≤ 1000 ∧ Sm i.d ∧ Sm i.a ∧ Sm i.b ∧ Sm i.e ∧ ∀ n, i.nm = some n → Sm n
theorem sm_len {n : Int} (h : Sm n) : (vlq n).length ≤ 7 := vlq_len n h.1 h.2
theorem txt_len {i : It} (h : i.k ≤ 1000 ∧ Sm i.d ∧ Sm i.a ∧ Sm i.b ∧ Sm i.e ∧ ∀ n, i.nm = some n → Sm n) : i.txt.length ≤ 1100 := by
  obtain ⟨h0, h1, h2, h3, h4, h5⟩ := h
  have l1 := sm_len h1
  have l2 := sm_len h2
  have l3 := sm_len h3
  have l4 := sm_len h4
  unfold It.txt It.head
  rw [rest_eq]
  have hc : (if i.c = true then ([44] : List UInt8) else []).length ≤ 1 := by split <;> simp
  have hn : (nmt i).length ≤ 7 := by
    unfold nmt
    cases hm : i.nm with
    | none => simp
    | some n => exact sm_len (h5 n hm)
  simp only [List.length_append, List.length_replicate]
  omega
theorem rn_len : ∀ (l : List It), Small l → (rn l).length ≤ 1100 * l.length := by
  intro l
  induction l with
  | nil => intro _; simp [rn]
  | cons i r ih =>
    intro h
    have h1 := txt_len (h i (by simp))
    have h2 := ih (fun x hx => h x (List.mem_cons_of_mem _ hx))
    rw [rn_cons, List.length_append, List.length_cons]
    omega
theorem its_k : ∀ (L : List S27) (s : St) (fst : Bool), Bd s → Fm L → ∀ x ∈ its s fst (L.map mp), x.k ≤ 1000 := by
  intro L
  induction L with
  | nil => intro s fst _ _ x hx; cases hx
  | cons y r ih =>
    intro s fst hs hF x hx
    have hy : Fit' y ∧ y.f0 ≤ 1000 := hF 0 (by simp)
    have hr : Fm r := fun j hj => hF (j + 1) (by simpa using hj)
    rw [List.map_cons] at hx
    rcases List.mem_cons.1 hx with rfl | hx
    · show (y.f0 - s.line).toNat ≤ 1000
      have := hs.line.1
      have := hy.2
      omega
    · exact ih _ _ (hs.next hy.1 hy.2) hr x hx
theorem ok_sm : ∀ (l : List It) (s : St), Ok s l → ∀ i ∈ l, Sm i.d ∧ Sm i.a ∧ Sm i.b ∧ Sm i.e ∧ ∀ n, i.nm = some n → Sm n := by
  intro l
  induction l with
  | nil => intro s _ i hi; cases hi
  | cons x r ih =>
    intro s h i hi
    rcases List.mem_cons.1 hi with rfl | hi
    · exact h.2.1
    · exact ih _ h.2.2 i hi
theorem bd0 : Bd st0 := ⟨by decide, by decide, by decide, by decide, by decide, by decide⟩
structure Whole (P S : List UInt8) (L : List S27) (SH : List Sh) : Prop where
  ne : SH ≠ []
  lg : ∀ b ∈ rn (its st0 true (L.map mp)), Lg b
  tl : rn (its st0 true (L.map mp)) = tl (its st0 true (L.map mp))
  cs : Cs (its st0 true (L.map mp))
  sep : ∀ x ∈ (its st0 true (L.map mp)).tail, x.c = true ∨ 0 < x.k
  rg : Rg (its st0 true (L.map mp))
  ss : Ss SH
  len : (P ++ tlF ⟨0, 0, 0, SH⟩ (its st0 true (L.map mp)) ++ S).length < 4294967296
  tlen : (rn (its st0 true (L.map mp))).length < 4294967296
  llen : (its st0 true (L.map mp)).length ≤ 1000
  slen : SH.length ≤ 1000
  tlF : tlF ⟨0, 0, 0, SH⟩ (its st0 true (L.map mp)) = rn (fin ⟨0, 0, 0, SH⟩ (its st0 true (L.map mp)))
  ok : Ok st0 (fin ⟨0, 0, 0, SH⟩ (its st0 true (L.map mp)))
  fsep : ∀ x ∈ (fin ⟨0, 0, 0, SH⟩ (its st0 true (L.map mp))).tail, x.c = true ∨ 0 < x.k
  fcs : Cs (fin ⟨0, 0, 0, SH⟩ (its st0 true (L.map mp)))
  flen : (fin ⟨0, 0, 0, SH⟩ (its st0 true (L.map mp))).length ≤ 1000
  frn : (rn (fin ⟨0, 0, 0, SH⟩ (its st0 true (L.map mp)))).length < 4294967296
  dec : dec st0 (fin ⟨0, 0, 0, SH⟩ (its st0 true (L.map mp))) = (L.map mp).map (moved SH)
theorem whole (P S : List UInt8) (L : List S27) (SH t : List Sh) (hP : P.length ≤ 1000) (hSl : S.length ≤ 1000) (hn : L.length ≤ 1000) (hF : Fm L) (hS : Sorted L) (hsm : ∀ j (hj : j < SH.length), 0 ≤ SH[j].line ∧ SH[j].line ≤ 1000 ∧ 0 ≤ SH[j].col ∧ SH[j].col ≤ 1048576 ∧ 0 ≤ SH[j].acol ∧ SH[j].acol ≤ 1048576 ∧ SH[j].aline = SH[j].line)
    (hso : ∀ j (hj : j < SH.length), 0 < j → bef (SH[j - 1]'(by omega)) SH[j].line SH[j].col = true) (hz : SH = z0 :: t) (h100 : SH.length ≤ 100) (hM : ∀ y ∈ L, 0 ≤ y.f1 + mv SH y.f0 y.f1) : Whole P S L SH := by
  have hmem : ∀ s ∈ SH, 0 ≤ s.line ∧ s.line ≤ 1000 ∧ 0 ≤ s.col ∧ s.col ≤ 1048576 ∧ 0 ≤ s.acol ∧ s.acol ≤ 1048576 ∧ s.aline = s.line := by
    intro s hs
    obtain ⟨j, hj, rfl⟩ := List.getElem_of_mem hs
    exact hsm j hj
  have hne : SH ≠ [] := by rw [hz]; simp
  have hss : Ss SH := ⟨hne, hmem⟩
  have hfine : Fine SH := ⟨pair_of SH hso, fun x hx => by have := hmem x hx; omega⟩
  have hord := ord_f L hF hS
  have hlen : (its st0 true (L.map mp)).length ≤ 1000 := by rw [its_len, List.length_map]; exact hn
  have hrun := Run.start hfine hz
  have hok := fin_ok hfine hss L st0 st0 ⟨0, 0, 0, SH⟩ true hrun hord bd0 hF hM
  have hflen : (fin ⟨0, 0, 0, SH⟩ (its st0 true (L.map mp))).length ≤ 1000 := by rw [fin_len]; exact hlen
  have hrg := its_rg L st0 true bd0 hF
  have hk := its_k L st0 true bd0 hF
  have hsmall : Small (its st0 true (L.map mp)) := fun i hi => ⟨hk i hi, hrg i hi⟩
  have hfsmall : Small (fin ⟨0, 0, 0, SH⟩ (its st0 true (L.map mp))) := fun i hi => by
    obtain ⟨j, hj, h1, _⟩ := fin_mem _ _ i hi
    exact ⟨by rw [h1]; exact hk j hj, ok_sm _ _ hok i hi⟩
  have h1 := rn_len _ hsmall
  have h2 := rn_len _ hfsmall
  refine ⟨hne, rn_lg _, tl_its _ _, its_cs _ _ _, its_sep0 _ _ hord, hrg, hss, ?_, by omega, hlen, by omega, (tlF_its _ _ _).symm, hok, fin_sep _ _ (its_sep0 _ _ hord), fin_cs _ _ (its_cs _ _ _), hflen, by omega, ?_⟩
  · rw [← tlF_its]
    simp only [List.length_append]
    omega
  · exact fin_dec hfine _ _ _ _ _ hrun hord
end Go.Proofs.Ytdhaifcjhmmdlaa.fnFinalize
