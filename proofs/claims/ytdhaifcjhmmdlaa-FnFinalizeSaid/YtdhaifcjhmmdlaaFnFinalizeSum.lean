/-
  FnFinalize, the plain part: what mappings that fit and shifts that fit give the walks: items in order, small numbers, and what is read behind the finalizing.
  Conditions: none.
-/
import Derived.Test.YtdhaifcjhmmdlaaFnFinalizeMaps0
import Derived.Test.YtdhaifcjhmmdlaaFnFinalizeIs
namespace Go.Proofs.Ytdhaifcjhmmdlaa.fnFinalize
open Go.RowKit Go.Proofs.YtdhaifcjhmmdlaaW.PrintWords Go.Proofs.YtdhaifcjhmmdlaaW.PrintLast Go.Proofs.YtdhaifcjhmmdlaaW.PrintMore Go.Proofs.Ytdhaifcjhmmdlaa.PFnFinalize
set_option linter.unusedVariables false
set_option linter.unusedSimpArgs false

/-- mappings whose numbers fit -/
def Fm (L : List S27) : Prop := ∀ j, j < L.length → Fit' (L.getD j z27) ∧ (L.getD j z27).f0 ≤ 1000
theorem drop_getD (L : List S27) (i : Nat) (h : i < L.length) : L.drop i = L.getD i z27 :: L.drop (i + 1) := by
  rw [List.drop_eq_getElem_cons h]
  simp [List.getD, h]
theorem ord_l (L : List S27) (hF : Fm L) (hS : Sorted L) : ∀ (m i : Nat) (s : St), i + m = L.length → (i = 0 → s.line = 0 ∧ s.col = 0) → (0 < i → s.line = (L.getD (i - 1) z27).f0 ∧ s.col = (L.getD (i - 1) z27).f1) → Ord s ((L.drop i).map mp) := by
  intro m
  induction m with
  | zero =>
    intro i s hi _ _
    rw [List.drop_of_length_le (by omega)]
    exact trivial
  | succ m ih =>
    intro i s hi h0 h1
    have hlt : i < L.length := by omega
    obtain ⟨⟨x0, x1, x2, x3, x4, x5⟩, _⟩ := hF i hlt
    rw [drop_getD L i hlt, List.map_cons]
    refine ⟨?_, ?_, ?_, ih (i + 1) (s.next (mp (L.getD i z27))) (by omega) (by omega) (fun _ => by rw [Nat.add_sub_cancel]; exact ⟨rfl, rfl⟩)⟩
    · show s.line ≤ (L.getD i z27).f0
      by_cases e : i = 0
      · rw [(h0 e).1]; exact x0.1
      · have := hS i (by omega) hlt
        unfold befS at this
        rw [(h1 (by omega)).1]
        omega
    · intro hl
      show s.col ≤ (L.getD i z27).f1
      have hl : s.line = (L.getD i z27).f0 := hl
      by_cases e : i = 0
      · rw [(h0 e).2]; exact x1.1
      · have := hS i (by omega) hlt
        unfold befS at this
        rw [(h1 (by omega)).1] at hl
        rw [(h1 (by omega)).2]
        omega
    · show -1 ≤ (L.getD i z27).f5
      exact x5.1
theorem ord_f (L : List S27) (hF : Fm L) (hS : Sorted L) : Ord st0 (L.map mp) := by
  have := ord_l L hF hS L.length 0 st0 (by omega) (fun _ => ⟨rfl, rfl⟩) (by omega)
  simpa using this
theorem its_len : ∀ (l : List Mp) (s : St) (fst : Bool), (its s fst l).length = l.length := by
  intro l
  induction l with
  | nil => intro s fst; rfl
  | cons m r ih => intro s fst; show (_ :: its (s.next m) false r).length = _; rw [List.length_cons, ih, List.length_cons]
theorem its_cs : ∀ (l : List Mp) (s : St) (fst : Bool), Cs (its s fst l) := by
  intro l
  induction l with
  | nil => intro s fst x hx; cases hx
  | cons m r ih =>
    intro s fst x hx hc
    rcases List.mem_cons.1 hx with rfl | hx
    · have h : (!fst && decide (s.line = m.line)) = true := hc
      have h2 : s.line = m.line := by
        rw [Bool.and_eq_true] at h
        exact of_decide_eq_true h.2
      show (m.line - s.line).toNat = 0
      omega
    · exact ih _ _ x hx hc
theorem its_sep : ∀ (l : List Mp) (s : St), Ord s l → ∀ x ∈ its s false l, x.c = true ∨ 0 < x.k := by
  intro l
  induction l with
  | nil => intro s _ x hx; cases hx
  | cons m r ih =>
    intro s ho x hx
    rcases List.mem_cons.1 hx with rfl | hx
    · by_cases e : s.line = m.line
      · left
        show (!false && decide (s.line = m.line)) = true
        rw [decide_eq_true e]
        rfl
      · right
        show 0 < (m.line - s.line).toNat
        have := ho.1
        omega
    · exact ih _ ho.2.2.2 x hx
theorem its_sep0 (l : List Mp) (s : St) (h : Ord s l) : ∀ x ∈ (its s true l).tail, x.c = true ∨ 0 < x.k := by
  cases l with
  | nil => intro x hx; cases hx
  | cons m r => exact its_sep r _ h.2.2.2
theorem its_rg : ∀ (L : List S27) (s : St) (fst : Bool), Bd s → Fm L → Rg (its s fst (L.map mp)) := by
  intro L
  induction L with
  | nil => intro s fst _ _ x hx; cases hx
  | cons y r ih =>
    intro s fst hs hF x hx
    have hy := hF 0 (by simp)
    have hr : Fm r := fun j hj => hF (j + 1) (by simpa using hj)
    have hy0 : Fit' y ∧ y.f0 ≤ 1000 := hy
    rw [List.map_cons] at hx
    rcases List.mem_cons.1 hx with rfl | hx
    · obtain ⟨⟨x0, x1, x2, x3, x4, x5⟩, hl⟩ := hy0
      obtain ⟨s0, s1, s2, s3, s4, s5⟩ := hs
      refine ⟨?_, ?_, ?_, ?_, fun n hn => ?_⟩
      · show Sm (y.f1 - (if s.line < y.f0 then 0 else s.col))
        unfold Sm
        split <;> omega
      · show Sm (y.f2 - s.src); unfold Sm; omega
      · show Sm (y.f3 - s.ol); unfold Sm; omega
      · show Sm (y.f4 - s.oc); unfold Sm; omega
      · have hn : (if 0 ≤ y.f5 then some (y.f5 - s.nm) else none) = some n := hn
        by_cases e : 0 ≤ y.f5
        · rw [if_pos e] at hn
          obtain rfl := Option.some.inj hn
          unfold Sm; omega
        · rw [if_neg e] at hn; cases hn
    · exact ih _ _ (hs.next hy0.1 hy0.2) hr x hx
theorem comma_its (l : List Mp) (s : St) : comma (its s true l) = [] := by
  cases l with
  | nil => rfl
  | cons m r => rfl
theorem tl_its (l : List Mp) (s : St) : rn (its s true l) = tl (its s true l) := by rw [rn_tl _ (its_cs l s true), comma_its]; rfl
theorem tlF_its (l : List Mp) (s : St) (f : Fs) : rn (fin f (its s true l)) = tlF f (its s true l) := by rw [rn_tlF _ f (its_cs l s true), comma_its]; rfl
theorem fin_len : ∀ (l : List It) (f : Fs), (fin f l).length = l.length := by
  intro l
  induction l with
  | nil => intro f; rfl
  | cons i r ih => intro f; show (_ :: fin (f.step i) r).length = _; rw [List.length_cons, ih, List.length_cons]
theorem fin_mem : ∀ (l : List It) (f : Fs) (x : It), x ∈ fin f l → ∃ i ∈ l, x.k = i.k ∧ x.c = i.c ∧ x.rest = i.rest := by
  intro l
  induction l with
  | nil => intro f x hx; cases hx
  | cons i r ih =>
    intro f x hx
    rcases List.mem_cons.1 hx with rfl | hx
    · obtain ⟨h1, h2, h3⟩ := turn_k f i
      exact ⟨i, by simp, h1, h2, h3⟩
    · obtain ⟨j, hj, h⟩ := ih _ x hx
      exact ⟨j, List.mem_cons_of_mem _ hj, h⟩
theorem fin_cs (l : List It) (f : Fs) (h : Cs l) : Cs (fin f l) := by
  intro x hx hc
  obtain ⟨i, hi, h1, h2, _⟩ := fin_mem l f x hx
  rw [h1]
  exact h i hi (by rw [← h2]; exact hc)
theorem fin_sep (l : List It) (f : Fs) (h : ∀ x ∈ l.tail, x.c = true ∨ 0 < x.k) : ∀ x ∈ (fin f l).tail, x.c = true ∨ 0 < x.k := by
  cases l with
  | nil => intro x hx; cases hx
  | cons i r =>
    intro x hx
    have hx : x ∈ fin (f.step i) r := hx
    obtain ⟨j, hj, h1, h2, _⟩ := fin_mem r _ x hx
    rw [h1, h2]
    exact h j hj
/-! ### the shifts -/
theorem pair_of (SH : List Sh) (h : ∀ j (hj : j < SH.length), 0 < j → bef (SH[j - 1]'(by omega)) SH[j].line SH[j].col = true) : SH.Pairwise fun a b => bef a b.line b.col = true := by
  rw [List.pairwise_iff_getElem]
  intro i j hi hj hij
  have key : ∀ d i (hi : i < SH.length) (hj : i + (d + 1) < SH.length), bef SH[i] SH[i + (d + 1)].line SH[i + (d + 1)].col = true := by
    intro d
    induction d with
    | zero =>
      intro i hi hj
      have := h (i + (0 + 1)) hj (by omega)
      simpa using this
    | succ d ih =>
      intro i hi hj
      have h1 := ih i hi (by omega)
      have h2 := h (i + (d + 1 + 1)) hj (by omega)
      have e : i + (d + 1 + 1) - 1 = i + (d + 1) := by omega
      have h2 : bef SH[i + (d + 1)] SH[i + (d + 1 + 1)].line SH[i + (d + 1 + 1)].col = true := by
        simpa only [e] using h2
      exact bef_trans h1 h2
  obtain ⟨d, rfl⟩ : ∃ d, j = i + (d + 1) := ⟨j - i - 1, by omega⟩
  exact key d i hi hj
theorem mv_small {SH : List Sh} (hS : Ss SH) (line col : Int) : -1048576 ≤ mv SH line col ∧ mv SH line col ≤ 1048576 := by
  have key : ∀ (l : List Sh) (x : Int), (∀ s ∈ l, 0 ≤ s.col ∧ s.col ≤ 1048576 ∧ 0 ≤ s.acol ∧ s.acol ≤ 1048576) → -1048576 ≤ x → x ≤ 1048576 → -1048576 ≤ l.foldl (fun x s => if s.line = line ∧ s.col < col then s.dl else x) x ∧ l.foldl (fun x s => if s.line = line ∧ s.col < col then s.dl else x) x ≤ 1048576 := by
    intro l
    induction l with
    | nil => intro x _ h1 h2; exact ⟨h1, h2⟩
    | cons s r ih =>
      intro x h h1 h2
      have hs := h s (by simp)
      rw [List.foldl_cons]
      refine ih _ (fun t ht => h t (List.mem_cons_of_mem _ ht)) ?_ ?_
      · unfold Sh.dl; split <;> omega
      · unfold Sh.dl; split <;> omega
  exact key SH 0 (fun s hs => by have := hS.2 s hs; omega) (by omega) (by omega)
theorem head_in {SH : List Sh} {line col : Int} {h : Sh} {t : List Sh} (ha : At SH line col h t) : h ∈ SH := by
  obtain ⟨⟨p, rfl, _⟩, _⟩ := ha
  simp
theorem fin_ok {SH : List Sh} (hf : Fine SH) (hS : Ss SH) : ∀ (L : List S27) (s s' : St) (f : Fs) (fst : Bool), Run SH s f s' → Ord s (L.map mp) → Bd s → Fm L → (∀ y ∈ L, 0 ≤ y.f1 + mv SH y.f0 y.f1) → Ok s' (fin f (its s fst (L.map mp))) := by
  intro L
  induction L with
  | nil => intro s s' f fst _ _ _ _ _; exact trivial
  | cons y r ih =>
    intro s s' f fst hr ho hs hF hM
    rw [List.map_cons] at ho ⊢
    obtain ⟨o1, o2, o3, o4⟩ := ho
    obtain ⟨h1, h2⟩ := hr.step hf fst (mp y) o1 o2 o3
    have hy : Fit' y ∧ y.f0 ≤ 1000 := hF 0 (by simp)
    have hrF : Fm r := fun j hj => hF (j + 1) (by simpa using hj)
    have hbd := hs.next hy.1 hy.2
    have hmv := mv_small hS y.f0 y.f1
    have hM0 := hM y (by simp)
    have hrg := its_rg [y] s fst hs (fun j hj => by
      have : j = 0 := by simpa using hj
      subst this
      exact hy) (itOf s fst (mp y)) (by simp [its])
    have hcol : (stepD s' (f.turn (itOf s fst (mp y)))).col = y.f1 + mv SH y.f0 y.f1 := congrArg Mp.col h2
    have hrest := h1.rest
    refine ⟨⟨?_, ?_, ?_, ?_, ?_, ?_⟩, ?_, ih _ _ _ _ h1 o4 hbd hrF (fun z hz => hM z (List.mem_cons_of_mem _ hz))⟩
    · rw [h1.dl]; exact ⟨hbd.line.1, by have := hbd.line.2; omega⟩
    · rw [hcol]; exact ⟨hM0, by have := hy.1.2.1.2; omega⟩
    · rw [hrest.1]; exact ⟨hbd.src.1, by have := hbd.src.2; omega⟩
    · rw [hrest.2.1]; exact ⟨hbd.ol.1, by have := hbd.ol.2; omega⟩
    · rw [hrest.2.2.1]; exact ⟨hbd.oc.1, by have := hbd.oc.2; omega⟩
    · rw [hrest.2.2.2]; exact ⟨hbd.nm.1, by have := hbd.nm.2; omega⟩
    · have hd : Sm (f.turn (itOf s fst (mp y))).d := by
        unfold Fs.turn
        by_cases hh : f.hit (itOf s fst (mp y)) = true
        · rw [if_pos hh]
          obtain ⟨h, t, e1, e2, e3⟩ := h1.sh
          have hst : (f.step (itOf s fst (mp y))).sh = (f.go (itOf s fst (mp y))).sh := by unfold Fs.step; rw [if_pos hh]
          rw [← hst, e1]
          show Sm ((itOf s fst (mp y)).d + h.dl - (f.go (itOf s fst (mp y))).prev)
          have hhS := hS.2 h (head_in e2)
          have hprev : -1048576 ≤ (f.go (itOf s fst (mp y))).prev ∧ (f.go (itOf s fst (mp y))).prev ≤ 1048576 := by
            unfold Fs.go
            show -1048576 ≤ (if 0 < (itOf s fst (mp y)).k then 0 else f.prev) ∧ (if 0 < (itOf s fst (mp y)).k then 0 else f.prev) ≤ 1048576
            obtain ⟨h0, t0, _, f2, f3⟩ := hr.sh
            have hh0 := hS.2 h0 (head_in f2)
            have : -1048576 ≤ f.prev ∧ f.prev ≤ 1048576 := by
              rw [f3]
              unfold Sh.dl
              split <;> omega
            split <;> omega
          have hdb : -1073741824 ≤ (itOf s fst (mp y)).d ∧ (itOf s fst (mp y)).d ≤ 1073741824 := by
            have q1 := hy.1.2.1
            have q2 := hs.col
            show -1073741824 ≤ y.f1 - (if s.line < y.f0 then 0 else s.col) ∧ y.f1 - (if s.line < y.f0 then 0 else s.col) ≤ 1073741824
            split <;> omega
          unfold Sm Sh.dl
          omega
        · rw [if_neg hh]; exact hrg.1
      have ht : (f.turn (itOf s fst (mp y))).a = (itOf s fst (mp y)).a ∧ (f.turn (itOf s fst (mp y))).b = (itOf s fst (mp y)).b ∧ (f.turn (itOf s fst (mp y))).e = (itOf s fst (mp y)).e ∧ (f.turn (itOf s fst (mp y))).nm = (itOf s fst (mp y)).nm := by
        unfold Fs.turn
        split <;> exact ⟨rfl, rfl, rfl, rfl⟩
      rw [ht.1, ht.2.1, ht.2.2.1, ht.2.2.2]
      exact ⟨hd, hrg.2⟩
/-! ### bytes and lengths -/
theorem digs_lg : ∀ b ∈ digs, Lg b := by
  intro b hb
  have h : ∀ x ∈ digs, (97 ≤ x.toNat ∧ x.toNat ≤ 122) ∨ (65 ≤ x.toNat ∧ x.toNat ≤ 90) ∨ (48 ≤ x.toNat ∧ x.toNat ≤ 57) ∨ x = 43 ∨ x = 47 ∨ x = 44 ∨ x = 59 := by decide
  exact h b hb
theorem vlq_lg (n : Int) : ∀ b ∈ vlq n, Lg b := fun b hb => digs_lg b (vl_mem _ b hb)
theorem rn_lg (l : List It) : ∀ b ∈ rn l, Lg b := by
  intro b hb
  obtain ⟨i, hi, hb⟩ := List.mem_flatMap.1 hb
  unfold It.txt It.head It.rest at hb
  simp only [List.mem_append] at hb
  rcases hb with ((hb | hb) | hb) | ((hb | hb) | hb) | hb
  · have := List.eq_of_mem_replicate hb
    subst this
    exact .inr (.inr (.inr (.inr (.inr (.inr rfl)))))
  · by_cases hc : i.c = true
    · rw [if_pos hc] at hb
      have := List.mem_singleton.1 hb
      subst this
      exact .inr (.inr (.inr (.inr (.inr (.inl rfl)))))
    · rw [if_neg hc] at hb; cases hb
  · exact vlq_lg _ b hb
  · exact vlq_lg _ b hb
  · exact vlq_lg _ b hb
  · exact vlq_lg _ b hb
  · cases hn : i.nm with
    | none => rw [hn] at hb; cases hb
    | some n => rw [hn] at hb; exact vlq_lg _ b hb
end Go.Proofs.Ytdhaifcjhmmdlaa.fnFinalize
