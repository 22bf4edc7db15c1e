/-
  FnFinalize: spec.SameMappings of one list twice; a row of one's own that lies as mappings.
  Conditions: at most 1,000 mappings.
-/
import Derived.Test.YtdhaifcjhmmdlaaFnFinalizeSum2
namespace Go.Proofs.Ytdhaifcjhmmdlaa.fnFinalize
open Go.RowKit Go.Proofs.YtdhaifcjhmmdlaaW.PrintWords Go.Proofs.YtdhaifcjhmmdlaaW.PrintLast Go.Proofs.YtdhaifcjhmmdlaaW.PrintMore Go.Proofs.Ytdhaifcjhmmdlaa.PFnFinalize
set_option linter.unusedVariables false
set_option linter.unusedSimpArgs false

def sm (m : Mp) : S27 := ⟨m.line, m.col, m.src, m.ol, m.oc, m.nm⟩
theorem same_l (l : List S27) (hn : l.length ≤ 1000) : ∀ m i, i + m = l.length → ∀ K, m < K → spec_SameMappings.l0 K l l (l.length : Int) (i : Int) = some true := by
  intro m
  induction m with
  | zero =>
    intro i hi K hK
    obtain ⟨K, rfl⟩ : ∃ q, K = q + 1 := ⟨K - 1, by omega⟩
    unfold spec_SameMappings.l0
    rw [if_neg (by omega)]
  | succ m ih =>
    intro i hi K hK
    obtain ⟨K, rfl⟩ : ∃ q, K = q + 1 := ⟨K - 1, by omega⟩
    unfold spec_SameMappings.l0
    rw [if_pos (by omega), if_pos (by omega), if_pos (by omega), if_pos (by omega), if_neg (by simp), up_nat i (by omega)]
    exact ih (i + 1) (by omega) K (by omega)
theorem same_f (l : List S27) (hn : l.length ≤ 1000) : spec_SameMappings.f 1002 l l = some true := by
  unfold spec_SameMappings.f
  rw [if_pos rfl]
  exact same_l l hn l.length 0 (by omega) 1002 (by omega)
theorem kd_of_own {w : World} {base n c : Nat} {A : Option Addr} {ms : List Mp} (h : w.ownsRow base 27 6 (.slice A n c) n (ms.flatMap mcells)) (hn : n = ms.length) (h1000 : n ≤ 1000) : Kd.C k27 w A (ms.map sm).length (ms.map sm) ∧ (ms.map sm).length ≤ c ∧ (ms.map sm).length = n := by
  have hl : (ms.map sm).length = n := by rw [List.length_map, hn]
  rw [hl]
  refine ⟨⟨hl, by omega, fun h0 => ?_⟩, ?_, rfl⟩
  · have h' := h
    rcases h.2 with ⟨e, hz⟩ | ⟨g, cap, cur, e, hb, hg, hc, _⟩
    · omega
    · cases e
      refine ⟨⟨g, 0, none⟩, rfl, fun j p hp => ?_⟩
      rw [List.getElem?_map] at hp
      obtain ⟨m, hm, rfl⟩ := Option.map_eq_some_iff.1 hp
      obtain ⟨hj, hmj⟩ := List.getElem?_eq_some_iff.1 hm
      refine ⟨_, rfl, k27_mk w (sm m), fun i u hu => ?_⟩
      have hi : i < 6 := (List.getElem?_eq_some_iff.1 hu).1
      show w.cell? ((⟨g, 0, none⟩ : Addr).add (j * 6 + i)) = some u
      rw [add_at, Nat.zero_add, h'.cellAt (j * 6 + i) (by omega)]
      have key : ∀ (l : List Mp) (j : Nat) (hj : j < l.length), (l.flatMap mcells)[j * 6 + i]? = (mcells l[j])[i]? := by
        intro l
        induction l with
        | nil => intro j hj; simp at hj
        | cons x r ih =>
          intro j hj
          have hx : (mcells x).length = 6 := rfl
          cases j with
          | zero =>
            rw [List.flatMap_cons, List.getElem?_append_left (by rw [hx]; omega)]
            simp
          | succ j =>
            rw [List.flatMap_cons, List.getElem?_append_right (by rw [hx]; omega), hx]
            rw [show (j + 1) * 6 + i - 6 = j * 6 + i by omega, ih j (by simpa using hj)]
            simp
      rw [key ms j hj, hmj]
      exact hu
  · rcases h.2 with ⟨e, hz⟩ | ⟨g, cap, cur, e, hb, hg, hc, _⟩
    · cases e; omega
    · cases e; exact hc
end Go.Proofs.Ytdhaifcjhmmdlaa.fnFinalize
