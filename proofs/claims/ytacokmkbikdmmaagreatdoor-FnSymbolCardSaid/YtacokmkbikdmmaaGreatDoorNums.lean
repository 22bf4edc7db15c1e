/-
  The answers of NumBig and UTF8Text: they end on short texts.
  Conditions: none.
-/
import Derived.Test.YtacokmkbikdmmaaGreatDoorNumx3
import Derived.Test.YtacokmkbikdmmaaGreatDoorPFnChainsx1
import Derived.Test.YtacokmkbikdmmaaGreatDoorTrees
namespace Go.Proofs.YtacokmkbikdmmaaGreatDoor.trees
open Go Go.RowKit Go.Proofs.YtacokmkbikdmmaaGreatDoorW.PrintWords Go.Proofs.YtacokmkbikdmmaaGreatDoor.PFnChains
set_option linter.unusedVariables false
set_option linter.unusedSimpArgs false

theorem between_total (a b c : Int) : ∃ r, spec_between.f a b c = some r := by unfold spec_between.f; split <;> exact ⟨_, rfl⟩
theorem digit_total (a : Int) : ∃ r, spec_Digit.f a = some r := by
  unfold spec_Digit.f
  obtain ⟨r, h⟩ := between_total 48 a 57
  rw [h]
  exact ⟨_, rfl⟩
theorem hex_total (a : Int) : ∃ r, spec_Hex.f a = some r := by
  unfold spec_Hex.f
  obtain ⟨r, h⟩ := digit_total a
  obtain ⟨r1, h1⟩ := between_total 97 a 102
  obtain ⟨r2, h2⟩ := between_total 65 a 70
  rw [h, h1, h2]
  simp only [Option.bind_some]
  split
  · exact ⟨_, rfl⟩
  · split
    · exact ⟨_, rfl⟩
    · split <;> exact ⟨_, rfl⟩
theorem base_total (k : Nat) (a : ByteArray) : ∃ r, spec_numBase.f (k + 4) a = some r ∧ (r > 0 → 2 ≤ a.size) := by
  unfold spec_numBase.f
  split
  · refine ⟨0, ?_, fun h => absurd h (by decide)⟩
    simp only [spec_numBase.j0, if_true]
  · rename_i h2
    have hs : 2 ≤ a.size := by omega
    rw [if_pos (by omega)]
    have : ∃ r, spec_numBase.j0 (k + 4) a (bt a 0 != 48) = some r := by
      simp only [spec_numBase.j0]
      split
      · exact ⟨_, rfl⟩
      · rw [if_pos (by omega)]
        have j2 : ∀ x b, ∃ r, spec_numBase.j2 (k + 2) x b = some r := by
          intro x b
          simp only [spec_numBase.j2]
          split
          · exact ⟨_, rfl⟩
          · split
            · exact ⟨_, rfl⟩
            · split <;> exact ⟨_, rfl⟩
        have j1 : ∀ x b, ∃ r, spec_numBase.j1 (k + 3) x b = some r := by
          intro x b
          simp only [spec_numBase.j1]
          split
          · exact ⟨_, rfl⟩
          · split <;> exact j2 _ _
        split <;> exact j1 _ _
    obtain ⟨r, hr⟩ := this
    exact ⟨r, hr, fun _ => hs⟩
theorem run_total (a : ByteArray) (x1 x2 : Int) (h1 : 0 ≤ x1) (h1b : x1 ≤ 2) (hs : a.size ≤ 1000) : ∀ (m k x7 : Nat), a.size ≤ x7 + m → x7 ≤ 1000 → m < k → ∃ r, spec_numRun.l0 k a x1 x2 (x7 : Int) = some r := by
  intro m
  induction m with
  | zero =>
    intro k x7 h hx hk
    obtain ⟨k, rfl⟩ : ∃ j, k = j + 1 := ⟨k - 1, by omega⟩
    unfold spec_numRun.l0
    have e : wrap64 (x1 + (x7 : Int)) = x1 + x7 := by unfold wrap64; omega
    rw [e, if_neg (by omega)]
    exact ⟨_, rfl⟩
  | succ m ih =>
    intro k x7 h hx hk
    obtain ⟨k, rfl⟩ : ∃ j, k = j + 1 := ⟨k - 1, by omega⟩
    unfold spec_numRun.l0
    have e : wrap64 (x1 + (x7 : Int)) = x1 + x7 := by unfold wrap64; omega
    rw [e]
    split
    · rename_i hlt
      rw [if_pos (by omega)]
      obtain ⟨t, ht⟩ := hex_total (wrap64 (bt a (x1 + x7)))
      rw [ht]
      simp only [Option.bind_some]
      split
      · split
        · have e2 : wrap64 ((x7 : Int) + 1) = ((x7 + 1 : Nat) : Int) := by clear e; unfold wrap64; omega
          rw [e2]
          exact ih k (x7 + 1) (by omega) (by omega) (by omega)
        · exact ⟨_, rfl⟩
      · exact ⟨_, rfl⟩
    · exact ⟨_, rfl⟩
theorem trim_total (l : List Int) (hl : l.length ≤ 2000) : ∀ (n k : Nat), n ≤ l.length → n < k → ∃ r, spec_natTrim.l0 k l (n : Int) = some r ∧ r.length ≤ l.length := by
  intro n
  induction n with
  | zero =>
    intro k hn hk
    obtain ⟨k, rfl⟩ : ∃ j, k = j + 1 := ⟨k - 1, by omega⟩
    unfold spec_natTrim.l0
    rw [if_neg (by omega), if_pos (by omega), if_pos (by omega)]
    exact ⟨_, rfl, by simp⟩
  | succ n ih =>
    intro k hn hk
    obtain ⟨k, rfl⟩ : ∃ j, k = j + 1 := ⟨k - 1, by omega⟩
    unfold spec_natTrim.l0
    have e : wrap64 (((n + 1 : Nat) : Int) - 1) = (n : Int) := by unfold wrap64; omega
    rw [if_pos (by omega), e, if_pos (by omega), if_pos (by omega)]
    split
    · exact ih k (by omega) (by omega)
    · rw [if_pos (by omega), if_pos (by omega)]
      exact ⟨_, rfl, by simp; omega⟩
theorem times_total (l : List Int) (hl : l.length ≤ 1000) (a1 : Int) : ∀ (m k : Nat) (a2 : Int) (x7 : List Int), x7.length + m = l.length → m + l.length + 2 < k → ∃ r, spec_natTimes.l0 k l a1 a2 x7 (x7.length : Int) = some r ∧ r.length ≤ l.length + 1 := by
  intro m
  induction m with
  | zero =>
    intro k a2 x7 h hk
    obtain ⟨k, rfl⟩ : ∃ j, k = j + 1 := ⟨k - 1, by omega⟩
    unfold spec_natTimes.l0
    rw [if_neg (by omega), if_pos (by omega)]
    obtain ⟨r, hr, hrl⟩ := trim_total (x7 ++ [a2]) (by simp; omega) (x7 ++ [a2]).length k (Nat.le_refl _) (by simp; omega)
    refine ⟨r, ?_, by simp at hrl; omega⟩
    unfold spec_natTrim.f
    rw [hr]
    rfl
  | succ m ih =>
    intro k a2 x7 h hk
    obtain ⟨k, rfl⟩ : ∃ j, k = j + 1 := ⟨k - 1, by omega⟩
    unfold spec_natTimes.l0
    rw [if_pos (by omega), if_pos (by omega), if_pos (by omega)]
    have e : wrap64 ((x7.length : Int) + 1) = ((x7.length + 1 : Nat) : Int) := by unfold wrap64; omega
    rw [e]
    obtain ⟨r, hr, hrl⟩ := ih k ((IntKind.u64.wrap (a2 + (IntKind.u64.wrap ((rd l (x7.length : Int)) * a1)))) / 4294967296) (x7 ++ [Go.bits .and .u64 (IntKind.u64.wrap (a2 + (IntKind.u64.wrap ((rd l (x7.length : Int)) * a1)))) 4294967295]) (by simp; omega) (by omega)
    rw [List.length_append] at hr
    exact ⟨r, hr, hrl⟩
theorem natural_total (a : ByteArray) (hs : a.size ≤ 1000) (x1 : Int) : ∀ (m k i : Nat) (x5 : List Int), i + m = a.size → x5.length ≤ i → 2 * a.size + m + 8 < k → ∃ r, spec_Natural.l0 k a x1 x5 (i : Int) = some r := by
  intro m
  induction m with
  | zero =>
    intro k i x5 h h5 hk
    obtain ⟨k, rfl⟩ : ∃ j, k = j + 1 := ⟨k - 1, by omega⟩
    unfold spec_Natural.l0
    rw [if_neg (by omega)]
    exact ⟨_, rfl⟩
  | succ m ih =>
    intro k i x5 h h5 hk
    obtain ⟨k, rfl⟩ : ∃ j, k = j + 1 := ⟨k - 1, by omega⟩
    unfold spec_Natural.l0
    rw [if_pos (by omega), if_pos (by omega)]
    obtain ⟨t, ht⟩ := hex_total (wrap64 (bt a (i : Int)))
    obtain ⟨r, hr, hrl⟩ := times_total x5 (by omega) (IntKind.u64.wrap x1) x5.length k (IntKind.u64.wrap t) [] (by simp) (by omega)
    have e : wrap64 ((i : Int) + 1) = ((i + 1 : Nat) : Int) := by unfold wrap64; omega
    have hr2 : spec_natTimes.f k x5 (IntKind.u64.wrap x1) (IntKind.u64.wrap t) = some r := hr
    rw [ht]
    simp only [Option.bind_some]
    rw [hr2]
    simp only [Option.bind_some]
    rw [e]
    exact ih k (i + 1) r (by omega) (by omega) (by omega)
theorem big_total (a : ByteArray) (hs : a.size ≤ 1000) : ∃ r, spec_NumBig.f 9000 a = some r := by
  unfold spec_NumBig.f
  obtain ⟨b, hb, hb2⟩ := base_total 8996 a
  rw [hb]
  simp only [Option.bind_some]
  split
  · rename_i h
    obtain ⟨n, hn⟩ := run_total a 2 b (by decide) (by decide) hs a.size 9000 0 (by omega) (by omega) (by omega)
    have hn2 : spec_numRun.f 9000 a 2 b = some n := hn
    rw [hn2]
    simp only [Option.bind_some]
    have h2 := hb2 h
    rw [if_pos (by omega)]
    have hx : (a.extract 2 a.size).size ≤ 1000 := by rw [ByteArray.size_extract]; omega
    obtain ⟨r, hr⟩ := natural_total (a.extract 2 a.size) hx b (a.extract 2 a.size).size 9000 0 [] (by omega) (by simp) (by omega)
    have hr2 : spec_Natural.f 9000 (a.extract 2 a.size) b = some r := hr
    rw [hr2]
    simp only [Option.bind_some]
    split <;> exact ⟨_, rfl⟩
  · obtain ⟨n, hn⟩ := run_total a 0 10 (by decide) (by decide) hs a.size 9000 0 (by omega) (by omega) (by omega)
    have hn2 : spec_numRun.f 9000 a 0 10 = some n := hn
    obtain ⟨r, hr⟩ := natural_total a hs 10 a.size 9000 0 [] (by omega) (by simp) (by omega)
    have hr2 : spec_Natural.f 9000 a 10 = some r := hr
    rw [hn2]
    simp only [Option.bind_some]
    split
    · exact ⟨_, rfl⟩
    · split
      · rename_i hnz hne
        split
        · rw [if_pos (by omega)]
          split
          · exact ⟨_, rfl⟩
          · rw [hr2]
            exact ⟨_, rfl⟩
        · rw [hr2]
          exact ⟨_, rfl⟩
      · exact ⟨_, rfl⟩
theorem numBig (a : ByteArray) (hs : a.size ≤ 1000) (W : World) : Calls Tryz.prog 46 #[.string a] W (fun e w' => ∃ v b, e = .returned (.tuple #[v, .bool b]) ∧ Below W.heap.size W w') := by
  obtain ⟨⟨r1, r2⟩, h⟩ := big_total a hs
  refine (spec_NumBig.calls 9000 a r1 r2 W h).mono ?_
  rintro e w' ⟨v, rfl, _, hb⟩
  exact ⟨v, r2, rfl, hb⟩
/-- code units as a list of numbers -/
theorem units_list {W : World} {N : Nat} {A : Option Addr} {len cap : Nat} (h : rows W N 1 A len cap unit) : ∃ l : List Int, l.length = len ∧ Kd.C (Kd.int .u16) W A len l := by
  obtain ⟨h1, h2, h3⟩ := h
  by_cases hl : len = 0
  · subst hl
    exact ⟨[], rfl, rfl, Nat.zero_le _, fun h => by simp at h⟩
  · obtain ⟨g, o, rfl, hg, ha⟩ := h3 hl
    have hx : ∀ i, i < len → ∃ u : Int, W.cell? ⟨g, o + i, none⟩ = some (.int .u16 u) := by
      intro i hi
      obtain ⟨cs, _, ⟨u, rfl, _, _⟩, hc⟩ := ha i hi
      have := hc 0 _ rfl
      rw [Nat.mul_one, Nat.add_zero] at this
      exact ⟨u, this⟩
    let f : Nat → Int := fun i => if h : i < len then (hx i h).choose else 0
    have hf : ∀ i, i < len → W.cell? ⟨g, o + i, none⟩ = some (.int .u16 (f i)) := by
      intro i h
      have e : f i = (hx i h).choose := dif_pos h
      rw [e]
      exact (hx i h).choose_spec
    refine ⟨(List.range len).map f, by simp, by simp, by omega, fun _ => ⟨⟨g, o, none⟩, rfl, fun j p hp => ?_⟩⟩
    have hj : j < len := by
      have := (List.getElem?_eq_some_iff.1 hp).1
      simpa using this
    have e : p = f j := by simpa [hj] using hp.symm
    subst e
    refine ⟨[.int .u16 (f j)], rfl, rfl, fun i u hu => ?_⟩
    have hi : i = 0 := by
      have := (List.getElem?_eq_some_iff.1 hu).1
      simp at this
      exact this
    subst hi
    have eu : u = .int .u16 (f j) := by simpa using hu.symm
    subst eu
    have hh := hf j hj
    have ea : (⟨g, o, none⟩ : Addr).add (j * 1 + 0) = ⟨g, o + j, none⟩ := by
      unfold Addr.add
      split
      · rename_i h0
        have : j = 0 := by omega
        subst this
        rfl
      · simp
    have ea2 : (⟨g, o, none⟩ : Addr).add (j * (Kd.int .u16).sz + 0) = ⟨g, o + j, none⟩ := ea
    rw [ea2]
    exact hh
theorem utf8_total (l : List Int) (hl : l.length ≤ 1000) : ∀ (m k i : Nat) (x3 : ByteArray), i + m = l.length → x3.size ≤ i → m < k → ∃ r, spec_UTF8Text.l0 k l x3 (i : Int) = some r := by
  intro m
  induction m with
  | zero =>
    intro k i x3 h h3 hk
    obtain ⟨k, rfl⟩ : ∃ j, k = j + 1 := ⟨k - 1, by omega⟩
    unfold spec_UTF8Text.l0
    rw [if_neg (by omega)]
    exact ⟨_, rfl⟩
  | succ m ih =>
    intro k i x3 h h3 hk
    obtain ⟨k, rfl⟩ : ∃ j, k = j + 1 := ⟨k - 1, by omega⟩
    unfold spec_UTF8Text.l0
    rw [if_pos (by omega), if_pos (by omega)]
    split
    · exact ⟨_, rfl⟩
    · simp only [Option.bind_some]
      have hz : (strOfNums [(rd l (i : Int)) % 256]).size = 1 := by simp [strOfNums, ByteArray.size]
      rw [if_pos (by omega)]
      have e : wrap64 ((i : Int) + 1) = ((i + 1 : Nat) : Int) := by unfold wrap64; omega
      rw [e]
      refine ih k (i + 1) _ (by omega) ?_ (by omega)
      rw [ByteArray.size_append, hz]
      omega
theorem utf8Text {W : World} {N : Nat} {A : Option Addr} {len cap : Nat} (h : rows W N 1 A len cap unit) (hs : len ≤ 1000) : Calls Tryz.prog 45 #[.slice A len cap] W (fun e w' => ∃ r, e = .returned (.string r) ∧ Below W.heap.size W w') := by
  have hcap := h.1
  obtain ⟨l, rfl, hC⟩ := units_list h
  obtain ⟨r, hr⟩ := utf8_total l hs l.length 2000 0 ⟨#[]⟩ (by omega) (by simp [ByteArray.size]) (by omega)
  refine (spec_UTF8Text.calls 2000 A cap l r W hC hcap hr).mono ?_
  rintro e w' ⟨rfl, hb⟩
  exact ⟨r, rfl, hb⟩
end Go.Proofs.YtacokmkbikdmmaaGreatDoor.trees
