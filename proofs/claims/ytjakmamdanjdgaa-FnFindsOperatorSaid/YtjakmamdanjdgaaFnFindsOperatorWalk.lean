/-
  FnFindsOperator: the law's walk: its own search over all places agrees with what the two functions hand back.
  Conditions: none.
-/
import Derived.Test.YtjakmamdanjdgaaFnFindsOperatorImpl
namespace Go.Proofs.Ytjakmamdanjdgaa.fnFindsOperator
open Go.RowKit Go.Proofs.YtjakmamdanjdgaaW.PrintWords
set_option linter.unusedVariables false
set_option linter.unusedSimpArgs false

def hit (s op : ByteArray) (j : Nat) : Prop := j + op.size ≤ s.size ∧ occ s op j = true

def AfterInv (s op : ByteArray) (a k : Nat) (v : Int) (f : Bool) : Prop :=
  (f = false ∧ v = a ∧ ∀ j, a ≤ j → j < k → ¬ hit s op j) ∨ (f = true ∧ ∃ j0 : Nat, v = j0 ∧ a ≤ j0 ∧ hit s op j0 ∧ ∀ j, a ≤ j → j < j0 → ¬ hit s op j)
def BeforeInv (s op : ByteArray) (a k : Nat) (v : Int) (f : Bool) : Prop :=
  (f = false ∧ v = a ∧ ∀ j, j + op.size ≤ a → j < k → ¬ hit s op j) ∨ (f = true ∧ ∃ j0 : Nat, v = j0 ∧ j0 + op.size ≤ a ∧ hit s op j0 ∧ ∀ j, j0 < j → j + op.size ≤ a → j < k → ¬ hit s op j)

theorem after_miss {s op : ByteArray} {a k : Nat} {v : Int} {f : Bool} (h : AfterInv s op a k v f) (hk : ¬ hit s op k ∨ k < a) : AfterInv s op a (k + 1) v f := by
  rcases h with ⟨rfl, rfl, h⟩ | ⟨rfl, h⟩
  · refine .inl ⟨rfl, rfl, fun j h1 h2 => ?_⟩
    by_cases e : j = k
    · subst e
      rcases hk with hk | hk
      · exact hk
      · omega
    · exact h j h1 (by omega)
  · exact .inr ⟨rfl, h⟩
theorem after_kept {s op : ByteArray} {a k : Nat} {v : Int} (h : AfterInv s op a k v true) : AfterInv s op a (k + 1) v true := by
  rcases h with ⟨h, _⟩ | ⟨_, h⟩
  · cases h
  · exact .inr ⟨rfl, h⟩
theorem after_hit {s op : ByteArray} {a k : Nat} {v : Int} (h : AfterInv s op a k v false) (h1 : a ≤ k) (h2 : hit s op k) : AfterInv s op a (k + 1) k true := by
  rcases h with ⟨_, _, h⟩ | ⟨h, _⟩
  · exact .inr ⟨rfl, k, rfl, h1, h2, h⟩
  · cases h
theorem before_miss {s op : ByteArray} {a k : Nat} {v : Int} {f : Bool} (h : BeforeInv s op a k v f) (hk : ¬ hit s op k ∨ ¬ k + op.size ≤ a) : BeforeInv s op a (k + 1) v f := by
  rcases h with ⟨rfl, rfl, h⟩ | ⟨rfl, j0, rfl, h1, h2, h⟩
  · refine .inl ⟨rfl, rfl, fun j h1 h2 => ?_⟩
    by_cases e : j = k
    · subst e
      rcases hk with hk | hk
      · exact hk
      · exact absurd h1 hk
    · exact h j h1 (by omega)
  · refine .inr ⟨rfl, j0, rfl, h1, h2, fun j h3 h4 h5 => ?_⟩
    by_cases e : j = k
    · subst e
      rcases hk with hk | hk
      · exact hk
      · exact absurd h4 hk
    · exact h j h3 h4 (by omega)
theorem before_hit {s op : ByteArray} {a k : Nat} (h1 : k + op.size ≤ a) (h2 : hit s op k) : BeforeInv s op a (k + 1) k true :=
  .inr ⟨rfl, k, rfl, h1, h2, fun j h3 _ h5 => by omega⟩

theorem occ_after (s op : ByteArray) (a j : Nat) : occ (s.extract a s.size) op j = occ s op (a + j) := by
  unfold occ Lib.occAt
  rw [ByteArray.data_extract, Array.toList_extract]
  show op.data.toList.isPrefixOf (((s.data.toList.drop a).take (s.size - a)).drop j) = _
  have e : (s.data.toList.drop a).take (s.size - a) = s.data.toList.drop a := List.take_of_length_le (by simp)
  rw [e, List.drop_drop]
theorem occ_before (s op : ByteArray) (a j : Nat) (h : j + op.size ≤ a) : occ (s.extract 0 a) op j = occ s op j := by
  unfold occ Lib.occAt
  rw [ByteArray.data_extract, Array.toList_extract]
  show op.data.toList.isPrefixOf (((s.data.toList.drop 0).take (a - 0)).drop j) = _
  rw [List.drop_zero, Nat.sub_zero, Bool.eq_iff_iff, List.isPrefixOf_iff_prefix, List.isPrefixOf_iff_prefix, List.prefix_iff_eq_take, List.prefix_iff_eq_take, List.drop_take, List.take_take]
  have e : min op.data.toList.length (a - j) = op.data.toList.length := by
    rw [Array.length_toList]
    have : op.data.size = op.size := rfl
    omega
  rw [e]

theorem after_end {s op : ByteArray} {a : Nat} {v r : Int} {f : Bool} (ha : a ≤ s.size) (hm : 0 < op.size) (h : AfterInv s op a s.size v f) (hr : First (s.extract a s.size) op r) :
    (f = false ∧ r = -1 ∧ v = a) ∨ (f = true ∧ ∃ k : Nat, r = k ∧ v = a + k ∧ a + k + op.size ≤ s.size) := by
  have hsz : (s.extract a s.size).size = s.size - a := by simp
  rcases hr with ⟨rfl, hn⟩ | ⟨k, rfl, hk, hc, hn⟩
  · rcases h with ⟨rfl, rfl, h⟩ | ⟨rfl, j0, rfl, h1, h2, h⟩
    · exact .inl ⟨rfl, rfl, rfl⟩
    · have := hn (j0 - a) (by have := h2.1; omega)
      rw [occ_after, show a + (j0 - a) = j0 by omega, h2.2] at this
      cases this
  · rw [occ_after] at hc
    have hh : hit s op (a + k) := ⟨by omega, hc⟩
    rcases h with ⟨rfl, rfl, h⟩ | ⟨rfl, j0, rfl, h1, h2, h⟩
    · exact absurd hh (h _ (by omega) (by omega))
    · have e : j0 = a + k := by
        rcases Nat.lt_trichotomy j0 (a + k) with hl | he | hg
        · have := hn (j0 - a) (by omega)
          rw [occ_after, show a + (j0 - a) = j0 by omega, h2.2] at this
          cases this
        · exact he
        · exact absurd hh (h _ (by omega) hg)
      subst e
      exact .inr ⟨rfl, k, rfl, by omega, by omega⟩
theorem before_end {s op : ByteArray} {a : Nat} {v r : Int} {f : Bool} (ha : a ≤ s.size) (hm : 0 < op.size) (h : BeforeInv s op a s.size v f) (hr : Last (s.extract 0 a) op r) :
    (f = false ∧ r = -1 ∧ v = a) ∨ (f = true ∧ ∃ k : Nat, r = k ∧ v = k ∧ k + op.size ≤ s.size) := by
  have hsz : (s.extract 0 a).size = a := by simp; omega
  rcases hr with ⟨rfl, hn⟩ | ⟨k, rfl, hk, hc, hn⟩
  · rcases h with ⟨rfl, rfl, h⟩ | ⟨rfl, j0, rfl, h1, h2, h⟩
    · exact .inl ⟨rfl, rfl, rfl⟩
    · have := hn j0 (by omega)
      rw [occ_before s op a j0 h1, h2.2] at this
      cases this
  · rw [hsz] at hk
    rw [occ_before s op a k hk] at hc
    have hh : hit s op k := ⟨by omega, hc⟩
    rcases h with ⟨rfl, rfl, h⟩ | ⟨rfl, j0, rfl, h1, h2, h⟩
    · exact absurd hh (h _ hk (by omega))
    · have e : j0 = k := by
        rcases Nat.lt_trichotomy j0 k with hl | he | hg
        · exact absurd hh (h _ hl hk (by omega))
        · exact he
        · have := hn j0 hg (by omega)
          rw [occ_before s op a j0 h1, h2.2] at this
          cases this
      subst e
      exact .inr ⟨rfl, j0, rfl, rfl, by omega⟩

theorem pos_of {op : ByteArray} (h : ¬ op = ByteArray.empty) : 0 < op.size := Nat.pos_of_ne_zero (fun e => h (ByteArray.size_eq_zero_iff.1 e))

set_option maxHeartbeats 4000000 in
theorem short_all (s op : ByteArray) (a : Int) (w : World) (h : ¬ (s.size ≤ 4096 ∧ 0 ≤ a ∧ a ≤ s.size ∧ ¬ op = ByteArray.empty ∧ op.size ≤ 100)) :
    Calls Try.prog 3 #[.string s, .int .i64 a, .string op] w fun e w' => e = .returned (.bool true) ∧ Below w.heap.size w w' := by
  by_cases hm : op = ByteArray.empty
  · clear h
    subst hm
    go_enter Try.func3, Try.ntmps3
    go_wp2_with (fail)
    all_goals (go_ret; exact ⟨rfl, Below.refl _ _⟩)
  · have hp := pos_of hm
    have hp2 : ((op.size:Int) == 0) = false := by simp; omega
    have h' : ¬ (s.size ≤ 4096 ∧ 0 ≤ a ∧ a ≤ s.size ∧ op.size ≤ 100) := fun x => h ⟨x.1, x.2.1, x.2.2.1, hm, x.2.2.2⟩
    have HH := Lib.hid h'
    clear h h'
    go_enter Try.func3, Try.ntmps3
    go_wp2_with (fail)
    all_goals first | (go_ret; exact ⟨rfl, Below.refl _ _⟩) | (exfalso; have := HH.out; omega)

set_option maxHeartbeats 8000000 in
theorem long (s op : ByteArray) (a : Nat) (w : World) (hs : s.size ≤ 4096) (ha : a ≤ s.size) (hm : ¬ op = ByteArray.empty) (ho : op.size ≤ 100) :
    Calls Try.prog 3 #[.string s, .int .i64 a, .string op] w fun e w' => e = .returned (.bool true) ∧ Below w.heap.size w w' := by
  have hp := pos_of hm
  have hp2 : ((op.size:Int) == 0) = false := by simp; omega
  have hp3 : ((0:Int) == (op.size:Int)) = false := by simp; omega
  have a0 : (0:Int) ≤ a := by omega
  have a1 : (a:Int) ≤ s.size := by omega
  have s0 : (s.size:Int) ≤ 4096 := by omega
  have o0 : (op.size:Int) ≤ 100 := by omega
  go_enter Try.func3, Try.ntmps3
  go_wp2_with (go_at_call 4; refine (implAfter s op a _ hs ho ha).mono ?_)
  rintro e w1 ⟨⟨r, x, n, rfl, hx, hn, hr⟩, hb1⟩
  have HX := Lib.hid hx
  have HNN := Lib.hid hn
  have HR := Lib.hid hr
  have HB1 := Lib.hid hb1
  clear hx hn hr hb1
  go_wp2_with (go_at_call 5; refine (implBefore s op a _ hs ho ha).mono ?_)
  rintro e w2 ⟨⟨q, y, z, rfl, hy, hz, hq⟩, hb2⟩
  have HY := Lib.hid hy
  have HZ := Lib.hid hz
  have HQ := Lib.hid hq
  have HB2 := Lib.hid (HB1.out.trans (hb2.mono HB1.out.size))
  clear hy hz hq hb2
  go_wp2
  go_loopw [11, 12, 13, 14, 65] (fun v11 v12 v13 v14 v65 wr => ∃ (k : Nat) (v l : Int) (f g : Bool), v65 = .int .i64 k ∧ v11 = .int .i64 v ∧ v12 = .int .i64 l ∧ v13 = .bool f ∧ v14 = .bool g ∧ k ≤ s.size ∧ AfterInv s op a k v f ∧ BeforeInv s op a k l g ∧ wr = w2) (fun _ _ _ _ v65 _ => s.size - (intOf v65).toNat)
  case atStart =>
    exact ⟨0, a, a, false, false, rfl, rfl, rfl, rfl, rfl, by omega, .inl ⟨rfl, rfl, fun j _ h => by omega⟩, .inl ⟨rfl, rfl, fun j _ h => by omega⟩, rfl⟩
  case round =>
    obtain ⟨k, v, l, f, g, rfl, rfl, rfl, rfl, rfl, hk, hA, hB, rfl⟩ := hrel
    have HA := Lib.hid hA
    have HBI := Lib.hid hB
    clear hA hB
    by_cases hlt : k < s.size
    · have k0 : (k:Int) < s.size := by omega
      have k1 : (0:Int) ≤ k := by omega
      have k3 : (k:Int) ≤ s.size := by omega
      by_cases hin : k + op.size ≤ s.size
      · have i1 : ¬ (s.size:Int) - k < op.size := by omega
        have i2 : (k:Int) + op.size ≤ s.size := by omega
        have i3 : (k:Int) ≤ (k:Int) + op.size := by omega
        have ht := occ_test s op k hin
        cases hoc : occ s op k
        · rw [hoc] at ht
          have HM := Lib.hid (show ¬ hit s op k from fun h => by rw [h.2] at hoc; cases hoc)
          clear hoc
          go_wp2_with (fail)
          go_roundw
          case rel =>
            exact ⟨k + 1, v, l, f, g, by simp, rfl, rfl, rfl, rfl, by omega, after_miss HA.out (.inl HM.out), before_miss HBI.out (.inl HM.out), trivial⟩
          case measure =>
            simp only [intOf]
            omega
        · rw [hoc] at ht
          have HM := Lib.hid (show hit s op k from ⟨hin, hoc⟩)
          clear hoc
          by_cases hak : a ≤ k
          · have hak1 : (a:Int) ≤ k := by omega
            have hka : ¬ k + op.size ≤ a := by omega
            have hka1 : ¬ (k:Int) + op.size ≤ a := by omega
            cases f
            · go_wp2_with (fail)
              go_roundw
              case rel =>
                exact ⟨k + 1, k, l, true, g, by simp, rfl, rfl, rfl, rfl, by omega, after_hit HA.out hak HM.out, before_miss HBI.out (.inr hka), trivial⟩
              case measure =>
                simp only [intOf]
                omega
            · go_wp2_with (fail)
              go_roundw
              case rel =>
                exact ⟨k + 1, v, l, true, g, by simp, rfl, rfl, rfl, rfl, by omega, after_kept HA.out, before_miss HBI.out (.inr hka), trivial⟩
              case measure =>
                simp only [intOf]
                omega
          · have hak1 : ¬ (a:Int) ≤ k := by omega
            by_cases hka : k + op.size ≤ a
            · have hka1 : (k:Int) + op.size ≤ a := by omega
              go_wp2_with (fail)
              go_roundw
              case rel =>
                exact ⟨k + 1, v, k, f, true, by simp, rfl, rfl, rfl, rfl, by omega, after_miss HA.out (.inr (by omega)), before_hit hka HM.out, trivial⟩
              case measure =>
                simp only [intOf]
                omega
            · have hka1 : ¬ (k:Int) + op.size ≤ a := by omega
              go_wp2_with (fail)
              go_roundw
              case rel =>
                exact ⟨k + 1, v, l, f, g, by simp, rfl, rfl, rfl, rfl, by omega, after_miss HA.out (.inr (by omega)), before_miss HBI.out (.inr hka), trivial⟩
              case measure =>
                simp only [intOf]
                omega
      · have i1 : (s.size:Int) - k < op.size := by omega
        have HM := Lib.hid (show ¬ hit s op k from fun h => hin h.1)
        go_wp2_with (fail)
        go_roundw
        case rel =>
          exact ⟨k + 1, v, l, f, g, by simp, rfl, rfl, rfl, rfl, by omega, after_miss HA.out (.inl HM.out), before_miss HBI.out (.inl HM.out), trivial⟩
        case measure =>
          simp only [intOf]
          omega
    · have k0 : ¬ (k:Int) < s.size := by omega
      obtain rfl : k = s.size := by omega
      have hx := HX.out
      have hn := HNN.out
      have hy := HY.out
      have hz := HZ.out
      rcases after_end ha hp HA.out HR.out with ⟨rfl, rfl, rfl⟩ | ⟨rfl, i, rfl, rfl, hi⟩
      · simp at hx hn
        subst hx hn
        rcases before_end ha hp HBI.out HQ.out with ⟨rfl, rfl, rfl⟩ | ⟨rfl, j, rfl, rfl, hj⟩
        · simp at hy hz
          subst hy hz
          go_wp2_with (fail)
          go_ret
          exact ⟨rfl, HB2.out⟩
        · simp at hy hz
          subst hy hz
          have j0 : (j:Int) + op.size ≤ 4096 := by omega
          go_wp2_with (fail)
          go_ret
          exact ⟨rfl, HB2.out⟩
      · have i0 : (0:Int) ≤ i := by omega
        rw [if_pos i0] at hx hn
        subst hx hn
        have i1 : (a:Int) + i + op.size ≤ 4096 := by omega
        rcases before_end ha hp HBI.out HQ.out with ⟨rfl, rfl, rfl⟩ | ⟨rfl, j, rfl, rfl, hj⟩
        · simp at hy hz
          subst hy hz
          go_wp2_with (fail)
          go_ret
          exact ⟨rfl, HB2.out⟩
        · simp at hy hz
          subst hy hz
          have j0 : (j:Int) + op.size ≤ 4096 := by omega
          go_wp2_with (fail)
          go_ret
          exact ⟨rfl, HB2.out⟩

theorem law (s op : ByteArray) (a : Int) (w : World) :
    Calls Try.prog 3 #[.string s, .int .i64 a, .string op] w fun e w' => e = .returned (.bool true) ∧ Below w.heap.size w w' := by
  by_cases h : s.size ≤ 4096 ∧ 0 ≤ a ∧ a ≤ s.size ∧ ¬ op = ByteArray.empty ∧ op.size ≤ 100
  · obtain ⟨h1, h2, h3, h4, h5⟩ := h
    obtain ⟨k, rfl⟩ : ∃ k : Nat, a = k := ⟨a.toNat, by omega⟩
    exact long s op k w h1 (by omega) h4 h5
  · exact short_all s op a w h
end Go.Proofs.Ytjakmamdanjdgaa.fnFindsOperator
