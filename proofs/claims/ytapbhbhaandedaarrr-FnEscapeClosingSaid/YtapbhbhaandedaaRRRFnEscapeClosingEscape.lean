/-
  FnEscapeClosing: the walk of helpers.EscapeClosingTag: it hands back the escaped text, as the plain function `esc` says.
  Conditions: texts of at most 2^31 - 1 bytes; the tag is a slash and small letters.
-/
import Derived.Test.YtapbhbhaandedaaRRRFnEscapeClosingSmall
import Derived.Test.YtapbhbhaandedaaRRRFnEscapeClosingIndex
import Derived.Test.YtapbhbhaandedaaRRRBuilder
import Derived.Test.YtapbhbhaandedaaRRRShelf
import Derived.Lib.AppendIntMem
namespace Go.Proofs.YtapbhbhaandedaaRRR.fnEscapeClosing
open Go.RowKit
set_option linter.unusedVariables false
set_option linter.unusedSimpArgs false

def lt2 : ByteArray := ⟨#[60, 47]⟩
theorem open2_eq (L : List UInt8) : [60, 47].isPrefixOf L = open2 L := by
  match L with
  | [] => rfl
  | [c] =>
    simp only [List.isPrefixOf, Bool.and_false, open2]
  | c :: d :: r =>
    by_cases h1 : c = 60
    · subst h1
      by_cases h2 : d = 47
      · subst h2; simp [List.isPrefixOf, open2]
      · have e : ((47:UInt8) == d) = false := by simpa using fun e => h2 e.symm
        have e2 : open2 (60 :: d :: r) = false := by
          unfold open2
          split
          · rename_i h; cases h; exact absurd rfl h2
          · rfl
        simp [List.isPrefixOf, e, e2]
    · have e : ((60:UInt8) == c) = false := by simpa using fun e => h1 e.symm
      have e2 : open2 (c :: d :: r) = false := by
        unfold open2
        split
        · rename_i h; cases h; exact absurd rfl h1
        · rfl
      simp [List.isPrefixOf, e, e2]
theorem occ_open (s : ByteArray) (j : Nat) : occ s lt2 j = open2 ((by' s).drop j) := open2_eq _
theorem open2_short (L : List UInt8) (h : L.length < 2) : open2 L = false := by
  match L with
  | [] => rfl
  | [c] => unfold open2; split <;> simp_all
  | c :: d :: r => simp at h; omega
theorem open2_at {L : List UInt8} (h : open2 L = true) : ∃ r, L = 60 :: 47 :: r := by
  unfold open2 at h
  split at h
  · exact ⟨_, rfl⟩
  · cases h
theorem first_none {s : ByteArray} (h : First s lt2 (-1)) : ∀ j, open2 ((by' s).drop j) = false := by
  rcases h with ⟨_, h⟩ | ⟨k, h, _⟩
  · intro j
    by_cases hj : j + 2 ≤ s.size
    · rw [← occ_open]; exact h j hj
    · exact open2_short _ (by rw [List.length_drop, by_len]; omega)
  · omega
theorem first_some {s : ByteArray} {r : Int} (h : First s lt2 r) : r = -1 ∨ ∃ k : Nat, r = k ∧ k + 2 ≤ s.size ∧ (∀ j, j < k → open2 ((by' s).drop j) = false) ∧ open2 ((by' s).drop k) = true := by
  rcases h with ⟨h, _⟩ | ⟨k, h, h1, h2, h3⟩
  · exact .inl h
  · exact .inr ⟨k, h, h1, fun j hj => by rw [← occ_open]; exact h3 j hj, by rw [← occ_open]; exact h2⟩
theorem by_extract (s : ByteArray) (i j : Nat) : by' (s.extract i j) = ((by' s).drop i).take (j - i) := by
  unfold by'
  rw [ByteArray.data_extract, Array.toList_extract]
theorem pre_take : ∀ (T L : List UInt8), pre T (L.take T.length) = pre T L := by
  intro T
  induction T with
  | nil => intro L; rfl
  | cons t ts ih =>
    intro L
    cases L with
    | nil => rfl
    | cons c cs => simp [pre, ih]
theorem pre_short (T L : List UInt8) (h : L.length < T.length) : pre T L = false := by
  cases hp : pre T L
  · rfl
  · have := ((pre_iff T L).1 hp).1; omega

/-- what one round writes -/
theorem round_text {tag L : List UInt8} (h : Tag tag) {k : Nat} (h1 : ∀ j, j < k → open2 (L.drop j) = false) (h2 : open2 (L.drop k) = true) :
    esc tag L = L.take (k + 1) ++ ((if pre tag (L.drop (k + 1)) = true then [92] else []) ++ esc tag (L.drop (k + 1))) := by
  obtain ⟨r, hr⟩ := open2_at h2
  have hd : L.drop (k + 1) = 47 :: r := by rw [← List.drop_drop, hr]; rfl
  have ht : L.take (k + 1) = L.take k ++ [60] := by
    rw [List.take_add, hr]; rfl
  rw [esc_at h k L h1, hr, esc_open, hd, ht]
  simp
theorem byteCells_app (a b : List UInt8) : Lib.byteCells a ++ Lib.byteCells b = Lib.byteCells (a ++ b) := by
  simp [Lib.byteCells]

set_option maxHeartbeats 16000000 in
theorem escape (s t : ByteArray) (w : World) (hs : s.size ≤ 2147483647) (ht : t.size ≤ 2147483647) (htag : Tag (by' t)) :
    Calls Try.prog 16 #[.string s, .string t] w fun e w' => e = .returned (.string ⟨(esc (by' t) (by' s)).toArray⟩) ∧ Below w.heap.size w w' := by
  have hne : t.toList.isEmpty = false := by
    rw [ByteArray.toList_eq]
    obtain ⟨ts, h, _⟩ := htag
    show (by' t).isEmpty = false
    rw [h]; rfl
  have hesc := esc_len (by' t) (by' s)
  rw [by_len] at hesc
  have hfr := Lib.fresh_isBuilder 45 5 w
  have HFR := Lib.hid hfr
  have HB0 := Lib.hid ((Below.refl w.heap.size w).alloc (Nat.le_refl _) (.cells #[.pointer none, .slice none 0 0] 45))
  have HTAG := Lib.hid htag
  clear hfr htag
  go_enter Try.func16, Try.ntmps16
  go_wp2_with (go_at_call 21; refine (index _ lt2 _ hs (by decide)).mono ?_)
  rintro e w1 ⟨⟨r, rfl, hr⟩, hw⟩
  have hw := hw.symm
  subst hw
  rcases first_some hr with rfl | ⟨k, rfl, hk, hk1, hk2⟩
  · have hno := first_none hr
    have e0 := Lib.hid (esc_none HTAG.out _ hno)
    clear hr hno
    go_wp2_with (fail)
    go_ret
    rw [e0.out]
    exact ⟨rfl, Below.refl _ _⟩
  · have HK1 := Lib.hid hk1
    have HK2 := Lib.hid hk2
    clear hk1 hk2 hr
    go_wp2_with (fail)
    go_loopw [0, 5] (fun v0 v5 wr => ∃ (T : ByteArray) (k : Nat) (acc : List UInt8), v0 = .string T ∧ v5 = .int .i64 k ∧ T.size ≤ 2147483647 ∧ k + 2 ≤ T.size ∧ Hid (∀ j, j < k → open2 ((by' T).drop j) = false) ∧ Hid (open2 ((by' T).drop k) = true) ∧ Hid (Lib.IsBuilder 45 5 w.heap.size w.heap.size (Lib.byteCells acc) wr) ∧ Hid (Below w.heap.size w wr) ∧ Hid (acc ++ esc (by' t) (by' T) = esc (by' t) (by' s))) (fun v0 _ _ => match v0 with | .string T => T.size | _ => 0)
    case atStart => exact ⟨s, k, [], rfl, rfl, hs, hk, HK1, HK2, HFR, HB0, Lib.hid rfl⟩
    case round =>
      clear HK1 HK2 hk
      obtain ⟨T, k, acc, rfl, rfl, hT, hk, HK1, HK2, HFR, HB, HA⟩ := hrel
      have k0 : (0:Int) ≤ k := by omega
      have k1 : (k:Int) + 1 ≤ T.size := by omega
      have k2 : (0:Int) ≤ (k:Int) + 1 := by omega
      have HLEN := Lib.hid (show acc.length ≤ 4294967296 by
        have := congrArg List.length HA.out
        rw [List.length_append] at this
        omega)
      have HS1 := Lib.hid (show (T.extract 0 (k + 1)).size = k + 1 by simp; omega)
      go_wp2_with (go_at_call 22; refine (builder.writeString w.heap.size w.heap.size (Lib.byteCells acc) _ _ HFR.out (by have := HLEN.out; have := HS1.out; simp only [Lib.byteCells, List.length_map]; omega) HB.out.size).mono ?_)
      rintro e w1 ⟨rfl, hbl, hb1⟩
      have hbl2 : Lib.IsBuilder 45 5 w.heap.size w.heap.size (Lib.byteCells (acc ++ (by' T).take (k + 1))) w1 := by
        rw [← byteCells_app]
        have e : Lib.strCells (T.extract 0 (k + 1)) = Lib.byteCells ((by' T).take (k + 1)) := by
          rw [Lib.strCells_eq]
          have := by_extract T 0 (k + 1)
          exact congrArg Lib.byteCells this
        rw [← e]; exact hbl
      have HBL := Lib.hid hbl2
      have HB1 := Lib.hid (HB.out.trans hb1)
      clear hbl hbl2 hb1
      have HS2 := Lib.hid (show (T.extract (k + 1) T.size).size = T.size - (k + 1) by simp)
      have HBY := Lib.hid (show by' (T.extract (k + 1) T.size) = (by' T).drop (k + 1) by
        rw [by_extract]
        exact List.take_of_length_le (by rw [List.length_drop, by_len]; omega))
      by_cases hfit : t.size ≤ T.size - (k + 1)
      · have HST := Lib.hid (show ((T.extract (k + 1) T.size).extract 0 t.size).size = t.size by simp; omega)
        have HP := Lib.hid (show pre (by' t) (by' ((T.extract (k + 1) T.size).extract 0 t.size)) = pre (by' t) ((by' T).drop (k + 1)) by
          rw [by_extract, HBY.out, List.drop_zero, Nat.sub_zero, ← by_len t, pre_take])
        go_wp2_with (go_at_call 23; refine (fold _ t _ (by rw [HST.out]; exact ht) HST.out).mono ?_)
        rintro e w2 ⟨rfl, m, rfl⟩
        rw [HP.out]
        cases hp : pre (by' t) ((by' T).drop (k + 1))
        · have HA2 := Lib.hid (show (acc ++ (by' T).take (k + 1)) ++ esc (by' t) (by' (T.extract (k + 1) T.size)) = esc (by' t) (by' s) by
            have h := round_text HTAG.out HK1.out HK2.out
            rw [hp] at h
            rw [← HA.out, h, HBY.out]
            simp)
          clear hp
          have HSZ2 := Lib.hid (show (T.extract (k + 1) T.size).size ≤ 2147483647 by rw [HS2.out]; omega)
          have HLEN2 := Lib.hid (show (acc ++ (by' T).take (k + 1)).length + (T.extract (k + 1) T.size).size ≤ 140737488355328 by
            have h1 := HSZ2.out
            have h2 := congrArg List.length HA2.out
            rw [List.length_append] at h2
            omega)
          clear hesc
          go_wp2_with (go_at_call 21; refine (index _ lt2 _ HSZ2.out (by decide)).mono ?_)
          rintro e w4 ⟨⟨r, rfl, hr⟩, hw4⟩
          have hw4 := hw4.symm
          subst hw4
          rcases first_some hr with rfl | ⟨i, rfl, hi, hi1, hi2⟩
          · have hno := first_none hr
            have e0 := Lib.hid (esc_none HTAG.out _ hno)
            clear hr hno
            go_wp2_with (go_at_call 22; refine (builder.writeString w.heap.size w.heap.size (Lib.byteCells (acc ++ (by' T).take (k + 1))) _ _ (show Lib.IsBuilder 45 5 w.heap.size w.heap.size (Lib.byteCells (acc ++ (by' T).take (k + 1))) (w1.drewN m) from HBL.out) (by have := HLEN2.out; simp only [Lib.byteCells, List.length_map]; exact this) (below_draws HB1.out m).size).mono ?_)
            rintro e w5 ⟨rfl, hbl5, hb5⟩
            have hbl6 : Lib.IsBuilder 45 5 w.heap.size w.heap.size (Lib.byteCells (esc (by' t) (by' s))) w5 := by
              rw [← HA2.out, e0.out, ← byteCells_app]
              exact hbl5
            have HBL6 := Lib.hid hbl6
            have HB6 := Lib.hid (((below_draws HB1.out m)).trans hb5)
            clear hbl5 hbl6 hb5
            go_wp2_with (go_at_call 25; refine (Try.Builder_String_any w.heap.size w.heap.size _ _ HBL6.out HB6.out.size).mono ?_)
            intro e w7 h7
            obtain ⟨he, hb7⟩ := h7
            subst he
            have HB7 := Lib.hid (HB6.out.trans hb7)
            clear hb7
            go_wp2_with (fail)
            go_ret
            exact ⟨rfl, HB7.out⟩
          · have HI1 := Lib.hid hi1
            have HI2 := Lib.hid hi2
            have HB8 := Lib.hid (below_draws HB1.out m)
            have HBL8 := Lib.hid (show Lib.IsBuilder 45 5 w.heap.size w.heap.size (Lib.byteCells (acc ++ (by' T).take (k + 1))) (w1.drewN m) from HBL.out)
            clear hi1 hi2 hr
            go_wp2_with (fail)
            go_roundw
            case rel =>
              exact ⟨_, i, acc ++ (by' T).take (k + 1), rfl, rfl, HSZ2.out, hi, HI1, HI2, HBL8, HB8, HA2⟩
            case measure =>
              have := HS2.out
              show (T.extract (k + 1) T.size).size < T.size
              omega
        · have HA2 := Lib.hid (show (acc ++ (by' T).take (k + 1) ++ [92]) ++ esc (by' t) (by' (T.extract (k + 1) T.size)) = esc (by' t) (by' s) by
            have h := round_text HTAG.out HK1.out HK2.out
            rw [hp] at h
            rw [← HA.out, h, HBY.out]
            simp)
          have HL3 := Lib.hid (show (Lib.byteCells (acc ++ (by' T).take (k + 1))).length + 1 ≤ 140737488355328 by
            have h2 := congrArg List.length HA2.out
            rw [List.length_append, List.length_append] at h2
            simp only [Lib.byteCells, List.length_map]
            omega)
          clear hp
          go_wp2_with (go_at_call 24; refine (builder.writeByte w.heap.size w.heap.size (Lib.byteCells (acc ++ (by' T).take (k + 1))) 92 _ (show Lib.IsBuilder 45 5 w.heap.size w.heap.size (Lib.byteCells (acc ++ (by' T).take (k + 1))) (w1.drewN m) from HBL.out) HL3.out (below_draws HB1.out m).size).mono ?_)
          rintro e w3 ⟨rfl, hbl3, hb3⟩
          have hbl4 : Lib.IsBuilder 45 5 w.heap.size w.heap.size (Lib.byteCells (acc ++ (by' T).take (k + 1) ++ [92])) w3 := by
            rw [← byteCells_app (acc ++ (by' T).take (k + 1))]
            exact hbl3
          have HBL4 := Lib.hid hbl4
          have HB4 := Lib.hid ((below_draws HB1.out m).trans hb3)
          clear hbl3 hbl4 hb3
          have HSZ2 := Lib.hid (show (T.extract (k + 1) T.size).size ≤ 2147483647 by rw [HS2.out]; omega)
          have HLEN2 := Lib.hid (show (acc ++ (by' T).take (k + 1) ++ [92]).length + (T.extract (k + 1) T.size).size ≤ 140737488355328 by
            have h1 := HSZ2.out
            have h2 := congrArg List.length HA2.out
            rw [List.length_append] at h2
            omega)
          clear hesc
          go_wp2_with (go_at_call 21; refine (index _ lt2 _ HSZ2.out (by decide)).mono ?_)
          rintro e w4 ⟨⟨r, rfl, hr⟩, hw4⟩
          have hw4 := hw4.symm
          subst hw4
          rcases first_some hr with rfl | ⟨i, rfl, hi, hi1, hi2⟩
          · have hno := first_none hr
            have e0 := Lib.hid (esc_none HTAG.out _ hno)
            clear hr hno
            go_wp2_with (go_at_call 22; refine (builder.writeString w.heap.size w.heap.size (Lib.byteCells (acc ++ (by' T).take (k + 1) ++ [92])) _ _ HBL4.out (by have := HLEN2.out; simp only [Lib.byteCells, List.length_map]; exact this) HB4.out.size).mono ?_)
            rintro e w5 ⟨rfl, hbl5, hb5⟩
            have hbl6 : Lib.IsBuilder 45 5 w.heap.size w.heap.size (Lib.byteCells (esc (by' t) (by' s))) w5 := by
              rw [← HA2.out, e0.out, ← byteCells_app]
              exact hbl5
            have HBL6 := Lib.hid hbl6
            have HB6 := Lib.hid ((HB4.out).trans hb5)
            clear hbl5 hbl6 hb5
            go_wp2_with (go_at_call 25; refine (Try.Builder_String_any w.heap.size w.heap.size _ _ HBL6.out HB6.out.size).mono ?_)
            intro e w7 h7
            obtain ⟨he, hb7⟩ := h7
            subst he
            have HB7 := Lib.hid (HB6.out.trans hb7)
            clear hb7
            go_wp2_with (fail)
            go_ret
            exact ⟨rfl, HB7.out⟩
          · have HI1 := Lib.hid hi1
            have HI2 := Lib.hid hi2
            have HB8 := Lib.hid HB4.out
            have HBL8 := Lib.hid HBL4.out
            clear hi1 hi2 hr
            go_wp2_with (fail)
            go_roundw
            case rel =>
              exact ⟨_, i, acc ++ (by' T).take (k + 1) ++ [92], rfl, rfl, HSZ2.out, hi, HI1, HI2, HBL8, HB8, HA2⟩
            case measure =>
              have := HS2.out
              show (T.extract (k + 1) T.size).size < T.size
              omega
      · have HA2 := Lib.hid (show (acc ++ (by' T).take (k + 1)) ++ esc (by' t) (by' (T.extract (k + 1) T.size)) = esc (by' t) (by' s) by
          have h := round_text HTAG.out HK1.out HK2.out
          rw [pre_short (by' t) ((by' T).drop (k + 1)) (by rw [List.length_drop, by_len, by_len]; omega)] at h
          rw [← HA.out, h, HBY.out]
          simp)
        have HSZ2 := Lib.hid (show (T.extract (k + 1) T.size).size ≤ 2147483647 by rw [HS2.out]; omega)
        have HLEN2 := Lib.hid (show (acc ++ (by' T).take (k + 1)).length + (T.extract (k + 1) T.size).size ≤ 140737488355328 by
          have h1 := HSZ2.out
          have h2 := congrArg List.length HA2.out
          rw [List.length_append] at h2
          omega)
        clear hesc
        go_wp2_with (go_at_call 21; refine (index _ lt2 _ HSZ2.out (by decide)).mono ?_)
        rintro e w4 ⟨⟨r, rfl, hr⟩, hw4⟩
        have hw4 := hw4.symm
        subst hw4
        rcases first_some hr with rfl | ⟨i, rfl, hi, hi1, hi2⟩
        · have hno := first_none hr
          have e0 := Lib.hid (esc_none HTAG.out _ hno)
          clear hr hno
          go_wp2_with (go_at_call 22; refine (builder.writeString w.heap.size w.heap.size (Lib.byteCells (acc ++ (by' T).take (k + 1))) _ _ HBL.out (by have := HLEN2.out; simp only [Lib.byteCells, List.length_map]; exact this) HB1.out.size).mono ?_)
          rintro e w5 ⟨rfl, hbl5, hb5⟩
          have hbl6 : Lib.IsBuilder 45 5 w.heap.size w.heap.size (Lib.byteCells (esc (by' t) (by' s))) w5 := by
            rw [← HA2.out, e0.out, ← byteCells_app]
            exact hbl5
          have HBL6 := Lib.hid hbl6
          have HB6 := Lib.hid ((HB1.out).trans hb5)
          clear hbl5 hbl6 hb5
          go_wp2_with (go_at_call 25; refine (Try.Builder_String_any w.heap.size w.heap.size _ _ HBL6.out HB6.out.size).mono ?_)
          intro e w7 h7
          obtain ⟨he, hb7⟩ := h7
          subst he
          have HB7 := Lib.hid (HB6.out.trans hb7)
          clear hb7
          go_wp2_with (fail)
          go_ret
          exact ⟨rfl, HB7.out⟩
        · have HI1 := Lib.hid hi1
          have HI2 := Lib.hid hi2
          have HB8 := Lib.hid HB1.out
          have HBL8 := Lib.hid HBL.out
          clear hi1 hi2 hr
          go_wp2_with (fail)
          go_roundw
          case rel =>
            exact ⟨_, i, acc ++ (by' T).take (k + 1), rfl, rfl, HSZ2.out, hi, HI1, HI2, HBL8, HB8, HA2⟩
          case measure =>
            have := HS2.out
            show (T.extract (k + 1) T.size).size < T.size
            omega
end Go.Proofs.YtapbhbhaandedaaRRR.fnEscapeClosing
