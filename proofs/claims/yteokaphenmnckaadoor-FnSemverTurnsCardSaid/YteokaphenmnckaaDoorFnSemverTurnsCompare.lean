/-
  FnSemverTurns: the walk of compat.CompareSemver: it compares as the plain function `cmp` says.
  Conditions: lists and texts of at most 2^31 - 1; numbers from 0 to 2^31 - 1; the two errors of strconv as the program lays them.
-/
import Derived.Test.YteokaphenmnckaaDoorFnSemverTurnsSplit
namespace Go.Proofs.YteokaphenmnckaaDoor.fnSemverTurns
open Go.RowKit Go.Proofs.YteokaphenmnckaaDoorW.PrintWords
set_option linter.unusedVariables false
set_option linter.unusedSimpArgs false

theorem int_at {w : World} {A : Option Addr} {n : Nat} {xs : List Int} (h : Kd.C (Kd.int .i64) w A n xs) (i : Nat) (hi : i < n) : ∃ ad, A = some ad ∧ w.cell? (ad.add i) = some (.int .i64 (part xs i)) := by
  obtain ⟨ad, c, e, hl, hK, hc⟩ := ReadsRow.get_ h (0 : Int) (i : Int) (by omega) (by omega)
  refine ⟨ad, e, ?_⟩
  have hK : c = [.int .i64 (xs.getD i 0)] := hK
  subst hK
  have hq := hc 0 _ rfl
  have hq : w.cell? (ad.add (i * 1 + 0)) = some (.int .i64 (xs.getD i 0)) := hq
  rwa [Nat.mul_one, Nat.add_zero] at hq
def Vers (xs : List Int) : Prop := ∀ i, 0 ≤ part xs i ∧ part xs i ≤ 2147483647
theorem part_out {xs : List Int} {i : Nat} (h : ¬ i < xs.length) : part xs i = 0 := by
  unfold part
  rw [List.getD_eq_getElem?_getD, List.getElem?_eq_none (by omega)]
  rfl
theorem cmp_a {a b : List Int} {p q : List UInt8} {D : Int} (h : diff a b (max a.length b.length) 0 = D) (hd : D ≠ 0) : cmp a b p q = D := by
  unfold cmp
  rw [if_pos (by rw [h]; exact hd), h]
theorem cmp_b {a b : List Int} {p q : List UInt8} (h : diff a b (max a.length b.length) 0 = 0) (hd : decide (p = []) ≠ decide (q = [])) : cmp a b p q = (q.length : Int) - p.length := by
  unfold cmp
  rw [if_neg (by rw [h]; simp), if_pos hd]
theorem cmp_c {a b : List Int} {p q : List UInt8} (h : diff a b (max a.length b.length) 0 = 0) (hd : decide (p = []) = decide (q = [])) : cmp a b p q = cmpTail (p.length + q.length) (trim p) (trim q) := by
  unfold cmp
  rw [if_neg (by rw [h]; simp), if_neg (by simpa using hd)]
theorem trim_eq (l : List UInt8) : Lib.trimPrefix l [45] = trim l := by
  unfold Lib.trimPrefix trim
  cases l with
  | nil => rfl
  | cons c r =>
    by_cases h : c = 45
    · subst h; rfl
    · have h1 : Lib.hasPrefix (c :: r) [45] = false := by
        have : ((45 : UInt8) == c) = false := by simpa using fun e : (45 : UInt8) = c => h e.symm
        simp [Lib.hasPrefix, List.isPrefixOf, this]
      rw [h1, if_neg (by simp), if_neg (by simpa using h)]
theorem trim_le (l : List UInt8) : (trim l).length ≤ l.length := by
  unfold trim
  split
  · simp
  · exact Nat.le_refl _
theorem size_list (s : ByteArray) : s.size = s.data.toList.length := by simp
theorem empty_of {p : ByteArray} (h : p.data.toList = []) : p = ⟨#[]⟩ := by
  cases p with
  | mk d => cases d with
    | mk l => simp only at h; subst h; rfl
theorem tail_lt (l : List UInt8) (h : l ≠ []) : (tailOf l).length < l.length := by
  have hge := Lib.indexByte_ge l 46
  by_cases hi : Lib.indexByte l 46 = -1
  · rw [(split_none l hi).2]
    exact List.length_pos_iff.2 h
  · obtain ⟨h0, _, h2⟩ := split_some l (Lib.indexByte l 46).toNat (by omega)
    rw [h2, List.length_drop]
    omega
theorem head_le (l : List UInt8) : (headOf l).length ≤ l.length := by
  unfold headOf
  exact (List.takeWhile_prefix _).length_le
theorem tail_le (l : List UInt8) : (tailOf l).length ≤ l.length := by
  by_cases h : l = []
  · subst h; exact Nat.le_refl _
  · exact Nat.le_of_lt (tail_lt l h)
/-- one step of the comparison of the parts -/
theorem tail_same {f : Nat} {a b : List UInt8} (ha : a ≠ []) (hb : b ≠ []) (h : headOf a = headOf b) : cmpTail (f + 1) a b = cmpTail f (tailOf a) (tailOf b) := by
  rw [cmpTail, if_neg (by simp [ha, hb]), if_pos h]
theorem tail_head {f : Nat} {a b : List UInt8} (ha : a ≠ []) (hb : b ≠ []) (h : ¬ headOf a = headOf b) : cmpTail (f + 1) a b = cmpHead (headOf a) (headOf b) := by
  rw [cmpTail, if_neg (by simp [ha, hb]), if_neg h]
theorem tail_end {f : Nat} {a b : List UInt8} (h : a = [] ∨ b = []) : cmpTail f a b = (a.length : Int) - b.length := by
  cases f with
  | zero => rfl
  | succ f => rw [cmpTail, if_pos h]
theorem ret_int {a b : Int} (h : a = b) : Ending.returned (.int .i64 a) = .returned (.int .i64 b) := by rw [h]
def strSize : Value → Nat
  | .string s => s.size
  | _ => 0
theorem head_num {a b : List UInt8} {x y : Int} (ha : num a = some x) (hb : num b = some y) (h : x ≠ y) : cmpHead a b = x - y := by
  unfold cmpHead
  rw [ha, hb]
  simp only
  rw [if_pos h]
theorem head_len {a b : List UInt8} {x : Int} (ha : num a = some x) (hb : num b = some x) : cmpHead a b = (a.length : Int) - b.length := by
  unfold cmpHead
  rw [ha, hb]
  simp only
  rw [if_neg (by simp)]
theorem head_left {a b : List UInt8} {x : Int} (ha : num a = some x) (hb : num b = none) : cmpHead a b = -1 := by
  unfold cmpHead
  rw [ha, hb]
theorem head_right {a b : List UInt8} {x : Int} (ha : num a = none) (hb : num b = some x) : cmpHead a b = 1 := by
  unfold cmpHead
  rw [ha, hb]
theorem head_text {a b : List UInt8} (ha : num a = none) (hb : num b = none) : cmpHead a b = if Go.Op.bytesLess a b = true then -1 else 1 := by
  unfold cmpHead
  rw [ha, hb]
/-- the two texts that the second loop begins with -/
theorem tails (p q : ByteArray) (R : Int) (hp : p.size ≤ 2147483647) (hq : q.size ≤ 2147483647) (h : R = cmpTail (p.data.toList.length + q.data.toList.length) (trim p.data.toList) (trim q.data.toList)) :
    ∃ (x y : ByteArray) (f : Nat), (⟨(Lib.trimPrefix p.data.toList (⟨#[45]⟩ : ByteArray).data.toList).toArray⟩ : ByteArray) = x ∧ (⟨(Lib.trimPrefix q.data.toList (⟨#[45]⟩ : ByteArray).data.toList).toArray⟩ : ByteArray) = y ∧ x.size ≤ 2147483647 ∧ y.size ≤ 2147483647 ∧ x.size + y.size ≤ f ∧ cmpTail f x.data.toList y.data.toList = R := by
  refine ⟨_, _, p.data.toList.length + q.data.toList.length, rfl, rfl, ?_, ?_, ?_, ?_⟩
  all_goals rw [show (⟨#[45]⟩ : ByteArray).data.toList = [45] from rfl]
  all_goals simp only [trim_eq, size_list] at hp hq ⊢
  · exact Nat.le_trans (trim_le _) hp
  · exact Nat.le_trans (trim_le _) hq
  · exact Nat.add_le_add (trim_le _) (trim_le _)
  · rw [h]
/-- what a comparison tells -/
def Cmp (r : Int) (w : World) (e : Ending) (w' : World) : Prop := e = .returned (.int .i64 r) ∧ Below w.heap.size w w'

set_option maxHeartbeats 16000000 in
set_option maxRecDepth 100000 in
theorem compare (xs ys : List Int) (A B : Option Addr) (ca cb : Nat) (p q : ByteArray) (w : World) (hA : Kd.C (Kd.int .i64) w A xs.length xs) (hB : Kd.C (Kd.int .i64) w B ys.length ys)
    (hxs : xs.length ≤ 2147483647) (hys : ys.length ≤ 2147483647) (hp0 : p.size ≤ 2147483647) (hq0 : q.size ≤ 2147483647) (vx : Vers xs) (vy : Vers ys) (he : Errs w) :
    Calls Tryd.prog 7 #[.agg #[.slice A xs.length ca, .string p], .agg #[.slice B ys.length cb, .string q]] w (Cmp (cmp xs ys p.data.toList q.data.toList) w) := by
  have HA := Lib.hid hA
  have HB := Lib.hid hB
  have VX := Lib.hid vx
  have VY := Lib.hid vy
  have HE := Lib.hid he
  have HDD := Lib.hid (rfl : diff xs ys (max xs.length ys.length) 0 = diff xs ys (max xs.length ys.length) 0)
  clear hA hB vx vy he
  have x1 : (xs.length : Int) ≤ 2147483647 := by omega
  have y1 : (ys.length : Int) ≤ 2147483647 := by omega
  have p1 : (p.size : Int) ≤ 2147483647 := by omega
  have q1 : (q.size : Int) ≤ 2147483647 := by omega
  by_cases hlt : (xs.length : Int) < ys.length
  · have hmax : max xs.length ys.length = ys.length := by omega
    rw [hmax] at HDD
    have HM := Lib.hid hmax
    clear hmax
    generalize hD : diff xs ys ys.length 0 = D at HDD
    have HD0 := Lib.hid hD
    clear hD HDD
    go_enter Tryd.func7, Tryd.ntmps7
    go_wp2_with (fail)
    go_loop [8] (fun v8 => ∃ i m : Nat, v8 = .int .i64 i ∧ i + m = ys.length ∧ Hid (diff xs ys m i = D)) (fun v8 => ys.length - (intOf v8).toNat)
    case atStart => exact ⟨0, _, rfl, Nat.zero_add _, HD0⟩
    case round =>
      obtain ⟨i, m, rfl, hm, HD⟩ := hrel
      have i0 : (0 : Int) ≤ i := by omega
      by_cases hi : i < ys.length
      · have hi' : (i : Int) < ys.length := by omega
        obtain ⟨m, rfl⟩ : ∃ k, m = k + 1 := ⟨m - 1, by omega⟩
        have HDm : Hid ((if part xs i ≠ part ys i then part xs i - part ys i else diff xs ys m (i + 1)) = D) := Lib.hid (by have := HD.out; rw [diff] at this; exact this)
        clear HD
        have bx := VX.out i
        have by_ := VY.out i
        by_cases hix : (i : Int) < xs.length
        · obtain ⟨ad, rfl, hx⟩ := int_at HA.out i (by omega)
          have hxc : ∀ o1 o2, ((w.alloc o1).alloc o2).cell? (ad.add i) = some (.int .i64 (part xs i)) := fun o1 o2 => ((((Below.refl w.heap.size w).alloc (Nat.le_refl _) o1).alloc (by simp) o2).cell (Lib.lt_of_cell hx)).trans hx
          clear hx
          obtain ⟨bd, rfl, hy⟩ := int_at HB.out i (by omega)
          have hyc : ∀ o1 o2, ((w.alloc o1).alloc o2).cell? (bd.add i) = some (.int .i64 (part ys i)) := fun o1 o2 => ((((Below.refl w.heap.size w).alloc (Nat.le_refl _) o1).alloc (by simp) o2).cell (Lib.lt_of_cell hy)).trans hy
          clear hy
          generalize part xs i = x at hxc HDm bx
          generalize part ys i = y at hyc HDm by_
          by_cases hxy : x = y
          · subst hxy
            have HD1 := Lib.hid (show diff xs ys m (i + 1) = D by rw [← HDm.out, if_neg (by simp)])
            clear HDm
            go_wp2_with (fail)
            go_round
            case rel => exact ⟨i + 1, m, by go_num, by omega, HD1⟩
            case measure => simp [intOf]; omega
          · have HD1 := Lib.hid (show x - y = D by rw [← HDm.out, if_pos hxy])
            have hbn : x - y ≤ 2147483647 ∧ -2147483647 ≤ x - y := by omega
            have HR := Lib.hid (cmp_a (p := p.data.toList) (q := q.data.toList) (show diff xs ys (max xs.length ys.length) 0 = D by rw [HM.out]; exact HD0.out) (by have := HD1.out; omega))
            clear HDm
            have hne : (x == y) = false := by simpa using hxy
            go_wp2_with (fail)
            go_ret
            refine ⟨ret_int (by rw [HR.out]; have := HD1.out; omega), ?_⟩
            exact (((Below.refl _ _).alloc (Nat.le_refl _) _).alloc (by simp) _)
        · have e0 : part xs i = 0 := part_out (by omega)
          rw [e0] at bx HDm
          obtain ⟨bd, rfl, hy⟩ := int_at HB.out i (by omega)
          have hyc : ∀ o1 o2, ((w.alloc o1).alloc o2).cell? (bd.add i) = some (.int .i64 (part ys i)) := fun o1 o2 => ((((Below.refl w.heap.size w).alloc (Nat.le_refl _) o1).alloc (by simp) o2).cell (Lib.lt_of_cell hy)).trans hy
          clear hy
          generalize part ys i = y at hyc HDm by_
          clear e0
          by_cases hxy : (0 : Int) = y
          · subst hxy
            have HD1 := Lib.hid (show diff xs ys m (i + 1) = D by rw [← HDm.out, if_neg (by simp)])
            clear HDm
            go_wp2_with (fail)
            go_round
            case rel => exact ⟨i + 1, m, by go_num, by omega, HD1⟩
            case measure => simp [intOf]; omega
          · have HD1 := Lib.hid (show 0 - y = D by rw [← HDm.out, if_pos hxy])
            have hbn : 0 - y ≤ 2147483647 ∧ -2147483647 ≤ 0 - y := by omega
            have HR := Lib.hid (cmp_a (p := p.data.toList) (q := q.data.toList) (show diff xs ys (max xs.length ys.length) 0 = D by rw [HM.out]; exact HD0.out) (by have := HD1.out; omega))
            clear HDm
            have hne : (0 == y) = false := by simpa using hxy
            go_wp2_with (fail)
            go_ret
            refine ⟨ret_int (by rw [HR.out]; have := HD1.out; omega), ?_⟩
            exact (((Below.refl _ _).alloc (Nat.le_refl _) _).alloc (by simp) _)
      · have hi' : ¬ (i : Int) < ys.length := by omega
        obtain rfl : m = 0 := by omega
        have HD : Hid (diff xs ys (max xs.length ys.length) 0 = 0) := Lib.hid (by rw [HM.out, HD0.out, ← HD.out]; rfl)
        by_cases hp : p.data.toList = []
        · by_cases hq : q.data.toList = []
          · skip
            obtain rfl := empty_of hp
            obtain rfl := empty_of hq
            have HC := Lib.hid (cmp_c (p := (⟨#[]⟩ : ByteArray).data.toList) (q := (⟨#[]⟩ : ByteArray).data.toList) HD.out rfl)
            clear hp hq HD
            have hT := tails (⟨#[]⟩ : ByteArray) (⟨#[]⟩ : ByteArray) _ hp0 hq0 HC.out
            go_wp2_with (fail)
            refine (Tryd.strings_TrimPrefix (⟨#[]⟩ : ByteArray) ⟨#[45]⟩ _).mono ?_
            rintro e w1 ⟨rfl, hw1⟩
            subst hw1
            go_wp2_with (fail)
            refine (Tryd.strings_TrimPrefix (⟨#[]⟩ : ByteArray) ⟨#[45]⟩ _).mono ?_
            rintro e w1 ⟨rfl, hw1⟩
            subst hw1
            obtain ⟨tx, ty, f, ex, ey, htx, hty, hf, hcT⟩ := hT
            obtain rfl := ex.symm.trans ey
            rw [ex]
            have HBW := Lib.hid (show Below w.heap.size w ((w.alloc (Obj.cells #[Value.slice A xs.length ca, Value.string (⟨#[]⟩ : ByteArray)] 30)).alloc (Obj.cells #[Value.slice B ys.length cb, Value.string (⟨#[]⟩ : ByteArray)] 30)) from ((Below.refl _ _).alloc (Nat.le_refl _) _).alloc (by simp) _)
            have HF := Lib.hid hf
            have HT := Lib.hid hcT
            clear ex ey hf hcT
            go_wp2_with (fail)
            generalize hW0 : ((w.alloc (Obj.cells #[Value.slice A xs.length ca, Value.string (⟨#[]⟩ : ByteArray)] 30)).alloc (Obj.cells #[Value.slice B ys.length cb, Value.string (⟨#[]⟩ : ByteArray)] 30)) = W0 at HBW ⊢
            clear hW0
            have HEW := Lib.hid (HE.out.below HBW.out)
            generalize hTd : cmp xs ys _ _ = T at HT HC
            have HTD := Lib.hid hTd
            clear hTd
            clear HE HA HB VX VY HM HD0 HC hi hi' HD hm i0 hlt p1 q1 x1 y1
            go_loopw [11, 12] (fun v11 v12 wr => ∃ (x y : ByteArray) (f : Nat), v11 = .string x ∧ v12 = .string y ∧ x.size ≤ 2147483647 ∧ y.size ≤ 2147483647 ∧ Hid (x.size + y.size ≤ f) ∧ Hid (cmpTail f x.data.toList y.data.toList = T) ∧ Hid (Below w.heap.size w wr) ∧ Hid (Errs wr)) (fun v11 v12 _ => strSize v11 + strSize v12)
            case atStart => exact ⟨tx, tx, f, rfl, rfl, htx, hty, HF, HT, HBW, HEW⟩
            case round =>
              clear HF HT HBW HEW htx hty
              obtain ⟨x, y, f, rfl, rfl, hxs, hys, HF, HT, HB, HE⟩ := hrel
              by_cases hx : x.data.toList = []
              · obtain rfl := empty_of hx
                have HC := Lib.hid (tail_end (f := f) (b := y.data.toList) (.inl hx))
                have y1 : (y.size : Int) ≤ 2147483647 := by omega
                clear hx
                go_wp2_with (fail)
                go_ret
                exact ⟨ret_int (Eq.trans (b := T) (by rw [← HT.out, HC.out, ← size_list]; simp) HTD.out.symm), HB.out⟩
              · by_cases hy : y.data.toList = []
                · obtain rfl := empty_of hy
                  have HC := Lib.hid (tail_end (f := f) (a := x.data.toList) (.inr hy))
                  have x1 : (x.size : Int) ≤ 2147483647 := by omega
                  have xa : x.toList.isEmpty = false := by rw [ByteArray.toList_eq]; simpa using hx
                  have xb : (!x.toList.isEmpty) = true := by rw [xa]; rfl
                  have xc : ¬ x.toList = [] := by rw [ByteArray.toList_eq]; exact hx
                  clear hx hy
                  go_wp2_with (fail)
                  go_ret
                  exact ⟨ret_int (Eq.trans (b := T) (by rw [← HT.out, HC.out, ← size_list]; simp) HTD.out.symm), HB.out⟩
                · have hx0 := List.length_pos_iff.2 hx
                  have hy0 := List.length_pos_iff.2 hy
                  rw [← size_list] at hx0 hy0
                  obtain ⟨f, rfl⟩ : ∃ g, f = g + 1 := ⟨f - 1, by have := HF.out; omega⟩
                  have xa : x.toList.isEmpty = false := by rw [ByteArray.toList_eq]; simpa using hx
                  have xb : (!x.toList.isEmpty) = true := by rw [xa]; rfl
                  have xc : ¬ x.toList = [] := by rw [ByteArray.toList_eq]; exact hx
                  have ya : y.toList.isEmpty = false := by rw [ByteArray.toList_eq]; simpa using hy
                  have yb : (!y.toList.isEmpty) = true := by rw [ya]; rfl
                  have yc : ¬ y.toList = [] := by rw [ByteArray.toList_eq]; exact hy
                  have HX := Lib.hid hx
                  have HY := Lib.hid hy
                  have HX0 := Lib.hid hx0
                  have HY0 := Lib.hid hy0
                  clear hx hy hx0 hy0
                  go_wp2_with (fail)
                  refine (split x _ hxs).mono ?_
                  rintro e w1 ⟨⟨h1, t1, rfl, eh1, et1⟩, hb1⟩
                  have HB1 := Lib.hid (HB.out.trans (hb1.mono HB.out.size))
                  have HE1 := Lib.hid (HE.out.below hb1)
                  have EH1 := Lib.hid eh1
                  have ET1 := Lib.hid et1
                  clear eh1 et1 hb1 HB HE
                  go_wp2_with (fail)
                  refine (split y _ hys).mono ?_
                  rintro e w2 ⟨⟨h2, t2, rfl, eh2, et2⟩, hb2⟩
                  have HB2 := Lib.hid (HB1.out.trans (hb2.mono HB1.out.size))
                  have HE2 := Lib.hid (HE1.out.below hb2)
                  have EH2 := Lib.hid eh2
                  have ET2 := Lib.hid et2
                  clear eh2 et2 hb2 HB1 HE1
                  have hs1 : h1.size ≤ 2147483647 := by rw [size_list, EH1.out]; exact Nat.le_trans (head_le _) (by rw [← size_list]; exact hxs)
                  have hs2 : h2.size ≤ 2147483647 := by rw [size_list, EH2.out]; exact Nat.le_trans (head_le _) (by rw [← size_list]; exact hys)
                  have hs1i : (h1.size : Int) ≤ 2147483647 := by omega
                  have hs2i : (h2.size : Int) ≤ 2147483647 := by omega
                  by_cases hh : headOf x.data.toList = headOf y.data.toList
                  · have heq : (h1.toList == h2.toList) = true := by rw [ByteArray.toList_eq, ByteArray.toList_eq, EH1.out, EH2.out, hh]; simp
                    have l1 : t1.size < x.size := by rw [size_list, ET1.out, size_list]; exact tail_lt _ HX.out
                    have l2 : t2.size < y.size := by rw [size_list, ET2.out, size_list]; exact tail_lt _ HY.out
                    have HT2 := Lib.hid (tail_same (f := f) HX.out HY.out hh)
                    clear hh
                    go_wp2_with (fail)
                    go_roundw
                    case rel => exact ⟨t1, t2, f, rfl, rfl, by omega, by omega, Lib.hid (by have := HF.out; omega), Lib.hid (by rw [ET1.out, ET2.out, ← HT2.out]; exact HT.out), HB2, HE2⟩
                    case measure =>
                      show t1.size + t2.size < x.size + y.size
                      omega
                  · have hne : (h1.toList == h2.toList) = false := by rw [ByteArray.toList_eq, ByteArray.toList_eq, EH1.out, EH2.out]; simpa using hh
                    have HT2 := Lib.hid (tail_head (f := f) HX.out HY.out hh)
                    clear hh
                    go_wp2_with (fail)
                    refine (number h1 _ hs1 HE2.out).mono ?_
                    rintro e w3 ⟨⟨v1, b1, rfl, hn1⟩, hb3⟩
                    have HB3 := Lib.hid (HB2.out.trans (hb3.mono HB2.out.size))
                    have HE3 := Lib.hid (HE2.out.below hb3)
                    have HN1 := Lib.hid hn1
                    clear hn1 hb3 HB2 HE2
                    go_wp2_with (fail)
                    refine (number h2 _ hs2 HE3.out).mono ?_
                    rintro e w4 ⟨⟨v2, b2, rfl, hn2⟩, hb4⟩
                    have HB4 := Lib.hid (HB3.out.trans (hb4.mono HB3.out.size))
                    have HN2 := Lib.hid hn2
                    have HR : Hid (T = cmpHead h1.data.toList h2.data.toList) := Lib.hid (by rw [← HT.out, HT2.out, EH1.out, EH2.out])
                    clear hn2 hb4 HB3 HE3
                    cases b1
                    · have N1 := Lib.hid (HN1.out.2 rfl)
                      cases b2
                      · have N2 := Lib.hid (HN2.out.2 rfl)
                        have HC := Lib.hid (head_text N1.out N2.out)
                        cases hl : Go.Op.bytesLess h1.toList h2.toList
                        · go_wp2_with (fail)
                          go_ret
                          exact ⟨ret_int (by rw [HR.out, HC.out, ← ByteArray.toList_eq, ← ByteArray.toList_eq, hl]; rfl), HB4.out⟩
                        · go_wp2_with (fail)
                          go_ret
                          exact ⟨ret_int (by rw [HR.out, HC.out, ← ByteArray.toList_eq, ← ByteArray.toList_eq, hl]; rfl), HB4.out⟩
                      · have HC := Lib.hid (head_right N1.out (HN2.out.1 rfl))
                        go_wp2_with (fail)
                        go_ret
                        exact ⟨ret_int (by rw [HR.out, HC.out]), HB4.out⟩
                    · have N1 := Lib.hid (HN1.out.1 rfl)
                      cases b2
                      · have HC := Lib.hid (head_left N1.out (HN2.out.2 rfl))
                        go_wp2_with (fail)
                        go_ret
                        exact ⟨ret_int (by rw [HR.out, HC.out]), HB4.out⟩
                      · have N2 := Lib.hid (HN2.out.1 rfl)
                        obtain ⟨v1a, v1b⟩ := num_range N1.out
                        obtain ⟨v2a, v2b⟩ := num_range N2.out
                        by_cases hv : v1 = v2
                        · subst hv
                          have HC := Lib.hid (head_len N1.out N2.out)
                          go_wp2_with (fail)
                          go_ret
                          exact ⟨ret_int (by rw [HR.out, HC.out, ← size_list, ← size_list]), HB4.out⟩
                        · have HC := Lib.hid (head_num N1.out N2.out hv)
                          have hv2 : (v1 == v2) = false := by simpa using hv
                          have r1 : v1 - v2 ≤ 9223372036854775807 := by omega
                          have r2 : -9223372036854775808 ≤ v1 - v2 := by omega
                          go_wp2_with (fail)
                          go_ret
                          exact ⟨ret_int (by rw [HR.out, HC.out]), HB4.out⟩
          · skip
            obtain rfl := empty_of hp
            have qa : q.toList.isEmpty = false := by rw [ByteArray.toList_eq]; simpa using hq
            have qb : (!q.toList.isEmpty) = true := by rw [qa]; rfl
            have qc : ¬ q.toList = [] := by rw [ByteArray.toList_eq]; exact hq
            have HC := Lib.hid (cmp_b (p := []) (q := q.data.toList) HD.out (by simpa using hq))
            clear hp hq HD
            go_wp2_with (fail)
            go_ret
            refine ⟨ret_int (by rw [HC.out, ← size_list]; simp), ?_⟩
            exact (((Below.refl _ _).alloc (Nat.le_refl _) _).alloc (by simp) _)
        · by_cases hq : q.data.toList = []
          · skip
            obtain rfl := empty_of hq
            have pa : p.toList.isEmpty = false := by rw [ByteArray.toList_eq]; simpa using hp
            have pb : (!p.toList.isEmpty) = true := by rw [pa]; rfl
            have pc : ¬ p.toList = [] := by rw [ByteArray.toList_eq]; exact hp
            have HC := Lib.hid (cmp_b (p := p.data.toList) (q := []) HD.out (by simpa using hp))
            clear hp hq HD
            go_wp2_with (fail)
            go_ret
            refine ⟨ret_int (by rw [HC.out, ← size_list]; simp), ?_⟩
            exact (((Below.refl _ _).alloc (Nat.le_refl _) _).alloc (by simp) _)
          · skip
            have pa : p.toList.isEmpty = false := by rw [ByteArray.toList_eq]; simpa using hp
            have pb : (!p.toList.isEmpty) = true := by rw [pa]; rfl
            have pc : ¬ p.toList = [] := by rw [ByteArray.toList_eq]; exact hp
            have qa : q.toList.isEmpty = false := by rw [ByteArray.toList_eq]; simpa using hq
            have qb : (!q.toList.isEmpty) = true := by rw [qa]; rfl
            have qc : ¬ q.toList = [] := by rw [ByteArray.toList_eq]; exact hq
            have HC := Lib.hid (cmp_c (p := p.data.toList) (q := q.data.toList) HD.out (by simp [hp, hq]))
            clear hp hq HD
            have hT := tails p q _ hp0 hq0 HC.out
            go_wp2_with (fail)
            refine (Tryd.strings_TrimPrefix p ⟨#[45]⟩ _).mono ?_
            rintro e w1 ⟨rfl, hw1⟩
            subst hw1
            go_wp2_with (fail)
            refine (Tryd.strings_TrimPrefix q ⟨#[45]⟩ _).mono ?_
            rintro e w1 ⟨rfl, hw1⟩
            subst hw1
            obtain ⟨tx, ty, f, ex, ey, htx, hty, hf, hcT⟩ := hT
            rw [ex, ey]
            have HBW := Lib.hid (show Below w.heap.size w ((w.alloc (Obj.cells #[Value.slice A xs.length ca, Value.string p] 30)).alloc (Obj.cells #[Value.slice B ys.length cb, Value.string q] 30)) from ((Below.refl _ _).alloc (Nat.le_refl _) _).alloc (by simp) _)
            have HF := Lib.hid hf
            have HT := Lib.hid hcT
            clear ex ey hf hcT
            go_wp2_with (fail)
            generalize hW0 : ((w.alloc (Obj.cells #[Value.slice A xs.length ca, Value.string p] 30)).alloc (Obj.cells #[Value.slice B ys.length cb, Value.string q] 30)) = W0 at HBW ⊢
            clear hW0
            have HEW := Lib.hid (HE.out.below HBW.out)
            generalize hTd : cmp xs ys _ _ = T at HT HC
            have HTD := Lib.hid hTd
            clear hTd
            clear HE HA HB VX VY HM HD0 HC hi hi' HD hm i0 hlt p1 q1 x1 y1
            clear pa pb pc qa qb qc
            go_loopw [11, 12] (fun v11 v12 wr => ∃ (x y : ByteArray) (f : Nat), v11 = .string x ∧ v12 = .string y ∧ x.size ≤ 2147483647 ∧ y.size ≤ 2147483647 ∧ Hid (x.size + y.size ≤ f) ∧ Hid (cmpTail f x.data.toList y.data.toList = T) ∧ Hid (Below w.heap.size w wr) ∧ Hid (Errs wr)) (fun v11 v12 _ => strSize v11 + strSize v12)
            case atStart => exact ⟨tx, ty, f, rfl, rfl, htx, hty, HF, HT, HBW, HEW⟩
            case round =>
              clear HF HT HBW HEW htx hty
              obtain ⟨x, y, f, rfl, rfl, hxs, hys, HF, HT, HB, HE⟩ := hrel
              by_cases hx : x.data.toList = []
              · obtain rfl := empty_of hx
                have HC := Lib.hid (tail_end (f := f) (b := y.data.toList) (.inl hx))
                have y1 : (y.size : Int) ≤ 2147483647 := by omega
                clear hx
                go_wp2_with (fail)
                go_ret
                exact ⟨ret_int (Eq.trans (b := T) (by rw [← HT.out, HC.out, ← size_list]; simp) HTD.out.symm), HB.out⟩
              · by_cases hy : y.data.toList = []
                · obtain rfl := empty_of hy
                  have HC := Lib.hid (tail_end (f := f) (a := x.data.toList) (.inr hy))
                  have x1 : (x.size : Int) ≤ 2147483647 := by omega
                  have xa : x.toList.isEmpty = false := by rw [ByteArray.toList_eq]; simpa using hx
                  have xb : (!x.toList.isEmpty) = true := by rw [xa]; rfl
                  have xc : ¬ x.toList = [] := by rw [ByteArray.toList_eq]; exact hx
                  clear hx hy
                  go_wp2_with (fail)
                  go_ret
                  exact ⟨ret_int (Eq.trans (b := T) (by rw [← HT.out, HC.out, ← size_list]; simp) HTD.out.symm), HB.out⟩
                · have hx0 := List.length_pos_iff.2 hx
                  have hy0 := List.length_pos_iff.2 hy
                  rw [← size_list] at hx0 hy0
                  obtain ⟨f, rfl⟩ : ∃ g, f = g + 1 := ⟨f - 1, by have := HF.out; omega⟩
                  have xa : x.toList.isEmpty = false := by rw [ByteArray.toList_eq]; simpa using hx
                  have xb : (!x.toList.isEmpty) = true := by rw [xa]; rfl
                  have xc : ¬ x.toList = [] := by rw [ByteArray.toList_eq]; exact hx
                  have ya : y.toList.isEmpty = false := by rw [ByteArray.toList_eq]; simpa using hy
                  have yb : (!y.toList.isEmpty) = true := by rw [ya]; rfl
                  have yc : ¬ y.toList = [] := by rw [ByteArray.toList_eq]; exact hy
                  have HX := Lib.hid hx
                  have HY := Lib.hid hy
                  have HX0 := Lib.hid hx0
                  have HY0 := Lib.hid hy0
                  clear hx hy hx0 hy0
                  go_wp2_with (fail)
                  refine (split x _ hxs).mono ?_
                  rintro e w1 ⟨⟨h1, t1, rfl, eh1, et1⟩, hb1⟩
                  have HB1 := Lib.hid (HB.out.trans (hb1.mono HB.out.size))
                  have HE1 := Lib.hid (HE.out.below hb1)
                  have EH1 := Lib.hid eh1
                  have ET1 := Lib.hid et1
                  clear eh1 et1 hb1 HB HE
                  go_wp2_with (fail)
                  refine (split y _ hys).mono ?_
                  rintro e w2 ⟨⟨h2, t2, rfl, eh2, et2⟩, hb2⟩
                  have HB2 := Lib.hid (HB1.out.trans (hb2.mono HB1.out.size))
                  have HE2 := Lib.hid (HE1.out.below hb2)
                  have EH2 := Lib.hid eh2
                  have ET2 := Lib.hid et2
                  clear eh2 et2 hb2 HB1 HE1
                  have hs1 : h1.size ≤ 2147483647 := by rw [size_list, EH1.out]; exact Nat.le_trans (head_le _) (by rw [← size_list]; exact hxs)
                  have hs2 : h2.size ≤ 2147483647 := by rw [size_list, EH2.out]; exact Nat.le_trans (head_le _) (by rw [← size_list]; exact hys)
                  have hs1i : (h1.size : Int) ≤ 2147483647 := by omega
                  have hs2i : (h2.size : Int) ≤ 2147483647 := by omega
                  by_cases hh : headOf x.data.toList = headOf y.data.toList
                  · have heq : (h1.toList == h2.toList) = true := by rw [ByteArray.toList_eq, ByteArray.toList_eq, EH1.out, EH2.out, hh]; simp
                    have l1 : t1.size < x.size := by rw [size_list, ET1.out, size_list]; exact tail_lt _ HX.out
                    have l2 : t2.size < y.size := by rw [size_list, ET2.out, size_list]; exact tail_lt _ HY.out
                    have HT2 := Lib.hid (tail_same (f := f) HX.out HY.out hh)
                    clear hh
                    go_wp2_with (fail)
                    go_roundw
                    case rel => exact ⟨t1, t2, f, rfl, rfl, by omega, by omega, Lib.hid (by have := HF.out; omega), Lib.hid (by rw [ET1.out, ET2.out, ← HT2.out]; exact HT.out), HB2, HE2⟩
                    case measure =>
                      show t1.size + t2.size < x.size + y.size
                      omega
                  · have hne : (h1.toList == h2.toList) = false := by rw [ByteArray.toList_eq, ByteArray.toList_eq, EH1.out, EH2.out]; simpa using hh
                    have HT2 := Lib.hid (tail_head (f := f) HX.out HY.out hh)
                    clear hh
                    go_wp2_with (fail)
                    refine (number h1 _ hs1 HE2.out).mono ?_
                    rintro e w3 ⟨⟨v1, b1, rfl, hn1⟩, hb3⟩
                    have HB3 := Lib.hid (HB2.out.trans (hb3.mono HB2.out.size))
                    have HE3 := Lib.hid (HE2.out.below hb3)
                    have HN1 := Lib.hid hn1
                    clear hn1 hb3 HB2 HE2
                    go_wp2_with (fail)
                    refine (number h2 _ hs2 HE3.out).mono ?_
                    rintro e w4 ⟨⟨v2, b2, rfl, hn2⟩, hb4⟩
                    have HB4 := Lib.hid (HB3.out.trans (hb4.mono HB3.out.size))
                    have HN2 := Lib.hid hn2
                    have HR : Hid (T = cmpHead h1.data.toList h2.data.toList) := Lib.hid (by rw [← HT.out, HT2.out, EH1.out, EH2.out])
                    clear hn2 hb4 HB3 HE3
                    cases b1
                    · have N1 := Lib.hid (HN1.out.2 rfl)
                      cases b2
                      · have N2 := Lib.hid (HN2.out.2 rfl)
                        have HC := Lib.hid (head_text N1.out N2.out)
                        cases hl : Go.Op.bytesLess h1.toList h2.toList
                        · go_wp2_with (fail)
                          go_ret
                          exact ⟨ret_int (by rw [HR.out, HC.out, ← ByteArray.toList_eq, ← ByteArray.toList_eq, hl]; rfl), HB4.out⟩
                        · go_wp2_with (fail)
                          go_ret
                          exact ⟨ret_int (by rw [HR.out, HC.out, ← ByteArray.toList_eq, ← ByteArray.toList_eq, hl]; rfl), HB4.out⟩
                      · have HC := Lib.hid (head_right N1.out (HN2.out.1 rfl))
                        go_wp2_with (fail)
                        go_ret
                        exact ⟨ret_int (by rw [HR.out, HC.out]), HB4.out⟩
                    · have N1 := Lib.hid (HN1.out.1 rfl)
                      cases b2
                      · have HC := Lib.hid (head_left N1.out (HN2.out.2 rfl))
                        go_wp2_with (fail)
                        go_ret
                        exact ⟨ret_int (by rw [HR.out, HC.out]), HB4.out⟩
                      · have N2 := Lib.hid (HN2.out.1 rfl)
                        obtain ⟨v1a, v1b⟩ := num_range N1.out
                        obtain ⟨v2a, v2b⟩ := num_range N2.out
                        by_cases hv : v1 = v2
                        · subst hv
                          have HC := Lib.hid (head_len N1.out N2.out)
                          go_wp2_with (fail)
                          go_ret
                          exact ⟨ret_int (by rw [HR.out, HC.out, ← size_list, ← size_list]), HB4.out⟩
                        · have HC := Lib.hid (head_num N1.out N2.out hv)
                          have hv2 : (v1 == v2) = false := by simpa using hv
                          have r1 : v1 - v2 ≤ 9223372036854775807 := by omega
                          have r2 : -9223372036854775808 ≤ v1 - v2 := by omega
                          go_wp2_with (fail)
                          go_ret
                          exact ⟨ret_int (by rw [HR.out, HC.out]), HB4.out⟩
  · have hmax : max xs.length ys.length = xs.length := by omega
    rw [hmax] at HDD
    have HM := Lib.hid hmax
    clear hmax
    generalize hD : diff xs ys xs.length 0 = D at HDD
    have HD0 := Lib.hid hD
    clear hD HDD
    go_enter Tryd.func7, Tryd.ntmps7
    go_wp2_with (fail)
    go_loop [8] (fun v8 => ∃ i m : Nat, v8 = .int .i64 i ∧ i + m = xs.length ∧ Hid (diff xs ys m i = D)) (fun v8 => xs.length - (intOf v8).toNat)
    case atStart => exact ⟨0, _, rfl, Nat.zero_add _, HD0⟩
    case round =>
      obtain ⟨i, m, rfl, hm, HD⟩ := hrel
      have i0 : (0 : Int) ≤ i := by omega
      by_cases hi : i < xs.length
      · have hi' : (i : Int) < xs.length := by omega
        obtain ⟨m, rfl⟩ : ∃ k, m = k + 1 := ⟨m - 1, by omega⟩
        have HDm : Hid ((if part xs i ≠ part ys i then part xs i - part ys i else diff xs ys m (i + 1)) = D) := Lib.hid (by have := HD.out; rw [diff] at this; exact this)
        clear HD
        have bx := VX.out i
        have by_ := VY.out i
        by_cases hiy : (i : Int) < ys.length
        · obtain ⟨ad, rfl, hx⟩ := int_at HA.out i (by omega)
          have hxc : ∀ o1 o2, ((w.alloc o1).alloc o2).cell? (ad.add i) = some (.int .i64 (part xs i)) := fun o1 o2 => ((((Below.refl w.heap.size w).alloc (Nat.le_refl _) o1).alloc (by simp) o2).cell (Lib.lt_of_cell hx)).trans hx
          clear hx
          obtain ⟨bd, rfl, hy⟩ := int_at HB.out i (by omega)
          have hyc : ∀ o1 o2, ((w.alloc o1).alloc o2).cell? (bd.add i) = some (.int .i64 (part ys i)) := fun o1 o2 => ((((Below.refl w.heap.size w).alloc (Nat.le_refl _) o1).alloc (by simp) o2).cell (Lib.lt_of_cell hy)).trans hy
          clear hy
          generalize part xs i = x at hxc HDm bx
          generalize part ys i = y at hyc HDm by_
          by_cases hxy : x = y
          · subst hxy
            have HD1 := Lib.hid (show diff xs ys m (i + 1) = D by rw [← HDm.out, if_neg (by simp)])
            clear HDm
            go_wp2_with (fail)
            go_round
            case rel => exact ⟨i + 1, m, by go_num, by omega, HD1⟩
            case measure => simp [intOf]; omega
          · have HD1 := Lib.hid (show x - y = D by rw [← HDm.out, if_pos hxy])
            have hbn : x - y ≤ 2147483647 ∧ -2147483647 ≤ x - y := by omega
            have HR := Lib.hid (cmp_a (p := p.data.toList) (q := q.data.toList) (show diff xs ys (max xs.length ys.length) 0 = D by rw [HM.out]; exact HD0.out) (by have := HD1.out; omega))
            clear HDm
            have hne : (x == y) = false := by simpa using hxy
            go_wp2_with (fail)
            go_ret
            refine ⟨ret_int (by rw [HR.out]; have := HD1.out; omega), ?_⟩
            exact (((Below.refl _ _).alloc (Nat.le_refl _) _).alloc (by simp) _)
        · obtain ⟨ad, rfl, hx⟩ := int_at HA.out i (by omega)
          have hxc : ∀ o1 o2, ((w.alloc o1).alloc o2).cell? (ad.add i) = some (.int .i64 (part xs i)) := fun o1 o2 => ((((Below.refl w.heap.size w).alloc (Nat.le_refl _) o1).alloc (by simp) o2).cell (Lib.lt_of_cell hx)).trans hx
          clear hx
          have e1 : part ys i = 0 := part_out (by omega)
          rw [e1] at by_ HDm
          generalize part xs i = x at hxc HDm bx
          clear e1
          by_cases hxy : x = 0
          · subst hxy
            have HD1 := Lib.hid (show diff xs ys m (i + 1) = D by rw [← HDm.out, if_neg (by simp)])
            clear HDm
            go_wp2_with (fail)
            go_round
            case rel => exact ⟨i + 1, m, by go_num, by omega, HD1⟩
            case measure => simp [intOf]; omega
          · have HD1 := Lib.hid (show x - 0 = D by rw [← HDm.out, if_pos hxy])
            have hbn : x - 0 ≤ 2147483647 ∧ -2147483647 ≤ x - 0 := by omega
            have HR := Lib.hid (cmp_a (p := p.data.toList) (q := q.data.toList) (show diff xs ys (max xs.length ys.length) 0 = D by rw [HM.out]; exact HD0.out) (by have := HD1.out; omega))
            clear HDm
            have hne : (x == 0) = false := by simpa using hxy
            go_wp2_with (fail)
            go_ret
            refine ⟨ret_int (by rw [HR.out]; have := HD1.out; omega), ?_⟩
            exact (((Below.refl _ _).alloc (Nat.le_refl _) _).alloc (by simp) _)
      · have hi' : ¬ (i : Int) < xs.length := by omega
        obtain rfl : m = 0 := by omega
        have HD : Hid (diff xs ys (max xs.length ys.length) 0 = 0) := Lib.hid (by rw [HM.out, HD0.out, ← HD.out]; rfl)
        by_cases hp : p.data.toList = []
        · by_cases hq : q.data.toList = []
          · skip
            obtain rfl := empty_of hp
            obtain rfl := empty_of hq
            have HC := Lib.hid (cmp_c (p := (⟨#[]⟩ : ByteArray).data.toList) (q := (⟨#[]⟩ : ByteArray).data.toList) HD.out rfl)
            clear hp hq HD
            have hT := tails (⟨#[]⟩ : ByteArray) (⟨#[]⟩ : ByteArray) _ hp0 hq0 HC.out
            go_wp2_with (fail)
            refine (Tryd.strings_TrimPrefix (⟨#[]⟩ : ByteArray) ⟨#[45]⟩ _).mono ?_
            rintro e w1 ⟨rfl, hw1⟩
            subst hw1
            go_wp2_with (fail)
            refine (Tryd.strings_TrimPrefix (⟨#[]⟩ : ByteArray) ⟨#[45]⟩ _).mono ?_
            rintro e w1 ⟨rfl, hw1⟩
            subst hw1
            obtain ⟨tx, ty, f, ex, ey, htx, hty, hf, hcT⟩ := hT
            obtain rfl := ex.symm.trans ey
            rw [ex]
            have HBW := Lib.hid (show Below w.heap.size w ((w.alloc (Obj.cells #[Value.slice A xs.length ca, Value.string (⟨#[]⟩ : ByteArray)] 30)).alloc (Obj.cells #[Value.slice B ys.length cb, Value.string (⟨#[]⟩ : ByteArray)] 30)) from ((Below.refl _ _).alloc (Nat.le_refl _) _).alloc (by simp) _)
            have HF := Lib.hid hf
            have HT := Lib.hid hcT
            clear ex ey hf hcT
            go_wp2_with (fail)
            generalize hW0 : ((w.alloc (Obj.cells #[Value.slice A xs.length ca, Value.string (⟨#[]⟩ : ByteArray)] 30)).alloc (Obj.cells #[Value.slice B ys.length cb, Value.string (⟨#[]⟩ : ByteArray)] 30)) = W0 at HBW ⊢
            clear hW0
            have HEW := Lib.hid (HE.out.below HBW.out)
            generalize hTd : cmp xs ys _ _ = T at HT HC
            have HTD := Lib.hid hTd
            clear hTd
            clear HE HA HB VX VY HM HD0 HC hi hi' HD hm i0 hlt p1 q1 x1 y1
            go_loopw [11, 12] (fun v11 v12 wr => ∃ (x y : ByteArray) (f : Nat), v11 = .string x ∧ v12 = .string y ∧ x.size ≤ 2147483647 ∧ y.size ≤ 2147483647 ∧ Hid (x.size + y.size ≤ f) ∧ Hid (cmpTail f x.data.toList y.data.toList = T) ∧ Hid (Below w.heap.size w wr) ∧ Hid (Errs wr)) (fun v11 v12 _ => strSize v11 + strSize v12)
            case atStart => exact ⟨tx, tx, f, rfl, rfl, htx, hty, HF, HT, HBW, HEW⟩
            case round =>
              clear HF HT HBW HEW htx hty
              obtain ⟨x, y, f, rfl, rfl, hxs, hys, HF, HT, HB, HE⟩ := hrel
              by_cases hx : x.data.toList = []
              · obtain rfl := empty_of hx
                have HC := Lib.hid (tail_end (f := f) (b := y.data.toList) (.inl hx))
                have y1 : (y.size : Int) ≤ 2147483647 := by omega
                clear hx
                go_wp2_with (fail)
                go_ret
                exact ⟨ret_int (Eq.trans (b := T) (by rw [← HT.out, HC.out, ← size_list]; simp) HTD.out.symm), HB.out⟩
              · by_cases hy : y.data.toList = []
                · obtain rfl := empty_of hy
                  have HC := Lib.hid (tail_end (f := f) (a := x.data.toList) (.inr hy))
                  have x1 : (x.size : Int) ≤ 2147483647 := by omega
                  have xa : x.toList.isEmpty = false := by rw [ByteArray.toList_eq]; simpa using hx
                  have xb : (!x.toList.isEmpty) = true := by rw [xa]; rfl
                  have xc : ¬ x.toList = [] := by rw [ByteArray.toList_eq]; exact hx
                  clear hx hy
                  go_wp2_with (fail)
                  go_ret
                  exact ⟨ret_int (Eq.trans (b := T) (by rw [← HT.out, HC.out, ← size_list]; simp) HTD.out.symm), HB.out⟩
                · have hx0 := List.length_pos_iff.2 hx
                  have hy0 := List.length_pos_iff.2 hy
                  rw [← size_list] at hx0 hy0
                  obtain ⟨f, rfl⟩ : ∃ g, f = g + 1 := ⟨f - 1, by have := HF.out; omega⟩
                  have xa : x.toList.isEmpty = false := by rw [ByteArray.toList_eq]; simpa using hx
                  have xb : (!x.toList.isEmpty) = true := by rw [xa]; rfl
                  have xc : ¬ x.toList = [] := by rw [ByteArray.toList_eq]; exact hx
                  have ya : y.toList.isEmpty = false := by rw [ByteArray.toList_eq]; simpa using hy
                  have yb : (!y.toList.isEmpty) = true := by rw [ya]; rfl
                  have yc : ¬ y.toList = [] := by rw [ByteArray.toList_eq]; exact hy
                  have HX := Lib.hid hx
                  have HY := Lib.hid hy
                  have HX0 := Lib.hid hx0
                  have HY0 := Lib.hid hy0
                  clear hx hy hx0 hy0
                  go_wp2_with (fail)
                  refine (split x _ hxs).mono ?_
                  rintro e w1 ⟨⟨h1, t1, rfl, eh1, et1⟩, hb1⟩
                  have HB1 := Lib.hid (HB.out.trans (hb1.mono HB.out.size))
                  have HE1 := Lib.hid (HE.out.below hb1)
                  have EH1 := Lib.hid eh1
                  have ET1 := Lib.hid et1
                  clear eh1 et1 hb1 HB HE
                  go_wp2_with (fail)
                  refine (split y _ hys).mono ?_
                  rintro e w2 ⟨⟨h2, t2, rfl, eh2, et2⟩, hb2⟩
                  have HB2 := Lib.hid (HB1.out.trans (hb2.mono HB1.out.size))
                  have HE2 := Lib.hid (HE1.out.below hb2)
                  have EH2 := Lib.hid eh2
                  have ET2 := Lib.hid et2
                  clear eh2 et2 hb2 HB1 HE1
                  have hs1 : h1.size ≤ 2147483647 := by rw [size_list, EH1.out]; exact Nat.le_trans (head_le _) (by rw [← size_list]; exact hxs)
                  have hs2 : h2.size ≤ 2147483647 := by rw [size_list, EH2.out]; exact Nat.le_trans (head_le _) (by rw [← size_list]; exact hys)
                  have hs1i : (h1.size : Int) ≤ 2147483647 := by omega
                  have hs2i : (h2.size : Int) ≤ 2147483647 := by omega
                  by_cases hh : headOf x.data.toList = headOf y.data.toList
                  · have heq : (h1.toList == h2.toList) = true := by rw [ByteArray.toList_eq, ByteArray.toList_eq, EH1.out, EH2.out, hh]; simp
                    have l1 : t1.size < x.size := by rw [size_list, ET1.out, size_list]; exact tail_lt _ HX.out
                    have l2 : t2.size < y.size := by rw [size_list, ET2.out, size_list]; exact tail_lt _ HY.out
                    have HT2 := Lib.hid (tail_same (f := f) HX.out HY.out hh)
                    clear hh
                    go_wp2_with (fail)
                    go_roundw
                    case rel => exact ⟨t1, t2, f, rfl, rfl, by omega, by omega, Lib.hid (by have := HF.out; omega), Lib.hid (by rw [ET1.out, ET2.out, ← HT2.out]; exact HT.out), HB2, HE2⟩
                    case measure =>
                      show t1.size + t2.size < x.size + y.size
                      omega
                  · have hne : (h1.toList == h2.toList) = false := by rw [ByteArray.toList_eq, ByteArray.toList_eq, EH1.out, EH2.out]; simpa using hh
                    have HT2 := Lib.hid (tail_head (f := f) HX.out HY.out hh)
                    clear hh
                    go_wp2_with (fail)
                    refine (number h1 _ hs1 HE2.out).mono ?_
                    rintro e w3 ⟨⟨v1, b1, rfl, hn1⟩, hb3⟩
                    have HB3 := Lib.hid (HB2.out.trans (hb3.mono HB2.out.size))
                    have HE3 := Lib.hid (HE2.out.below hb3)
                    have HN1 := Lib.hid hn1
                    clear hn1 hb3 HB2 HE2
                    go_wp2_with (fail)
                    refine (number h2 _ hs2 HE3.out).mono ?_
                    rintro e w4 ⟨⟨v2, b2, rfl, hn2⟩, hb4⟩
                    have HB4 := Lib.hid (HB3.out.trans (hb4.mono HB3.out.size))
                    have HN2 := Lib.hid hn2
                    have HR : Hid (T = cmpHead h1.data.toList h2.data.toList) := Lib.hid (by rw [← HT.out, HT2.out, EH1.out, EH2.out])
                    clear hn2 hb4 HB3 HE3
                    cases b1
                    · have N1 := Lib.hid (HN1.out.2 rfl)
                      cases b2
                      · have N2 := Lib.hid (HN2.out.2 rfl)
                        have HC := Lib.hid (head_text N1.out N2.out)
                        cases hl : Go.Op.bytesLess h1.toList h2.toList
                        · go_wp2_with (fail)
                          go_ret
                          exact ⟨ret_int (by rw [HR.out, HC.out, ← ByteArray.toList_eq, ← ByteArray.toList_eq, hl]; rfl), HB4.out⟩
                        · go_wp2_with (fail)
                          go_ret
                          exact ⟨ret_int (by rw [HR.out, HC.out, ← ByteArray.toList_eq, ← ByteArray.toList_eq, hl]; rfl), HB4.out⟩
                      · have HC := Lib.hid (head_right N1.out (HN2.out.1 rfl))
                        go_wp2_with (fail)
                        go_ret
                        exact ⟨ret_int (by rw [HR.out, HC.out]), HB4.out⟩
                    · have N1 := Lib.hid (HN1.out.1 rfl)
                      cases b2
                      · have HC := Lib.hid (head_left N1.out (HN2.out.2 rfl))
                        go_wp2_with (fail)
                        go_ret
                        exact ⟨ret_int (by rw [HR.out, HC.out]), HB4.out⟩
                      · have N2 := Lib.hid (HN2.out.1 rfl)
                        obtain ⟨v1a, v1b⟩ := num_range N1.out
                        obtain ⟨v2a, v2b⟩ := num_range N2.out
                        by_cases hv : v1 = v2
                        · subst hv
                          have HC := Lib.hid (head_len N1.out N2.out)
                          go_wp2_with (fail)
                          go_ret
                          exact ⟨ret_int (by rw [HR.out, HC.out, ← size_list, ← size_list]), HB4.out⟩
                        · have HC := Lib.hid (head_num N1.out N2.out hv)
                          have hv2 : (v1 == v2) = false := by simpa using hv
                          have r1 : v1 - v2 ≤ 9223372036854775807 := by omega
                          have r2 : -9223372036854775808 ≤ v1 - v2 := by omega
                          go_wp2_with (fail)
                          go_ret
                          exact ⟨ret_int (by rw [HR.out, HC.out]), HB4.out⟩
          · skip
            obtain rfl := empty_of hp
            have qa : q.toList.isEmpty = false := by rw [ByteArray.toList_eq]; simpa using hq
            have qb : (!q.toList.isEmpty) = true := by rw [qa]; rfl
            have qc : ¬ q.toList = [] := by rw [ByteArray.toList_eq]; exact hq
            have HC := Lib.hid (cmp_b (p := []) (q := q.data.toList) HD.out (by simpa using hq))
            clear hp hq HD
            go_wp2_with (fail)
            go_ret
            refine ⟨ret_int (by rw [HC.out, ← size_list]; simp), ?_⟩
            exact (((Below.refl _ _).alloc (Nat.le_refl _) _).alloc (by simp) _)
        · by_cases hq : q.data.toList = []
          · skip
            obtain rfl := empty_of hq
            have pa : p.toList.isEmpty = false := by rw [ByteArray.toList_eq]; simpa using hp
            have pb : (!p.toList.isEmpty) = true := by rw [pa]; rfl
            have pc : ¬ p.toList = [] := by rw [ByteArray.toList_eq]; exact hp
            have HC := Lib.hid (cmp_b (p := p.data.toList) (q := []) HD.out (by simpa using hp))
            clear hp hq HD
            go_wp2_with (fail)
            go_ret
            refine ⟨ret_int (by rw [HC.out, ← size_list]; simp), ?_⟩
            exact (((Below.refl _ _).alloc (Nat.le_refl _) _).alloc (by simp) _)
          · skip
            have pa : p.toList.isEmpty = false := by rw [ByteArray.toList_eq]; simpa using hp
            have pb : (!p.toList.isEmpty) = true := by rw [pa]; rfl
            have pc : ¬ p.toList = [] := by rw [ByteArray.toList_eq]; exact hp
            have qa : q.toList.isEmpty = false := by rw [ByteArray.toList_eq]; simpa using hq
            have qb : (!q.toList.isEmpty) = true := by rw [qa]; rfl
            have qc : ¬ q.toList = [] := by rw [ByteArray.toList_eq]; exact hq
            have HC := Lib.hid (cmp_c (p := p.data.toList) (q := q.data.toList) HD.out (by simp [hp, hq]))
            clear hp hq HD
            have hT := tails p q _ hp0 hq0 HC.out
            go_wp2_with (fail)
            refine (Tryd.strings_TrimPrefix p ⟨#[45]⟩ _).mono ?_
            rintro e w1 ⟨rfl, hw1⟩
            subst hw1
            go_wp2_with (fail)
            refine (Tryd.strings_TrimPrefix q ⟨#[45]⟩ _).mono ?_
            rintro e w1 ⟨rfl, hw1⟩
            subst hw1
            obtain ⟨tx, ty, f, ex, ey, htx, hty, hf, hcT⟩ := hT
            rw [ex, ey]
            have HBW := Lib.hid (show Below w.heap.size w ((w.alloc (Obj.cells #[Value.slice A xs.length ca, Value.string p] 30)).alloc (Obj.cells #[Value.slice B ys.length cb, Value.string q] 30)) from ((Below.refl _ _).alloc (Nat.le_refl _) _).alloc (by simp) _)
            have HF := Lib.hid hf
            have HT := Lib.hid hcT
            clear ex ey hf hcT
            go_wp2_with (fail)
            generalize hW0 : ((w.alloc (Obj.cells #[Value.slice A xs.length ca, Value.string p] 30)).alloc (Obj.cells #[Value.slice B ys.length cb, Value.string q] 30)) = W0 at HBW ⊢
            clear hW0
            have HEW := Lib.hid (HE.out.below HBW.out)
            generalize hTd : cmp xs ys _ _ = T at HT HC
            have HTD := Lib.hid hTd
            clear hTd
            clear HE HA HB VX VY HM HD0 HC hi hi' HD hm i0 hlt p1 q1 x1 y1
            clear pa pb pc qa qb qc
            go_loopw [11, 12] (fun v11 v12 wr => ∃ (x y : ByteArray) (f : Nat), v11 = .string x ∧ v12 = .string y ∧ x.size ≤ 2147483647 ∧ y.size ≤ 2147483647 ∧ Hid (x.size + y.size ≤ f) ∧ Hid (cmpTail f x.data.toList y.data.toList = T) ∧ Hid (Below w.heap.size w wr) ∧ Hid (Errs wr)) (fun v11 v12 _ => strSize v11 + strSize v12)
            case atStart => exact ⟨tx, ty, f, rfl, rfl, htx, hty, HF, HT, HBW, HEW⟩
            case round =>
              clear HF HT HBW HEW htx hty
              obtain ⟨x, y, f, rfl, rfl, hxs, hys, HF, HT, HB, HE⟩ := hrel
              by_cases hx : x.data.toList = []
              · obtain rfl := empty_of hx
                have HC := Lib.hid (tail_end (f := f) (b := y.data.toList) (.inl hx))
                have y1 : (y.size : Int) ≤ 2147483647 := by omega
                clear hx
                go_wp2_with (fail)
                go_ret
                exact ⟨ret_int (Eq.trans (b := T) (by rw [← HT.out, HC.out, ← size_list]; simp) HTD.out.symm), HB.out⟩
              · by_cases hy : y.data.toList = []
                · obtain rfl := empty_of hy
                  have HC := Lib.hid (tail_end (f := f) (a := x.data.toList) (.inr hy))
                  have x1 : (x.size : Int) ≤ 2147483647 := by omega
                  have xa : x.toList.isEmpty = false := by rw [ByteArray.toList_eq]; simpa using hx
                  have xb : (!x.toList.isEmpty) = true := by rw [xa]; rfl
                  have xc : ¬ x.toList = [] := by rw [ByteArray.toList_eq]; exact hx
                  clear hx hy
                  go_wp2_with (fail)
                  go_ret
                  exact ⟨ret_int (Eq.trans (b := T) (by rw [← HT.out, HC.out, ← size_list]; simp) HTD.out.symm), HB.out⟩
                · have hx0 := List.length_pos_iff.2 hx
                  have hy0 := List.length_pos_iff.2 hy
                  rw [← size_list] at hx0 hy0
                  obtain ⟨f, rfl⟩ : ∃ g, f = g + 1 := ⟨f - 1, by have := HF.out; omega⟩
                  have xa : x.toList.isEmpty = false := by rw [ByteArray.toList_eq]; simpa using hx
                  have xb : (!x.toList.isEmpty) = true := by rw [xa]; rfl
                  have xc : ¬ x.toList = [] := by rw [ByteArray.toList_eq]; exact hx
                  have ya : y.toList.isEmpty = false := by rw [ByteArray.toList_eq]; simpa using hy
                  have yb : (!y.toList.isEmpty) = true := by rw [ya]; rfl
                  have yc : ¬ y.toList = [] := by rw [ByteArray.toList_eq]; exact hy
                  have HX := Lib.hid hx
                  have HY := Lib.hid hy
                  have HX0 := Lib.hid hx0
                  have HY0 := Lib.hid hy0
                  clear hx hy hx0 hy0
                  go_wp2_with (fail)
                  refine (split x _ hxs).mono ?_
                  rintro e w1 ⟨⟨h1, t1, rfl, eh1, et1⟩, hb1⟩
                  have HB1 := Lib.hid (HB.out.trans (hb1.mono HB.out.size))
                  have HE1 := Lib.hid (HE.out.below hb1)
                  have EH1 := Lib.hid eh1
                  have ET1 := Lib.hid et1
                  clear eh1 et1 hb1 HB HE
                  go_wp2_with (fail)
                  refine (split y _ hys).mono ?_
                  rintro e w2 ⟨⟨h2, t2, rfl, eh2, et2⟩, hb2⟩
                  have HB2 := Lib.hid (HB1.out.trans (hb2.mono HB1.out.size))
                  have HE2 := Lib.hid (HE1.out.below hb2)
                  have EH2 := Lib.hid eh2
                  have ET2 := Lib.hid et2
                  clear eh2 et2 hb2 HB1 HE1
                  have hs1 : h1.size ≤ 2147483647 := by rw [size_list, EH1.out]; exact Nat.le_trans (head_le _) (by rw [← size_list]; exact hxs)
                  have hs2 : h2.size ≤ 2147483647 := by rw [size_list, EH2.out]; exact Nat.le_trans (head_le _) (by rw [← size_list]; exact hys)
                  have hs1i : (h1.size : Int) ≤ 2147483647 := by omega
                  have hs2i : (h2.size : Int) ≤ 2147483647 := by omega
                  by_cases hh : headOf x.data.toList = headOf y.data.toList
                  · have heq : (h1.toList == h2.toList) = true := by rw [ByteArray.toList_eq, ByteArray.toList_eq, EH1.out, EH2.out, hh]; simp
                    have l1 : t1.size < x.size := by rw [size_list, ET1.out, size_list]; exact tail_lt _ HX.out
                    have l2 : t2.size < y.size := by rw [size_list, ET2.out, size_list]; exact tail_lt _ HY.out
                    have HT2 := Lib.hid (tail_same (f := f) HX.out HY.out hh)
                    clear hh
                    go_wp2_with (fail)
                    go_roundw
                    case rel => exact ⟨t1, t2, f, rfl, rfl, by omega, by omega, Lib.hid (by have := HF.out; omega), Lib.hid (by rw [ET1.out, ET2.out, ← HT2.out]; exact HT.out), HB2, HE2⟩
                    case measure =>
                      show t1.size + t2.size < x.size + y.size
                      omega
                  · have hne : (h1.toList == h2.toList) = false := by rw [ByteArray.toList_eq, ByteArray.toList_eq, EH1.out, EH2.out]; simpa using hh
                    have HT2 := Lib.hid (tail_head (f := f) HX.out HY.out hh)
                    clear hh
                    go_wp2_with (fail)
                    refine (number h1 _ hs1 HE2.out).mono ?_
                    rintro e w3 ⟨⟨v1, b1, rfl, hn1⟩, hb3⟩
                    have HB3 := Lib.hid (HB2.out.trans (hb3.mono HB2.out.size))
                    have HE3 := Lib.hid (HE2.out.below hb3)
                    have HN1 := Lib.hid hn1
                    clear hn1 hb3 HB2 HE2
                    go_wp2_with (fail)
                    refine (number h2 _ hs2 HE3.out).mono ?_
                    rintro e w4 ⟨⟨v2, b2, rfl, hn2⟩, hb4⟩
                    have HB4 := Lib.hid (HB3.out.trans (hb4.mono HB3.out.size))
                    have HN2 := Lib.hid hn2
                    have HR : Hid (T = cmpHead h1.data.toList h2.data.toList) := Lib.hid (by rw [← HT.out, HT2.out, EH1.out, EH2.out])
                    clear hn2 hb4 HB3 HE3
                    cases b1
                    · have N1 := Lib.hid (HN1.out.2 rfl)
                      cases b2
                      · have N2 := Lib.hid (HN2.out.2 rfl)
                        have HC := Lib.hid (head_text N1.out N2.out)
                        cases hl : Go.Op.bytesLess h1.toList h2.toList
                        · go_wp2_with (fail)
                          go_ret
                          exact ⟨ret_int (by rw [HR.out, HC.out, ← ByteArray.toList_eq, ← ByteArray.toList_eq, hl]; rfl), HB4.out⟩
                        · go_wp2_with (fail)
                          go_ret
                          exact ⟨ret_int (by rw [HR.out, HC.out, ← ByteArray.toList_eq, ← ByteArray.toList_eq, hl]; rfl), HB4.out⟩
                      · have HC := Lib.hid (head_right N1.out (HN2.out.1 rfl))
                        go_wp2_with (fail)
                        go_ret
                        exact ⟨ret_int (by rw [HR.out, HC.out]), HB4.out⟩
                    · have N1 := Lib.hid (HN1.out.1 rfl)
                      cases b2
                      · have HC := Lib.hid (head_left N1.out (HN2.out.2 rfl))
                        go_wp2_with (fail)
                        go_ret
                        exact ⟨ret_int (by rw [HR.out, HC.out]), HB4.out⟩
                      · have N2 := Lib.hid (HN2.out.1 rfl)
                        obtain ⟨v1a, v1b⟩ := num_range N1.out
                        obtain ⟨v2a, v2b⟩ := num_range N2.out
                        by_cases hv : v1 = v2
                        · subst hv
                          have HC := Lib.hid (head_len N1.out N2.out)
                          go_wp2_with (fail)
                          go_ret
                          exact ⟨ret_int (by rw [HR.out, HC.out, ← size_list, ← size_list]), HB4.out⟩
                        · have HC := Lib.hid (head_num N1.out N2.out hv)
                          have hv2 : (v1 == v2) = false := by simpa using hv
                          have r1 : v1 - v2 ≤ 9223372036854775807 := by omega
                          have r2 : -9223372036854775808 ≤ v1 - v2 := by omega
                          go_wp2_with (fail)
                          go_ret
                          exact ⟨ret_int (by rw [HR.out, HC.out]), HB4.out⟩
end Go.Proofs.YteokaphenmnckaaDoor.fnSemverTurns
