/-
  FnSemverTurns: the walk of preReleasePartToNumber: it tells the number of a part that is one.
  Conditions: texts of at most 2^31 - 1 bytes; the two errors of strconv as the program lays them.
-/
import Derived.Test.YteokaphenmnckaaDoorFnSemverTurnsPure
import Derived.Test.YteokaphenmnckaaDoorShelf
import Derived.Test.YteokaphenmnckaaDoorRows
import Derived.Test.YteokaphenmnckaaDoorWWords
import Derived.WalkKit
import Derived.WalkSmall
import Derived.BigQuiet
import Derived.Lib.Hide
import Derived.Lib.OthersKept
import Derived.Lib.RuneCount
import Derived.Lib.ConvBytes
namespace Go.Proofs.YteokaphenmnckaaDoor.fnSemverTurns
open Go.RowKit Go.Proofs.YteokaphenmnckaaDoorW.PrintWords
set_option linter.unusedVariables false
set_option linter.unusedSimpArgs false

/-- byte i -/
def nb (s : ByteArray) (i : Nat) : Nat := (s.get! i).toNat
theorem dec_low (s : ByteArray) (i : Nat) (h : nb s i < 128) : Utf8.decode s i = (nb s i, 1) := by
  unfold nb at h ⊢
  simp only [Utf8.decode, Nat.add_zero, h, if_true]
theorem dec_high (s : ByteArray) (i : Nat) (h : 128 ≤ nb s i) : 128 ≤ (Utf8.decode s i).1 := by
  unfold nb at h
  simp only [Utf8.decode, Nat.add_zero, Utf8.runeError]
  rw [if_neg (by omega)]
  split
  · split <;> simp_all
  · split
    · split
      · rename_i h5; simp only [Bool.and_eq_true, decide_eq_true_eq] at h5; simp only; omega
      · simp
    · split
      · split
        · rename_i h5; simp only [Bool.and_eq_true, decide_eq_true_eq] at h5; simp only; omega
        · simp
      · simp
/-- what a text tells as a number -/
def Num (l : List UInt8) (v : Int) (b : Bool) : Prop := (b = true → num l = some v) ∧ (b = false → num l = none)
/-- the errors of strconv as the program lays them: each a value behind an interface -/
def Errs (w : World) : Prop := (∃ ev, w.cell? ⟨2, 0, none⟩ = some ev ∧ (ev = .nilIface ∨ ∃ te pe, ev = .iface te pe)) ∧ (∃ ev, w.cell? ⟨1, 0, none⟩ = some ev ∧ (ev = .nilIface ∨ ∃ te pe, ev = .iface te pe))

theorem bytes_below (W : World) (s : ByteArray) : Below W.heap.size W (Lib.bytesWorld W 5 s) := by
  refine ⟨?_, ?_, ?_, by rw [Lib.bytesWorld_size]; omega, fun k hk => Lib.bytesWorld_at_old W 5 s k hk⟩ <;> simp [Lib.bytesWorld, World.freeze, World.alloc, World.drew, -World.alloc_eq, -World.drew_eq]
theorem Errs.below {w w1 : World} (h : Errs w) (hb : Below w.heap.size w w1) : Errs w1 := by
  obtain ⟨⟨e1, a1, b1⟩, ⟨e2, a2, b2⟩⟩ := h
  exact ⟨⟨e1, (hb.cell (p := ⟨2, 0, none⟩) (Lib.lt_of_cell a1)).trans a1, b1⟩, ⟨e2, (hb.cell (p := ⟨1, 0, none⟩) (Lib.lt_of_cell a2)).trans a2, b2⟩⟩
theorem nb_in (s : ByteArray) (i : Nat) (h : i < s.size) : nb s i = (s.data.toList[i]'(by simpa using h)).toNat := by
  have e : s.get! i = s[i] := by
    simp [ByteArray.get!, getElem!_pos, h]
    rfl
  unfold nb
  rw [e]
  rfl
/-- digits up to a place -/
def upto (s : ByteArray) (k : Nat) : Prop := ∀ j, j < k → 48 ≤ nb s j ∧ nb s j ≤ 57
theorem digits_of (s : ByteArray) (h : upto s s.size) : digits s.data.toList = true := by
  unfold digits
  rw [List.all_eq_true]
  intro b hb
  obtain ⟨i, hi, rfl⟩ := List.getElem_of_mem hb
  have hi' : i < s.size := by simpa using hi
  have := h i hi'
  rw [nb_in s i hi'] at this
  simpa using this
theorem digits_not (s : ByteArray) (i : Nat) (hi : i < s.size) (h : ¬ (48 ≤ nb s i ∧ nb s i ≤ 57)) : digits s.data.toList = false := by
  unfold digits
  rw [List.all_eq_false]
  rw [nb_in s i hi] at h
  exact ⟨_, List.getElem_mem (by simpa using hi), by simpa using h⟩
theorem num_ok {l : List UInt8} {v : Int} (hd : digits l = true) (h : Lib.atoiAll l = .ok v) : num l = some v := by
  unfold num
  rw [if_pos hd, h]
theorem num_bad {l : List UInt8} (hd : digits l = true) (h : Lib.atoiAll l = Lib.atoiAll []) : num l = none := by
  unfold num
  rw [if_pos hd, h]
  rfl
theorem num_range' {l : List UInt8} (hd : digits l = true) (h : Lib.atoiAll l = .range) : num l = none := by
  unfold num
  rw [if_pos hd, h]
theorem num_not {l : List UInt8} (hd : digits l = false) : num l = none := by
  unfold num
  rw [if_neg (by rw [hd]; simp)]
/-- what the call tells -/
def Told (l : List UInt8) (e : Ending) : Prop := ∃ v b, e = .returned (.tuple #[.int .i64 v, .bool b]) ∧ Num l v b
theorem told_ok {l : List UInt8} {v : Int} (h : num l = some v) : Told l (.returned (.tuple #[.int .i64 v, .bool true])) := ⟨v, true, rfl, fun _ => h, fun h => by cases h⟩
theorem told_none {l : List UInt8} {v : Int} (h : num l = none) : Told l (.returned (.tuple #[.int .i64 v, .bool false])) := ⟨v, false, rfl, (fun h => by cases h), fun _ => h⟩

set_option maxHeartbeats 4000000 in
set_option maxRecDepth 100000 in
theorem number (s : ByteArray) (w : World) (hs : s.size ≤ 2147483647) (he : Errs w) :
    Calls Tryd.prog 10 #[.string s] w fun e w' => Told s.data.toList e ∧ Below w.heap.size w w' := by
  have s1 : (s.size : Int) ≤ 2147483647 := by omega
  have HE := Lib.hid he
  clear he
  have HI0 := Lib.hid (show (w.alloc (.stringIter s 0)).heap[w.heap.size]? = some (.stringIter s 0) from heap_alloc_new w _)
  have HB0 := Lib.hid (show Below w.heap.size w (w.alloc (.stringIter s 0)) from (Below.refl _ _).alloc (Nat.le_refl _) _)
  go_enter Tryd.func10, Tryd.ntmps10
  go_wp2_with (fail)
  go_loopw [5] (fun v5 wr => ∃ pos : Nat, pos ≤ s.size ∧ Hid (upto s pos) ∧ Hid (wr.heap[w.heap.size]? = some (.stringIter s pos)) ∧ Hid (Below w.heap.size w wr)) (fun _ wr => s.size - wr.iterPos w.heap.size)
  case atStart => exact ⟨0, by omega, Lib.hid (fun j hj => by omega), HI0, HB0⟩
  case round =>
    clear HI0 HB0
    obtain ⟨pos, hps, HU, HI, HB⟩ := hrel
    by_cases hp : pos < s.size
    · have hnx : ∀ ty, (Instr.next (.pointer (some ⟨w.heap.size, 0, none⟩)) true ty).run Tryd.prog wr = _ := fun ty => Lib.run_next_any_at wr w.heap.size s pos ty HI.out hp
      by_cases hdig : 48 ≤ nb s pos ∧ nb s pos ≤ 57
      · obtain ⟨d0, d1⟩ := hdig
        rw [dec_low s pos (by omega)] at hnx
        simp only at hnx
        have hI := Lib.iterAt_heap wr w.heap.size s pos (pos + 1) HI.out
        have HB1 := Lib.hid (Lib.below_iterAt HB.out (k := w.heap.size) (Nat.le_refl _) s (pos + 1))
        have HI1 := Lib.hid hI
        have HM := Lib.hid (iterPos_of hI)
        have HM0 := Lib.hid (iterPos_of HI.out)
        have HU1 : Hid (upto s (pos + 1)) := Lib.hid (fun j hj => by
          by_cases e : j = pos
          · subst e; exact ⟨d0, d1⟩
          · exact HU.out j (by omega))
        clear hI HI HB HU
        generalize nb s pos = c at d0 d1 hnx
        have t0 : (48:Int) ≤ c := by omega
        have t1 : (c:Int) ≤ 57 := by omega
        go_wp2_with (fail)
        go_roundw
        case rel => exact ⟨pos + 1, by omega, HU1, Lib.hid HI1.out, Lib.hid HB1.out⟩
        case measure =>
          rw [HM.out, HM0.out]
          omega
      · have hn := num_not (digits_not s pos hp hdig)
        have hc : ∃ c : Nat, (Utf8.decode s pos).1 = c ∧ (c < 48 ∨ 57 < c) := by
          by_cases h : nb s pos < 128
          · rw [dec_low s pos h]; exact ⟨_, rfl, by omega⟩
          · exact ⟨_, rfl, by have := dec_high s pos (by omega); omega⟩
        obtain ⟨c, hc1, hc2⟩ := hc
        rw [hc1] at hnx
        have HB1 := Lib.hid (Lib.below_iterAt HB.out (k := w.heap.size) (Nat.le_refl _) s (pos + (Utf8.decode s pos).2))
        have HN := Lib.hid hn
        clear hn hc1 HB HI HU hdig
        generalize (Utf8.decode s pos).2 = d at hnx HB1
        rcases hc2 with h | h
        · have t0 : (c:Int) < 48 := by omega
          go_wp2_with (fail)
          go_ret2
          exact ⟨told_none HN.out, HB1.out⟩
        · have t0 : (57:Int) < c := by omega
          have t1 : ¬ (c:Int) < 48 := by omega
          go_wp2_with (fail)
          go_ret2
          exact ⟨told_none HN.out, HB1.out⟩
    · have hnx : ∀ ty, (Instr.next (.pointer (some ⟨w.heap.size, 0, none⟩)) true ty).run Tryd.prog wr = _ := fun ty => Lib.run_next_end_at wr w.heap.size s pos ty HI.out hp
      obtain rfl : pos = s.size := by omega
      have hd := digits_of s HU.out
      have HEE := Lib.hid (HE.out.below HB.out)
      clear HU HI hp
      rcases ha : Lib.atoiAll s.data.toList with v | _ | _
      · skip
        have HN := Lib.hid (num_ok hd ha)
        have HA := Lib.hid ha
        clear ha hd
        go_wp2_with (fail)
        refine (Tryd.strconv_Atoi_ok s (by omega) v HA.out _).mono ?_
        rintro e w1 ⟨rfl, hw1⟩
        have HB1 := Lib.hid (show Below w.heap.size w w1 by
          rcases hw1 with rfl | ⟨t, rfl⟩
          · exact HB.out
          · exact HB.out.trans ((bytes_below _ t).mono HB.out.size))
        clear hw1
        go_wp2_with (fail)
        go_quiet (fail)
        go_wp2_with (fail)
        go_ret2
        exact ⟨told_ok HN.out, below_drewN HB1.out _⟩
      · replace ha : Lib.atoiAll s.data.toList = Lib.atoiAll [] := ha
        have HN := Lib.hid (num_bad hd ha)
        have HA := Lib.hid ha
        clear ha hd
        obtain ⟨ev, hv, hev⟩ := HEE.out.2
        have HV := Lib.hid hv
        have HEV := Lib.hid hev
        clear hv hev
        go_wp2_with (fail)
        refine (Tryd.strconv_Atoi_bad s (by omega) HA.out ev _ HV.out HEV.out).mono ?_
        rintro e w1 ⟨N, rfl, hw1, hw2, hw3⟩
        have HB1 := Lib.hid (show Below w.heap.size w w1 from HB.out.trans (hw3.mono HB.out.size))
        clear hw1 hw2 hw3
        go_wp2_with (fail)
        go_quiet (fail)
        go_wp2_with (fail)
        go_ret2
        exact ⟨told_none HN.out, below_drewN HB1.out _⟩
      · skip
        have HN := Lib.hid (num_range' hd ha)
        have HA := Lib.hid ha
        clear ha hd
        obtain ⟨ev, hv, hev⟩ := HEE.out.1
        have HV := Lib.hid hv
        have HEV := Lib.hid hev
        clear hv hev
        go_wp2_with (fail)
        refine (Tryd.strconv_Atoi_range s (by omega) HA.out ev _ HV.out HEV.out).mono ?_
        rintro e w1 ⟨N, rfl, hw1, hw2, hw3⟩
        have HB1 := Lib.hid (show Below w.heap.size w w1 from HB.out.trans (hw3.mono HB.out.size))
        clear hw1 hw2 hw3
        go_wp2_with (fail)
        go_quiet (fail)
        go_wp2_with (fail)
        go_ret2
        exact ⟨told_none HN.out, below_drewN HB1.out _⟩
end Go.Proofs.YteokaphenmnckaaDoor.fnSemverTurns
