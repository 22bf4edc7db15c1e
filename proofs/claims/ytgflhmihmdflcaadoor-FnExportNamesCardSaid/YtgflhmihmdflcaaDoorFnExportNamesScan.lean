/-
  FnExportNames: a scanner in memory, and the walks of its small methods.
  Conditions: texts of at most 2^12 bytes.
-/
import Derived.Test.YtgflhmihmdflcaaDoorFnExportNamesParts
import Derived.Test.YtgflhmihmdflcaaDoorPFnExportNamesx11
import Derived.WalkKit
import Derived.WalkSmall
import Derived.BigQuiet
import Derived.IntWalk
import Derived.Lib.Hide
import Derived.Lib.OthersKept
namespace Go.Proofs.YtgflhmihmdflcaaDoor.fnExportNames
open Go.RowKit Go.Proofs.YtgflhmihmdflcaaDoorW.PrintWords Go.Proofs.YtgflhmihmdflcaaDoorW.PrintLast Go.Proofs.YtgflhmihmdflcaaDoorW.PrintMore Go.Proofs.YtgflhmihmdflcaaDoor.PFnExportNames
set_option linter.unusedVariables false
set_option linter.unusedSimpArgs false

/-- byte i -/
def nb (s : ByteArray) (i : Nat) : Nat := (s.get! i).toNat
theorem nb_lt (s : ByteArray) (i : Nat) : nb s i < 256 := (s.get! i).toNat_lt
theorem bt_nb (s : ByteArray) (i : Nat) (h : i < s.size) : bt s (i : Int) = (nb s i : Int) := by
  have e : s.get! i = s[i] := by
    simp [ByteArray.get!, getElem!_pos, h]
    rfl
  simp [bt, nb, h, e]
theorem w64_nb (s : ByteArray) (i : Nat) : wrap64 (nb s i : Int) = (nb s i : Int) := by
  have := nb_lt s i
  unfold wrap64; omega
theorem nb_out (s : ByteArray) (i : Nat) (h : ¬ i < s.size) : nb s i = 0 := by
  unfold nb
  have e : s.get! i = default := by
    simp only [ByteArray.get!]
    exact getElem!_neg s.data i (by simpa using h)
  rw [e]
  rfl
theorem nb_in (s : ByteArray) (i : Nat) (h : i < s.size) : nb s i = (s[i]).toNat := by
  have e : s.get! i = s[i] := by
    simp [ByteArray.get!, getElem!_pos, h]
    rfl
  unfold nb
  rw [e]
def Sc (w0 W W' : World) (g : Nat) (s : ByteArray) (a : Nat) (b2 b3 : Bool) (b4 : Int) : Prop := IsS54 w0 W' g s a b2 b3 b4 ∧ Below w0.heap.size w0 W' ∧ KeepBut W W' g none
theorem Sc.drew {w0 W W' : World} {g : Nat} {s : ByteArray} {a : Nat} {b2 b3 : Bool} {b4 : Int} (h : Sc w0 W W' g s a b2 b3 b4) (n : Nat) : Sc w0 W (W'.drewN n) g s a b2 b3 b4 := ⟨h.1.drewN n, pw_below_drewN h.2.1 n, keep_drewN h.2.2 n⟩
theorem Sc.alloc {w0 W W' : World} {g : Nat} {s : ByteArray} {a : Nat} {b2 b3 : Bool} {b4 : Int} (h : Sc w0 W W' g s a b2 b3 b4) (o : Obj) : Sc w0 W (W'.alloc o) g s a b2 b3 b4 := ⟨h.1.alloc o, below_alloc h.2.1 o, keep_alloc h.2.2 o⟩
theorem Sc.set1 {w0 W W' : World} {g : Nat} {s : ByteArray} {a : Nat} {b2 b3 : Bool} {b4 : Int} (h : Sc w0 W W' g s a b2 b3 b4) (a' : Nat) : Sc w0 W (W'.setCell ⟨g, 1, none⟩ (.int .i64 a')) g s a' b2 b3 b4 := ⟨h.1.set_1 a', below_set h.2.1 h.1.ge, h.2.2.set_ _ _⟩
theorem Sc.below {w0 W W' W2 : World} {g : Nat} {s : ByteArray} {a : Nat} {b2 b3 : Bool} {b4 : Int} (h : Sc w0 W W' g s a b2 b3 b4) (hb : Below W'.heap.size W' W2) : Sc w0 W W2 g s a b2 b3 b4 := ⟨h.1.below hb, h.2.1.trans (hb.mono h.2.1.size), h.2.2.trans (KeepBut.of_below hb g none) (.inl rfl)⟩
theorem Sc.trans {w0 W W' W2 : World} {g : Nat} {s : ByteArray} {a a' : Nat} {b2 b3 c2 c3 : Bool} {b4 c4 : Int} (h : Sc w0 W W' g s a b2 b3 b4) (k : Sc w0 W' W2 g s a' c2 c3 c4) : Sc w0 W W2 g s a' c2 c3 c4 := ⟨k.1, k.2.1, h.2.2.trans k.2.2 (.inl rfl)⟩
theorem Sc.start {w0 W : World} {g : Nat} {s : ByteArray} {a : Nat} {b2 b3 : Bool} {b4 : Int} (h : IsS54 w0 W g s a b2 b3 b4) (hb : Below w0.heap.size w0 W) : Sc w0 W W g s a b2 b3 b4 := ⟨h, hb, KeepBut.refl _ _ _⟩
theorem Sc.again {w0 W W' : World} {g : Nat} {s : ByteArray} {a : Nat} {b2 b3 : Bool} {b4 : Int} (h : Sc w0 W W' g s a b2 b3 b4) : Sc w0 W' W' g s a b2 b3 b4 := ⟨h.1, h.2.1, KeepBut.refl _ _ _⟩
theorem Sc.c0 {w0 W W' : World} {g : Nat} {s : ByteArray} {a : Nat} {b2 b3 : Bool} {b4 : Int} (h : Sc w0 W W' g s a b2 b3 b4) : W'.cell? ⟨g, 0, none⟩ = some (.string s) := by rw [blk_cell h.1.1 0]; rfl
theorem Sc.c1 {w0 W W' : World} {g : Nat} {s : ByteArray} {a : Nat} {b2 b3 : Bool} {b4 : Int} (h : Sc w0 W W' g s a b2 b3 b4) : W'.cell? ⟨g, 1, none⟩ = some (.int .i64 a) := by rw [blk_cell h.1.1 1]; rfl
theorem Sc.c2 {w0 W W' : World} {g : Nat} {s : ByteArray} {a : Nat} {b2 b3 : Bool} {b4 : Int} (h : Sc w0 W W' g s a b2 b3 b4) : W'.cell? ⟨g, 2, none⟩ = some (.bool b2) := by rw [blk_cell h.1.1 2]; rfl
theorem Sc.c3 {w0 W W' : World} {g : Nat} {s : ByteArray} {a : Nat} {b2 b3 : Bool} {b4 : Int} (h : Sc w0 W W' g s a b2 b3 b4) : W'.cell? ⟨g, 3, none⟩ = some (.bool b3) := by rw [blk_cell h.1.1 3]; rfl
theorem Sc.c4 {w0 W W' : World} {g : Nat} {s : ByteArray} {a : Nat} {b2 b3 : Bool} {b4 : Int} (h : Sc w0 W W' g s a b2 b3 b4) : W'.cell? ⟨g, 4, none⟩ = some (.int .i64 b4) := by rw [blk_cell h.1.1 4]; rfl
theorem Sc.fz {w0 W W' : World} {g : Nat} {s : ByteArray} {a : Nat} {b2 b3 : Bool} {b4 : Int} (h : Sc w0 W W' g s a b2 b3 b4) (i : Nat) : W'.frozen? ⟨g, i, none⟩ = false := Lib.frozen_of_heap h.1.1 i
/-- the text goes on with t -/
def isb (s : ByteArray) (a : Nat) (t : ByteArray) : Bool := decide (a + t.size ≤ s.size) && ((s.extract a (a + t.size)).toList == t.toList)
set_option maxHeartbeats 8000000 in
set_option maxRecDepth 100000 in
theorem isC (g : Nat) (s t : ByteArray) (a : Nat) (w : World) (hs : s.size ≤ 4096) (ha : a ≤ s.size) (ht : t.size ≤ 10) (c0 : w.cell? ⟨g, 0, none⟩ = some (.string s)) (c1 : w.cell? ⟨g, 1, none⟩ = some (.int .i64 a)) :
    Calls Tryd.prog 24 #[.pointer (some ⟨g, 0, none⟩), .string t] w fun e w' => e = .returned (.bool (isb s a t)) ∧ ∃ n, w' = w.drewN n := by
  have s1 : (s.size : Int) ≤ 4096 := by omega
  have a1 : (a : Int) ≤ s.size := by omega
  have a2 : (0 : Int) ≤ a := by omega
  have t1 : (t.size : Int) ≤ 10 := by omega
  have e1 : IntKind.i64.wrap ((s.size : Int) - a) = (s.size : Int) - a := IntWalk.i64_in _ (by omega)
  by_cases h : a + t.size ≤ s.size
  · have h1 : (t.size : Int) ≤ (s.size : Int) - a := by omega
    have h2 : (a : Int) + t.size ≤ s.size := by omega
    have h3 : (a : Int) ≤ (a : Int) + t.size := by omega
    have e2 : IntKind.i64.wrap ((a : Int) + t.size) = (a : Int) + t.size := IntWalk.i64_in _ (by omega)
    have e3 : ((a : Int) + (t.size : Int)).toNat = a + t.size := by omega
    cases hq : ((s.extract a (a + t.size)).toList == t.toList)
    · have HR := Lib.hid (show isb s a t = false by unfold isb; rw [hq]; simp)
      go_enter Tryd.func24, Tryd.ntmps24
      go_wp2_with (fail)
      go_quiet (fail)
      go_wp2_with (fail)
      go_ret
      exact ⟨by rw [HR.out]; rfl, _, rfl⟩
    · have HR := Lib.hid (show isb s a t = true by unfold isb; rw [hq]; simp; omega)
      go_enter Tryd.func24, Tryd.ntmps24
      go_wp2_with (fail)
      go_quiet (fail)
      go_wp2_with (fail)
      go_ret
      exact ⟨by rw [HR.out]; rfl, _, rfl⟩
  · have h1 : (s.size : Int) - a < (t.size : Int) := by omega
    have h4 : decide ((t.size : Int) ≤ (s.size : Int) - a) = false := decide_eq_false (by omega)
    have HR := Lib.hid (show isb s a t = false by unfold isb; rw [decide_eq_false h]; rfl)
    go_enter Tryd.func24, Tryd.ntmps24
    go_wp2_with (fail)
    go_quiet (fail)
    go_wp2_with (fail)
    go_ret
    exact ⟨by rw [HR.out]; rfl, _, rfl⟩
/-- a first byte that is another one -/
theorem isb_other (s t : ByteArray) (a : Nat) (h0 : 0 < t.size) (h : nb s a ≠ nb t 0) (ha : a < s.size) : isb s a t = false := by
  unfold isb
  by_cases h1 : a + t.size ≤ s.size
  · rw [Bool.and_eq_false_iff]
    refine .inr ?_
    rw [beq_eq_false_iff_ne]
    intro e
    apply h
    have hl : a < s.data.toList.length := by simpa using ha
    have ht : 0 < t.data.toList.length := by simpa using h0
    have e2 : (s.extract a (a + t.size)).toList = s.data.toList[a] :: (s.data.toList.drop (a + 1)).take (t.size - 1) := by
      rw [ByteArray.toList_eq, ByteArray.data_extract, Array.toList_extract]
      show ((s.data.toList.drop a).take (a + t.size - a)) = _
      rw [Nat.add_sub_cancel_left, List.drop_eq_getElem_cons hl]
      obtain ⟨k, hk⟩ : ∃ k, t.size = k + 1 := ⟨t.size - 1, by omega⟩
      rw [hk, List.take_succ_cons, Nat.add_sub_cancel]
    have e3 : t.toList = t.data.toList[0] :: t.data.toList.drop 1 := by
      rw [ByteArray.toList_eq]
      have := List.drop_eq_getElem_cons ht
      rwa [List.drop_zero] at this
    rw [e2, e3] at e
    injection e with e4 _
    rw [nb_in s a ha, nb_in t 0 h0]
    show (s.data.toList[a]).toNat = (t.data.toList[0]).toNat
    rw [e4]
  · rw [decide_eq_false h1]; rfl

set_option maxHeartbeats 8000000 in
set_option maxRecDepth 100000 in
theorem runeC (g : Nat) (s : ByteArray) (a : Nat) (r n : Int) (w : World) (k : Nat) (h : spec_Rune.f k s a = some (r, n)) (c0 : w.cell? ⟨g, 0, none⟩ = some (.string s)) (c1 : w.cell? ⟨g, 1, none⟩ = some (.int .i64 a)) :
    Calls Tryd.prog 26 #[.pointer (some ⟨g, 0, none⟩)] w fun e w' => e = .returned (.tuple #[.int .i64 r, .int .i64 n]) ∧ ∃ n, w' = w.drewN n := by
  have hR : ∀ w, Calls Tryd.prog 44 #[.string s, .int .i64 a] w fun e w' => e = .returned (.tuple #[.int .i64 r, .int .i64 n]) ∧ ∃ n, w' = w.drewN n := fun w => (spec_Rune.calls k s a r n w h).mono fun e w' ⟨he, m, hm⟩ => ⟨he, m, hm⟩
  have HR := Lib.hid hR
  clear hR h
  go_enter Tryd.func26, Tryd.ntmps26
  go_wp2_with (fail)
  go_quiet (first | (go_at_call 44; refine Calls.quiet_of (HR.out _)))
  go_wp2_with (fail)
  go_ret2
  exact ⟨rfl, _, rfl⟩
end Go.Proofs.YtgflhmihmdflcaaDoor.fnExportNames
