/-
  The walk of NameMinifier.NumberToMinifiedName of the default minifier: it hands back the short name that the plain function `mini` gives.
  Conditions: numbers from 0 to 2^30.
-/
import Derived.Test.YtgflhmihmdflcaaDoorBuilder
import Derived.Test.YtgflhmihmdflcaaDoorShelf
import Derived.WalkKit
import Derived.Test.YtgflhmihmdflcaaDoorWWords
import Derived.WalkSmall
import Derived.Lib.Hide
import Derived.Lib.Builder
import Derived.Lib.AppendIntMem
namespace Go.Proofs.YtgflhmihmdflcaaDoor.fnExportNames
open Go.RowKit Go.Proofs.YtgflhmihmdflcaaDoorW.PrintWords
set_option linter.unusedVariables false

def hb : List UInt8 := [97, 98, 99, 100, 101, 102, 103, 104, 105, 106, 107, 108, 109, 110, 111, 112, 113, 114, 115, 116, 117, 118, 119, 120, 121, 122, 65, 66, 67, 68, 69, 70, 71, 72, 73, 74, 75, 76, 77, 78, 79, 80, 81, 82, 83, 84, 85, 86, 87, 88, 89, 90, 95, 36]
def tb : List UInt8 := [97, 98, 99, 100, 101, 102, 103, 104, 105, 106, 107, 108, 109, 110, 111, 112, 113, 114, 115, 116, 117, 118, 119, 120, 121, 122, 65, 66, 67, 68, 69, 70, 71, 72, 73, 74, 75, 76, 77, 78, 79, 80, 81, 82, 83, 84, 85, 86, 87, 88, 89, 90, 48, 49, 50, 51, 52, 53, 54, 55, 56, 57, 95, 36]
def H : ByteArray := ⟨hb.toArray⟩
def T : ByteArray := ⟨tb.toArray⟩
theorem H_size : H.size = 54 := rfl
theorem T_size : T.size = 64 := rfl

/-- the letters behind the first -/
def more : Nat → Nat → List UInt8
  | 0, _ => []
  | f + 1, n => if n = 0 then [] else tb.getD ((n - 1) % 64) 0 :: more f ((n - 1) / 64)
/-- the short name of a number -/
def mini (i : Nat) : List UInt8 := hb.getD (i % 54) 0 :: more i (i / 54)

theorem more_fuel : ∀ (f g n : Nat), n ≤ f → n ≤ g → more f n = more g n := by
  intro f
  induction f with
  | zero =>
    intro g n h1 h2
    cases g with
    | zero => rfl
    | succ g => simp [more, show n = 0 by omega]
  | succ f ih =>
    intro g n h1 h2
    cases g with
    | zero => simp [more, show n = 0 by omega]
    | succ g =>
      unfold more
      split
      · rfl
      · rw [ih g ((n - 1) / 64) (by omega) (by omega)]


theorem H_at : ∀ k, k < 54 → (H.extract k (k + 1)).data.toList = [hb.getD k 0] := by decide
theorem T_at : ∀ k, k < 64 → (T.extract k (k + 1)).data.toList = [tb.getD k 0] := by decide
theorem H_cells (k : Nat) (h : k < 54) : Lib.strCells (H.extract k (k + 1)) = Lib.byteCells [hb.getD k 0] := by
  rw [Lib.strCells_eq, H_at k h]
theorem T_cells (k : Nat) (h : k < 64) : Lib.strCells (T.extract k (k + 1)) = Lib.byteCells [tb.getD k 0] := by
  rw [Lib.strCells_eq, T_at k h]
theorem H_one (k : Nat) (h : k < 54) : (H.extract k (k + 1)).size = 1 := by
  have := congrArg List.length (H_at k h)
  simp only [Array.length_toList, List.length_singleton] at this
  exact this
theorem T_one (k : Nat) (h : k < 64) : (T.extract k (k + 1)).size = 1 := by
  have := congrArg List.length (T_at k h)
  simp only [Array.length_toList, List.length_singleton] at this
  exact this
theorem byteCells_app (a b : List UInt8) : Lib.byteCells a ++ Lib.byteCells b = Lib.byteCells (a ++ b) := by
  simp [Lib.byteCells]

set_option maxHeartbeats 4000000 in
set_option maxRecDepth 100000 in
/-- function 12, NameMinifier.NumberToMinifiedName of the default minifier -/
theorem number (i : Nat) (hi : i ≤ 1073741824) (w : World) :
    Calls Tryd.prog 12 #[.agg #[.string H, .string T], .int .i64 i] w fun e w' => e = .returned (.string ⟨(mini i).toArray⟩) ∧ Below w.heap.size w w' := by
  have hH := H_size
  have hT := T_size
  have m0 : (0:Int) ≤ (i:Int) % 54 := by omega
  have m1 : (i:Int) % 54 < 54 := by omega
  have m2 : (i:Int) % 54 + 1 ≤ 54 := by omega
  have m3 : (i:Int) % 54 ≤ (i:Int) % 54 + 1 := by omega
  have hk : i % 54 < 54 := by omega
  have hb0 : Below w.heap.size w (w.alloc (.cells #[.string H, .string T] 39)) := (Below.refl _ _).alloc (Nat.le_refl _) _
  have hfr := Lib.fresh_isBuilder 47 5 (w.alloc (.cells #[.string H, .string T] 39))
  have hsz1 : (w.alloc (.cells #[.string H, .string T] 39)).heap.size = w.heap.size + 1 := by simp
  have hc0 : (w.alloc (.cells #[.string H, .string T] 39)).cell? ⟨w.heap.size, 0, none⟩ = some (.string H) := by rw [blk_cell (heap_alloc_new w _) 0]; rfl
  have hc1 : (w.alloc (.cells #[.string H, .string T] 39)).cell? ⟨w.heap.size, 1, none⟩ = some (.string T) := by rw [blk_cell (heap_alloc_new w _) 1]; rfl
  have hb00 : Below (w.heap.size + 1) (w.alloc (.cells #[.string H, .string T] 39)) ((w.alloc (.cells #[.string H, .string T] 39)).alloc (.cells #[.pointer none, .slice none 0 0] 47)) := (Below.refl _ _).alloc (by simp) _
  rw [hsz1] at hfr
  have HB0 := Lib.hid hb0
  have HC0 := Lib.hid hc0
  have HC1 := Lib.hid hc1
  have HFR := Lib.hid hfr
  have HB00 := Lib.hid hb00
  have HK := Lib.hid hk
  clear hb0 hc0 hc1 hfr hb00
  go_enter Tryd.func12, Tryd.ntmps12
  go_wp2_with (go_at_call 17; refine (builder.writeString (w.heap.size + 1) (w.heap.size + 1) [] _ _ HFR.out (by rw [H_one _ HK.out]; decide) (by simp)).mono ?_)
  rintro e w1 ⟨rfl, hbl, hb1⟩
  rw [H_cells _ HK.out, List.nil_append] at hbl
  have hb2 := HB00.out.trans hb1
  have HBL := Lib.hid hbl
  have HB2 := Lib.hid hb2
  clear hbl hb1 hb2
  go_wp2
  go_loopw [1] (fun v wr => ∃ (n : Nat) (acc : List UInt8), v = .int .i64 n ∧ Lib.IsBuilder 47 5 (w.heap.size + 1) (w.heap.size + 1) (Lib.byteCells acc) wr ∧ Below (w.heap.size + 1) (w.alloc (.cells #[.string H, .string T] 39)) wr ∧ acc ++ more n n = mini i ∧ acc.length + n ≤ i + 1) (fun v _ => (intOf v).toNat)
  case atStart =>
    refine ⟨i / 54, [hb.getD (i % 54) 0], ?_, HBL.out, HB2.out, ?_, ?_⟩
    · simp
    · show [hb.getD (i % 54) 0] ++ more (i / 54) (i / 54) = hb.getD (i % 54) 0 :: more i (i / 54)
      rw [more_fuel (i / 54) i (i / 54) (Nat.le_refl _) (by omega)]; rfl
    · simp; omega
  case round =>
    obtain ⟨n, acc, rfl, hbl, hbw, hacc, hlen⟩ := hrel
    have hd0 : wr.cell? ⟨w.heap.size, 0, none⟩ = some (.string H) := (hbw.cell (p := ⟨w.heap.size, 0, none⟩) (by simp)).trans HC0.out
    have hd1 : wr.cell? ⟨w.heap.size, 1, none⟩ = some (.string T) := (hbw.cell (p := ⟨w.heap.size, 1, none⟩) (by simp)).trans HC1.out
    have HBL := Lib.hid hbl
    have HBW := Lib.hid hbw
    have HA := Lib.hid hacc
    clear hbl hbw hacc
    by_cases hn : n = 0
    · have nI : ¬ (0:Int) < (n:Int) := by omega
      have nJ : ¬ 0 < n := by omega
      go_wp2_with (go_at_call 18; refine (Tryd.Builder_String_any (w.heap.size + 1) (w.heap.size + 1) acc _ HBL.out (by have := HBW.out.size; simpa using this)).mono ?_)
      rintro e w2 rfl hb9
      have hb8 := HB0.out.trans ((HBW.out.trans hb9).mono (Nat.le_succ w.heap.size))
      have HB8 := Lib.hid hb8
      clear hb9 hb8
      go_wp2
      go_ret
      have hA := HA.out
      rw [hn] at hA
      simp [more] at hA
      rw [hA]
      exact ⟨rfl, HB8.out⟩
    · have n0 : (0:Int) < (n:Int) := by omega
      have k0 : (0:Int) ≤ ((n:Int) - 1) % 64 := by omega
      have k1 : ((n:Int) - 1) % 64 < 64 := by omega
      have k2 : ((n:Int) - 1) % 64 + 1 ≤ 64 := by omega
      have k3 : ((n:Int) - 1) % 64 ≤ ((n:Int) - 1) % 64 + 1 := by omega
      have HN := Lib.hid (show (n - 1) % 64 < 64 by omega)
      have HL := Lib.hid (show (Lib.byteCells acc).length + 1 ≤ 140737488355328 by simp [Lib.byteCells]; omega)
      go_wp2_with (go_at_call 17; refine (builder.writeString (w.heap.size + 1) (w.heap.size + 1) (Lib.byteCells acc) _ _ HBL.out (by rw [T_one _ HN.out]; exact HL.out) (by have := HBW.out.size; simpa using this)).mono ?_)
      rintro e w2 ⟨rfl, hbl, hb1⟩
      rw [T_cells _ HN.out, byteCells_app] at hbl
      have hb2 := HBW.out.trans hb1
      have HBL2 := Lib.hid hbl
      have HB3 := Lib.hid hb2
      clear hbl hb1 hb2
      go_wp2
      go_roundw
      case rel =>
        refine ⟨(n - 1) / 64, acc ++ [tb.getD ((n - 1) % 64) 0], ?_, HBL2.out, HB3.out, ?_, ?_⟩
        · simp; omega
        · rw [← HA.out, List.append_assoc]
          congr 1
          obtain ⟨m, rfl⟩ : ∃ m, n = m + 1 := ⟨n - 1, by omega⟩
          simp only [more, Nat.add_sub_cancel, if_neg hn, List.singleton_append]
          rw [more_fuel (m / 64) m (m / 64) (Nat.le_refl _) (by omega)]
        · simp; omega
      case measure =>
        simp only [intOf]
        omega
end Go.Proofs.YtgflhmihmdflcaaDoor.fnExportNames
