/-
  FnFind: the walk of (*sourcemap.SourceMap).Find: the binary search hands back a pointer to the last mapping at or before a place, where that is on the place's line.
  Conditions: the mappings lie in a row that the call owns; those at or before the place stand ahead of all others.
-/
import Derived.Test.YtlodefalhhcmkaaFnFindTold
namespace Go.Proofs.Ytlodefalhhcmkaa.fnFind
open Go.RowKit Go.Proofs.YtlodefalhhcmkaaW.PrintWords Go.Proofs.Ytlodefalhhcmkaa.PFnFind
set_option linter.unusedVariables false
set_option linter.unusedSimpArgs false

/-- a name's number as bits -/
def name (n : Int) : Int := if 0 ≤ n then 4294967295 - n else 0
/-- a mapping stands at or before a place -/
def le (line col : Int) (x : S24) : Prop := x.f0 < line ∨ (x.f0 = line ∧ x.f1 ≤ col)
/-- a row of mappings lies from the begin of block g on -/
def Lies (g : Nat) (xs : List S24) (w : World) : Prop := ∀ i, i < xs.length → g < w.heap.size ∧ w.cell? ⟨g, i * 6, none⟩ = some (.int .i32 (xs.getD i z24).f0) ∧ w.cell? ⟨g, i * 6 + 1, none⟩ = some (.int .i32 (xs.getD i z24).f1) ∧ w.cell? ⟨g, i * 6 + 2, none⟩ = some (.int .i32 (xs.getD i z24).f2) ∧ w.cell? ⟨g, i * 6 + 3, none⟩ = some (.int .i32 (xs.getD i z24).f3) ∧ w.cell? ⟨g, i * 6 + 4, none⟩ = some (.int .i32 (xs.getD i z24).f4) ∧ w.cell? ⟨g, i * 6 + 5, none⟩ = some (.int .u32 (name (xs.getD i z24).f5))
theorem Lies.below {g : Nat} {xs : List S24} {w w' : World} (h : Lies g xs w) {B : Nat} (hb : Below B w w') (hB : B = w.heap.size) : Lies g xs w' := by
  subst hB
  intro i hi
  obtain ⟨a, b0, b1, b2, b3, b4, b5⟩ := h i hi
  have e : ∀ o, w'.cell? ⟨g, o, none⟩ = w.cell? ⟨g, o, none⟩ := fun o => hb.cell (p := ⟨g, o, none⟩) a
  exact ⟨Nat.lt_of_lt_of_le a hb.size, (e _).trans b0, (e _).trans b1, (e _).trans b2, (e _).trans b3, (e _).trans b4, (e _).trans b5⟩

def Found (line col : Int) (g : Nat) (xs : List S24) (en : Ending) : Prop := ∃ j, j ≤ xs.length ∧ (∀ i, i < j → le line col (xs.getD i z24)) ∧ (∀ i, j ≤ i → i < xs.length → ¬ le line col (xs.getD i z24)) ∧
  ((en = .returned (.pointer none) ∧ (j = 0 ∨ (xs.getD (j - 1) z24).f0 ≠ line)) ∨ (0 < j ∧ (xs.getD (j - 1) z24).f0 = line ∧ en = .returned (.pointer (some ⟨g, (j - 1) * 6, none⟩))))

set_option maxHeartbeats 16000000 in
set_option maxRecDepth 100000 in
theorem find (xs : List S24) (b g : Nat) (A : Option Addr) (cap : Nat) (line col : Int) (w : World) (hn : xs.length ≤ 1000) (hl : 0 ≤ line ∧ line ≤ 2147483647) (hc : 0 ≤ col ∧ col ≤ 2147483647)
    (hv : w.cell? ⟨b, 2, none⟩ = some (.slice A xs.length cap)) (hA : xs ≠ [] → A = some ⟨g, 0, none⟩) (hlies : Lies g xs w) (hmono : ∀ i j, i ≤ j → j < xs.length → le line col (xs.getD j z24) → le line col (xs.getD i z24)) :
    Calls Try.prog 9 #[.pointer (some ⟨b, 0, none⟩), .int .i32 line, .int .i32 col] w fun en w' => Found line col g xs en ∧ Below w.heap.size w w' := by
  have HM := Lib.hid hmono
  have HL := Lib.hid hlies
  have HA := Lib.hid hA
  clear hmono hlies hA
  obtain ⟨l0, l1⟩ := hl
  obtain ⟨c0, c1⟩ := hc
  have n0 : (xs.length : Int) ≤ 1000 := by omega
  go_enter Try.func9, Try.ntmps9
  go_wp2_with (fail)
  go_loopw [8, 9, 10, 11, 12] (fun v8 v9 v10 v11 v12 wr => ∃ c k : Nat, v8 = .int .i64 c ∧ v9 = .int .i64 k ∧ k + c ≤ xs.length ∧ Hid (∀ i, i < k → le line col (xs.getD i z24)) ∧ Hid (∀ i, k + c ≤ i → i < xs.length → ¬ le line col (xs.getD i z24)) ∧ Hid (Below w.heap.size w wr)) (fun v8 _ _ _ _ _ => (intOf v8).toNat)
  case atStart => exact ⟨xs.length, 0, rfl, rfl, by omega, Lib.hid (fun i h => by omega), Lib.hid (fun i h1 h2 => by omega), Lib.hid (Below.refl _ _)⟩
  case round =>
    obtain ⟨c, k, rfl, rfl, hkc, HLE, HGT, HB⟩ := hrel
    by_cases hpos : 0 < c
    · have hp' : (0 : Int) < c := by omega
      have c3 : (c : Int) ≤ 1000 := by omega
      have k3 : (k : Int) ≤ 1000 := by omega
      have k4 : (0 : Int) ≤ k := by omega
      have d0 : (0 : Int) ≤ (c : Int) / 2 := by omega
      have d1 : (c : Int) / 2 ≤ 500 := by omega
      have d2 : (k : Int) + (c : Int) / 2 < xs.length := by omega
      obtain ⟨i, hi⟩ : ∃ i : Nat, (k : Int) + (c : Int) / 2 = i := ⟨k + c / 2, by omega⟩
      have hil : i < xs.length := by omega
      have hAe := HA.out (by intro h; rw [h] at hil; simp at hil)
      subst hAe
      obtain ⟨gg, q0, q1, q2, q3, q4, q5⟩ := (HL.out.below HB.out rfl) i hil
      generalize hx : xs.getD i z24 = x at q0 q1 q2 q3 q4 q5
      have e1 : ((c - (c / 2 + 1) : Nat) : Int) = (c : Int) - ((c : Int) / 2 + 1) := by omega
      by_cases h1 : x.f0 < line
      · have HX := Lib.hid (show le line col x from .inl h1)
        go_wp2_with (fail)
        go_roundw
        case rel => exact ⟨c - (c / 2 + 1), i + 1, by congr 1; omega, by congr 1, by omega, Lib.hid (fun j hj => HM.out j i (by omega) hil (by rw [hx]; exact HX.out)), Lib.hid (fun j h1 h2 => HGT.out j (by omega) h2), Lib.hid (HB.out.alloc HB.out.size _)⟩
        case measure =>
          simp only [intOf]
          omega
      · have h1' : ¬ x.f0 < line := h1
        by_cases h2 : x.f0 = line
        · by_cases h3 : x.f1 ≤ col
          · have HX := Lib.hid (show le line col x from .inr ⟨h2, h3⟩)
            go_wp2_with (fail)
            go_roundw
            case rel => exact ⟨c - (c / 2 + 1), i + 1, by congr 1; omega, by congr 1, by omega, Lib.hid (fun j hj => HM.out j i (by omega) hil (by rw [hx]; exact HX.out)), Lib.hid (fun j h1 h2 => HGT.out j (by omega) h2), Lib.hid (HB.out.alloc HB.out.size _)⟩
            case measure =>
              simp only [intOf]
              omega
          · have HX := Lib.hid (show ¬ le line col x from fun h => h.elim (fun h => h1 h) (fun h => h3 h.2))
            go_wp2_with (fail)
            go_roundw
            case rel => exact ⟨c / 2, k, by congr 1, rfl, by omega, HLE, Lib.hid (fun j h1 h2 h3 => HX.out (by have := HM.out i j (by omega) h2 h3; rw [hx] at this; exact this)), Lib.hid (HB.out.alloc HB.out.size _)⟩
            case measure =>
              simp only [intOf]
              omega
        · have HX := Lib.hid (show ¬ le line col x from fun h => h.elim (fun h => h1 h) (fun h => h2 h.1))
          go_wp2_with (fail)
          go_roundw
          case rel => exact ⟨c / 2, k, by congr 1, rfl, by omega, HLE, Lib.hid (fun j h1 h2 h3 => HX.out (by have := HM.out i j (by omega) h2 h3; rw [hx] at this; exact this)), Lib.hid (HB.out.alloc HB.out.size _)⟩
          case measure =>
            simp only [intOf]
            omega
    · obtain rfl : c = 0 := by omega
      by_cases hk : 0 < k
      · obtain ⟨m, rfl⟩ : ∃ m, k = m + 1 := ⟨k - 1, by omega⟩
        have hml : m < xs.length := by omega
        have hAe := HA.out (by intro h; rw [h] at hml; simp at hml)
        subst hAe
        obtain ⟨gg, q0, q1, q2, q3, q4, q5⟩ := (HL.out.below HB.out rfl) m hml
        have m0 : (0 : Int) ≤ m := by omega
        have m1 : (m : Int) ≤ 1000 := by omega
        have m2 : (m : Int) < xs.length := by omega
        generalize hx : xs.getD m z24 = x at q0 q1 q2 q3 q4 q5
        by_cases h2 : x.f0 = line
        · have HX := Lib.hid (show (xs.getD (m + 1 - 1) z24).f0 = line by rw [Nat.add_sub_cancel, hx]; exact h2)
          go_wp2_with (fail)
          go_ret
          exact ⟨⟨m + 1, by omega, HLE.out, HGT.out, .inr ⟨by omega, HX.out, rfl⟩⟩, HB.out⟩
        · have HX := Lib.hid (show (xs.getD (m + 1 - 1) z24).f0 ≠ line by rw [Nat.add_sub_cancel, hx]; exact h2)
          go_wp2_with (fail)
          go_ret
          exact ⟨⟨m + 1, by omega, HLE.out, HGT.out, .inl ⟨rfl, .inr HX.out⟩⟩, HB.out⟩
      · obtain rfl : k = 0 := by omega
        go_wp2_with (fail)
        go_ret
        exact ⟨⟨0, by omega, HLE.out, HGT.out, .inl ⟨rfl, .inl rfl⟩⟩, HB.out⟩
end Go.Proofs.Ytlodefalhhcmkaa.fnFind
