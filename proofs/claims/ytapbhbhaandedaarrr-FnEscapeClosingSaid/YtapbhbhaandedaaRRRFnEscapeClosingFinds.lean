/-
  FnEscapeClosing: the search of the specification (spec.TextFinds), without regard to the case.
  Conditions: texts of at most 2^40 bytes.
-/
import Derived.Test.YtapbhbhaandedaaRRRFnEscapeClosingSmall
namespace Go.Proofs.YtapbhbhaandedaaRRR.fnEscapeClosing
open Go.RowKit
set_option linter.unusedVariables false
set_option linter.unusedSimpArgs false

theorem drop_at (L : List UInt8) (n i : Nat) : (L.drop n).getD i 0 = L.getD (n + i) 0 := by
  simp [List.getD, List.getElem?_drop]

theorem lowerQ (b : UInt8) (w : World) : Calls Try.prog 17 #[.int .u8 b.toNat] w fun e w' => e = .returned (.int .u8 (low b).toNat) ∧ ∃ n, w' = w.drewN n :=
  (lower b w).mono fun e w' ⟨h, hw⟩ => ⟨h, 0, hw⟩

def FindEnd (s t : ByteArray) (e : Ending) : Prop :=
  (e = .returned (.int .i64 (-1)) ∧ ∀ j, j + t.size ≤ s.size → pre (by' t) ((by' s).drop j) = false) ∨ (∃ k : Nat, e = .returned (.int .i64 k) ∧ pre (by' t) ((by' s).drop k) = true)

set_option maxHeartbeats 16000000 in
theorem finds (s t : ByteArray) (w : World) (hs : s.size ≤ 1099511627776) (ht : t.size ≤ 1099511627776) :
    Calls Try.prog 12 #[.string s, .string t] w fun e w' => FindEnd s t e ∧ Below w.heap.size w w' := by
  go_enter Try.func12, Try.ntmps12
  go_wp2_with (fail)
  go_loopw [5, 6, 7] (fun v v6 v7 wr => ∃ n : Nat, v = .int .i64 n ∧ n ≤ s.size + 1 ∧ Below w.heap.size w wr ∧ ∀ j, j < n → pre (by' t) ((by' s).drop j) = false) (fun v _ _ _ => s.size + 1 - (intOf v).toNat)
  case atStart => exact ⟨0, rfl, by omega, Below.refl _ _, fun j h => by omega⟩
  case round =>
    obtain ⟨n, rfl, hn, hbw, hl⟩ := hrel
    have HL := Lib.hid hl
    have HB := Lib.hid hbw
    clear hl hbw
    have n0 : (0:Int) ≤ n := by omega
    by_cases hlt : n + t.size ≤ s.size
    · have n1 : (n:Int) + t.size ≤ s.size := by omega
      go_wp2_with (fail)
      go_loopw [6, 7] (fun v6 v7 wr => ∃ (k : Nat) (b : Bool), v6 = .bool b ∧ v7 = .int .i64 k ∧ k ≤ t.size ∧ Below w.heap.size w wr ∧ (b = true → ∀ i, i < k → low ((by' s).getD (n + i) 0) = low ((by' t).getD i 0)) ∧ (b = false → pre (by' t) ((by' s).drop n) = false)) (fun _ v7 _ => t.size - (intOf v7).toNat)
      case atStart => exact ⟨0, true, rfl, rfl, by omega, HB.out, fun _ j h => by omega, by simp⟩
      case round =>
        obtain ⟨k, b, rfl, rfl, hk, hbw, hb1, hb0⟩ := hrel
        have HB1 := Lib.hid hbw
        have HT := Lib.hid hb1
        have HF := Lib.hid hb0
        clear hbw hb1 hb0
        by_cases hkt : k < t.size
        · have k0 : (0:Int) ≤ k := by omega
          have k1 : (k:Int) < t.size := by omega
          cases b
          · go_wp2_with (fail)
            go_roundw
            case rel =>
              refine ⟨n + 1, by simp, by omega, HB1.out, fun j hj => ?_⟩
              by_cases e : j = n
              · subst e; exact HF.out rfl
              · exact HL.out j (by omega)
            case measure =>
              simp only [intOf]
              omega
          · have k2 : (n:Int) + k < s.size := by omega
            have k3 : (0:Int) ≤ (n:Int) + k := by omega
            have hnk : n + k < s.size := by omega
            go_wp2_with (fail)
            have ew : IntKind.i64.wrap ((n:Int) + k) = (n:Int) + k := IntWalk.i64_in _ (by omega)
            go_quiet (first | (go_at_call 17; refine Calls.quiet_of (lowerQ _ _)))
            have hA := by_at s (n + k) hnk
            have hB := by_at t k hkt
            have e0 : (((low (s[n + k]'hnk)).toNat : Int) == ((low (t[k]'hkt)).toNat : Int)) = decide (low ((by' s).getD (n + k) 0) = low ((by' t).getD k 0)) := by
              rw [← hA, ← hB, Bool.eq_iff_iff]
              simp only [beq_iff_eq, decide_eq_true_eq]
              exact ⟨fun h => UInt8.toNat_inj.1 (by omega), fun h => by rw [h]⟩
            rw [e0]
            have HNQ := Lib.hid (below_draws HB1.out nq)
            clear e0 hA hB
            go_wp2_with (fail)
            go_roundw
            case rel =>
              refine ⟨k + 1, _, rfl, by simp, by omega, HNQ.out, fun hb i hi => ?_, fun hb => ?_⟩
              · by_cases e : i = k
                · subst e; exact of_decide_eq_true hb
                · exact HT.out trivial i (by omega)
              · cases hp : pre (by' t) ((by' s).drop n)
                · rfl
                · have h := ((pre_iff _ _).1 hp).2 k (by rw [by_len]; exact hkt)
                  rw [drop_at] at h
                  exact absurd h (of_decide_eq_false hb)
            case measure =>
              simp only [intOf]
              omega
        · have k1 : ¬ (k:Int) < t.size := by omega
          obtain rfl : k = t.size := by omega
          cases b
          · go_wp2_with (fail)
            go_roundw
            case rel =>
              refine ⟨n + 1, by simp, by omega, HB1.out, fun j hj => ?_⟩
              by_cases e : j = n
              · subst e; exact HF.out rfl
              · exact HL.out j (by omega)
            case measure =>
              simp only [intOf]
              omega
          · go_wp2_with (fail)
            go_ret
            refine ⟨.inr ⟨n, rfl, (pre_iff _ _).2 ⟨by rw [by_len, List.length_drop, by_len]; omega, fun i hi => ?_⟩⟩, HB1.out⟩
            rw [drop_at]
            exact HT.out trivial i (by rw [by_len] at hi; exact hi)
    · have n1 : ¬ (n:Int) + t.size ≤ s.size := by omega
      go_wp2_with (fail)
      go_ret
      exact ⟨.inl ⟨rfl, fun j hj => HL.out j (by omega)⟩, HB.out⟩
end Go.Proofs.YtapbhbhaandedaaRRR.fnEscapeClosing
