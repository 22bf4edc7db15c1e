/-
  FnFinalize: isMappings takes a text of digits, commas and semicolons.
  Conditions: fewer than 2^32 bytes.
-/
import Derived.Test.YtdhaifcjhmmdlaaFnFinalizeMaps0
import Derived.Lib.ConvBytes
namespace Go.Proofs.Ytdhaifcjhmmdlaa.fnFinalize
open Go.RowKit Go.Proofs.YtdhaifcjhmmdlaaW.PrintWords Go.Proofs.YtdhaifcjhmmdlaaW.PrintLast Go.Proofs.YtdhaifcjhmmdlaaW.PrintMore Go.Proofs.Ytdhaifcjhmmdlaa.PFnFinalize
set_option linter.unusedVariables false
set_option linter.unusedSimpArgs false

theorem bw_below (W : World) (e : TypeId) (s : ByteArray) : Below W.heap.size W (Lib.bytesWorld W e s) := ⟨rfl, rfl, rfl, by rw [Lib.bytesWorld_size]; omega, fun g hg => Lib.bytesWorld_at_old W e s g hg⟩
theorem bw_bs (W : World) (T : List UInt8) : Bs (Lib.bytesWorld W 5 (bs T)) (W.heap.size + 1) (.slice (some ⟨W.heap.size, 0, none⟩) T.length (grownCap W T.length 0 5)) T := by
  refine ⟨W.heap.size, 0, _, rfl, grownCap_ge W _ 0 5, by omega, fun i hi => ?_⟩
  rw [Nat.zero_add, Lib.bytesWorld_cell W 5 (bs T) i (by rw [bs_size]; exact hi)]
  simp [bs, bval, List.getD, hi]
def Lg (b : UInt8) : Prop := (97 ≤ b.toNat ∧ b.toNat ≤ 122) ∨ (65 ≤ b.toNat ∧ b.toNat ≤ 90) ∨ (48 ≤ b.toNat ∧ b.toNat ≤ 57) ∨ b = 43 ∨ b = 47 ∨ b = 44 ∨ b = 59
set_option maxHeartbeats 8000000 in
set_option maxRecDepth 100000 in
theorem isMappings (W : World) (T : List UInt8) (hT : ∀ b ∈ T, Lg b) (hTl : T.length < 4294967296) :
    Calls Try.prog 12 #[.string (bs T)] W fun e w' => e = .returned (.bool true) ∧ Below W.heap.size W w' := by
  have hcv := Lib.run_convert_string_bytes (P := Try.prog) W 9 47 5 (bs T) Try.underlying9 Try.underlying47 Try.underlying5
  have hsz : (bs T).size = T.length := bs_size T
  have HT := Lib.hid hT
  clear hT
  go_enter Try.func12, Try.ntmps12
  go_wp2_with (fail)
  have hB := bw_bs W T
  have hBb := bw_below W 5 (bs T)
  have HB := Lib.hid hB
  have HBB := Lib.hid hBb
  clear hB hBb hcv
  generalize Lib.bytesWorld W 5 (bs T) = W1 at HB HBB ⊢
  go_loopw [8] (fun v8 wr => ∃ i : Nat, v8 = .int .i64 (i : Int) ∧ i ≤ T.length ∧ Hid (Below W.heap.size W wr) ∧ Hid (∀ i (hi : i < T.length), wr.cell? ⟨W.heap.size, i, none⟩ = some (bval T[i]))) (fun v8 _ => T.length - (intOf v8).toNat)
  case atStart =>
    refine ⟨0, rfl, Nat.zero_le _, HBB, Lib.hid fun i hi => ?_⟩
    obtain ⟨g, o, cap, e, _, _, h⟩ := HB.out
    cases e
    simpa using h i hi
  case round =>
    obtain ⟨i, rfl, hi, HBW, HC⟩ := hrel
    clear HB HBB
    by_cases hlt : i < T.length
    · have x0 : (0 : Int) ≤ (i : Int) := by omega
      have x1 : (i : Int) < (T.length : Int) := by omega
      have hc := HC.out i hlt
      have hg := HT.out _ (List.getElem_mem hlt)
      have wi : wrap64 ((i : Int) + 1) = (i : Int) + 1 := wrap_up hlt hTl
      generalize T[i] = b at hc hg
      replace hc : wr.cell? ⟨W.heap.size, i, none⟩ = some (.int .u8 (b.toNat : Int)) := hc
      rcases hg with ⟨h1, h2⟩ | ⟨h1, h2⟩ | ⟨h1, h2⟩ | rfl | rfl | rfl | rfl
      · have q1 : decide ((97 : Int) ≤ (b.toNat : Int)) = true := decide_eq_true (by omega)
        have q2 : decide ((b.toNat : Int) ≤ (122 : Int)) = true := decide_eq_true (by omega)
        clear h1 h2 hlt
        go_wp2_with (fail)
        go_roundw
        case rel => exact ⟨i + 1, rfl, by omega, HBW, HC⟩
        case measure => simp only [intOf]; omega
      · have q1 : decide ((97 : Int) ≤ (b.toNat : Int)) = false := decide_eq_false (by omega)
        have q2 : decide ((65 : Int) ≤ (b.toNat : Int)) = true := decide_eq_true (by omega)
        have q3 : decide ((b.toNat : Int) ≤ (90 : Int)) = true := decide_eq_true (by omega)
        clear h1 h2 hlt
        go_wp2_with (fail)
        go_roundw
        case rel => exact ⟨i + 1, rfl, by omega, HBW, HC⟩
        case measure => simp only [intOf]; omega
      · have q1 : decide ((97 : Int) ≤ (b.toNat : Int)) = false := decide_eq_false (by omega)
        have q2 : decide ((65 : Int) ≤ (b.toNat : Int)) = false := decide_eq_false (by omega)
        have q3 : decide ((48 : Int) ≤ (b.toNat : Int)) = true := decide_eq_true (by omega)
        have q4 : decide ((b.toNat : Int) ≤ (57 : Int)) = true := decide_eq_true (by omega)
        clear h1 h2 hlt
        go_wp2_with (fail)
        go_roundw
        case rel => exact ⟨i + 1, rfl, by omega, HBW, HC⟩
        case measure => simp only [intOf]; omega
      · replace hc : wr.cell? ⟨W.heap.size, i, none⟩ = some (.int .u8 43) := hc
        clear hlt
        go_wp2_with (fail)
        go_roundw
        case rel => exact ⟨i + 1, rfl, by omega, HBW, HC⟩
        case measure => simp only [intOf]; omega
      · replace hc : wr.cell? ⟨W.heap.size, i, none⟩ = some (.int .u8 47) := hc
        clear hlt
        go_wp2_with (fail)
        go_roundw
        case rel => exact ⟨i + 1, rfl, by omega, HBW, HC⟩
        case measure => simp only [intOf]; omega
      · replace hc : wr.cell? ⟨W.heap.size, i, none⟩ = some (.int .u8 44) := hc
        clear hlt
        go_wp2_with (fail)
        go_roundw
        case rel => exact ⟨i + 1, rfl, by omega, HBW, HC⟩
        case measure => simp only [intOf]; omega
      · replace hc : wr.cell? ⟨W.heap.size, i, none⟩ = some (.int .u8 59) := hc
        clear hlt
        go_wp2_with (fail)
        go_roundw
        case rel => exact ⟨i + 1, rfl, by omega, HBW, HC⟩
        case measure => simp only [intOf]; omega
    · obtain rfl : i = T.length := by omega
      have hlt' : ¬ ((T.length : Int) < (T.length : Int)) := by omega
      clear hlt
      go_wp2_with (fail)
      go_ret
      exact ⟨rfl, HBW.out⟩
end Go.Proofs.Ytdhaifcjhmmdlaa.fnFinalize
