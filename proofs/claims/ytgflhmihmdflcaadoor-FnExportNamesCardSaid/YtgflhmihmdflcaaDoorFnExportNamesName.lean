/-
  FnExportNames: the walks of the scanner's one and name over a word of ASCII.
  Conditions: a word.
-/
import Derived.Test.YtgflhmihmdflcaaDoorFnExportNamesWord
namespace Go.Proofs.YtgflhmihmdflcaaDoor.fnExportNames
open Go.RowKit Go.Proofs.YtgflhmihmdflcaaDoorW.PrintWords Go.Proofs.YtgflhmihmdflcaaDoorW.PrintLast Go.Proofs.YtgflhmihmdflcaaDoorW.PrintMore Go.Proofs.YtgflhmihmdflcaaDoor.PFnExportNames
set_option linter.unusedVariables false
set_option linter.unusedSimpArgs false

set_option maxHeartbeats 16000000 in
set_option maxRecDepth 100000 in
theorem one (w0 W w : World) (g : Nat) (s : ByteArray) (hW : Wd s) (a : Nat) (ha : a < s.size) (first : Bool) (hf : first = true → a = 0) (hS : Sc w0 W w g s a false false 0) :
    Calls Tryd.prog 59 #[.pointer (some ⟨g, 0, none⟩), .bool first] w fun e w' => e = .returned (.tuple #[.int .i64 (nb s a), .bool false]) ∧ Sc w0 W w' g s (a + 1) false false 0 := by
  have hp := hW.all a ha
  have hs := hW.len
  have hl := part_low hp
  have s1 : (s.size : Int) ≤ 4096 := by omega
  have a0 : (0 : Int) ≤ a := by omega
  have a1 : (a : Int) < s.size := by omega
  have hR := low_rune s a ha hl
  have hI : isb s a ⟨#[92, 117]⟩ = false := isb_other s _ a (by decide) (fun e => by rw [e] at hp; exact absurd hp (by decide)) ha
  have hcl : (letter (nb s a) = true ∧ ∀ w, Calls Tryd.prog 33 #[.int .i64 (nb s a)] w fun e w' => e = .returned (.int .i64 2) ∧ ∃ n, w' = w.drewN n) ∨ (first = false ∧ ∀ w, Calls Tryd.prog 33 #[.int .i64 (nb s a)] w fun e w' => e = .returned (.int .i64 1) ∧ ∃ n, w' = w.drewN n) := by
    by_cases h : letter (nb s a) = true
    · refine .inl ⟨h, fun w => ?_⟩
      have := inNameC hp w
      rw [if_pos h] at this
      exact this
    · refine .inr ⟨?_, fun w => ?_⟩
      · cases first
        · rfl
        · have := hf rfl
          rw [this] at h
          exact absurd hW.first h
      · have := inNameC hp w
        rw [if_neg h] at this
        exact this
  have wa : IntKind.i64.wrap ((a : Int) + 1) = ((a + 1 : Nat) : Int) := by rw [IntKind.wrap_i64]; omega
  have q0 : ¬ ((nb s a : Nat) : Int) < 0 := by omega
  generalize ((nb s a : Nat) : Int) = q at hR hcl q0 ⊢
  have HR := Lib.hid hR
  have HI := Lib.hid hI
  have HS := Lib.hid hS
  clear hR hI hS hp hl
  have c0 := HS.out.c0
  have c1 := HS.out.c1
  have HRW := Lib.hid (HR.out g w c0 c1)
  rcases hcl with ⟨_, hcl⟩ | ⟨rfl, hcl⟩
  all_goals
    have HCL := Lib.hid hcl
    clear hcl hf
    go_enter Tryd.func59, Tryd.ntmps59
    go_wp2_with (fail)
    refine (HRW.out).mono ?_
    rintro e w1 ⟨rfl, n1, rfl⟩
    have hx := HS.out.drew n1
    clear HS HRW c0 c1
    generalize w.drewN n1 = W1 at hx ⊢
    have HS := Lib.hid hx
    clear hx
    have c0 := HS.out.c0
    have c1 := HS.out.c1
    have hi := fun n => isC g s ⟨#[92, 117]⟩ a (W1.drewN n) hs (by omega) (by decide) c0 c1
    simp only [HI.out] at hi
    have HI2 := Lib.hid hi
    clear hi
    go_wp2_with (fail)
    go_quiet (first | (go_at_call 24; refine Calls.quiet_of (HI2.out _)))
    have hx := HS.out.drew nq
    clear HS c0 c1 HI2
    generalize W1.drewN nq = W2 at hx ⊢
    have c1 := hx.c1
    have z1 := hx.fz 1
    have hy := hx.set1 (a + 1)
    have HY := Lib.hid hy
    clear hx hy
    go_wp2_with (fail)
    refine (HCL.out _).mono ?_
    rintro e w3 ⟨rfl, n3, rfl⟩
    have hx := HY.out.drew n3
    have HX := Lib.hid hx
    clear HY hx c1 z1
    go_wp2_with (fail)
    all_goals
      go_ret2
      exact ⟨rfl, HX.out⟩
set_option maxHeartbeats 16000000 in
set_option maxRecDepth 100000 in
theorem oneEnd (w0 W w : World) (g : Nat) (s : ByteArray) (first : Bool) (hS : Sc w0 W w g s s.size false false 0) :
    Calls Tryd.prog 59 #[.pointer (some ⟨g, 0, none⟩), .bool first] w fun e w' => e = .returned (.tuple #[.int .i64 (-1), .bool false]) ∧ Sc w0 W w' g s s.size false false 0 := by
  have HRW := Lib.hid (end_rune s s.size (by omega) g w hS.c0 hS.c1)
  have HS := Lib.hid hS
  clear hS
  go_enter Tryd.func59, Tryd.ntmps59
  go_wp2_with (fail)
  refine (HRW.out).mono ?_
  rintro e w1 ⟨rfl, n1, rfl⟩
  have HX := Lib.hid (HS.out.drew n1)
  clear HS HRW
  go_wp2_with (fail)
  go_ret2
  exact ⟨rfl, HX.out⟩
/-- the first bytes of a text -/
def pre (s : ByteArray) (i : Nat) : ByteArray := ⟨(s.data.toList.take i).toArray⟩
theorem pre_all (s : ByteArray) : pre s s.size = s := by
  unfold pre
  have : s.data.toList.length = s.size := rfl
  rw [List.take_of_length_le (by omega)]
theorem pre_size (s : ByteArray) (i : Nat) (h : i ≤ s.size) : (pre s i).size = i := by
  have : s.data.toList.length = s.size := rfl
  show (List.toArray _).size = i
  simp only [List.size_toArray, List.length_take]
  omega
theorem pre_succ (s : ByteArray) (i : Nat) (h : i < s.size) : pre s i ++ ⟨#[UInt8.ofNat (nb s i)]⟩ = pre s (i + 1) := by
  have hl : i < s.data.toList.length := h
  have e : (pre s i ++ ⟨#[UInt8.ofNat (nb s i)]⟩).data = (pre s (i + 1)).data := by
    rw [ByteArray.data_append]
    apply Array.toList_inj.1
    unfold pre
    rw [Array.toList_append, List.take_succ_eq_append_getElem hl]
    simp only [List.append_cancel_left_eq]
    rw [nb_in s i h]
    simp
    rfl
  cases hx : pre s i ++ ⟨#[UInt8.ofNat (nb s i)]⟩ with
  | mk d1 =>
    cases hy : pre s (i + 1) with
    | mk d2 =>
      rw [hx, hy] at e
      congr 1
theorem pre_empty (s : ByteArray) (i : Nat) (h : i ≤ s.size) : ((pre s i).toList == ([] : List UInt8)) = decide (i = 0) := by
  have hs := pre_size s i h
  have : (pre s i).toList.length = i := by
    rw [ByteArray.toList_eq]
    exact hs
  by_cases h0 : i = 0
  · rw [decide_eq_true h0]
    have : (pre s i).toList = [] := List.eq_nil_of_length_eq_zero (by omega)
    rw [this]
    rfl
  · rw [decide_eq_false h0]
    cases hq : (pre s i).toList with
    | nil => rw [hq] at this; simp at this; omega
    | cons x r => rfl
set_option maxHeartbeats 16000000 in
set_option maxRecDepth 100000 in
theorem name (w0 w : World) (g : Nat) (s : ByteArray) (hW : Wd s) (hI : IsS54 w0 w g s 0 false false 0) (hB : Below w0.heap.size w0 w) :
    Calls Tryd.prog 37 #[.pointer (some ⟨g, 0, none⟩)] w fun e w' => e = .returned (.tuple #[.string s, .bool false]) ∧ Sc w0 w w' g s s.size false false 0 := by
  have HS0 := Lib.hid (Sc.start hI hB)
  have hs := hW.len
  clear hI hB
  go_enter Tryd.func37, Tryd.ntmps37
  go_wp2_with (fail)
  go_loopw [4, 5] (fun v4 v5 wr => ∃ i : Nat, v4 = .string (pre s i) ∧ v5 = .bool false ∧ i ≤ s.size ∧ Hid (Sc w0 w wr g s i false false 0)) (fun v4 _ _ => s.size - (match v4 with | .string x => x.size | _ => 0))
  case atStart => exact ⟨0, rfl, rfl, Nat.zero_le _, HS0⟩
  case round =>
    obtain ⟨i, rfl, rfl, hi, HS⟩ := hrel
    clear HS0
    have c4 := HS.out.c4
    have he := pre_empty s i hi
    have hps := pre_size s i hi
    go_wp2_with (fail)
    clear c4
    by_cases hlt : i < s.size
    · refine (one w0 w wr g s hW i hlt (decide (i = 0)) (by simp) HS.out).mono ?_
      rintro e w1 ⟨rfl, hx⟩
      have q0 : ¬ ((nb s i : Nat) : Int) < 0 := by omega
      have HX := Lib.hid hx
      have hpr := pre_succ s i hlt
      have hlow := part_low (hW.all i hlt)
      have hU := utf8C hlow w1
      generalize hb : (⟨#[UInt8.ofNat (nb s i)]⟩ : ByteArray) = bq at hpr hU
      have hbz : bq.size = 1 := by rw [← hb]; rfl
      have hcat : ¬ 9223372036854775807 < (pre s i).size + bq.size := by omega
      generalize ((nb s i : Nat) : Int) = q at q0 hU
      have HU := Lib.hid hU
      have HPR := Lib.hid hpr
      clear hx he hU hb hlow HS hpr
      go_wp2_with (go_at_call 60; refine (HU.out).mono ?_)
      rintro e w2 ⟨rfl, hb2⟩
      have HY := Lib.hid (HX.out.below hb2)
      have hpr := HPR.out
      clear hb2 HX HU HPR
      go_wp2_with (fail)
      go_roundw
      case rel => exact ⟨i + 1, by first | exact congrArg _ hpr | rfl | simp [hpr], rfl, by omega, HY⟩
      case measure =>
        have := pre_size s (i + 1) (by omega)
        simp only [hpr] at *
        omega
    · obtain rfl : i = s.size := by omega
      refine (oneEnd w0 w wr g s _ HS.out).mono ?_
      rintro e w1 ⟨rfl, hx⟩
      have HX := Lib.hid hx
      have hpa := pre_all s
      clear hx he HS
      go_wp2_with (fail)
      go_ret2
      exact ⟨by simp [hpa], HX.out⟩
end Go.Proofs.YtgflhmihmdflcaaDoor.fnExportNames
