/-
  FnExportNames: the walks of spec.Next's way over a word of ASCII: pass, one, name, token.
  Conditions: a text of name characters of ASCII, the first of which is a letter, a dollar sign or a low line; at most 2^12 bytes.
-/
import Derived.Test.YtgflhmihmdflcaaDoorFnExportNamesScan
namespace Go.Proofs.YtgflhmihmdflcaaDoor.fnExportNames
open Go.RowKit Go.Proofs.YtgflhmihmdflcaaDoorW.PrintWords Go.Proofs.YtgflhmihmdflcaaDoorW.PrintLast Go.Proofs.YtgflhmihmdflcaaDoorW.PrintMore Go.Proofs.YtgflhmihmdflcaaDoor.PFnExportNames
set_option linter.unusedVariables false
set_option linter.unusedSimpArgs false

def letter (b : Nat) : Bool := decide (97 ≤ b ∧ b ≤ 122 ∨ 65 ≤ b ∧ b ≤ 90 ∨ b = 36 ∨ b = 95)
def part (b : Nat) : Bool := letter b || decide (48 ≤ b ∧ b ≤ 57)
theorem part_low {b : Nat} (h : part b = true) : b < 128 := by
  simp only [part, letter, Bool.or_eq_true, decide_eq_true_eq] at h
  omega
theorem part_all : ∀ b : Fin 128, part b.1 = true → (spec_LineEnd.f (b.1 : Int) = some false ∧ spec_Blank.f (b.1 : Int) = some false ∧ spec_Digit.f (b.1 : Int) = some (decide (48 ≤ b.1 ∧ b.1 ≤ 57)) ∧ spec_InName.f 5 (b.1 : Int) = some (if letter b.1 = true then 2 else 1)) := by decide +kernel
theorem utf8_all : ∀ b : Fin 128, (spec_UTF8.f 5 (b.1 : Int)).map (·.data.toList) = some [UInt8.ofNat b.1] := by decide +kernel
theorem low_f (s : ByteArray) (a : Nat) (ha : a < s.size) (hq : nb s a < 128) : spec_Rune.f 10 s a = some ((nb s a : Int), 1) := by
  unfold spec_Rune.f
  rw [if_neg (by omega), decide_eq_false (by omega)]
  simp only [spec_Rune.j0]
  rw [if_neg (by decide), if_pos (by omega), if_pos (by omega), bt_nb s a ha, w64_nb, if_pos (by omega)]
theorem low_rune (s : ByteArray) (a : Nat) (ha : a < s.size) (hq : nb s a < 128) : ∀ g w, w.cell? ⟨g, 0, none⟩ = some (.string s) → w.cell? ⟨g, 1, none⟩ = some (.int .i64 a) → Calls Tryd.prog 26 #[.pointer (some ⟨g, 0, none⟩)] w fun e w' => e = .returned (.tuple #[.int .i64 (nb s a), .int .i64 (1 : Int)]) ∧ ∃ n, w' = w.drewN n :=
  fun g w c0 c1 => runeC g s a (nb s a) 1 w 10 (low_f s a ha hq) c0 c1
theorem end_rune (s : ByteArray) (a : Nat) (ha : ¬ a < s.size) (g : Nat) (w : World) (c0 : w.cell? ⟨g, 0, none⟩ = some (.string s)) (c1 : w.cell? ⟨g, 1, none⟩ = some (.int .i64 a)) : Calls Tryd.prog 26 #[.pointer (some ⟨g, 0, none⟩)] w fun e w' => e = .returned (.tuple #[.int .i64 0, .int .i64 0]) ∧ ∃ n, w' = w.drewN n := by
  refine runeC g s a 0 0 w 10 ?_ c0 c1
  unfold spec_Rune.f
  rw [if_neg (by omega), decide_eq_true (by omega)]
  rfl
theorem lineEndC {b : Nat} (hq : part b = true) (w : World) : Calls Tryd.prog 28 #[.int .i64 b] w fun e w' => e = .returned (.bool false) ∧ ∃ n, w' = w.drewN n :=
  (spec_LineEnd.calls b false w (part_all ⟨b, part_low hq⟩ hq).1).mono fun e w' ⟨he, n, hw⟩ => ⟨he, n, hw⟩
theorem blankC {b : Nat} (hq : part b = true) (w : World) : Calls Tryd.prog 29 #[.int .i64 b] w fun e w' => e = .returned (.bool false) ∧ ∃ n, w' = w.drewN n :=
  (spec_Blank.calls b false w (part_all ⟨b, part_low hq⟩ hq).2.1).mono fun e w' ⟨he, n, hw⟩ => ⟨he, n, hw⟩
theorem digitC {b : Nat} (hq : letter b = true) (w : World) : Calls Tryd.prog 31 #[.int .i64 b] w fun e w' => e = .returned (.bool false) ∧ ∃ n, w' = w.drewN n := by
  have hp : part b = true := by unfold part; rw [hq]; rfl
  refine (spec_Digit.calls b false w ?_).mono fun e w' ⟨he, n, hw⟩ => ⟨he, n, hw⟩
  rw [(part_all ⟨b, part_low hp⟩ hp).2.2.1]
  rw [decide_eq_false]
  simp only [letter, decide_eq_true_eq] at hq
  show ¬ (48 ≤ b ∧ b ≤ 57)
  omega
theorem inNameC {b : Nat} (hq : part b = true) (w : World) : Calls Tryd.prog 33 #[.int .i64 b] w fun e w' => e = .returned (.int .i64 (if letter b = true then 2 else 1)) ∧ ∃ n, w' = w.drewN n :=
  (spec_InName.calls 5 b _ w (part_all ⟨b, part_low hq⟩ hq).2.2.2).mono fun e w' ⟨he, n, hw⟩ => ⟨he, n, hw⟩
theorem utf8C {b : Nat} (hb : b < 128) (w : World) : Calls Tryd.prog 60 #[.int .i64 b] w fun e w' => e = .returned (.string ⟨#[UInt8.ofNat b]⟩) ∧ Below w.heap.size w w' := by
  have h := utf8_all ⟨b, hb⟩
  obtain ⟨r, hr, hr2⟩ := Option.map_eq_some_iff.1 h
  obtain rfl : r = ⟨#[UInt8.ofNat b]⟩ := by
    cases r with
    | mk d =>
      have : d.toList = [UInt8.ofNat b] := hr2
      have : d = #[UInt8.ofNat b] := Array.toList_inj.1 this
      rw [this]
  exact spec_UTF8.calls 5 b _ w hr
/-- a word -/
structure Wd (s : ByteArray) : Prop where
  pos : 0 < s.size
  len : s.size ≤ 4096
  first : letter (nb s 0) = true
  all : ∀ i, i < s.size → part (nb s i) = true
set_option maxHeartbeats 16000000 in
set_option maxRecDepth 100000 in
theorem pass (w0 w : World) (g : Nat) (s : ByteArray) (hs : s.size ≤ 4096) (ha : 0 < s.size) (hq : part (nb s 0) = true) (hI : IsS54 w0 w g s 0 false false 0) (hB : Below w0.heap.size w0 w) :
    Calls Tryd.prog 19 #[.pointer (some ⟨g, 0, none⟩)] w fun e w' => e = .returned (.tuple #[]) ∧ Sc w0 w w' g s 0 false false 0 := by
  have HS0 := Lib.hid (Sc.start hI hB)
  clear hI hB
  have s1 : (s.size : Int) ≤ 4096 := by omega
  have a0i : (0 : Int) ≤ (0 : Nat) := by omega
  have a1i : (0 : Int) < s.size := by omega
  have nothing : ∀ t : ByteArray, 0 < t.size → part (nb t 0) = false → isb s 0 t = false := fun t h0 h1 => isb_other s t 0 h0 (fun e => by rw [e, h1] at hq; cases hq) ha
  have i1 : isb s 0 ⟨#[35, 33]⟩ = false := nothing _ (by decide) (by decide)
  have i2 : isb s 0 ⟨#[47, 47]⟩ = false := nothing _ (by decide) (by decide)
  have i3 : isb s 0 ⟨#[47, 42]⟩ = false := nothing _ (by decide) (by decide)
  have I1 := Lib.hid i1
  have I2 := Lib.hid i2
  have I3 := Lib.hid i3
  have hR := low_rune s 0 ha (part_low hq)
  have hL := lineEndC hq
  have hK := blankC hq
  generalize (nb s 0 : Int) = q at hR hL hK
  have HR := Lib.hid hR
  have HL := Lib.hid hL
  have HK := Lib.hid hK
  clear i1 i2 i3 nothing hR hL hK hq
  have key : ∀ (wr : World), Sc w0 w wr g s 0 false false 0 → wr.cell? ⟨g, 0, none⟩ = some (.string s) ∧ wr.cell? ⟨g, 1, none⟩ = some (.int .i64 (0 : Nat)) ∧ wr.cell? ⟨g, 2, none⟩ = some (.bool false) ∧ wr.cell? ⟨g, 4, none⟩ = some (.int .i64 0) := fun wr h => ⟨h.c0, h.c1, h.c2, h.c4⟩
  have KEY := Lib.hid key
  clear key
  obtain ⟨c0, c1, c2, c4⟩ := KEY.out w HS0.out
  have hi1 := isC g s ⟨#[35, 33]⟩ 0 w hs (by omega) (by decide) c0 c1
  rw [I1.out] at hi1
  have HI1 := Lib.hid hi1
  clear hi1
  go_enter Tryd.func19, Tryd.ntmps19
  go_wp2_with (fail)
  refine (HI1.out).mono ?_
  rintro e w1 ⟨rfl, n1, rfl⟩
  have hx := HS0.out.drew n1
  generalize w.drewN n1 = W1 at hx ⊢
  clear HS0 c0 c1 c2 c4 HI1
  have HS1 := Lib.hid hx
  clear hx
  obtain ⟨c0, c1, c2, c4⟩ := KEY.out W1 HS1.out
  go_wp2_with (fail)
  go_loopw [] (fun wr => Hid (Sc w0 w wr g s 0 false false 0)) (fun wr => 0)
  case atStart => exact HS1
  case round =>
    have HS := hrel
    clear HS1 hrel c0 c1 c2 c4
    obtain ⟨c0, c1, c2, c4⟩ := KEY.out wr HS.out
    go_wp2_with (fail)
    go_quiet (fail)
    have hx := HS.out.drew nq
    generalize wr.drewN nq = W3 at hx ⊢
    clear HS c0 c1 c2 c4
    have HS := Lib.hid hx
    clear hx
    obtain ⟨c0, c1, c2, c4⟩ := KEY.out W3 HS.out
    have HT := Lib.hid (HR.out g W3 c0 c1)
    go_wp2_with (fail)
    refine (HT.out).mono ?_
    rintro e w9 ⟨rfl, n9, rfl⟩
    have hx := HS.out.drew n9
    generalize W3.drewN n9 = W4 at hx ⊢
    clear HS c0 c1 c2 c4
    have HS := Lib.hid hx
    clear hx
    obtain ⟨c0, c1, c2, c4⟩ := KEY.out W4 HS.out
    clear HT
    go_wp2_with (fail)
    refine (HL.out _).mono ?_
    rintro e w9 ⟨rfl, n9, rfl⟩
    have hx := HS.out.drew n9
    generalize W4.drewN n9 = W5 at hx ⊢
    clear HS c0 c1 c2 c4
    have HS := Lib.hid hx
    clear hx
    obtain ⟨c0, c1, c2, c4⟩ := KEY.out W5 HS.out
    go_wp2_with (fail)
    refine (HK.out _).mono ?_
    rintro e w9 ⟨rfl, n9, rfl⟩
    have hx := HS.out.drew n9
    generalize W5.drewN n9 = W6 at hx ⊢
    clear HS c0 c1 c2 c4
    have HS := Lib.hid hx
    clear hx
    obtain ⟨c0, c1, c2, c4⟩ := KEY.out W6 HS.out
    have hi2 := isC g s ⟨#[47, 47]⟩ 0 W6 hs (by omega) (by decide) c0 c1
    rw [I2.out] at hi2
    have HI2 := Lib.hid hi2
    clear hi2
    go_wp2_with (fail)
    refine (HI2.out).mono ?_
    rintro e w9 ⟨rfl, n9, rfl⟩
    have hx := HS.out.drew n9
    generalize W6.drewN n9 = W7 at hx ⊢
    clear HS c0 c1 c2 c4
    have HS := Lib.hid hx
    clear hx
    obtain ⟨c0, c1, c2, c4⟩ := KEY.out W7 HS.out
    clear HI2
    have hi3 := isC g s ⟨#[47, 42]⟩ 0 W7 hs (by omega) (by decide) c0 c1
    rw [I3.out] at hi3
    have HI3 := Lib.hid hi3
    clear hi3
    go_wp2_with (fail)
    refine (HI3.out).mono ?_
    rintro e w9 ⟨rfl, n9, rfl⟩
    have hx := HS.out.drew n9
    generalize W7.drewN n9 = W8 at hx ⊢
    clear HS c0 c1 c2 c4
    have HS := Lib.hid hx
    clear hx
    obtain ⟨c0, c1, c2, c4⟩ := KEY.out W8 HS.out
    clear HI3
    go_wp2_with (fail)
    first | go_end0 | ((try simp only [Exit.inBlock, Exit.then]); refine bodyPost_ret (results_none rfl _ _ _) rfl ?_)
    exact ⟨rfl, HS.out⟩
end Go.Proofs.YtgflhmihmdflcaaDoor.fnExportNames
