/-
  FnRangeOfString: the walks of the scanner's pass and token where a quote stands at the place: nothing is passed, and the token is the string's.
  Conditions: texts of at most 2^12 bytes; a quote stands at the place.
-/
import Derived.Test.YtnciphcnkbcncaaFnRangeOfStringText
namespace Go.Proofs.Ytnciphcnkbcncaa.fnRangeOfString
open Go.RowKit Go.Proofs.YtnciphcnkbcncaaW.PrintWords Go.Proofs.YtnciphcnkbcncaaW.PrintLast Go.Proofs.YtnciphcnkbcncaaW.PrintMore Go.Proofs.Ytnciphcnkbcncaa.PFnRangeOfString Go.Proofs.Ytnciphcnkbcncaa.runes
set_option linter.unusedVariables false
set_option linter.unusedSimpArgs false

theorem quote_rune (s : ByteArray) (a : Nat) (hs : s.size ≤ 4096) (ha : a < s.size) (hq : nb s a < 128) : ∀ g w, w.cell? ⟨g, 0, none⟩ = some (.string s) → w.cell? ⟨g, 1, none⟩ = some (.int .i64 a) → Calls Try.prog 15 #[.pointer (some ⟨g, 0, none⟩)] w fun e w' => e = .returned (.tuple #[.int .i64 (nb s a), .int .i64 (1 : Int)]) ∧ ∃ n, w' = w.drewN n := by
  intro g w c0 c1
  refine runeC g s a (nb s a) 1 w 10 ?_ c0 c1
  rw [rune_ge s a 10 (Nat.le_refl _) (by omega) ha, dec_low s a hq]
  unfold told
  rw [if_neg (by simp; omega)]
  rfl
theorem lineEndC (q : Int) (hq : q = 34 ∨ q = 39) (w : World) : Calls Try.prog 17 #[.int .i64 q] w fun e w' => e = .returned (.bool false) ∧ ∃ n, w' = w.drewN n :=
  (spec_LineEnd.calls q false w (by rcases hq with rfl | rfl <;> decide)).mono fun e w' ⟨he, n, hw⟩ => ⟨he, n, hw⟩
theorem blankC (q : Int) (hq : q = 34 ∨ q = 39) (w : World) : Calls Try.prog 18 #[.int .i64 q] w fun e w' => e = .returned (.bool false) ∧ ∃ n, w' = w.drewN n :=
  (spec_Blank.calls q false w (by rcases hq with rfl | rfl <;> decide)).mono fun e w' ⟨he, n, hw⟩ => ⟨he, n, hw⟩

set_option maxHeartbeats 16000000 in
set_option maxRecDepth 100000 in
theorem pass (w0 w : World) (g : Nat) (s : ByteArray) (a0 : Nat) (hs : s.size ≤ 4096) (ha : a0 < s.size) (hq : nb s a0 = 34 ∨ nb s a0 = 39) (hI : IsS51 w0 w g s a0 false false 0) (hB : Below w0.heap.size w0 w) :
    Calls Try.prog 11 #[.pointer (some ⟨g, 0, none⟩)] w fun e w' => e = .returned (.tuple #[]) ∧ Sc w0 w w' g s a0 false false 0 := by
  have HS0 := Lib.hid (Sc.start hI hB)
  clear hI hB
  have s1 : (s.size : Int) ≤ 4096 := by omega
  have a0i : (0 : Int) ≤ a0 := by omega
  have a1i : (a0 : Int) < s.size := by omega
  have nothing : ∀ t : ByteArray, 0 < t.size → nb t 0 ≠ 34 → nb t 0 ≠ 39 → isb s a0 t = false := fun t h0 h1 h2 => isb_other s t a0 h0 (by omega) ha
  have i1 : isb s a0 ⟨#[35, 33]⟩ = false := nothing _ (by decide) (by decide) (by decide)
  have i2 : isb s a0 ⟨#[47, 47]⟩ = false := nothing _ (by decide) (by decide) (by decide)
  have i3 : isb s a0 ⟨#[47, 42]⟩ = false := nothing _ (by decide) (by decide) (by decide)
  have I1 := Lib.hid i1
  have I2 := Lib.hid i2
  have I3 := Lib.hid i3
  have hR := quote_rune s a0 hs ha (by omega)
  have hL := lineEndC (nb s a0) (by omega)
  have hK := blankC (nb s a0) (by omega)
  have hq2 : (nb s a0 : Int) = 34 ∨ (nb s a0 : Int) = 39 := by omega
  generalize (nb s a0 : Int) = q at hR hL hK hq2
  have HR := Lib.hid hR
  have HL := Lib.hid hL
  have HK := Lib.hid hK
  clear i1 i2 i3 nothing hR hL hK hq
  have key : ∀ (wr : World), Sc w0 w wr g s a0 false false 0 → wr.cell? ⟨g, 0, none⟩ = some (.string s) ∧ wr.cell? ⟨g, 1, none⟩ = some (.int .i64 a0) ∧ wr.cell? ⟨g, 2, none⟩ = some (.bool false) ∧ wr.cell? ⟨g, 4, none⟩ = some (.int .i64 0) := fun wr h => ⟨h.c0, h.c1, h.c2, h.c4⟩
  have KEY := Lib.hid key
  clear key
  obtain ⟨c0, c1, c2, c4⟩ := KEY.out w HS0.out
  have hi1 := isC g s ⟨#[35, 33]⟩ a0 w hs (by omega) (by decide) c0 c1
  rw [I1.out] at hi1
  have HI1 := Lib.hid hi1
  clear hi1 hq2
  by_cases hz : a0 = 0
  · subst hz
    go_enter Try.func11, Try.ntmps11
    go_wp2_with (fail)
    refine (HI1.out).mono ?_
    rintro e w1 ⟨rfl, n1, rfl⟩
    have hx := HS0.out.drew n1
    generalize w.drewN n1 = W1 at hx ⊢
    clear HS0 c0 c1 c2 c4 HI1
    have HS1 := Lib.hid hx
    clear hx
    obtain ⟨c0, c1, c2, c4⟩ := KEY.out W1 HS1.out
    go_wp2_with (fail)
    go_loopw [] (fun wr => Hid (Sc w0 w wr g s 0 false false 0)) (fun wr => 0)
    case atStart => exact HS1
    case round =>
      have HS := hrel
      clear HS1 hrel c0 c1 c2 c4
      obtain ⟨c0, c1, c2, c4⟩ := KEY.out wr HS.out
      go_wp2_with (fail)
      go_quiet (fail)
      have hx := HS.out.drew nq
      generalize wr.drewN nq = W3 at hx ⊢
      clear HS c0 c1 c2 c4
      have HS := Lib.hid hx
      clear hx
      obtain ⟨c0, c1, c2, c4⟩ := KEY.out W3 HS.out
      have HT := Lib.hid (HR.out g W3 c0 c1)
      go_wp2_with (fail)
      refine (HT.out).mono ?_
      rintro e w9 ⟨rfl, n9, rfl⟩
      have hx := HS.out.drew n9
      generalize W3.drewN n9 = W4 at hx ⊢
      clear HS c0 c1 c2 c4
      have HS := Lib.hid hx
      clear hx
      obtain ⟨c0, c1, c2, c4⟩ := KEY.out W4 HS.out
      clear HT
      go_wp2_with (fail)
      refine (HL.out _).mono ?_
      rintro e w9 ⟨rfl, n9, rfl⟩
      have hx := HS.out.drew n9
      generalize W4.drewN n9 = W5 at hx ⊢
      clear HS c0 c1 c2 c4
      have HS := Lib.hid hx
      clear hx
      obtain ⟨c0, c1, c2, c4⟩ := KEY.out W5 HS.out
      go_wp2_with (fail)
      refine (HK.out _).mono ?_
      rintro e w9 ⟨rfl, n9, rfl⟩
      have hx := HS.out.drew n9
      generalize W5.drewN n9 = W6 at hx ⊢
      clear HS c0 c1 c2 c4
      have HS := Lib.hid hx
      clear hx
      obtain ⟨c0, c1, c2, c4⟩ := KEY.out W6 HS.out
      have hi2 := isC g s ⟨#[47, 47]⟩ 0 W6 hs (by omega) (by decide) c0 c1
      rw [I2.out] at hi2
      have HI2 := Lib.hid hi2
      clear hi2
      go_wp2_with (fail)
      refine (HI2.out).mono ?_
      rintro e w9 ⟨rfl, n9, rfl⟩
      have hx := HS.out.drew n9
      generalize W6.drewN n9 = W7 at hx ⊢
      clear HS c0 c1 c2 c4
      have HS := Lib.hid hx
      clear hx
      obtain ⟨c0, c1, c2, c4⟩ := KEY.out W7 HS.out
      clear HI2
      have hi3 := isC g s ⟨#[47, 42]⟩ 0 W7 hs (by omega) (by decide) c0 c1
      rw [I3.out] at hi3
      have HI3 := Lib.hid hi3
      clear hi3
      go_wp2_with (fail)
      refine (HI3.out).mono ?_
      rintro e w9 ⟨rfl, n9, rfl⟩
      have hx := HS.out.drew n9
      generalize W7.drewN n9 = W8 at hx ⊢
      clear HS c0 c1 c2 c4
      have HS := Lib.hid hx
      clear hx
      obtain ⟨c0, c1, c2, c4⟩ := KEY.out W8 HS.out
      clear HI3
      go_wp2_with (fail)
      first | go_end0 | ((try simp only [Exit.inBlock, Exit.then]); refine bodyPost_ret (results_none rfl _ _ _) rfl ?_)
      exact ⟨rfl, HS.out⟩
  · have hzi : ((a0 : Int) == 0) = false := by simpa using hz
    clear HI1
    go_enter Try.func11, Try.ntmps11
    go_wp2_with (fail)
    go_loopw [] (fun wr => Hid (Sc w0 w wr g s a0 false false 0)) (fun wr => 0)
    case atStart => exact HS0
    case round =>
      have HS := hrel
      clear HS0 hrel c0 c1 c2 c4
      obtain ⟨c0, c1, c2, c4⟩ := KEY.out wr HS.out
      go_wp2_with (fail)
      go_quiet (fail)
      have hx := HS.out.drew nq
      generalize wr.drewN nq = W3 at hx ⊢
      clear HS c0 c1 c2 c4
      have HS := Lib.hid hx
      clear hx
      obtain ⟨c0, c1, c2, c4⟩ := KEY.out W3 HS.out
      have HT := Lib.hid (HR.out g W3 c0 c1)
      go_wp2_with (fail)
      refine (HT.out).mono ?_
      rintro e w9 ⟨rfl, n9, rfl⟩
      have hx := HS.out.drew n9
      generalize W3.drewN n9 = W4 at hx ⊢
      clear HS c0 c1 c2 c4
      have HS := Lib.hid hx
      clear hx
      obtain ⟨c0, c1, c2, c4⟩ := KEY.out W4 HS.out
      clear HT
      go_wp2_with (fail)
      refine (HL.out _).mono ?_
      rintro e w9 ⟨rfl, n9, rfl⟩
      have hx := HS.out.drew n9
      generalize W4.drewN n9 = W5 at hx ⊢
      clear HS c0 c1 c2 c4
      have HS := Lib.hid hx
      clear hx
      obtain ⟨c0, c1, c2, c4⟩ := KEY.out W5 HS.out
      go_wp2_with (fail)
      refine (HK.out _).mono ?_
      rintro e w9 ⟨rfl, n9, rfl⟩
      have hx := HS.out.drew n9
      generalize W5.drewN n9 = W6 at hx ⊢
      clear HS c0 c1 c2 c4
      have HS := Lib.hid hx
      clear hx
      obtain ⟨c0, c1, c2, c4⟩ := KEY.out W6 HS.out
      have hi2 := isC g s ⟨#[47, 47]⟩ a0 W6 hs (by omega) (by decide) c0 c1
      rw [I2.out] at hi2
      have HI2 := Lib.hid hi2
      clear hi2
      go_wp2_with (fail)
      refine (HI2.out).mono ?_
      rintro e w9 ⟨rfl, n9, rfl⟩
      have hx := HS.out.drew n9
      generalize W6.drewN n9 = W7 at hx ⊢
      clear HS c0 c1 c2 c4
      have HS := Lib.hid hx
      clear hx
      obtain ⟨c0, c1, c2, c4⟩ := KEY.out W7 HS.out
      clear HI2
      have hi3 := isC g s ⟨#[47, 42]⟩ a0 W7 hs (by omega) (by decide) c0 c1
      rw [I3.out] at hi3
      have HI3 := Lib.hid hi3
      clear hi3
      go_wp2_with (fail)
      refine (HI3.out).mono ?_
      rintro e w9 ⟨rfl, n9, rfl⟩
      have hx := HS.out.drew n9
      generalize W7.drewN n9 = W8 at hx ⊢
      clear HS c0 c1 c2 c4
      have HS := Lib.hid hx
      clear hx
      obtain ⟨c0, c1, c2, c4⟩ := KEY.out W8 HS.out
      clear HI3
      go_wp2_with (fail)
      first | go_end0 | ((try simp only [Exit.inBlock, Exit.then]); refine bodyPost_ret (results_none rfl _ _ _) rfl ?_)
      exact ⟨rfl, HS.out⟩
theorem row_done {w0 w W : World} {g : Nat} {s : ByteArray} {a : Nat} {b2 b3 : Bool} {b4 : Int} {cs : Array Value} (h : Sc w0 w W g s a b2 b3 b4) (hl : g < w.heap.size) (hr : W.heap[w.heap.size]? = some (.cells tok0 45 (0, 0))) :
    (W.setRow w.heap.size cs).heap[w.heap.size]? = some (.cells cs 45 (0, 0)) ∧ Sc w0 w (W.setRow w.heap.size cs) g s a b2 b3 b4 := by
  have hg := h.1.ge
  refine ⟨setRow_heap W w.heap.size _ _ 45 (0, 0) hr, ⟨(setRow_other W w.heap.size g _ (by omega)).trans h.1.1, hg⟩, below_setRow h.2.1 (by omega) _, ?_, fun i hi hn hr => ?_⟩
  · simpa [World.setRow] using h.2.2.1
  · exact (setRow_other W w.heap.size i _ (by omega)).trans (h.2.2.2 i hi hn hr)
set_option maxHeartbeats 16000000 in
set_option maxRecDepth 100000 in
theorem token (w0 w : World) (g : Nat) (s : ByteArray) (a0 : Nat) (hs : s.size ≤ 4096) (ha : a0 < s.size) (hq : nb s a0 = 34 ∨ nb s a0 = 39) (hI : IsS51 w0 w g s a0 false false 0) (hB : Below w0.heap.size w0 w) :
    Calls Try.prog 12 #[.pointer (some ⟨g, 0, none⟩), .int .i64 0] w (Txt w0 w g s a0 false false) := by
  have HQ := Lib.hid hq
  have hlt : g < w.heap.size := hI.lt
  have HLT := Lib.hid hlt
  have hS0 := (Sc.start hI hB).alloc (.cells tok0 45)
  have hrs : (w.alloc (.cells tok0 45)).heap[w.heap.size]? = some (.cells tok0 45 (0, 0)) := heap_alloc_new w _
  clear hI hB hlt
  have s1 : (s.size : Int) ≤ 4096 := by omega
  have a0i : (0 : Int) ≤ a0 := by omega
  have a1i : (a0 : Int) < s.size := by omega
  have hR := quote_rune s a0 hs ha (by omega)
  have hq2 : (nb s a0 : Int) = 34 ∨ (nb s a0 : Int) = 39 := by omega
  have hdot : isb s a0 ⟨#[46]⟩ = false := isb_other s _ a0 (by decide) (by rw [show nb ⟨#[46]⟩ 0 = 46 from by decide]; omega) ha
  have HDOT := Lib.hid hdot
  obtain ⟨dg, hdg, hD⟩ := digitC (nb s a0 : Int)
  have hdf : dg = false := by
    cases dg
    · rfl
    · have := hdg.1 rfl; omega
  subst hdf
  generalize (nb s a0 : Int) = q at hR hq2 hD
  have HR := Lib.hid hR
  have HD := Lib.hid hD
  clear hR hdot hdg hD hq
  unfold tok0 at hS0 hrs
  have HS0 := Lib.hid hS0
  have HRS := Lib.hid hrs
  clear hS0 hrs
  have c0 := HS0.out.c0
  have c1 := HS0.out.c1
  go_enter Try.func12, Try.ntmps12
  go_wp2_with (fail)
  refine (HR.out g _ c0 c1).mono ?_
  rintro e w1 ⟨rfl, n1, rfl⟩
  have hx := HS0.out.drew n1
  have hr := HRS.out
  have hr2 : ((w.alloc (.cells #[.int .i64 0, .string ⟨#[]⟩, .string ⟨#[]⟩, .int .u64 0, .int .i64 0, .int .i64 0, .bool false, .bool false, .bool false] 45)).drewN n1).heap[w.heap.size]? = _ := hr
  clear c0 c1 HS0 hr HRS
  generalize (w.alloc (.cells #[.int .i64 0, .string ⟨#[]⟩, .string ⟨#[]⟩, .int .u64 0, .int .i64 0, .int .i64 0, .bool false, .bool false, .bool false] 45)).drewN n1 = W1 at hx hr2 ⊢
  have HS1 := Lib.hid hx
  have HR1 := Lib.hid hr2
  clear hx hr2
  have c0 := HS1.out.c0
  have c1 := HS1.out.c1
  have hi := fun n => isC g s ⟨#[46]⟩ a0 (W1.drewN n) hs (by omega) (by decide) c0 c1
  simp only [HDOT.out] at hi
  have HI := Lib.hid hi
  clear hi
  go_wp2_with (fail)
  go_quiet (first | (go_at_call 13; refine Calls.quiet_of (HI.out _)))
  have hx := HS1.out.drew nq
  have hr2 : (W1.drewN nq).heap[w.heap.size]? = _ := HR1.out
  clear c0 c1 HS1 HR1 HI
  generalize W1.drewN nq = W2 at hx hr2 ⊢
  have HS2 := Lib.hid hx
  have HR2 := Lib.hid hr2
  clear hx hr2
  go_wp2_with (fail)
  refine (HD.out _).mono ?_
  rintro e w9 ⟨rfl, n9, rfl⟩
  have hx := HS2.out.drew n9
  have hr2 : (W2.drewN n9).heap[w.heap.size]? = _ := HR2.out
  clear HS2 HR2 HD
  generalize W2.drewN n9 = W3 at hx hr2 ⊢
  have HS3 := Lib.hid hx
  have HR3 := Lib.hid hr2
  clear hx hr2
  rcases hq2 with rfl | rfl
  all_goals
    go_wp2_with (fail)
    refine (text w0 _ g s a0 false false hs ha HQ.out HS3.out.1 HS3.out.2.1).mono ?_
    rintro e w4 ⟨txt, more, old, a', bad, rfl, hb, hg, k⟩
    have hx := HS3.out.trans k
    have hr4 : w4.heap[w.heap.size]? = some (.cells tok0 45 (0, 0)) := (k.2.2.2 _ (Array.getElem?_eq_some_iff.1 HR3.out).1 (by have := HLT.out; omega) (by simp)).trans HR3.out
    have HD := Lib.hid (row_done (cs := tok txt more old) hx HLT.out hr4)
    have HR4 := Lib.hid hr4
    have HG := Lib.hid hg
    have HBD := Lib.hid hb
    clear hx hr4 k HR3 HS3 hg hb
    go_wp2_with (refine wpList_store_row (o := ⟨none, .store 45 (.tmp 4) (.tmp 104), _, _, _, _⟩) rfl 45 (.tmp 4) (.tmp 104) rfl w.heap.size (tok txt more old) rfl rfl 45 tok0 HR4.out ?hi ?hold ?ho ?_)
    case hi => rw [info45]; rfl
    case hold => rfl
    case ho => exact tok_one _ _ _
    exact bodyPost_ret (results_cell_row rfl _ _ w.heap.size 45 _ (0, 0) _ rfl HD.out.1 Try.underlying45 rfl (by rw [info45]; rfl)) rfl ⟨txt, more, old, a', bad, rfl, HBD.out, HG.out, HD.out.2⟩
end Go.Proofs.Ytnciphcnkbcncaa.fnRangeOfString
