/-
  FnRangeOfString: the walk of the scanner's text: a string literal that it takes ends at the first quote that a reader meets who passes one byte behind each backslash.
  Conditions: texts of at most 2^12 bytes; a quote stands at the place.
-/
import Derived.Test.YtnciphcnkbcncaaFnRangeOfStringEscape
import Derived.Deep.RegionWith
import Derived.Laws.Tables
import Derived.Laws.CopyOwn
import Derived.Laws.Rows
namespace Go.Proofs.Ytnciphcnkbcncaa.fnRangeOfString
open Go.RowKit Go.Proofs.YtnciphcnkbcncaaW.PrintWords Go.Proofs.YtnciphcnkbcncaaW.PrintLast Go.Proofs.YtnciphcnkbcncaaW.PrintMore Go.Proofs.Ytnciphcnkbcncaa.PFnRangeOfString Go.Proofs.Ytnciphcnkbcncaa.runes
set_option linter.unusedVariables false
set_option linter.unusedSimpArgs false

/-- the cells of a string's token -/
def tok (txt more : ByteArray) (old : Bool) : Array Value := #[.int .i64 8, .string txt, .string more, .int .u64 0, .int .i64 0, .int .i64 0, .bool false, .bool false, .bool old]
def Tk (W : World) (b : Nat) (txt : ByteArray) (old : Bool) : Prop := W.heap[b]? = some (.cells (tok txt ⟨#[]⟩ old) 45 (0, 0))
theorem quote_of (s : ByteArray) (a : Nat) (h : a < s.size) : ∃ c : UInt8, s.extract a (a + 1) = ⟨#[c]⟩ ∧ c.toNat = nb s a := by
  refine ⟨s[a]'h, ?_, (nb_in s a h).symm⟩
  have hl : a < s.data.toList.length := by simpa using h
  have : (s.extract a (a + 1)).data.toList = [s[a]'h] := by
    rw [ByteArray.data_extract, Array.toList_extract]
    show ((s.data.toList.drop a).take (a + 1 - a)) = _
    rw [Nat.add_sub_cancel_left, List.drop_eq_getElem_cons hl]
    rfl
  cases hx : s.extract a (a + 1) with
  | mk d =>
    rw [hx] at this
    cases d with
    | mk l => simp only at this; subst this; rfl
/-- what text leaves -/
def Txt (w0 w : World) (g : Nat) (s : ByteArray) (a : Nat) (b2 b3 : Bool) (e : Ending) (w' : World) : Prop := ∃ (txt more : ByteArray) (old : Bool) (a' : Nat) (bad : Int), e = .returned (.agg (tok txt more old)) ∧ (bad = 0 ∨ bad = 1) ∧ (bad = 0 → a < a' ∧ a' ≤ s.size ∧ nb s (a' - 1) = nb s a ∧ Reach s (nb s a) (a + 1) (a' - 1)) ∧ Sc w0 w w' g s a' b2 b3 bad
/-- one run of characters, or one escape -/
theorem reach_char {s : ByteArray} {q a0 a r n : Nat} (hq : q = 34 ∨ q = 39) (h : Reach s q a0 a) (hin : a < s.size) (hne : nb s a ≠ q) (hr : RuneIs s a r n) (hn : n ≠ 0) (h92 : r ≠ 92) : Reach s q a0 (a + n) := by
  rcases hr with rfl | ⟨n1, n4, nfit, rmax, hlo, hhi⟩
  · exact absurd rfl hn
  · refine h.trans ?_
    by_cases hb : nb s a < 128
    · obtain ⟨rfl, rfl⟩ := hlo hb
      exact .plain hin hne h92 (.refl _)
    · obtain ⟨_, hc⟩ := hhi (by omega)
      exact Reach.calm' hq (by omega) (fun j j1 j2 => by have := hc j j1 j2; omega) nfit
theorem reach_esc {s : ByteArray} {q a0 a a' : Nat} (hq : q = 34 ∨ q = 39) (h : Reach s q a0 a) (hin : a < s.size) (hne : nb s a ≠ q) (h92 : nb s a = 92) (hlt : a + 1 < a') (hc : Calm s (a + 1 + 1) a') (hs : a' ≤ s.size) : Reach s q a0 a' :=
  h.trans (.esc hin hne h92 (Reach.calm' hq (by omega) hc hs))
theorem rune_92 {s : ByteArray} {a n : Nat} (hr : RuneIs s a 92 n) (hn : n ≠ 0) : nb s a = 92 ∧ n = 1 := by
  rcases hr with rfl | ⟨n1, n4, nfit, rmax, hlo, hhi⟩
  · exact absurd rfl hn
  · by_cases hb : nb s a < 128
    · obtain ⟨h1, h2⟩ := hlo hb
      exact ⟨h1.symm, h2⟩
    · have := (hhi (by omega)).1
      omega

/-- the cells of a token of zeros -/
def tok0 : Array Value := #[.int .i64 0, .string ⟨#[]⟩, .string ⟨#[]⟩, .int .u64 0, .int .i64 0, .int .i64 0, .bool false, .bool false, .bool false]
theorem info45 : (Try.prog.info? 45).map (·.size) = some 9 := by kernel_rfl
theorem tok_one (txt more : ByteArray) (old : Bool) : (tok txt more old).all (·.oneCell') = true := by simp [tok, Value.oneCell']
/-- the scanner, the token that is made, and the result's cells -/
structure At (w0 w W : World) (g : Nat) (s : ByteArray) (a : Nat) (b2 b3 : Bool) (b4 : Int) (txt more : ByteArray) (old : Bool) : Prop where
  sc : Sc w0 w W g s a b2 b3 b4
  tk : W.heap[w.heap.size + 1]? = some (.cells (tok txt more old) 45 (0, 0))
  rs : W.heap[w.heap.size]? = some (.cells tok0 45 (0, 0))
  lt : g < w.heap.size
section
variable {w0 w W : World} {g : Nat} {s : ByteArray} {a : Nat} {b2 b3 : Bool} {b4 : Int} {txt more : ByteArray} {old : Bool}
theorem At.drew (h : At w0 w W g s a b2 b3 b4 txt more old) (n : Nat) : At w0 w (W.drewN n) g s a b2 b3 b4 txt more old := ⟨h.sc.drew n, h.tk, h.rs, h.lt⟩
theorem At.size (h : At w0 w W g s a b2 b3 b4 txt more old) : w.heap.size + 1 < W.heap.size := (Array.getElem?_eq_some_iff.1 h.tk).1
theorem At.set1 (h : At w0 w W g s a b2 b3 b4 txt more old) (a' : Nat) : At w0 w (W.setCell ⟨g, 1, none⟩ (.int .i64 a')) g s a' b2 b3 b4 txt more old :=
  ⟨h.sc.set1 a', (Below.heap_setCell W _ _ _ (by have := h.lt; show w.heap.size + 1 ≠ g; omega)).trans h.tk, (Below.heap_setCell W _ _ _ (by have := h.lt; show w.heap.size ≠ g; omega)).trans h.rs, h.lt⟩
theorem At.step {W2 : World} {a' : Nat} {c2 c3 : Bool} {c4 : Int} (h : At w0 w W g s a b2 b3 b4 txt more old) (k : Sc w0 W W2 g s a' c2 c3 c4) : At w0 w W2 g s a' c2 c3 c4 txt more old :=
  ⟨h.sc.trans k, (k.2.2.2 _ h.size (by have := h.lt; omega) (by simp)).trans h.tk, (k.2.2.2 _ (by have := h.size; omega) (by have := h.lt; omega) (by simp)).trans h.rs, h.lt⟩
theorem At.below {W2 : World} (h : At w0 w W g s a b2 b3 b4 txt more old) (hb : Below W.heap.size W W2) : At w0 w W2 g s a b2 b3 b4 txt more old :=
  ⟨h.sc.below hb, (hb.block _ h.size).trans h.tk, (hb.block _ (by have := h.size; omega)).trans h.rs, h.lt⟩
theorem At.far {b j : Nat} (h : At w0 w W g s a b2 b3 b4 txt more old) (hb : w.heap.size ≤ b) (u : Value) : Sc w0 w (W.setCell ⟨b, j, none⟩ u) g s a b2 b3 b4 := by
  have hl := h.lt
  have hg := h.sc.1.ge
  exact ⟨h.sc.1.far (by show g ≠ b; omega) u, below_set h.sc.2.1 (by omega), keep_far h.sc.2.2 (p := ⟨b, j, none⟩) hb u⟩
theorem At.tk1 (h : At w0 w W g s a b2 b3 b4 txt more old) (t : ByteArray) : At w0 w (W.setCell ⟨w.heap.size + 1, 1, none⟩ (.string t)) g s a b2 b3 b4 t more old := by
  have hb := blk_put h.tk 1 (.string t) (cs' := tok t more old) rfl
  exact ⟨h.far (by omega) _, hb, (Below.heap_setCell W _ _ _ (by show w.heap.size ≠ w.heap.size + 1; omega)).trans h.rs, h.lt⟩
theorem At.tk8 (h : At w0 w W g s a b2 b3 b4 txt more old) (o : Bool) : At w0 w (W.setCell ⟨w.heap.size + 1, 8, none⟩ (.bool o)) g s a b2 b3 b4 txt more o := by
  have hb := blk_put h.tk 8 (.bool o) (cs' := tok txt more o) rfl
  exact ⟨h.far (by omega) _, hb, (Below.heap_setCell W _ _ _ (by show w.heap.size ≠ w.heap.size + 1; omega)).trans h.rs, h.lt⟩
theorem At.tk2 (h : At w0 w W g s a b2 b3 b4 txt more old) (t : ByteArray) : At w0 w (W.setCell ⟨w.heap.size + 1, 2, none⟩ (.string t)) g s a b2 b3 b4 txt t old := by
  have hb := blk_put h.tk 2 (.string t) (cs' := tok txt t old) rfl
  exact ⟨h.far (by omega) _, hb, (Below.heap_setCell W _ _ _ (by show w.heap.size ≠ w.heap.size + 1; omega)).trans h.rs, h.lt⟩
theorem At.done (h : At w0 w W g s a b2 b3 b4 txt more old) : (W.setRow w.heap.size (tok txt more old)).heap[w.heap.size]? = some (.cells (tok txt more old) 45 (0, 0)) ∧ Sc w0 w (W.setRow w.heap.size (tok txt more old)) g s a b2 b3 b4 := by
  have hl := h.lt
  have hg := h.sc.1.ge
  refine ⟨setRow_heap W w.heap.size _ _ 45 (0, 0) h.rs, ⟨(setRow_other W w.heap.size g _ (by omega)).trans h.sc.1.1, hg⟩, below_setRow h.sc.2.1 (by omega) _, ?_, fun i hi hn hr => ?_⟩
  · simpa [World.setRow] using h.sc.2.2.1
  · exact (setRow_other W w.heap.size i _ (by omega)).trans (h.sc.2.2.2 i hi hn hr)
theorem At.tcell (h : At w0 w W g s a b2 b3 b4 txt more old) (i : Nat) : W.cell? ⟨w.heap.size + 1, i, none⟩ = (tok txt more old)[i]? := blk_cell h.tk i
theorem At.tfz (h : At w0 w W g s a b2 b3 b4 txt more old) (i : Nat) : W.frozen? ⟨w.heap.size + 1, i, none⟩ = false := Lib.frozen_of_heap h.tk i
theorem At.rfz (h : At w0 w W g s a b2 b3 b4 txt more old) (i : Nat) : W.frozen? ⟨w.heap.size, i, none⟩ = false := Lib.frozen_of_heap h.rs i
end

set_option maxHeartbeats 32000000 in
set_option maxRecDepth 100000 in
theorem text (w0 w : World) (g : Nat) (s : ByteArray) (a0 : Nat) (b2 b3 : Bool) (hs : s.size ≤ 4096) (ha : a0 < s.size) (hq : nb s a0 = 34 ∨ nb s a0 = 39) (hI : IsS51 w0 w g s a0 b2 b3 0) (hB : Below w0.heap.size w0 w) :
    Calls Try.prog 23 #[.pointer (some ⟨g, 0, none⟩)] w (Txt w0 w g s a0 b2 b3) := by
  have hS0 := Sc.start hI hB
  clear hI hB
  have s1 : (s.size : Int) ≤ 4096 := by omega
  have a0i : (0 : Int) ≤ a0 := by omega
  have a1i : (a0 : Int) + 1 ≤ s.size := by omega
  have a2i : (a0 : Int) ≤ (a0 : Int) + 1 := by omega
  have e2 : ((a0 : Int) + 1).toNat = a0 + 1 := by omega
  have e1 : IntKind.i64.wrap ((a0 : Int) + 1) = (a0 : Int) + 1 := IntWalk.i64_in _ (by omega)
  obtain ⟨c, hc, hcn⟩ := quote_of s a0 ha
  have HC := Lib.hid hc
  have HCN := Lib.hid hcn
  have HQ := Lib.hid hq
  clear hc hcn hq
  have HS0 := Lib.hid hS0
  clear hS0
  have hA : At w0 w ((w.alloc (.cells tok0 45)).alloc (.cells (tok ⟨#[]⟩ ⟨#[]⟩ false) 45)) g s a0 b2 b3 0 ⟨#[]⟩ ⟨#[]⟩ false := by
    refine ⟨(HS0.out.alloc _).alloc _, ?_, ?_, HS0.out.1.lt⟩
    · have := heap_alloc_new (w.alloc (.cells tok0 45)) (.cells (tok ⟨#[]⟩ ⟨#[]⟩ false) 45)
      rwa [show (w.alloc (.cells tok0 45)).heap.size = w.heap.size + 1 by simp] at this
    · rw [Below.heap_alloc _ _ _ (by simp)]
      exact heap_alloc_new w _
  have HSA := Lib.hid hA
  clear hA HS0
  have c0 := HSA.out.sc.c0
  have c1 := HSA.out.sc.c1
  have f1 := HSA.out.sc.fz 1
  unfold tok tok0 at c0 c1 f1
  go_enter Try.func23, Try.ntmps23
  go_wp2_with (fail)
  go_quiet (fail)
  have h1 := HSA.out.drew nq
  clear c0 c1 f1
  unfold tok tok0 at h1
  generalize World.drewN _ nq = W1 at h1 ⊢
  have H1 := Lib.hid h1
  clear h1 HSA
  rw [HC.out]
  have c0 := H1.out.sc.c0
  have c1 := H1.out.sc.c1
  have f1 := H1.out.sc.fz 1
  have h2 := H1.out.set1 (a0 + 1)
  have ec : ((a0 + 1 : Nat) : Int) = (a0 : Int) + 1 := by omega
  rw [ec] at h2
  clear ec
  have c1' := h2.sc.c1
  rw [show ((a0 + 1 : Nat) : Int) = (a0 : Int) + 1 by omega] at c1'
  go_wp2_with (fail)
  generalize W1.setCell ⟨g, 1, none⟩ (.int .i64 ((a0 : Int) + 1)) = W2 at h2 c1' ⊢
  have H2 := Lib.hid h2
  clear h2 H1 c0 c1 f1 c1'
  go_loopw [] (fun wr => ∃ (a : Nat) (txt : ByteArray) (old : Bool), a0 < a ∧ a ≤ s.size ∧ Hid (txt.size ≤ 4 * a) ∧ Hid (Reach s (nb s a0) (a0 + 1) a) ∧ Hid (At w0 w wr g s a b2 b3 0 txt ⟨#[]⟩ old)) (fun wr => s.size - posOf g wr)
  case atStart => exact ⟨a0 + 1, ⟨#[]⟩, false, by omega, by omega, Lib.hid (by show 0 ≤ _; omega), Lib.hid (.refl _), H2⟩
  case round =>
    clear H2
    obtain ⟨a, txt, old, haa, has, HX, HR, HA⟩ := hrel
    have aai : (0 : Int) ≤ a := by omega
    by_cases hin : a < s.size
    · have hin' : (a : Int) < s.size := by omega
      have c0 := HA.out.sc.c0
      have c1 := HA.out.sc.c1
      have his := fun n => isC g s ⟨#[c]⟩ a (wr.drewN n) hs has (show 1 ≤ 10 by decide) c0 c1
      simp only [isb_one] at his
      by_cases hqa : nb s a = c.toNat
      · simp only [decide_eq_true (show a < s.size ∧ nb s a = c.toNat from ⟨hin, hqa⟩)] at his
        have HI := Lib.hid his
        clear his
        go_wp2_with (fail)
        go_quiet (first | (go_at_call 13; refine Calls.quiet_of (HI.out _)))
        have hx := HA.out.drew nq
        generalize wr.drewN nq = W3 at hx ⊢
        clear HA c0 c1 HI
        have HA := Lib.hid hx
        clear hx
        have c0 := HA.out.sc.c0
        have c1 := HA.out.sc.c1
        have hbr : a < s.size ∧ nb s a = c.toNat := ⟨hin, hqa⟩
        have his := isC g s ⟨#[c]⟩ a W3 hs has (show 1 ≤ 10 by decide) c0 c1
        rw [isb_one, decide_eq_true hbr] at his
        clear hqa hin'
        have HIS := Lib.hid his
        have HBR := Lib.hid hbr
        clear his hbr
        go_wp2_with (fail)
        refine (HIS.out).mono ?_
        rintro e w1 ⟨rfl, n1, rfl⟩
        have hx := HA.out.drew n1
        generalize W3.drewN n1 = W7 at hx ⊢
        have HA1 := Lib.hid hx
        clear HIS HA c0 c1 hx
        have c0 := HA1.out.sc.c0
        have c1 := HA1.out.sc.c1
        have f1 := HA1.out.sc.fz 1
        have t2 := HA1.out.tcell 2
        have tz2 := HA1.out.tfz 2
        simp only [tok] at t2
        have la : (a0 : Int) + 1 ≤ a := by omega
        have lb : (a : Int) ≤ s.size := by omega
        have lc : (0 : Int) ≤ (a0 : Int) + 1 := by omega
        go_wp2_with (fail)
        go_region
        have hx := HA1.out.tk2 (s.extract (a0 + 1) a)
        have hx2 := hx.drew 1
        have ew : ((W7.setCell ⟨w.heap.size + 1, 2, none⟩ (.string (s.extract (a0 + 1) a))).drewN 1) = (W7.setCell ⟨w.heap.size + 1, 2, none⟩ (.string (s.extract (a0 + 1) a))).drew := rfl
        rw [ew] at hx2
        generalize (W7.setCell ⟨w.heap.size + 1, 2, none⟩ (.string (s.extract (a0 + 1) a))).drew = W8 at hx2 ⊢
        have HA2 := Lib.hid (hx2.set1 (a + 1))
        have ec : ((a + 1 : Nat) : Int) = (a : Int) + 1 := by omega
        rw [ec] at HA2
        have c1 := hx2.sc.c1
        have f1 := hx2.sc.fz 1
        clear ew hx hx2 HA1 ec c0 t2 tz2
        have c1' := HA2.out.sc.c1
        rw [show ((a + 1 : Nat) : Int) = (a : Int) + 1 by omega] at c1'
        clear c1'
        have e5 : ((a : Int) + 1) ≤ 4097 := by omega
        clear la lb lc
        have t0 := HA2.out.tcell 0
        have t1 := HA2.out.tcell 1
        have t2 := HA2.out.tcell 2
        have t3 := HA2.out.tcell 3
        have t4 := HA2.out.tcell 4
        have t5 := HA2.out.tcell 5
        have t6 := HA2.out.tcell 6
        have t7 := HA2.out.tcell 7
        have t8 := HA2.out.tcell 8
        simp only [tok] at t0 t1 t2 t3 t4 t5 t6 t7 t8
        go_wp2_with (refine wpList_store_row (o := ⟨none, .store 45 (.tmp 2) (.tmp 131), _, _, _, _⟩) rfl 45 (.tmp 2) (.tmp 131) rfl w.heap.size (tok txt (s.extract (a0 + 1) a) old) rfl rfl 45 tok0 HA2.out.rs ?hi ?hold ?ho ?_)
        case hi => rw [info45]; rfl
        case hold => rfl
        case ho => exact tok_one _ _ _
        exact bodyPost_ret (results_cell_row rfl _ _ w.heap.size 45 _ (0, 0) _ rfl HA2.out.done.1 Try.underlying45 rfl (by rw [info45]; rfl)) rfl ⟨txt, s.extract (a0 + 1) a, old, a + 1, 0, rfl, .inl rfl, (fun _ => ⟨by omega, by have := HBR.out.1; omega, by rw [Nat.add_sub_cancel, HBR.out.2]; exact HCN.out, by rw [Nat.add_sub_cancel]; exact HR.out⟩), HA2.out.done.2⟩
      · simp only [decide_eq_false (show ¬ (a < s.size ∧ nb s a = c.toNat) from fun h => hqa h.2)] at his
        have HI := Lib.hid his
        have HNQ := Lib.hid (show nb s a ≠ nb s a0 by rw [← HCN.out]; exact hqa)
        clear his hqa
        obtain ⟨r, n, hrn, hR⟩ := rune_in s a hs hin
        have HRU := Lib.hid hR
        have HRN := Lib.hid hrn
        clear hR hrn
        have r0i : (0 : Int) ≤ r := by omega
        by_cases hnz : n = 0
        · subst hnz
          clear HRN
          go_wp2_with (fail)
          go_quiet (first | (go_at_call 13; refine Calls.quiet_of (HI.out _)))
          have hx := HA.out.drew nq
          generalize wr.drewN nq = W3 at hx ⊢
          clear HA c0 c1 HI
          have HA := Lib.hid hx
          clear hx
          have c0 := HA.out.sc.c0
          have c1 := HA.out.sc.c1
          have HRU2 := Lib.hid (HRU.out g W3 c0 c1)
          go_wp2_with (fail)
          refine (HRU2.out).mono ?_
          rintro e w1 ⟨rfl, n1, rfl⟩
          have hx := HA.out.drew n1
          generalize W3.drewN n1 = W5 at hx ⊢
          clear HA c0 c1 HRU2
          have HA := Lib.hid hx
          clear hx
          have c0 := HA.out.sc.c0
          have c1 := HA.out.sc.c1
          have his := isC g s ⟨#[c]⟩ a W5 hs has (show 1 ≤ 10 by decide) c0 c1
          rw [isb_one, decide_eq_false (show ¬ (a < s.size ∧ nb s a = c.toNat) from fun h => HNQ.out (by rw [← HCN.out]; exact h.2))] at his
          have HIS := Lib.hid his
          clear his
          go_wp2_with (fail)
          refine (HIS.out).mono ?_
          rintro e w1 ⟨rfl, n1, rfl⟩
          have hx := HA.out.drew n1
          generalize W5.drewN n1 = W7 at hx ⊢
          have HA1 := Lib.hid hx
          clear HIS HA c0 c1 hx
          go_wp2_with (fail)
          refine (failC w0 _ _ g s a b2 b3 1 HA1.out.sc.again).mono ?_
          rintro e w2 ⟨rfl, k2⟩
          have HA2 := Lib.hid (HA1.out.step k2)
          clear k2 HA1

          have t0 := HA2.out.tcell 0
          have t1 := HA2.out.tcell 1
          have t2 := HA2.out.tcell 2
          have t3 := HA2.out.tcell 3
          have t4 := HA2.out.tcell 4
          have t5 := HA2.out.tcell 5
          have t6 := HA2.out.tcell 6
          have t7 := HA2.out.tcell 7
          have t8 := HA2.out.tcell 8
          simp only [tok] at t0 t1 t2 t3 t4 t5 t6 t7 t8
          go_wp2_with (refine wpList_store_row (o := ⟨none, .store 45 (.tmp 2) (.tmp 112), _, _, _, _⟩) rfl 45 (.tmp 2) (.tmp 112) rfl w.heap.size (tok txt ⟨#[]⟩ old) rfl rfl 45 tok0 HA2.out.rs ?hi ?hold ?ho ?_)
          case hi => rw [info45]; rfl
          case hold => rfl
          case ho => exact tok_one _ _ _
          exact bodyPost_ret (results_cell_row rfl _ _ w.heap.size 45 _ (0, 0) _ rfl HA2.out.done.1 Try.underlying45 rfl (by rw [info45]; rfl)) rfl ⟨txt, ⟨#[]⟩, old, a, 1, rfl, .inr rfl, (fun h => by cases h), HA2.out.done.2⟩
        · have n1i : (1 : Int) ≤ n := by omega
          have hn0 : ((n : Int) == 0) = false := by simpa using hnz
          by_cases hcr : r = 10 ∨ r = 13
          · rcases hcr with rfl | rfl
            · clear HRN
              go_wp2_with (fail)
              go_quiet (first | (go_at_call 13; refine Calls.quiet_of (HI.out _)))
              have hx := HA.out.drew nq
              generalize wr.drewN nq = W3 at hx ⊢
              clear HA c0 c1 HI
              have HA := Lib.hid hx
              clear hx
              have c0 := HA.out.sc.c0
              have c1 := HA.out.sc.c1
              have HRU2 := Lib.hid (HRU.out g W3 c0 c1)
              go_wp2_with (fail)
              refine (HRU2.out).mono ?_
              rintro e w1 ⟨rfl, n1, rfl⟩
              have hx := HA.out.drew n1
              generalize W3.drewN n1 = W5 at hx ⊢
              clear HA c0 c1 HRU2
              have HA := Lib.hid hx
              clear hx
              have c0 := HA.out.sc.c0
              have c1 := HA.out.sc.c1
              have his := isC g s ⟨#[c]⟩ a W5 hs has (show 1 ≤ 10 by decide) c0 c1
              rw [isb_one, decide_eq_false (show ¬ (a < s.size ∧ nb s a = c.toNat) from fun h => HNQ.out (by rw [← HCN.out]; exact h.2))] at his
              have HIS := Lib.hid his
              clear his
              go_wp2_with (fail)
              refine (HIS.out).mono ?_
              rintro e w1 ⟨rfl, n1, rfl⟩
              have hx := HA.out.drew n1
              generalize W5.drewN n1 = W7 at hx ⊢
              have HA1 := Lib.hid hx
              clear HIS HA c0 c1 hx
              go_wp2_with (fail)
              refine (failC w0 _ _ g s a b2 b3 1 HA1.out.sc.again).mono ?_
              rintro e w2 ⟨rfl, k2⟩
              have HA2 := Lib.hid (HA1.out.step k2)
              clear k2 HA1

              have t0 := HA2.out.tcell 0
              have t1 := HA2.out.tcell 1
              have t2 := HA2.out.tcell 2
              have t3 := HA2.out.tcell 3
              have t4 := HA2.out.tcell 4
              have t5 := HA2.out.tcell 5
              have t6 := HA2.out.tcell 6
              have t7 := HA2.out.tcell 7
              have t8 := HA2.out.tcell 8
              simp only [tok] at t0 t1 t2 t3 t4 t5 t6 t7 t8
              go_wp2_with (refine wpList_store_row (o := ⟨none, .store 45 (.tmp 2) (.tmp 112), _, _, _, _⟩) rfl 45 (.tmp 2) (.tmp 112) rfl w.heap.size (tok txt ⟨#[]⟩ old) rfl rfl 45 tok0 HA2.out.rs ?hi ?hold ?ho ?_)
              case hi => rw [info45]; rfl
              case hold => rfl
              case ho => exact tok_one _ _ _
              exact bodyPost_ret (results_cell_row rfl _ _ w.heap.size 45 _ (0, 0) _ rfl HA2.out.done.1 Try.underlying45 rfl (by rw [info45]; rfl)) rfl ⟨txt, ⟨#[]⟩, old, a, 1, rfl, .inr rfl, (fun h => by cases h), HA2.out.done.2⟩
            · clear HRN
              go_wp2_with (fail)
              go_quiet (first | (go_at_call 13; refine Calls.quiet_of (HI.out _)))
              have hx := HA.out.drew nq
              generalize wr.drewN nq = W3 at hx ⊢
              clear HA c0 c1 HI
              have HA := Lib.hid hx
              clear hx
              have c0 := HA.out.sc.c0
              have c1 := HA.out.sc.c1
              have HRU2 := Lib.hid (HRU.out g W3 c0 c1)
              go_wp2_with (fail)
              refine (HRU2.out).mono ?_
              rintro e w1 ⟨rfl, n1, rfl⟩
              have hx := HA.out.drew n1
              generalize W3.drewN n1 = W5 at hx ⊢
              clear HA c0 c1 HRU2
              have HA := Lib.hid hx
              clear hx
              have c0 := HA.out.sc.c0
              have c1 := HA.out.sc.c1
              have his := isC g s ⟨#[c]⟩ a W5 hs has (show 1 ≤ 10 by decide) c0 c1
              rw [isb_one, decide_eq_false (show ¬ (a < s.size ∧ nb s a = c.toNat) from fun h => HNQ.out (by rw [← HCN.out]; exact h.2))] at his
              have HIS := Lib.hid his
              clear his
              go_wp2_with (fail)
              refine (HIS.out).mono ?_
              rintro e w1 ⟨rfl, n1, rfl⟩
              have hx := HA.out.drew n1
              generalize W5.drewN n1 = W7 at hx ⊢
              have HA1 := Lib.hid hx
              clear HIS HA c0 c1 hx
              go_wp2_with (fail)
              refine (failC w0 _ _ g s a b2 b3 1 HA1.out.sc.again).mono ?_
              rintro e w2 ⟨rfl, k2⟩
              have HA2 := Lib.hid (HA1.out.step k2)
              clear k2 HA1

              have t0 := HA2.out.tcell 0
              have t1 := HA2.out.tcell 1
              have t2 := HA2.out.tcell 2
              have t3 := HA2.out.tcell 3
              have t4 := HA2.out.tcell 4
              have t5 := HA2.out.tcell 5
              have t6 := HA2.out.tcell 6
              have t7 := HA2.out.tcell 7
              have t8 := HA2.out.tcell 8
              simp only [tok] at t0 t1 t2 t3 t4 t5 t6 t7 t8
              go_wp2_with (refine wpList_store_row (o := ⟨none, .store 45 (.tmp 2) (.tmp 112), _, _, _, _⟩) rfl 45 (.tmp 2) (.tmp 112) rfl w.heap.size (tok txt ⟨#[]⟩ old) rfl rfl 45 tok0 HA2.out.rs ?hi ?hold ?ho ?_)
              case hi => rw [info45]; rfl
              case hold => rfl
              case ho => exact tok_one _ _ _
              exact bodyPost_ret (results_cell_row rfl _ _ w.heap.size 45 _ (0, 0) _ rfl HA2.out.done.1 Try.underlying45 rfl (by rw [info45]; rfl)) rfl ⟨txt, ⟨#[]⟩, old, a, 1, rfl, .inr rfl, (fun h => by cases h), HA2.out.done.2⟩
          · have f10 : ((r : Int) == 10) = false := by simpa using (show ¬ (r : Int) = 10 by omega)
            have f13 : ((r : Int) == 13) = false := by simpa using (show ¬ (r : Int) = 13 by omega)
            have hfit : 1 ≤ n ∧ n ≤ 4 ∧ a + n ≤ s.size := by
              rcases HRN.out with h | ⟨h1, h2, h3, _⟩
              · exact absurd h hnz
              · exact ⟨h1, h2, h3⟩
            obtain ⟨n1, n4, nfit⟩ := hfit
            have n4i : (n : Int) ≤ 4 := by omega
            have HSUM := Lib.hid (show (a : Int) + n = ((a + n : Nat) : Int) by omega)
            clear hcr
            by_cases h92 : r = 92
            · subst h92
              obtain ⟨hb92, rfl⟩ := rune_92 HRN.out hnz
              have HB92 := Lib.hid hb92
              clear hb92 hnz HRN n1i hn0 n1 n4 n4i HSUM
              go_wp2_with (fail)
              go_quiet (first | (go_at_call 13; refine Calls.quiet_of (HI.out _)))
              have hx := HA.out.drew nq
              generalize wr.drewN nq = W3 at hx ⊢
              have HM0 := Lib.hid (posOf_eq HA.out.sc)
              clear HA c0 c1 HI
              have HA := Lib.hid hx
              clear hx
              have c0 := HA.out.sc.c0
              have c1 := HA.out.sc.c1
              have HRU2 := Lib.hid (HRU.out g W3 c0 c1)
              go_wp2_with (fail)
              refine (HRU2.out).mono ?_
              rintro e w1 ⟨rfl, m1, rfl⟩
              have hx := HA.out.drew m1
              generalize W3.drewN m1 = W5 at hx ⊢
              clear HA c0 c1 HRU2 HRU
              have HA := Lib.hid hx
              clear hx
              have c0 := HA.out.sc.c0
              have c1 := HA.out.sc.c1
              have f1 := HA.out.sc.fz 1
              have h2 := HA.out.set1 (a + 1)
              rw [show ((a + 1 : Nat) : Int) = (a : Int) + 1 by omega] at h2
              go_wp2_with (fail)
              generalize W5.setCell ⟨g, 1, none⟩ (.int .i64 ((a : Int) + 1)) = W6 at h2 ⊢
              have H2 := Lib.hid h2
              clear h2 HA c0 c1 f1
              refine (escape w0 W6 g s (a + 1) b2 b3 0 hs (by omega) H2.out.sc.1 H2.out.sc.2.1).mono ?_
              rintro e w2 ⟨u, old2, is, a', rfl, hu, ha', hcalm, k2⟩
              have hx := H2.out.step k2
              clear k2 H2
              cases is
              · have HA := Lib.hid hx
                clear hx hcalm
                go_wp2_with (fail)
                refine (failC w0 _ _ g s a' b2 b3 1 HA.out.sc.again).mono ?_
                rintro e w4 ⟨rfl, k4⟩
                have HA2 := Lib.hid (HA.out.step k4)
                clear k4 HA
                have t0 := HA2.out.tcell 0
                have t1 := HA2.out.tcell 1
                have t2 := HA2.out.tcell 2
                have t3 := HA2.out.tcell 3
                have t4 := HA2.out.tcell 4
                have t5 := HA2.out.tcell 5
                have t6 := HA2.out.tcell 6
                have t7 := HA2.out.tcell 7
                have t8 := HA2.out.tcell 8
                simp only [tok] at t0 t1 t2 t3 t4 t5 t6 t7 t8
                go_wp2_with (refine wpList_store_row (o := ⟨none, .store 45 (.tmp 2) (.tmp 94), _, _, _, _⟩) rfl 45 (.tmp 2) (.tmp 94) rfl w.heap.size (tok txt ⟨#[]⟩ old) rfl rfl 45 tok0 HA2.out.rs ?hi ?hold ?ho ?_)
                case hi => rw [info45]; rfl
                case hold => rfl
                case ho => exact tok_one _ _ _
                exact bodyPost_ret (results_cell_row rfl _ _ w.heap.size 45 _ (0, 0) _ rfl HA2.out.done.1 Try.underlying45 rfl (by rw [info45]; rfl)) rfl ⟨txt, ⟨#[]⟩, old, a', 1, rfl, .inr rfl, (fun h => by cases h), HA2.out.done.2⟩
              · obtain ⟨hlt, hcm⟩ := hcalm rfl
                have HCM := Lib.hid hcm
                have HA := Lib.hid hx
                clear hx hcalm hcm
                have t1 := HA.out.tcell 1
                have t8 := HA.out.tcell 8
                have tz1 := HA.out.tfz 1
                have tz8 := HA.out.tfz 8
                simp only [tok] at t1 t8
                have hsz : txt.size + u.size ≤ 9223372036854775807 := by have := HX.out; omega
                have hszi : ((txt.size : Int) + (u.size : Int)) ≤ 9223372036854775807 := by omega
                have hA3 := (HA.out.tk1 (txt ++ u)).tk8 (old || old2)
                have HA3 := Lib.hid hA3
                clear hA3
                have HRE := Lib.hid (reach_esc HQ.out HR.out hin HNQ.out HB92.out hlt HCM.out ha')
                cases old
                · go_wp2_with (fail)
                  go_roundw
                  case rel => exact ⟨a', txt ++ u, old2, by omega, ha', Lib.hid (by rw [ByteArray.size_append]; have := HX.out; omega), Lib.hid HRE.out, Lib.hid HA3.out⟩
                  case measure =>
                    have e := posOf_eq HA3.out.sc
                    simp only [Bool.false_or] at e
                    rw [e, HM0.out]
                    omega
                · go_wp2_with (fail)
                  go_roundw
                  case rel => exact ⟨a', txt ++ u, true, by omega, ha', Lib.hid (by rw [ByteArray.size_append]; have := HX.out; omega), Lib.hid HRE.out, Lib.hid HA3.out⟩
                  case measure =>
                    have e := posOf_eq HA3.out.sc
                    simp only [Bool.true_or] at e
                    rw [e, HM0.out]
                    omega
            · have f92 : ((r : Int) == 92) = false := by simpa using (show ¬ (r : Int) = 92 by omega)
              have f92' : ((r : Int) != 92) = true := by simpa using (show ¬ (r : Int) = 92 by omega)
              have HRC := Lib.hid (fun h => reach_char HQ.out HR.out hin HNQ.out HRN.out hnz h)
              clear hnz HRN
              obtain ⟨u, hu, hU⟩ := unitsC (r : Int)
              have HU := Lib.hid hU
              clear hU
              go_wp2_with (fail)
              go_quiet (first | (go_at_call 13; refine Calls.quiet_of (HI.out _)))
              have hx := HA.out.drew nq
              generalize wr.drewN nq = W3 at hx ⊢
              have HM0 := Lib.hid (posOf_eq HA.out.sc)
              clear HA c0 c1 HI
              have HA := Lib.hid hx
              clear hx
              have c0 := HA.out.sc.c0
              have c1 := HA.out.sc.c1
              have HRU2 := Lib.hid (HRU.out g W3 c0 c1)
              go_wp2_with (fail)
              refine (HRU2.out).mono ?_
              rintro e w1 ⟨rfl, m1, rfl⟩
              have hx := HA.out.drew m1
              generalize W3.drewN m1 = W5 at hx ⊢
              clear HA c0 c1 HRU2 HRU
              have HA := Lib.hid hx
              clear hx
              have c0 := HA.out.sc.c0
              have c1 := HA.out.sc.c1
              have f1 := HA.out.sc.fz 1
              have h2 := HA.out.set1 (a + n)
              rw [← HSUM.out] at h2
              go_wp2_with (fail)
              generalize W5.setCell ⟨g, 1, none⟩ (.int .i64 ((a : Int) + n)) = W6 at h2 ⊢
              have H2 := Lib.hid h2
              clear h2 HA c0 c1 f1
              have t1 := H2.out.tcell 1
              have tz1 := H2.out.tfz 1
              simp only [tok] at t1
              have hsz : txt.size + u.size ≤ 9223372036854775807 := by have := HX.out; omega
              have hszi : ((txt.size : Int) + (u.size : Int)) ≤ 9223372036854775807 := by omega
              have HD := Lib.hid (show At w0 w W6.drew g s (a + n) b2 b3 0 txt ⟨#[]⟩ old from H2.out.drew 1)
              go_region_with (go_at_call 38; refine (HU.out _).mono ?_; rintro e w5 ⟨rfl, hb5⟩; have hx5 := HD.out.below hb5; have t1 := hx5.tcell 1; have tz1 := hx5.tfz 1; simp only [tok] at t1; have H5 := Lib.hid hx5; clear hb5 hx5)
              all_goals
                have HA3 := Lib.hid (H5.out.tk1 (txt ++ u))
                clear H5 t1 tz1
                go_wp2_with (fail)
                go_roundw
                case rel => exact ⟨a + n, txt ++ u, old, by omega, nfit, Lib.hid (by rw [ByteArray.size_append]; have := HX.out; omega), Lib.hid (HRC.out (by intro h; subst h; simp at f92)), Lib.hid HA3.out⟩
                case measure =>
                  rw [posOf_eq HA3.out.sc, HM0.out]
                  omega
    · have hin' : ¬ (a : Int) < s.size := by omega
      have hin2 : decide ((a : Int) < s.size) = false := decide_eq_false hin'
      have c0 := HA.out.sc.c0
      have c1 := HA.out.sc.c1
      go_wp2_with (fail)
      go_quiet (fail)
      have hx := HA.out.drew nq
      generalize wr.drewN nq = W3 at hx ⊢
      clear HA c0 c1
      have HA := Lib.hid hx
      clear hx
      have c0 := HA.out.sc.c0
      have c1 := HA.out.sc.c1
      have his := isC g s ⟨#[c]⟩ a W3 hs has (show 1 ≤ 10 by decide) c0 c1
      rw [isb_one] at his
      by_cases hbr : a < s.size ∧ nb s a = c.toNat
      · rw [decide_eq_true hbr] at his
        have HIS := Lib.hid his
        have HBR := Lib.hid hbr
        clear his hbr
        go_wp2_with (fail)
        refine (HIS.out).mono ?_
        rintro e w1 ⟨rfl, n1, rfl⟩
        have hx := HA.out.drew n1
        generalize W3.drewN n1 = W7 at hx ⊢
        have HA1 := Lib.hid hx
        clear HIS HA c0 c1 hx
        have c0 := HA1.out.sc.c0
        have c1 := HA1.out.sc.c1
        have f1 := HA1.out.sc.fz 1
        have t2 := HA1.out.tcell 2
        have tz2 := HA1.out.tfz 2
        simp only [tok] at t2
        have la : (a0 : Int) + 1 ≤ a := by omega
        have lb : (a : Int) ≤ s.size := by omega
        have lc : (0 : Int) ≤ (a0 : Int) + 1 := by omega
        go_wp2_with (fail)
        go_region
        have hx := HA1.out.tk2 (s.extract (a0 + 1) a)
        have hx2 := hx.drew 1
        have ew : ((W7.setCell ⟨w.heap.size + 1, 2, none⟩ (.string (s.extract (a0 + 1) a))).drewN 1) = (W7.setCell ⟨w.heap.size + 1, 2, none⟩ (.string (s.extract (a0 + 1) a))).drew := rfl
        rw [ew] at hx2
        generalize (W7.setCell ⟨w.heap.size + 1, 2, none⟩ (.string (s.extract (a0 + 1) a))).drew = W8 at hx2 ⊢
        have HA2 := Lib.hid (hx2.set1 (a + 1))
        have ec : ((a + 1 : Nat) : Int) = (a : Int) + 1 := by omega
        rw [ec] at HA2
        have c1 := hx2.sc.c1
        have f1 := hx2.sc.fz 1
        clear ew hx hx2 HA1 ec c0 t2 tz2
        have c1' := HA2.out.sc.c1
        rw [show ((a + 1 : Nat) : Int) = (a : Int) + 1 by omega] at c1'
        clear c1'
        have e5 : ((a : Int) + 1) ≤ 4097 := by omega
        clear la lb lc
        have t0 := HA2.out.tcell 0
        have t1 := HA2.out.tcell 1
        have t2 := HA2.out.tcell 2
        have t3 := HA2.out.tcell 3
        have t4 := HA2.out.tcell 4
        have t5 := HA2.out.tcell 5
        have t6 := HA2.out.tcell 6
        have t7 := HA2.out.tcell 7
        have t8 := HA2.out.tcell 8
        simp only [tok] at t0 t1 t2 t3 t4 t5 t6 t7 t8
        go_wp2_with (refine wpList_store_row (o := ⟨none, .store 45 (.tmp 2) (.tmp 131), _, _, _, _⟩) rfl 45 (.tmp 2) (.tmp 131) rfl w.heap.size (tok txt (s.extract (a0 + 1) a) old) rfl rfl 45 tok0 HA2.out.rs ?hi ?hold ?ho ?_)
        case hi => rw [info45]; rfl
        case hold => rfl
        case ho => exact tok_one _ _ _
        exact bodyPost_ret (results_cell_row rfl _ _ w.heap.size 45 _ (0, 0) _ rfl HA2.out.done.1 Try.underlying45 rfl (by rw [info45]; rfl)) rfl ⟨txt, s.extract (a0 + 1) a, old, a + 1, 0, rfl, .inl rfl, (fun _ => ⟨by omega, by have := HBR.out.1; omega, by rw [Nat.add_sub_cancel, HBR.out.2]; exact HCN.out, by rw [Nat.add_sub_cancel]; exact HR.out⟩), HA2.out.done.2⟩
      · rw [decide_eq_false hbr] at his
        clear hbr
        have HIS := Lib.hid his
        clear his
        go_wp2_with (fail)
        refine (HIS.out).mono ?_
        rintro e w1 ⟨rfl, n1, rfl⟩
        have hx := HA.out.drew n1
        generalize W3.drewN n1 = W7 at hx ⊢
        have HA1 := Lib.hid hx
        clear HIS HA c0 c1 hx
        go_wp2_with (fail)
        refine (failC w0 _ _ g s a b2 b3 1 HA1.out.sc.again).mono ?_
        rintro e w2 ⟨rfl, k2⟩
        have HA2 := Lib.hid (HA1.out.step k2)
        clear k2 HA1

        have t0 := HA2.out.tcell 0
        have t1 := HA2.out.tcell 1
        have t2 := HA2.out.tcell 2
        have t3 := HA2.out.tcell 3
        have t4 := HA2.out.tcell 4
        have t5 := HA2.out.tcell 5
        have t6 := HA2.out.tcell 6
        have t7 := HA2.out.tcell 7
        have t8 := HA2.out.tcell 8
        simp only [tok] at t0 t1 t2 t3 t4 t5 t6 t7 t8
        go_wp2_with (refine wpList_store_row (o := ⟨none, .store 45 (.tmp 2) (.tmp 112), _, _, _, _⟩) rfl 45 (.tmp 2) (.tmp 112) rfl w.heap.size (tok txt ⟨#[]⟩ old) rfl rfl 45 tok0 HA2.out.rs ?hi ?hold ?ho ?_)
        case hi => rw [info45]; rfl
        case hold => rfl
        case ho => exact tok_one _ _ _
        exact bodyPost_ret (results_cell_row rfl _ _ w.heap.size 45 _ (0, 0) _ rfl HA2.out.done.1 Try.underlying45 rfl (by rw [info45]; rfl)) rfl ⟨txt, ⟨#[]⟩, old, a, 1, rfl, .inr rfl, (fun h => by cases h), HA2.out.done.2⟩
end Go.Proofs.Ytnciphcnkbcncaa.fnRangeOfString
