/-
  FnExportNames: the walks of the scanner's token and of spec.Next over a word of ASCII.
  Conditions: a word.
-/
import Derived.Test.YtgflhmihmdflcaaDoorFnExportNamesName
import Derived.RegionTactic
import Derived.Laws.CopyOwn
namespace Go.Proofs.YtgflhmihmdflcaaDoor.fnExportNames
open Go.RowKit Go.Proofs.YtgflhmihmdflcaaDoorW.PrintWords Go.Proofs.YtgflhmihmdflcaaDoorW.PrintLast Go.Proofs.YtgflhmihmdflcaaDoorW.PrintMore Go.Proofs.YtgflhmihmdflcaaDoor.PFnExportNames
set_option linter.unusedVariables false
set_option linter.unusedSimpArgs false

/-- a token's cells -/
def tok (k : Int) (txt : ByteArray) (f t : Int) : Array Value := #[.int .i64 k, .string txt, .string ⟨#[]⟩, .int .u64 0, .int .i64 f, .int .i64 t, .bool false, .bool false, .bool false]
theorem tok_one (k : Int) (txt : ByteArray) (f t : Int) : (tok k txt f t).all (·.oneCell') = true := by simp [tok, Value.oneCell']
theorem info42 : (Tryd.prog.info? 42).map (·.size) = some 9 := by kernel_rfl
theorem row_done {w0 w W : World} {g : Nat} {s : ByteArray} {a : Nat} {b2 b3 : Bool} {b4 : Int} {cs cs0 : Array Value} (h : Sc w0 w W g s a b2 b3 b4) (hl : g < w.heap.size) (hr : W.heap[w.heap.size]? = some (.cells cs0 42 (0, 0))) :
    (W.setRow w.heap.size cs).heap[w.heap.size]? = some (.cells cs 42 (0, 0)) ∧ Sc w0 w (W.setRow w.heap.size cs) g s a b2 b3 b4 := by
  have hg := h.1.ge
  refine ⟨setRow_heap W w.heap.size _ _ 42 (0, 0) hr, ⟨(setRow_other W w.heap.size g _ (by omega)).trans h.1.1, hg⟩, below_setRow h.2.1 (by omega) _, ?_, fun i hi hn hr => ?_⟩
  · simpa [World.setRow] using h.2.2.1
  · exact (setRow_other W w.heap.size i _ (by omega)).trans (h.2.2.2 i hi hn hr)
theorem letter_not {b : Nat} (h : letter b = true) : (((b : Int) == 34) = false ∧ ((b : Int) == 39) = false ∧ ((b : Int) == 96) = false ∧ ((b : Int) == 47) = false ∧ ((b : Int) == 35) = false) ∧ b ≠ 46 := by
  simp only [letter, decide_eq_true_eq] at h
  have : ∀ c : Int, (b : Int) ≠ c → ((b : Int) == c) = false := fun c hc => by simpa using hc
  exact ⟨⟨this _ (by omega), this _ (by omega), this _ (by omega), this _ (by omega), this _ (by omega)⟩, by omega⟩
set_option maxHeartbeats 16000000 in
set_option maxRecDepth 100000 in
theorem token (w0 w : World) (g : Nat) (s : ByteArray) (hW : Wd s) (hI : IsS54 w0 w g s 0 false false 0) (hB : Below w0.heap.size w0 w) :
    Calls Tryd.prog 20 #[.pointer (some ⟨g, 0, none⟩), .int .i64 0] w fun e w' => e = .returned (.agg (tok 3 s 0 0)) ∧ Sc w0 w w' g s s.size false false 0 := by
  have hlt : g < w.heap.size := hI.lt
  have HLT := Lib.hid hlt
  have hS0 := (Sc.start hI hB).alloc (.cells (tok 0 ⟨#[]⟩ 0 0) 42)
  have hrs : (w.alloc (.cells (tok 0 ⟨#[]⟩ 0 0) 42)).heap[w.heap.size]? = some (.cells (tok 0 ⟨#[]⟩ 0 0) 42 (0, 0)) := heap_alloc_new w _
  clear hI hB hlt
  have hs := hW.len
  have ha := hW.pos
  have s1 : (s.size : Int) ≤ 4096 := by omega
  have a1i : (0 : Int) < s.size := by omega
  have hR := low_rune s 0 ha (part_low (hW.all 0 ha))
  obtain ⟨⟨n34, n39, n96, n47, n35⟩, n46⟩ := letter_not hW.first
  have hdot : isb s 0 ⟨#[46]⟩ = false := isb_other s _ 0 (by decide) (by rw [show nb ⟨#[46]⟩ 0 = 46 from by decide]; exact n46) ha
  have HDOT := Lib.hid hdot
  have hD := digitC hW.first
  have hne : (s.toList == ([] : List UInt8)) = false := by
    have := pre_empty s s.size (Nat.le_refl _)
    rw [pre_all, decide_eq_false (by omega)] at this
    exact this
  generalize ((nb s 0 : Nat) : Int) = q at hR hD n34 n39 n96 n47 n35
  have HR := Lib.hid hR
  have HD := Lib.hid hD
  clear hR hdot hD
  unfold tok at hS0 hrs
  have HS0 := Lib.hid hS0
  have HRS := Lib.hid hrs
  clear hS0 hrs
  have c0 := HS0.out.c0
  have c1 := HS0.out.c1
  go_enter Tryd.func20, Tryd.ntmps20
  go_wp2_with (fail)
  refine (HR.out g _ c0 c1).mono ?_
  rintro e w1 ⟨rfl, n1, rfl⟩
  have hx := HS0.out.drew n1
  have hr := HRS.out
  have hr2 : ((w.alloc (.cells #[.int .i64 0, .string ⟨#[]⟩, .string ⟨#[]⟩, .int .u64 0, .int .i64 0, .int .i64 0, .bool false, .bool false, .bool false] 42)).drewN n1).heap[w.heap.size]? = _ := hr
  clear c0 c1 HS0 hr HRS
  generalize (w.alloc (.cells #[.int .i64 0, .string ⟨#[]⟩, .string ⟨#[]⟩, .int .u64 0, .int .i64 0, .int .i64 0, .bool false, .bool false, .bool false] 42)).drewN n1 = W1 at hx hr2 ⊢
  have HS1 := Lib.hid hx
  have HR1 := Lib.hid hr2
  clear hx hr2
  have c0 := HS1.out.c0
  have c1 := HS1.out.c1
  have hi := fun n => isC g s ⟨#[46]⟩ 0 (W1.drewN n) hs (by omega) (by decide) c0 c1
  simp only [HDOT.out] at hi
  have HI := Lib.hid hi
  clear hi
  go_wp2_with (fail)
  go_quiet (first | (go_at_call 24; refine Calls.quiet_of (HI.out _)))
  have hx := HS1.out.drew nq
  have hr2 : (W1.drewN nq).heap[w.heap.size]? = _ := HR1.out
  clear c0 c1 HS1 HR1 HI
  generalize W1.drewN nq = W2 at hx hr2 ⊢
  have HS2 := Lib.hid hx
  have HR2 := Lib.hid hr2
  clear hx hr2
  go_wp2_with (fail)
  refine (HD.out _).mono ?_
  rintro e w9 ⟨rfl, n9, rfl⟩
  have hx := HS2.out.drew n9
  have hr2 : (W2.drewN n9).heap[w.heap.size]? = _ := HR2.out
  clear HS2 HR2 HD
  generalize W2.drewN n9 = W3 at hx hr2 ⊢
  have HS3 := Lib.hid hx
  have HR3 := Lib.hid hr2
  clear hx hr2
  go_wp2_with (fail)
  refine (name w0 _ g s hW HS3.out.1 HS3.out.2.1).mono ?_
  rintro e w4 ⟨rfl, k⟩
  have hx := HS3.out.trans k
  have hr4 : w4.heap[w.heap.size]? = some (.cells (tok 0 ⟨#[]⟩ 0 0) 42 (0, 0)) := (k.2.2.2 _ (Array.getElem?_eq_some_iff.1 HR3.out).1 (by have := HLT.out; omega) (by simp)).trans HR3.out
  have HD := Lib.hid (row_done (cs := tok 3 s 0 0) hx HLT.out hr4)
  have HR4 := Lib.hid hr4
  clear hx hr4 k HR3 HS3
  go_wp2_with (refine wpList_store_row (o := ⟨none, .store 42 (.tmp 4) (.tmp 157), _, _, _, _⟩) rfl 42 (.tmp 4) (.tmp 157) rfl w.heap.size (tok 3 s 0 0) rfl rfl 42 (tok 0 ⟨#[]⟩ 0 0) HR4.out ?hi ?hold ?ho ?_)
  case hi => rw [info42]; rfl
  case hold => rfl
  case ho => exact tok_one _ _ _ _
  exact bodyPost_ret (results_cell_row rfl _ _ w.heap.size 42 _ (0, 0) _ rfl HD.out.1 Tryd.underlying42 rfl (by rw [info42]; rfl)) rfl ⟨rfl, HD.out.2⟩
/-- the blocks of Next: the scanner, the token, the result's cells -/
structure Nx (w W : World) (N2 : Nat) (s : ByteArray) (a : Nat) (cs : Array Value) : Prop where
  c : W.heap[w.heap.size + 1]? = some (.cells #[.string s, .int .i64 a, .bool false, .bool false, .int .i64 0] 54 (0, 0))
  t : W.heap[N2]? = some (.cells cs 42 (0, 0))
  r : W.heap[w.heap.size]? = some (.cells (tok 0 ⟨#[]⟩ 0 0) 42 (0, 0))
  b : Below w.heap.size w W
  l : w.heap.size + 1 < N2
section
variable {w W : World} {N2 : Nat} {s : ByteArray} {a : Nat} {cs : Array Value}
theorem Nx.drew (h : Nx w W N2 s a cs) : Nx w W.drew N2 s a cs := ⟨h.c, h.t, h.r, h.b.drew, h.l⟩
theorem Nx.row (h : Nx w W N2 s a cs) (cs' : Array Value) : Nx w (W.setRow N2 cs') N2 s a cs' := by
  have hl := h.l
  exact ⟨(setRow_other W N2 _ _ (by omega)).trans h.c, setRow_heap W N2 _ _ 42 (0, 0) h.t, (setRow_other W N2 _ _ (by omega)).trans h.r, below_setRow h.b (by omega) _, hl⟩
theorem Nx.set (h : Nx w W N2 s a cs) (i : Nat) (v : Value) (cs' : Array Value) (e : cs.setIfInBounds i v = cs') : Nx w (W.setCell ⟨N2, i, none⟩ v) N2 s a cs' := by
  have hl := h.l
  exact ⟨(Below.heap_setCell W _ _ _ (by show w.heap.size + 1 ≠ N2; omega)).trans h.c, blk_put h.t i v e, (Below.heap_setCell W _ _ _ (by show w.heap.size ≠ N2; omega)).trans h.r, below_set h.b (by omega), hl⟩
theorem Nx.tcell (h : Nx w W N2 s a cs) (i : Nat) : W.cell? ⟨N2, i, none⟩ = cs[i]? := blk_cell h.t i
theorem Nx.tfz (h : Nx w W N2 s a cs) (i : Nat) : W.frozen? ⟨N2, i, none⟩ = false := Lib.frozen_of_heap h.t i
theorem Nx.ccell (h : Nx w W N2 s a cs) (i : Nat) : W.cell? ⟨w.heap.size + 1, i, none⟩ = (#[Value.string s, .int .i64 a, .bool false, .bool false, .int .i64 0] : Array Value)[i]? := blk_cell h.c i
end
set_option maxHeartbeats 16000000 in
set_option maxRecDepth 100000 in
theorem next (w : World) (s : ByteArray) (hW : Wd s) :
    Calls Tryd.prog 13 #[.string s, .int .i64 0, .int .i64 0, .bool false] w fun e w' => e = .returned (.agg (tok 3 s 0 s.size)) ∧ Below w.heap.size w w' := by
  have hs := hW.len
  have ha := hW.pos
  have s1 : (s.size : Int) ≤ 4096 := by omega
  have a1i : (0 : Int) < s.size := by omega
  have hb0 : Below w.heap.size w (w.alloc (.cells (tok 0 ⟨#[]⟩ 0 0) 42)) := (Below.refl _ _).alloc (Nat.le_refl _) _
  have hI := IsS54.new w (w.alloc (.cells (tok 0 ⟨#[]⟩ 0 0) 42)) s 0 false false 0 hb0
  have hb1 : Below w.heap.size w ((w.alloc (.cells (tok 0 ⟨#[]⟩ 0 0) 42)).alloc (.cells #[.string s, .int .i64 0, .bool false, .bool false, .int .i64 0] 54)) := hb0.alloc hb0.size _
  have hrs : ((w.alloc (.cells (tok 0 ⟨#[]⟩ 0 0) 42)).alloc (.cells #[.string s, .int .i64 0, .bool false, .bool false, .int .i64 0] 54)).heap[w.heap.size]? = some (.cells (tok 0 ⟨#[]⟩ 0 0) 42 (0, 0)) := by
    rw [Below.heap_alloc _ _ _ (by simp)]
    exact heap_alloc_new w _
  rw [show (w.alloc (.cells (tok 0 ⟨#[]⟩ 0 0) 42)).heap.size = w.heap.size + 1 by simp] at hI
  unfold tok at hI hb1 hrs
  have HI := Lib.hid hI
  have HB1 := Lib.hid hb1
  have HRS := Lib.hid hrs
  clear hI hb1 hrs hb0
  go_enter Tryd.func13, Tryd.ntmps13
  go_wp2_with (fail)
  refine (pass w _ (w.heap.size + 1) s hs ha (hW.all 0 ha) HI.out HB1.out).mono ?_
  rintro e w2 ⟨rfl, k⟩
  have HS2 := Lib.hid k
  have hr2 : w2.heap[w.heap.size]? = _ := (k.2.2.2 _ (by simp; omega) (by omega) (by simp)).trans HRS.out
  have HR2 := Lib.hid hr2
  clear k hr2 HI HB1 HRS
  have c0 := HS2.out.c0
  have c1 := HS2.out.c1
  have c4 := HS2.out.c4
  have hS3 := HS2.out.alloc (.cells (tok 0 ⟨#[]⟩ 0 0) 42)
  have hT3 : (w2.alloc (.cells (tok 0 ⟨#[]⟩ 0 0) 42)).heap[w2.heap.size]? = some (.cells (tok 0 ⟨#[]⟩ 0 0) 42 (0, 0)) := heap_alloc_new w2 _
  have hR3 : (w2.alloc (.cells (tok 0 ⟨#[]⟩ 0 0) 42)).heap[w.heap.size]? = some (.cells (tok 0 ⟨#[]⟩ 0 0) 42 (0, 0)) := by
    rw [Below.heap_alloc _ _ _ (Array.getElem?_eq_some_iff.1 HR2.out).1]
    exact HR2.out
  have hlt2 := (Array.getElem?_eq_some_iff.1 HR2.out).1
  have hg2 := HS2.out.1.lt
  go_wp2_with (fail)
  refine (token w _ (w.heap.size + 1) s hW hS3.1 hS3.2.1).mono ?_
  rintro e w4 ⟨rfl, k⟩
  have hT4 : w4.heap[w2.heap.size]? = some (.cells (tok 0 ⟨#[]⟩ 0 0) 42 (0, 0)) := (k.2.2.2 _ (by simp) (by omega) (by simp)).trans hT3
  have hR4 : w4.heap[w.heap.size]? = some (.cells (tok 0 ⟨#[]⟩ 0 0) 42 (0, 0)) := (k.2.2.2 _ (by simp; omega) (by omega) (by simp)).trans hR3
  have hne : w.heap.size + 1 < w2.heap.size := by omega
  have hx : Nx w w4 w2.heap.size s s.size (tok 0 ⟨#[]⟩ 0 0) := ⟨k.1.1, hT4, hR4, k.2.1, hne⟩
  clear hS3 hT3 hR3 k HS2 HR2 c0 c1 c4 hlt2 hg2 hT4 hR4
  generalize w2.heap.size = N2 at hx hne ⊢
  have HX0 := Lib.hid hx
  have HNE := Lib.hid hne
  clear hx hne
  have HX1 := Lib.hid (HX0.out.row (tok 3 s 0 0))
  have x4 : (w4.setRow N2 (tok 3 s 0 0)).cell? ⟨w.heap.size + 1, 4, none⟩ = some (.int .i64 0) := HX1.out.ccell 4
  have HT0 := Lib.hid HX0.out.t
  go_wp2_with (refine wpList_store_row (o := ⟨none, .store 42 (.tmp 11) (.tmp 40), _, _, _, _⟩) rfl 42 (.tmp 11) (.tmp 40) rfl N2 (tok 3 s 0 0) rfl rfl 42 (tok 0 ⟨#[]⟩ 0 0) HT0.out ?hi ?hold ?ho ?_)
  case hi => rw [info42]; rfl
  case hold => rfl
  case ho => exact tok_one _ _ _ _
  have hx : Nx w (w4.setRow N2 (tok 3 s 0 0)) N2 s s.size (tok 3 s 0 0) := HX1.out
  generalize w4.setRow N2 (tok 3 s 0 0) = W5 at hx ⊢
  have HX := Lib.hid hx
  clear hx HX0 HX1 HT0 x4
  have x1 : W5.cell? ⟨w.heap.size + 1, 1, none⟩ = some (.int .i64 s.size) := HX.out.ccell 1
  have x3 : W5.cell? ⟨w.heap.size + 1, 3, none⟩ = some (.bool false) := HX.out.ccell 3
  have z4 := HX.out.tfz 4
  have z5 := HX.out.tfz 5
  have z6 := HX.out.tfz 6
  have t4 : W5.cell? ⟨N2, 4, none⟩ = some (.int .i64 0) := HX.out.tcell 4
  have t5 : W5.cell? ⟨N2, 5, none⟩ = some (.int .i64 0) := HX.out.tcell 5
  have t6 : W5.cell? ⟨N2, 6, none⟩ = some (.bool false) := HX.out.tcell 6
  go_region
  have hx := (((HX.out.set 4 (.int .i64 0) (tok 3 s 0 0) rfl).set 5 (.int .i64 s.size) (tok 3 s 0 s.size) rfl).set 6 (.bool false) (tok 3 s 0 s.size) rfl).drew
  clear x1 x3 z4 z5 z6 t4 t5 t6 HX
  generalize (((W5.setCell ⟨N2, 4, none⟩ (.int .i64 0)).setCell ⟨N2, 5, none⟩ (.int .i64 s.size)).setCell ⟨N2, 6, none⟩ (.bool false)).drew = W6 at hx ⊢
  have HX := Lib.hid hx
  clear hx
  have t0 : W6.cell? ⟨N2, 0, none⟩ = some (.int .i64 3) := HX.out.tcell 0
  have t1 : W6.cell? ⟨N2, 1, none⟩ = some (.string s) := HX.out.tcell 1
  have t2 : W6.cell? ⟨N2, 2, none⟩ = some (.string ⟨#[]⟩) := HX.out.tcell 2
  have t3 : W6.cell? ⟨N2, 3, none⟩ = some (.int .u64 0) := HX.out.tcell 3
  have t4 : W6.cell? ⟨N2, 4, none⟩ = some (.int .i64 0) := HX.out.tcell 4
  have t5 : W6.cell? ⟨N2, 5, none⟩ = some (.int .i64 s.size) := HX.out.tcell 5
  have t6 : W6.cell? ⟨N2, 6, none⟩ = some (.bool false) := HX.out.tcell 6
  have t7 : W6.cell? ⟨N2, 7, none⟩ = some (.bool false) := HX.out.tcell 7
  have t8 : W6.cell? ⟨N2, 8, none⟩ = some (.bool false) := HX.out.tcell 8
  have HR := Lib.hid HX.out.r
  go_wp2_with (refine wpList_store_row (o := ⟨none, .store 42 (.tmp 8) (.tmp 63), _, _, _, _⟩) rfl 42 (.tmp 8) (.tmp 63) rfl w.heap.size (tok 3 s 0 s.size) rfl rfl 42 (tok 0 ⟨#[]⟩ 0 0) HR.out ?hi ?hold ?ho ?_)
  case hi => rw [info42]; rfl
  case hold => rfl
  case ho => exact tok_one _ _ _ _
  exact bodyPost_ret (results_cell_row rfl _ _ w.heap.size 42 _ (0, 0) _ rfl (setRow_heap W6 w.heap.size _ (tok 3 s 0 s.size) 42 (0, 0) HR.out) Tryd.underlying42 rfl (by rw [info42]; rfl)) rfl ⟨rfl, below_setRow HX.out.b (Nat.le_refl _) _⟩
set_option maxHeartbeats 16000000 in
set_option maxRecDepth 100000 in
theorem isName (w : World) (s : ByteArray) (hW : Wd s) :
    Calls Tryd.prog 9 #[.string s] w fun e w' => e = .returned (.bool true) ∧ Below w.heap.size w w' := by
  have hN := next w s hW
  have HN := Lib.hid hN
  clear hN
  go_enter Tryd.func9, Tryd.ntmps9
  go_wp2_with (go_at_call 13; refine (HN.out).mono ?_)
  rintro e w1 ⟨rfl, hb⟩
  have HB := Lib.hid (hb.alloc hb.size (.cells (tok 3 s 0 s.size) 42))
  unfold tok at HB
  clear hb
  unfold tok
  go_wp2_with (fail)
  go_ret
  exact ⟨rfl, HB.out⟩
end Go.Proofs.YtgflhmihmdflcaaDoor.fnExportNames
