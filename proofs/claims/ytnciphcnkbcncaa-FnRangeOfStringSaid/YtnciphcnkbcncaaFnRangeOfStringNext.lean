/-
  FnRangeOfString: the walks of spec.Next and spec.StringAt where a quote stands at the place.
  Conditions: texts of at most 2^12 bytes.
-/
import Derived.Test.YtnciphcnkbcncaaFnRangeOfStringToken
namespace Go.Proofs.Ytnciphcnkbcncaa.fnRangeOfString
open Go.RowKit Go.Proofs.YtnciphcnkbcncaaW.PrintWords Go.Proofs.YtnciphcnkbcncaaW.PrintLast Go.Proofs.YtnciphcnkbcncaaW.PrintMore Go.Proofs.Ytnciphcnkbcncaa.PFnRangeOfString Go.Proofs.Ytnciphcnkbcncaa.runes
set_option linter.unusedVariables false
set_option linter.unusedSimpArgs false

/-- a token's cells -/
def tk9 (k : Int) (txt more : ByteArray) (f t : Int) (old : Bool) : Array Value := #[.int .i64 k, .string txt, .string more, .int .u64 0, .int .i64 f, .int .i64 t, .bool false, .bool false, .bool old]
theorem tk9_one (k : Int) (txt more : ByteArray) (f t : Int) (old : Bool) : (tk9 k txt more f t old).all (·.oneCell') = true := by simp [tk9, Value.oneCell']
/-- what Next tells -/
def Nxt (w : World) (s : ByteArray) (a : Nat) (e : Ending) (w' : World) : Prop := ∃ (k : Int) (txt more : ByteArray) (t : Nat) (old : Bool), e = .returned (.agg (tk9 k txt more a t old)) ∧ (k = 8 → a < t ∧ t ≤ s.size ∧ nb s (t - 1) = nb s a ∧ Reach s (nb s a) (a + 1) (t - 1)) ∧ Below w.heap.size w w'
/-- the blocks of Next: the scanner, the token, the result's cells -/
structure Nx (w W : World) (N2 : Nat) (s : ByteArray) (a : Nat) (bad : Int) (cs : Array Value) : Prop where
  c : W.heap[w.heap.size + 1]? = some (.cells #[.string s, .int .i64 a, .bool false, .bool false, .int .i64 bad] 51 (0, 0))
  t : W.heap[N2]? = some (.cells cs 45 (0, 0))
  r : W.heap[w.heap.size]? = some (.cells tok0 45 (0, 0))
  b : Below w.heap.size w W
  l : w.heap.size + 1 < N2
section
variable {w W : World} {N2 : Nat} {s : ByteArray} {a : Nat} {bad : Int} {cs : Array Value}
theorem Nx.drew (h : Nx w W N2 s a bad cs) : Nx w W.drew N2 s a bad cs := ⟨h.c, h.t, h.r, h.b.drew, h.l⟩
theorem Nx.row (h : Nx w W N2 s a bad cs) (cs' : Array Value) : Nx w (W.setRow N2 cs') N2 s a bad cs' := by
  have hl := h.l
  exact ⟨(setRow_other W N2 _ _ (by omega)).trans h.c, setRow_heap W N2 _ _ 45 (0, 0) h.t, (setRow_other W N2 _ _ (by omega)).trans h.r, below_setRow h.b (by omega) _, hl⟩
theorem Nx.set (h : Nx w W N2 s a bad cs) (i : Nat) (v : Value) (cs' : Array Value) (e : cs.setIfInBounds i v = cs') : Nx w (W.setCell ⟨N2, i, none⟩ v) N2 s a bad cs' := by
  have hl := h.l
  exact ⟨(Below.heap_setCell W _ _ _ (by show w.heap.size + 1 ≠ N2; omega)).trans h.c, blk_put h.t i v e, (Below.heap_setCell W _ _ _ (by show w.heap.size ≠ N2; omega)).trans h.r, below_set h.b (by omega), hl⟩
theorem Nx.tcell (h : Nx w W N2 s a bad cs) (i : Nat) : W.cell? ⟨N2, i, none⟩ = cs[i]? := blk_cell h.t i
theorem Nx.tfz (h : Nx w W N2 s a bad cs) (i : Nat) : W.frozen? ⟨N2, i, none⟩ = false := Lib.frozen_of_heap h.t i
theorem Nx.ccell (h : Nx w W N2 s a bad cs) (i : Nat) : W.cell? ⟨w.heap.size + 1, i, none⟩ = (#[Value.string s, .int .i64 a, .bool false, .bool false, .int .i64 bad] : Array Value)[i]? := blk_cell h.c i
end
set_option maxHeartbeats 16000000 in
set_option maxRecDepth 100000 in
theorem next (w : World) (s : ByteArray) (a0 : Nat) (hs : s.size ≤ 4096) (ha : a0 < s.size) (hq : nb s a0 = 34 ∨ nb s a0 = 39) :
    Calls Try.prog 10 #[.string s, .int .i64 a0, .int .i64 0, .bool false] w (Nxt w s a0) := by
  have HQ := Lib.hid hq
  clear hq
  have s1 : (s.size : Int) ≤ 4096 := by omega
  have a0i : (0 : Int) ≤ a0 := by omega
  have a1i : (a0 : Int) < s.size := by omega
  have hb0 : Below w.heap.size w (w.alloc (.cells tok0 45)) := (Below.refl _ _).alloc (Nat.le_refl _) _
  have hI := IsS51.new w (w.alloc (.cells tok0 45)) s a0 false false 0 hb0
  have hb1 : Below w.heap.size w ((w.alloc (.cells tok0 45)).alloc (.cells #[.string s, .int .i64 a0, .bool false, .bool false, .int .i64 0] 51)) := hb0.alloc hb0.size _
  have hrs : ((w.alloc (.cells tok0 45)).alloc (.cells #[.string s, .int .i64 a0, .bool false, .bool false, .int .i64 0] 51)).heap[w.heap.size]? = some (.cells tok0 45 (0, 0)) := by
    rw [Below.heap_alloc _ _ _ (by simp)]
    exact heap_alloc_new w _
  rw [show (w.alloc (.cells tok0 45)).heap.size = w.heap.size + 1 by simp] at hI
  unfold tok0 at hI hb1 hrs
  have HI := Lib.hid hI
  have HB1 := Lib.hid hb1
  have HRS := Lib.hid hrs
  clear hI hb1 hrs hb0
  go_enter Try.func10, Try.ntmps10
  go_wp2_with (fail)
  refine (pass w _ (w.heap.size + 1) s a0 hs ha HQ.out HI.out HB1.out).mono ?_
  rintro e w2 ⟨rfl, k⟩
  have HS2 := Lib.hid k
  have hr2 : w2.heap[w.heap.size]? = _ := (k.2.2.2 _ (by simp; omega) (by omega) (by simp)).trans HRS.out
  have HR2 := Lib.hid hr2
  clear k hr2 HI HB1 HRS
  have c0 := HS2.out.c0
  have c1 := HS2.out.c1
  have c4 := HS2.out.c4
  have hS3 := HS2.out.alloc (.cells tok0 45)
  have hT3 : (w2.alloc (.cells tok0 45)).heap[w2.heap.size]? = some (.cells tok0 45 (0, 0)) := heap_alloc_new w2 _
  have hR3 : (w2.alloc (.cells tok0 45)).heap[w.heap.size]? = some (.cells tok0 45 (0, 0)) := by
    rw [Below.heap_alloc _ _ _ (Array.getElem?_eq_some_iff.1 HR2.out).1]
    exact HR2.out
  have hlt2 := (Array.getElem?_eq_some_iff.1 HR2.out).1
  have hg2 := HS2.out.1.lt
  go_wp2_with (fail)
  refine (token w _ (w.heap.size + 1) s a0 hs ha HQ.out hS3.1 hS3.2.1).mono ?_
  rintro e w4 ⟨txt, more, old, a', bad, rfl, hb, hgood, k⟩
  have hT4 : w4.heap[w2.heap.size]? = some (.cells tok0 45 (0, 0)) := (k.2.2.2 _ (by simp) (by omega) (by simp)).trans hT3
  have hR4 : w4.heap[w.heap.size]? = some (.cells tok0 45 (0, 0)) := (k.2.2.2 _ (by simp; omega) (by omega) (by simp)).trans hR3
  have hne : w.heap.size + 1 < w2.heap.size := by omega
  have hx : Nx w w4 w2.heap.size s a' bad tok0 := ⟨k.1.1, hT4, hR4, k.2.1, hne⟩
  clear hS3 hT3 hR3 k HS2 HR2 c0 c1 c4 hlt2 hg2 hT4 hR4
  generalize w2.heap.size = N2 at hx hne ⊢
  have HX0 := Lib.hid hx
  have HG := Lib.hid hgood
  have HNE := Lib.hid hne
  clear hx hgood hne
  have HX1 := Lib.hid (HX0.out.row (tok txt more old))
  have x4 : (w4.setRow N2 (tok txt more old)).cell? ⟨w.heap.size + 1, 4, none⟩ = some (.int .i64 bad) := HX1.out.ccell 4
  have t1 := HX0.out.t
  have HT0 := Lib.hid t1
  clear t1
  rcases hb with rfl | rfl
  · go_wp2_with (refine wpList_store_row (o := ⟨none, .store 45 (.tmp 11) (.tmp 40), _, _, _, _⟩) rfl 45 (.tmp 11) (.tmp 40) rfl N2 (tok txt more old) rfl rfl 45 tok0 HT0.out ?hi ?hold ?ho ?_)
    case hi => rw [info45]; rfl
    case hold => rfl
    case ho => exact tok_one _ _ _
    have hx : Nx w (w4.setRow N2 (tok txt more old)) N2 s a' 0 (tk9 8 txt more 0 0 old) := HX1.out
    generalize w4.setRow N2 (tok txt more old) = W5 at hx ⊢
    have HX := Lib.hid hx
    clear hx HX0 HX1 HT0 x4
    have x1 : W5.cell? ⟨w.heap.size + 1, 1, none⟩ = some (.int .i64 a') := HX.out.ccell 1
    have x3 : W5.cell? ⟨w.heap.size + 1, 3, none⟩ = some (.bool false) := HX.out.ccell 3
    have z4 := HX.out.tfz 4
    have z5 := HX.out.tfz 5
    have z6 := HX.out.tfz 6
    have t4 : W5.cell? ⟨N2, 4, none⟩ = some (.int .i64 0) := HX.out.tcell 4
    have t5 : W5.cell? ⟨N2, 5, none⟩ = some (.int .i64 0) := HX.out.tcell 5
    have t6 : W5.cell? ⟨N2, 6, none⟩ = some (.bool false) := HX.out.tcell 6
    go_region
    have hx := (((HX.out.set 4 (.int .i64 a0) (tk9 8 txt more a0 0 old) rfl).set 5 (.int .i64 a') (tk9 8 txt more a0 a' old) rfl).set 6 (.bool false) (tk9 8 txt more a0 a' old) rfl).drew
    clear x1 x3 z4 z5 z6 t4 t5 t6 HX
    generalize (((W5.setCell ⟨N2, 4, none⟩ (.int .i64 a0)).setCell ⟨N2, 5, none⟩ (.int .i64 a')).setCell ⟨N2, 6, none⟩ (.bool false)).drew = W6 at hx ⊢
    have HX := Lib.hid hx
    clear hx
    have t0 : W6.cell? ⟨N2, 0, none⟩ = some (.int .i64 8) := HX.out.tcell 0
    have t1 : W6.cell? ⟨N2, 1, none⟩ = some (.string txt) := HX.out.tcell 1
    have t2 : W6.cell? ⟨N2, 2, none⟩ = some (.string more) := HX.out.tcell 2
    have t3 : W6.cell? ⟨N2, 3, none⟩ = some (.int .u64 0) := HX.out.tcell 3
    have t4 : W6.cell? ⟨N2, 4, none⟩ = some (.int .i64 a0) := HX.out.tcell 4
    have t5 : W6.cell? ⟨N2, 5, none⟩ = some (.int .i64 a') := HX.out.tcell 5
    have t6 : W6.cell? ⟨N2, 6, none⟩ = some (.bool false) := HX.out.tcell 6
    have t7 : W6.cell? ⟨N2, 7, none⟩ = some (.bool false) := HX.out.tcell 7
    have t8 : W6.cell? ⟨N2, 8, none⟩ = some (.bool old) := HX.out.tcell 8
    have HR := Lib.hid HX.out.r
    go_wp2_with (refine wpList_store_row (o := ⟨none, .store 45 (.tmp 8) (.tmp 63), _, _, _, _⟩) rfl 45 (.tmp 8) (.tmp 63) rfl w.heap.size (tk9 8 txt more a0 a' old) rfl rfl 45 tok0 HR.out ?hi ?hold ?ho ?_)
    case hi => rw [info45]; rfl
    case hold => rfl
    case ho => exact tk9_one _ _ _ _ _ _
    exact bodyPost_ret (results_cell_row rfl _ _ w.heap.size 45 _ (0, 0) _ rfl (setRow_heap W6 w.heap.size _ (tk9 8 txt more a0 a' old) 45 (0, 0) HR.out) Try.underlying45 rfl (by rw [info45]; rfl)) rfl ⟨8, txt, more, a', old, rfl, (fun _ => HG.out (by first | rfl | trivial)), below_setRow HX.out.b (Nat.le_refl _) _⟩
  · have HT1 := Lib.hid HX1.out.t
    go_wp2_with (first | (refine wpList_store_row (o := ⟨none, .store 45 (.tmp 11) (.tmp 40), _, _, _, _⟩) rfl 45 (.tmp 11) (.tmp 40) rfl N2 (tok txt more old) rfl rfl 45 tok0 HT0.out (by rw [info45]; rfl) rfl (tok_one _ _ _) ?_) | (refine wpList_store_row (o := ⟨none, .store 45 (.tmp 11) (.tmp 50), _, _, _, _⟩) rfl 45 (.tmp 11) (.tmp 50) rfl N2 (tk9 1 ⟨#[]⟩ ⟨#[]⟩ 0 0 false) rfl rfl 45 (tok txt more old) HT1.out (by rw [info45]; rfl) rfl (tk9_one _ _ _ _ _ _) ?_))
    rw [show ∀ a : Act, a.put none undef = a from fun _ => rfl]
    have hx : Nx w ((w4.setRow N2 (tok txt more old)).setRow N2 (tk9 1 ⟨#[]⟩ ⟨#[]⟩ 0 0 false)) N2 s a' 1 (tk9 1 ⟨#[]⟩ ⟨#[]⟩ 0 0 false) := HX1.out.row _
    generalize (w4.setRow N2 (tok txt more old)).setRow N2 (tk9 1 ⟨#[]⟩ ⟨#[]⟩ 0 0 false) = W5 at hx ⊢
    have HX := Lib.hid hx
    clear hx HX0 HX1 HT0 x4 HT1
    have x1 : W5.cell? ⟨w.heap.size + 1, 1, none⟩ = some (.int .i64 a') := HX.out.ccell 1
    have x3 : W5.cell? ⟨w.heap.size + 1, 3, none⟩ = some (.bool false) := HX.out.ccell 3
    have z4 := HX.out.tfz 4
    have z5 := HX.out.tfz 5
    have z6 := HX.out.tfz 6
    have t4 : W5.cell? ⟨N2, 4, none⟩ = some (.int .i64 0) := HX.out.tcell 4
    have t5 : W5.cell? ⟨N2, 5, none⟩ = some (.int .i64 0) := HX.out.tcell 5
    have t6 : W5.cell? ⟨N2, 6, none⟩ = some (.bool false) := HX.out.tcell 6
    go_region
    have hx := (((HX.out.set 4 (.int .i64 a0) (tk9 1 ⟨#[]⟩ ⟨#[]⟩ a0 0 false) rfl).set 5 (.int .i64 a') (tk9 1 ⟨#[]⟩ ⟨#[]⟩ a0 a' false) rfl).set 6 (.bool false) (tk9 1 ⟨#[]⟩ ⟨#[]⟩ a0 a' false) rfl).drew
    clear x1 x3 z4 z5 z6 t4 t5 t6 HX
    generalize (((W5.setCell ⟨N2, 4, none⟩ (.int .i64 a0)).setCell ⟨N2, 5, none⟩ (.int .i64 a')).setCell ⟨N2, 6, none⟩ (.bool false)).drew = W6 at hx ⊢
    have HX := Lib.hid hx
    clear hx
    have t0 : W6.cell? ⟨N2, 0, none⟩ = some (.int .i64 1) := HX.out.tcell 0
    have t1 : W6.cell? ⟨N2, 1, none⟩ = some (.string ⟨#[]⟩) := HX.out.tcell 1
    have t2 : W6.cell? ⟨N2, 2, none⟩ = some (.string ⟨#[]⟩) := HX.out.tcell 2
    have t3 : W6.cell? ⟨N2, 3, none⟩ = some (.int .u64 0) := HX.out.tcell 3
    have t4 : W6.cell? ⟨N2, 4, none⟩ = some (.int .i64 a0) := HX.out.tcell 4
    have t5 : W6.cell? ⟨N2, 5, none⟩ = some (.int .i64 a') := HX.out.tcell 5
    have t6 : W6.cell? ⟨N2, 6, none⟩ = some (.bool false) := HX.out.tcell 6
    have t7 : W6.cell? ⟨N2, 7, none⟩ = some (.bool false) := HX.out.tcell 7
    have t8 : W6.cell? ⟨N2, 8, none⟩ = some (.bool false) := HX.out.tcell 8
    have HR := Lib.hid HX.out.r
    go_wp2_with (refine wpList_store_row (o := ⟨none, .store 45 (.tmp 8) (.tmp 63), _, _, _, _⟩) rfl 45 (.tmp 8) (.tmp 63) rfl w.heap.size (tk9 1 ⟨#[]⟩ ⟨#[]⟩ a0 a' false) rfl rfl 45 tok0 HR.out ?hi ?hold ?ho ?_)
    case hi => rw [info45]; rfl
    case hold => rfl
    case ho => exact tk9_one _ _ _ _ _ _
    exact bodyPost_ret (results_cell_row rfl _ _ w.heap.size 45 _ (0, 0) _ rfl (setRow_heap W6 w.heap.size _ (tk9 1 ⟨#[]⟩ ⟨#[]⟩ a0 a' false) 45 (0, 0) HR.out) Try.underlying45 rfl (by rw [info45]; rfl)) rfl ⟨1, ⟨#[]⟩, ⟨#[]⟩, a', false, rfl, (fun h => by cases h), below_setRow HX.out.b (Nat.le_refl _) _⟩
end Go.Proofs.Ytnciphcnkbcncaa.fnRangeOfString
