/-
  FnScanBack: at every list of int32 and every text, impl.Scan with a delta, and then with the opposite delta, hands back 64 numbers that are those that came in (where the list has 64; elsewhere, and beyond 2^31 - 1 bytes, the law returns true by its own tests); a letter is counted; nothing that was there is written.
  Conditions: none.
-/
import Derived.Test.YtmcdnkcpfjhbgaaRows
import Derived.WalkKit
import Derived.ProofKit
import Derived.OpenShut
import Derived.ShutString
import Derived.ChangeOld
import Derived.Below
import Derived.Test.YtmcdnkcpfjhbgaaFnScanBackWalk
import Derived.Test.YtmcdnkcpfjhbgaaPFnScanBackx
namespace Go.Proofs.Ytmcdnkcpfjhbgaa.fnScanBack
open Go.ChangeShapes Go.WideShapes Go.ChangeAt Go.RowKit
open Go.ChangeMaps (open_string shut_string)
open Go.Proofs.YtmcdnkcpfjhbgaaW.PrintWords Go.Proofs.Ytmcdnkcpfjhbgaa.scanPure Go.Proofs.Ytmcdnkcpfjhbgaa.PFnScanBack
set_option linter.unusedVariables false

theorem own : ownKnob Try.prog.godebug = none := by kernel_rfl
theorem laidOut : laidOutB Try.prog = true := by kernel_rfl

/-- WHAT THE WALK IS TOLD OF A SLICE OF INTEGERS THAT CAME IN: it is nil; or it leads to a row of 'cap' cells, the numbers 'zs' (the first 'len' are its elements, the rest its spare room), each fitting its kind. -/
def IsRow (k : IntKind) (w : World) (a : Option Addr) (len cap : Nat) (zs : List Int) : Prop :=
  (a = none ∧ len = 0 ∧ cap = 0 ∧ zs = []) ∨
  ∃ x, a = some x ∧ len ≤ cap ∧ cap ≤ maxLen ∧ zs.length = cap ∧ (∀ i, i < zs.length → w.cell? (x.add i) = some (.int k (zs.getD i 0))) ∧ ∀ n ∈ zs, (Lit.int k n).wf = true

theorem eqCall (A0 A1 : Option Addr) (n0 n1 c0 c1 : Nat) (l0 l1 : List Int) (r : Bool) (w : World) (e0 : l0.length = n0) (e1 : l1.length = n1) (hr0 : Kd.C (Kd.int .i32) w A0 n0 l0) (hc0 : n0 ≤ c0) (hr1 : Kd.C (Kd.int .i32) w A1 n1 l1) (hc1 : n1 ≤ c1)
    (h : ∃ k, laws_equalCounts.f k l0 l1 = some r) : Calls Try.prog 18 #[.slice A0 n0 c0, .slice A1 n1 c1] w fun e w' => e = .returned (.bool r) ∧ Below w.heap.size w w' := by
  subst e0 e1
  obtain ⟨k, h⟩ := h
  exact (laws_equalCounts.calls k A0 c0 l0 A1 c1 l1 r w hr0 hc0 hr1 hc1 h).mono fun e w' ⟨he, hw⟩ => ⟨he, hw.below⟩

/-- a list is equal to itself, as the loop says -/
theorem eq_loop (l : List Int) (hm : l.length ≤ 140737488355328) (d : Nat) : ∀ (k i : Nat), i ≤ l.length → l.length - i = d → d < k → laws_equalCounts.l0 k l l l.length i = some true := by
  induction d with
  | zero =>
    intro k i hi hd hk
    obtain ⟨k, rfl⟩ : ∃ m, k = m + 1 := ⟨k - 1, by omega⟩
    simp only [laws_equalCounts.l0]
    rw [if_neg (by omega)]
  | succ d ih =>
    intro k i hi hd hk
    obtain ⟨k, rfl⟩ : ∃ m, k = m + 1 := ⟨k - 1, by omega⟩
    simp only [laws_equalCounts.l0]
    rw [if_pos (by omega), if_pos (by omega), if_pos (by omega)]
    have e : wrap64 ((i : Int) + 1) = ((i + 1 : Nat) : Int) := by unfold wrap64; omega
    rw [e]
    simp only [if_true]
    rw [if_pos (by omega)]
    exact ih k (i + 1) (by omega) (by omega) (by omega)

theorem eq_self (l : List Int) (hm : l.length ≤ 140737488355328) : ∃ k, laws_equalCounts.f k l l = some true := by
  refine ⟨l.length + 1, ?_⟩
  unfold laws_equalCounts.f
  rw [if_pos rfl]
  exact eq_loop l hm l.length (l.length + 1) 0 (by omega) (by omega) (by omega)

def zeros : List Int := List.replicate 64 0
theorem zeros_fit : Fits zeros := by
  intro k
  have : zeros.getD k 0 = 0 := by
    unfold zeros
    rw [List.getD_eq_getElem?_getD]
    rw [List.getElem?_replicate]
    split <;> rfl
  rw [this]
  unfold wrap32
  omega
theorem ones : ∃ k, laws_equalCounts.f k (scan 1 (⟨#[97]⟩ : ByteArray).data.toList zeros) zeros = some false := ⟨1, by kernel_rfl⟩

theorem make64 (w : World) : (Instr.makeSlice 37 (.int .i64 64) (.int .i64 64)).run Try.prog w = .ok (.slice (some ⟨w.heap.size, 0, none⟩) 64 64) (w.alloc (.cells (cellsOf zeros).toArray 21)) := by kernel_rfl

set_option maxHeartbeats 2000000 in
set_option maxRecDepth 100000 in
theorem scannedCall (w : World) : Calls Try.prog 17 #[] w fun e w' => e = .returned (.bool true) ∧ Below w.heap.size w w' := by
  have hmk := make64
  go_enter Try.func17, Try.ntmps17
  go_wp2_with (fail)
  have hz : zeros.length = 64 := rfl
  have hr : Kd.C (Kd.int .i32) (w.alloc (.cells (cellsOf zeros).toArray 21)) (some ⟨w.heap.size, 0, none⟩) 64 zeros := by
    refine reads_of hz (by decide) (fun j v hv => ?_)
    have e1 : (⟨w.heap.size, 0, none⟩ : Addr).add j = ⟨w.heap.size, j, none⟩ := by unfold Addr.add; split <;> simp_all
    rw [e1, blk_cell (heap_alloc_new w _) j]
    simpa using hv
  have hw1 : Below w.heap.size w (w.alloc (.cells (cellsOf zeros).toArray 21)) := Below.alloc (Below.refl _ _) (Nat.le_refl _) _
  refine (scanImpl zeros hz zeros_fit _ 64 ⟨#[97]⟩ 1 _ (by decide) hr).mono ?_
  rintro e w2 ⟨g, c, hc, rfl, hr2, hb2⟩
  have hr3 := Kd.C_below hr hb2
  have hw2 : Below w.heap.size w w2 := hw1.trans (hb2.mono hw1.size)
  clear hb2 hr
  go_wp2_with (fail)
  refine (eqCall _ _ 64 64 c 64 _ _ false _ (by rw [scan_length]; rfl) rfl hr2 hc hr3 (Nat.le_refl _) ones).mono ?_
  rintro e w3 ⟨rfl, hb3⟩
  go_wp2_with (fail)
  go_ret
  exact ⟨rfl, hw2.trans (hb3.mono hw2.size)⟩

/-- the slice reads as a list -/
theorem row_reads {w : World} {x : Addr} {len cap : Nat} {zs : List Int} (hl : len ≤ cap) (hm : cap ≤ maxLen) (hz : zs.length = cap) (hc : ∀ i, i < zs.length → w.cell? (x.add i) = some (.int .i32 (zs.getD i 0))) : Kd.C (Kd.int .i32) w (some x) len (zs.take len) := by
  unfold maxLen at hm
  refine reads_of (by rw [List.length_take]; omega) (by omega) (fun j v hv => ?_)
  have hj : j < (zs.take len).length := by
    have := (List.getElem?_eq_some_iff.1 hv).1
    simpa [cellsOf] using this
  rw [List.length_take] at hj
  rw [hc j (by omega), ← hv]
  have h1 : j < zs.length := by omega
  have h2 : j < len := by omega
  simp [cellsOf, h1, h2, List.getD_eq_getElem?_getD]

theorem fits_of {zs : List Int} (h : ∀ n ∈ zs, (Lit.int .i32 n).wf = true) (len : Nat) : Fits (zs.take len) := by
  intro k
  by_cases hk : k < (zs.take len).length
  · have hm : (zs.take len)[k] ∈ zs := List.mem_of_mem_take (List.getElem_mem hk)
    have := h _ hm
    have e : (zs.take len).getD k 0 = (zs.take len)[k] := by simp only [List.getD_eq_getElem?_getD, List.getElem?_eq_getElem hk, Option.getD_some]
    rw [e]
    generalize (zs.take len)[k] = n at this
    simp [Lit.wf, IntKind.min, IntKind.max, IntKind.signed, IntKind.bits] at this
    unfold wrap32
    omega
  · have e : (zs.take len).getD k 0 = 0 := by rw [List.getD_eq_getElem?_getD, List.getElem?_eq_none (by omega)]; rfl
    rw [e]
    unfold wrap32
    omega

set_option maxHeartbeats 2000000 in
/-- the law where the list has not 64 numbers -/
theorem walk_other (a0 : Option Addr) (len0 cap0 : Nat) (a1 : ByteArray) (a2 : Int) (w : World) (hn : ¬ len0 = 64) :
    Calls Try.prog 7 #[.slice a0 len0 cap0, .string a1, .int .i32 a2] w fun e w' => e = .returned (.bool true) ∧ Below w.heap.size w w' := by
  have hd : ((len0 : Int) == 64) = false := by simp; omega
  by_cases h1 : 2147483647 < (len0 : Int)
  · go_enter Try.func7, Try.ntmps7
    go_wp2_with (fail)
    all_goals
      go_ret
      exact ⟨rfl, Below.refl _ _⟩
  · by_cases h2 : 2147483647 < (a1.size : Int)
    · go_enter Try.func7, Try.ntmps7
      go_wp2_with (fail)
      all_goals
        go_ret
        exact ⟨rfl, Below.refl _ _⟩
    · go_enter Try.func7, Try.ntmps7
      go_wp2_with (first | (go_at_call 17; refine (scannedCall _).mono ?_; rintro e w' ⟨rfl, hb⟩) | go_in)
      go_ret
      exact ⟨rfl, hb⟩

set_option maxHeartbeats 2000000 in
/-- the law at 64 numbers -/
theorem walk_same (x : Addr) (cap0 : Nat) (zs : List Int) (a1 : ByteArray) (a2 : Int) (w : World) (hz : zs.length = 64) (hf : Fits zs) (hl : 64 ≤ cap0) (hr : Kd.C (Kd.int .i32) w (some x) 64 zs) :
    Calls Try.prog 7 #[.slice (some x) 64 cap0, .string a1, .int .i32 a2] w fun e w' => e = .returned (.bool true) ∧ Below w.heap.size w w' := by
  by_cases h2 : 2147483647 < (a1.size : Int)
  · go_enter Try.func7, Try.ntmps7
    go_wp2_with (fail)
    all_goals
      go_ret
      exact ⟨rfl, Below.refl _ _⟩
  · have hs : a1.size ≤ 140737488351232 := by omega
    have hz1 : (scan a2 a1.data.toList zs).length = 64 := by rw [scan_length, hz]
    have hf1 := scan_fits a2 a1.data.toList zs hz hf
    have HZ := Lib.hid hz
    have HZ1 := Lib.hid hz1
    clear hz1 hz
    go_enter Try.func7, Try.ntmps7
    go_wp2_with (first | (go_at_call 16; go_in) | fail)
    refine (scanImpl zs HZ.out hf x cap0 a1 a2 _ hs hr).mono ?_
    rintro e w1 ⟨g, c, hc, rfl, hr1, hb1⟩
    have hr' := Kd.C_below hr hb1
    clear hr
    go_wp2_with (fail)
    refine (scanImpl _ HZ1.out hf1 ⟨g, 0, none⟩ c a1 (wrap32 (-a2)) _ hs hr1).mono ?_
    rintro e w2 ⟨g2, c2, hc2, rfl, hr2, hb2⟩
    have hr3 := Kd.C_below hr' hb2
    rw [scan_back a2 a1.data.toList zs HZ.out hf] at hr2
    have hw2 : Below w.heap.size w w2 := hb1.trans (hb2.mono hb1.size)
    clear hr' hb1 hb2 hr1
    go_wp2_with (fail)
    refine (eqCall _ _ 64 64 c2 cap0 _ _ true _ HZ.out HZ.out hr2 hc2 hr3 hl (eq_self zs (by rw [HZ.out]; decide))).mono ?_
    rintro e w3 ⟨rfl, hb3⟩
    have hw3 : Below w.heap.size w w3 := hw2.trans (hb3.mono hw2.size)
    clear hw2 hb3
    go_wp2_with (fail)
    refine (scannedCall _).mono ?_
    rintro e w4 ⟨rfl, hb4⟩
    go_wp2_with (fail)
    go_ret
    exact ⟨rfl, hw3.trans (hb4.mono hw3.size)⟩

theorem walk (a0 : Option Addr) (len0 cap0 : Nat) (z0 : List Int) (a1 : ByteArray) (a2 : Int) (w : World) (w0 : IsRow .i32 w a0 len0 cap0 z0) (w1 : a1.size ≤ maxLen) (w2 : (Lit.int .i32 a2).wf = true) :
    Calls Try.prog 7 #[.slice a0 len0 cap0, .string a1, .int .i32 a2] w fun e w' => e = .returned (.bool true) ∧ Below w.heap.size w w' := by
  by_cases hn : len0 = 64
  · subst hn
    rcases w0 with ⟨_, h, _⟩ | ⟨x, rfl, hl, hm, hz, hcell, hwz⟩
    · omega
    · have hr := row_reads hl hm hz hcell
      exact walk_same x cap0 (z0.take 64) a1 a2 w (by rw [List.length_take]; omega) (fits_of hwz 64) hl hr
  · exact walk_other a0 len0 cap0 a1 a2 w hn

/-! ### THE ROW's STEP: WRITTEN OUT: LEAVE IT -/
set_option maxRecDepth 100000 in
theorem lifted (os : Os) (started : os.Started) (H : Type) (enc : TypeId × Value → H) :
    ReturnsInHanded {} Try.checked os 7 .any (Rows.fnScanBackSpec.pre6 enc Try.prog Try.f7 Rows.fnScanBackRow.domain false) (Rows.fnScanBackSpec.post enc Try.prog Try.f7 false true false false) := by
  refine returnsInHanded_of_change (C := Try.checked) own started (by kernel_rfl) Try.func7
    (ChangeSpec.witness6 (enc := enc) (C := Try.checked) false ⟨#[], #[.slice none 0 0, .string ByteArray.empty, .int .i32 0], []⟩ 8 (by kernel_rfl) (by kernel_rfl) (by kernel_rfl) (by kernel_rfl)) ?_
  intro W base args ds gs before hval0 hW hcnd _
  have hval : ∀ (j : Nat) t v, Try.f7.params[j]? = some t → args[j]? = some v → Value.okWide Try.prog W .any base t v := hval0
  have hW' := hW
  obtain ⟨p, q, hA0, hV, rfl, hfz, hnd⟩ := hW
  have hA : DataW.TrodAll enc Try.prog W 0 (fun _ => true) true Try.f7.params.toList args.toList ds p := hA0
  rw [Try.params7] at hA hval
  obtain ⟨v0, vs0, d0, ds0, p0, q0, hargs, rfl, rfl, h0, r0⟩ := trodAll_cons hA
  obtain ⟨v1, vs1, d1, ds1, p1, q1, rfl, rfl, rfl, h1, r1⟩ := trodAll_cons r0
  obtain ⟨v2, vs2, d2, ds2, p2, q2, rfl, rfl, rfl, h2, r2⟩ := trodAll_cons r1
  obtain ⟨rfl, rfl, rfl⟩ := trodAll_nil r2
  obtain rfl : args = #[v0, v1, v2] := by cases args; simp_all
  obtain ⟨rfl, rfl⟩ := trodVars_none hV
  obtain ⟨a0, len0, cap0, rfl⟩ := okWide_slice Try.underlying37 (hval 0 37 v0 rfl rfl)
  have k0 := h0
  have lt0 : ∀ x ∈ p0, x.block < W.heap.size := by obtain ⟨m, hm⟩ := k0; exact DataW.trod_lt m _ _ _ hm
  obtain ⟨z0, w0⟩ : ∃ zs, IsRow .i32 W a0 len0 cap0 zs := by
    obtain ⟨fuel, hf⟩ := h0
    rcases open_ints Try.underlying37 Try.underlying21 (by kernel_rfl) hf with ⟨hcs, _⟩ | ⟨x, l, c, zs, hcs, _, hl, hm, hz, _, hcell, hwz⟩
    · simp [Value.cells] at hcs
      obtain ⟨rfl, rfl, rfl⟩ := hcs
      exact ⟨[], .inl ⟨rfl, rfl, rfl, rfl⟩⟩
    · simp [Value.cells] at hcs
      obtain ⟨rfl, rfl, rfl⟩ := hcs
      exact ⟨zs, .inr ⟨_, rfl, hl, hm, by simpa using hz, hcell, hwz⟩⟩
  obtain ⟨a1, rfl, rfl, rfl, w1⟩ := open_string Try.underlying9 (hval 1 9 v1 rfl rfl) h1
  obtain ⟨a2, rfl, rfl, rfl, w2⟩ := open_int Try.underlying21 (hval 2 21 v2 rfl rfl) h2
  clear hA0 hval0
  refine (walk a0 len0 cap0 z0 a1 a2 W w0 w1 w2).mono fun e W' ⟨he, bel⟩ => ?_
  subst he
  exact ⟨_, rfl, _, _, _, [], _, [], hW', trodAll_mk1 (shut_bool Try.underlying4 _), (trodAll_cons_mk (Below.trod laidOut (by kernel_rfl) (of_decide_eq_true (by kernel_rfl)) k0 bel lt0) (trodAll_cons_mk (shut_string Try.underlying9 w1) (trodAll_cons_mk (shut_int Try.underlying21 w2) trodAll_mk0))), rfl, bel.frame _, fun h => by cases h⟩

theorem over : Rows.fnScanBackRow.holds Try.pinned (OpenSpec.ofChange Rows.fnScanBackSpec) :=
  OpenClaim.holds_of_wide 7 Try.f7 rfl rfl rfl rfl rfl rfl rfl ⟨rfl, rfl, rfl, rfl, rfl⟩ rfl rfl rfl rfl rfl (by kernel_rfl) Try.func7 (by kernel_rfl)
    (of_decide_eq_true (by kernel_rfl)) (by unfold Func.isWrapper; first | (rw [if_pos (by decide +kernel)]; kernel_rfl) | (rw [if_neg (by decide +kernel)]; exact ⟨rfl, rfl⟩))
    (fun os started H enc _ => lifted os started H enc)

/-- ████ THE STATEMENT ████ -/
theorem proved : Rows.FnScanBackSaid := over
#print axioms proved
end Go.Proofs.Ytmcdnkcpfjhbgaa.fnScanBack
