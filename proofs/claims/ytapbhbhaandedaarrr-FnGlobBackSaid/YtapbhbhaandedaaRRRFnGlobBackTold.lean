/-
  FnGlobBack: the walks of helpers.GlobPatternToString and of the thin package's GlobText: they hand back the text that the plain function `tell` gives.
  Conditions: a row of parts that the call owns, with wildcards of at most 2, and texts of at most 2^34 bytes.
-/
import Derived.Test.YtapbhbhaandedaaRRRFnGlobBackGlob
import Derived.Test.YtapbhbhaandedaaRRRBuilderKept
import Derived.Test.YtapbhbhaandedaaRRRShelf
namespace Go.Proofs.YtapbhbhaandedaaRRR.fnGlobBack
open Go.RowKit Go.Proofs.YtapbhbhaandedaaRRRW.PrintWords
set_option linter.unusedVariables false
set_option linter.unusedSimpArgs false

theorem byteCells_app (a b : List UInt8) : Lib.byteCells a ++ Lib.byteCells b = Lib.byteCells (a ++ b) := by
  simp [Lib.byteCells]
theorem cells_str (l : List UInt8) : Lib.strCells (str l) = Lib.byteCells l := by
  rw [Lib.strCells_eq]
  show Lib.byteCells (l.toArray.toList) = _
  simp
theorem tell_take (ps : List (List UInt8 × Nat)) (i : Nat) (h : i < ps.length) : tell (ps.take (i + 1)) = tell (ps.take i) ++ (ps[i]).1 ++ stars (ps[i]).2 := by
  rw [List.take_succ_eq_append_getElem h]
  unfold tell
  rw [List.flatMap_append]
  simp only [List.flatMap_cons, List.flatMap_nil, List.append_nil, List.append_assoc]
theorem tell_le (ps : List (List UInt8 × Nat)) (i : Nat) (h : i < ps.length) : (tell (ps.take i)).length + (ps[i]).1.length + (stars (ps[i]).2).length ≤ (tell ps).length := by
  have e : tell ps = tell (ps.take (i + 1)) ++ tell (ps.drop (i + 1)) := by
    have := List.take_append_drop (i + 1) ps
    have e2 : ∀ a b, tell (a ++ b) = tell a ++ tell b := fun a b => by simp [tell]
    rw [← e2, this]
  rw [e, tell_take ps i h]
  simp only [List.length_append]
  omega
theorem isB_alloc {B b : Nat} {bs : List Value} {w : World} (h : Lib.IsBuilder 45 5 B b bs w) (o : Obj) : Lib.IsBuilder 45 5 B b bs (w.alloc o) := by
  have one : ∀ {p : Value}, Lib.BuilderAt 45 5 B b p bs w → Lib.BuilderAt 45 5 B b p bs (w.alloc o) := by
    intro p h
    have hlt := h.lt
    obtain ⟨hB, v, hb, hown, hne⟩ := h
    exact ⟨hB, v, (Lib.alloc_old w o b hlt).trans hb, hown.alloc o, hne⟩
  exact h.imp one one
theorem isB_lt {B b : Nat} {bs : List Value} {w : World} (h : Lib.IsBuilder 45 5 B b bs w) : b < w.heap.size := h.elim (·.lt) (·.lt)

set_option maxHeartbeats 40000000 in
set_option maxRecDepth 100000 in
theorem toldText (ps : List (List UInt8 × Nat)) (v : Value) (B : Nat) (w : World) (h : w.ownsRow B 38 2 v ps.length (cells .u8 ps)) (hne : ps ≠ []) (hw : ∀ x ∈ ps, x.2 ≤ 2) (hlen : (tell ps).length ≤ 17179869184) (hpl : ps.length ≤ 17179869184) :
    Calls Try.prog 18 #[v] w fun e w' => e = .returned (.string (str (tell ps))) ∧ Below w.heap.size w w' := by
  obtain ⟨g, cap, rfl, hg1, hg2, hat⟩ := row_at h hne
  have HAT := Lib.hid hat
  have HW := Lib.hid hw
  have HFR := Lib.hid (Lib.fresh_isBuilder 45 5 w)
  have HB0 := Lib.hid ((Below.refl w.heap.size w).alloc (Nat.le_refl _) (.cells #[.pointer none, .slice none 0 0] 45))
  have HLEN := Lib.hid hlen
  clear hat hw h hlen
  go_enter Try.func18, Try.ntmps18
  go_wp2_with (fail)
  go_loopw [5, 9] (fun v5 v9 wr => ∃ i : Nat, v9 = .int .i64 i ∧ i ≤ ps.length ∧ Hid (Lib.IsBuilder 45 5 w.heap.size w.heap.size (Lib.byteCells (tell (ps.take i))) wr) ∧ Hid (Below w.heap.size w wr)) (fun _ v9 _ => ps.length - (intOf v9).toNat)
  case atStart => exact ⟨0, rfl, Nat.zero_le _, HFR, HB0⟩
  case round =>
    clear HFR HB0
    obtain ⟨i, rfl, hil, HK, HB⟩ := hrel
    have i0' : (0:Int) ≤ i := by omega
    by_cases hlt : i < ps.length
    · have hlt' : (i:Int) < ps.length := by omega
      have hx := HAT.out i hlt
      have c0 : wr.cell? ⟨g, i * 2, none⟩ = some (.string (str (ps[i]).1)) := by rw [HB.out.cell (by exact hg2)]; exact hx.1
      have c1 : wr.cell? ⟨g, i * 2 + 1, none⟩ = some (.int .u8 (ps[i]).2) := by rw [HB.out.cell (by exact hg2)]; exact hx.2
      clear hx
      have x2 : (ps[i]).2 ≤ 2 := HW.out _ (List.getElem_mem hlt)
      have hsz : w.heap.size ≤ wr.heap.size := HB.out.size
      have HL := Lib.hid (tell_le ps i hlt)
      have HT := Lib.hid (tell_take ps i hlt)
      have HSS := Lib.hid (show (str (ps[i]).1).size = (ps[i]).1.length by unfold str; simp [ByteArray.size])
      generalize (ps[i]).1 = p at c0 HL HT HSS
      generalize (ps[i]).2 = k at c1 x2 HL HT
      have HNK := Lib.hid (isB_alloc HK.out (Obj.cells #[Value.string (str p), Value.int IntKind.u8 k] 38))
      go_wp2_with (go_at_call 22; refine (builder.writeStringK w.heap.size w.heap.size (Lib.byteCells (tell (ps.take i))) _ _ HNK.out (by have := HL.out; have := HLEN.out; have := HSS.out; simp only [Lib.byteCells, List.length_map]; omega) (by simp; omega)).mono ?_)
      rintro e w2 ⟨rfl, hbl, hb2, hk2⟩
      have hcell : w2.heap[wr.heap.size]? = some (.cells #[Value.string (str p), Value.int IntKind.u8 k] 38 (0, 0)) := hk2 wr.heap.size _ (heap_alloc_new wr _) (by have := isB_lt HK.out; simp; omega) (by intro c fz e; cases e)
      have d1 : w2.cell? ⟨wr.heap.size, 1, none⟩ = some (.int .u8 k) := by rw [Lib.cell_of_heap hcell]; rfl
      have HBL := Lib.hid (show Lib.IsBuilder 45 5 w.heap.size w.heap.size (Lib.byteCells (tell (ps.take i) ++ p)) w2 by
        rw [← byteCells_app, ← cells_str p]; exact hbl)
      have HB2 := Lib.hid (show Below w.heap.size w w2 from (HB.out.alloc hsz _).trans hb2)
      clear hbl hb2 hk2 hcell
      have hk : k = 0 ∨ k = 1 ∨ k = 2 := by omega
      rcases hk with rfl | rfl | rfl
      · have HN := Lib.hid (show Lib.IsBuilder 45 5 w.heap.size w.heap.size (Lib.byteCells (tell (ps.take (i + 1)))) w2 by
          have := HT.out; rw [this]; simpa [stars] using HBL.out)
        go_wp2_with (fail)
        go_roundw
        case rel => exact ⟨i + 1, by simp, by omega, HN, HB2⟩
        case measure =>
          simp only [intOf]
          omega
      · go_wp2_with (go_at_call 24; refine (builder.writeByte w.heap.size w.heap.size (Lib.byteCells (tell (ps.take i) ++ p)) 42 _ HBL.out (by have := HL.out; have := HLEN.out; simp only [Lib.byteCells, List.length_map, List.length_append]; omega) HB2.out.size).mono ?_)
        rintro e w3 ⟨rfl, hbl3, hb3⟩
        have HN := Lib.hid (show Lib.IsBuilder 45 5 w.heap.size w.heap.size (Lib.byteCells (tell (ps.take (i + 1)))) w3 by
          have := HT.out; rw [this, ← byteCells_app]; exact hbl3)
        have HB3 := Lib.hid (HB2.out.trans hb3)
        clear hbl3 hb3
        go_wp2_with (fail)
        go_roundw
        case rel => exact ⟨i + 1, by simp, by omega, HN, HB3⟩
        case measure =>
          simp only [intOf]
          omega
      · go_wp2_with (go_at_call 22; refine (builder.writeString w.heap.size w.heap.size (Lib.byteCells (tell (ps.take i) ++ p)) _ _ HBL.out (by have := HL.out; have := HLEN.out; simp only [Lib.byteCells, List.length_map, List.length_append]; show _ + 2 ≤ _; omega) HB2.out.size).mono ?_)
        rintro e w3 ⟨rfl, hbl3, hb3⟩
        have HN := Lib.hid (show Lib.IsBuilder 45 5 w.heap.size w.heap.size (Lib.byteCells (tell (ps.take (i + 1)))) w3 by
          have := HT.out; rw [this, ← byteCells_app]; exact hbl3)
        have HB3 := Lib.hid (HB2.out.trans hb3)
        clear hbl3 hb3
        go_wp2_with (fail)
        go_roundw
        case rel => exact ⟨i + 1, by simp, by omega, HN, HB3⟩
        case measure =>
          simp only [intOf]
          omega
    · have hlt' : ¬ (i:Int) < ps.length := by omega
      obtain rfl : i = ps.length := by omega
      have HN := Lib.hid (show Lib.IsBuilder 45 5 w.heap.size w.heap.size (Lib.byteCells (tell ps)) wr by
        have := HK.out; rw [List.take_length] at this; exact this)
      go_wp2_with (go_at_call 25; refine (Try.Builder_String_any w.heap.size w.heap.size _ _ HN.out HB.out.size).mono ?_)
      rintro e w7 rfl hb7
      have HB7 := Lib.hid (HB.out.trans hb7)
      clear hb7
      go_wp2_with (fail)
      go_ret
      exact ⟨rfl, HB7.out⟩

set_option maxHeartbeats 40000000 in
set_option maxRecDepth 100000 in
theorem globText (ps : List (List UInt8 × Nat)) (v : Value) (B : Nat) (w : World) (h : w.ownsRow B 35 2 v ps.length (cells .i64 ps)) (hne : ps ≠ []) (hw : ∀ x ∈ ps, x.2 ≤ 2) (hlen : (tell ps).length ≤ 17179869184) (hpl : ps.length ≤ 17179869184) :
    Calls Try.prog 13 #[v] w fun e w' => e = .returned (.string (str (tell ps))) ∧ Below w.heap.size w w' := by
  obtain ⟨i0, hi, hz0, hz1, hz2⟩ := info_parts info38
  obtain ⟨g, cap, rfl, hg1, hg2, hat⟩ := row_at h hne
  have HAT := Lib.hid hat
  have HW := Lib.hid hw
  have HLEN := Lib.hid hlen
  clear hat hw h hlen
  go_enter Try.func13, Try.ntmps13
  go_wp2_with (fail)
  go_loopw [3, 5, 8] (fun v3 v5 v9 wr => ∃ i : Nat, v9 = .int .i64 i ∧ i ≤ ps.length ∧ Hid (wr.ownsRow w.heap.size 38 2 v3 i (cells .u8 (ps.take i))) ∧ Hid (Below w.heap.size w wr)) (fun _ _ v9 _ => ps.length - (intOf v9).toNat)
  case atStart => exact ⟨0, rfl, Nat.zero_le _, Lib.hid (World.ownsRow_nil _ _ _ _), Lib.hid (Below.refl _ _)⟩
  case round =>
    obtain ⟨i, rfl, hil, HO, HB⟩ := hrel
    have i0' : (0:Int) ≤ i := by omega
    by_cases hlt : i < ps.length
    · have hlt' : (i:Int) < ps.length := by omega
      have hx := HAT.out i hlt
      have c0 : wr.cell? ⟨g, i * 2, none⟩ = some (.string (str (ps[i]).1)) := by rw [HB.out.cell (by exact hg2)]; exact hx.1
      have c1 : wr.cell? ⟨g, i * 2 + 1, none⟩ = some (.int .i64 (ps[i]).2) := by rw [HB.out.cell (by exact hg2)]; exact hx.2
      have x2 : ((ps[i]).2:Int) ≤ 2 := by have := HW.out _ (List.getElem_mem hlt); omega
      have x0 : (0:Int) ≤ (ps[i]).2 := by omega
      have hsz : w.heap.size ≤ wr.heap.size := HB.out.size
      go_wp2_with (at_builtin; refine wpList_append_own _ rfl (.tmp 12) (.tmp 19) 33 rfl w.heap.size 38 i0 (.agg #[.string ⟨#[]⟩, .int .u8 0]) 2 24 Try.underlying33 hi hz0 hz1 hz2 rfl (by decide) _ i _ rfl ((HO.out.alloc _).alloc _) ⟨wr.heap.size + 1, 0, none⟩ 1 1 [.string (str (ps[i]).1), .int .u8 (ps[i]).2] rfl rfl (fun j u h => by have := news_alloc (wr.alloc (Obj.cells #[Value.string (str (ps[i]).1), Value.int IntKind.i64 (ps[i]).2] 35)) _ 38 j u h; simpa using this) (by intro u hu; simp only [List.mem_cons, List.not_mem_nil, or_false] at hu; rcases hu with rfl | rfl <;> rfl) (by unfold maxLen; omega) (by omega) (by simp; omega) ?_)
      intro v' w2 hown3 hgr _
      have HB4 := Lib.hid (show Below w.heap.size w w2 from ((HB.out.alloc HB.out.size _).alloc (by simp; omega) _).grown hgr (by simp; omega) (own_base HO.out))
      have HO4 := Lib.hid (show w2.ownsRow w.heap.size 38 2 v' (i + 1) (cells .u8 (ps.take (i + 1))) by
        rw [cells_take _ _ _ hlt]
        exact hown3)
      clear hown3 hgr
      go_wp2_with (fail)
      go_roundw
      case rel => exact ⟨i + 1, by simp, by omega, HO4, HB4⟩
      case measure =>
        simp only [intOf]
        omega
    · have hlt' : ¬ (i:Int) < ps.length := by omega
      obtain rfl : i = ps.length := by omega
      have HO5 := Lib.hid (show wr.ownsRow w.heap.size 38 2 u3 ps.length (cells .u8 ps) by
        have := HO.out
        rw [List.take_length] at this
        exact this)
      go_wp2_with (go_at_call 18; refine (toldText ps _ w.heap.size _ HO5.out hne HW.out HLEN.out hpl).mono ?_)
      rintro e w7 rfl hb7
      have HB7 := Lib.hid (HB.out.trans (hb7.mono HB.out.size))
      clear hb7
      go_wp2_with (fail)
      go_ret
      exact ⟨rfl, HB7.out⟩
end Go.Proofs.YtapbhbhaandedaaRRR.fnGlobBack
