/-
  FnGlobBack: the walk of the thin package's Glob: it hands back a row of the parts that the plain function `parse` gives.
  Conditions: texts of at most 2^32 bytes.
-/
import Derived.Test.YtapbhbhaandedaaRRRFnGlobBackParse
import Derived.Test.YtapbhbhaandedaaRRRBuilder
import Derived.Laws.OwnMore
import Derived.Deep.OwnRows
namespace Go.Proofs.YtapbhbhaandedaaRRR.fnGlobBack
open Go.RowKit Go.Proofs.YtapbhbhaandedaaRRRW.PrintWords
set_option linter.unusedVariables false
set_option linter.unusedSimpArgs false

theorem info35 : (Try.prog.info? 35).map (fun i => (i.zero, i.size, i.bytes)) = some (some (.agg #[.string ⟨#[]⟩, .int .i64 0]), 2, 24) := by kernel_rfl
theorem parse_wild : ∀ (f : Nat) (L : List UInt8), ∀ x ∈ parse f L, x.2 ≤ 2 := by
  intro f
  induction f with
  | zero => intro L x hx; simp only [parse, List.mem_singleton] at hx; subst hx; exact Nat.zero_le _
  | succ f ih =>
    intro L x hx
    unfold parse at hx
    split at hx
    · simp only [List.mem_singleton] at hx; subst hx; exact Nat.zero_le _
    · rcases List.mem_cons.1 hx with rfl | hx
      · rcases wild_12 (L.takeWhile (· != 42)) (1 + ((‹List UInt8›).takeWhile (· == 42)).length) ((‹List UInt8›).dropWhile (· == 42)) with h | h <;> simp only [h] <;> decide
      · exact ih _ _ hx
theorem parse_len : ∀ (f : Nat) (L : List UInt8), (parse f L).length ≤ f + 1 := by
  intro f
  induction f with
  | zero => intro L; simp [parse]
  | succ f ih =>
    intro L
    unfold parse
    split
    · simp
    · rw [List.length_cons]; exact Nat.succ_le_succ (ih _)
theorem parse_ne (f : Nat) (L : List UInt8) : parse f L ≠ [] := by
  cases f with
  | zero => simp [parse]
  | succ f => unfold parse; split <;> simp
theorem cells_get (k : IntKind) : ∀ (ps : List (List UInt8 × Nat)) (i : Nat) (h : i < ps.length), (cells k ps)[i * 2]? = some (.string (str (ps[i]).1)) ∧ (cells k ps)[i * 2 + 1]? = some (.int k (ps[i]).2) := by
  intro ps
  induction ps with
  | nil => intro i h; simp at h
  | cons x r ih =>
    intro i h
    cases i with
    | zero => exact ⟨rfl, rfl⟩
    | succ i =>
      have e : ∀ j, (cells k (x :: r))[j + 2]? = (cells k r)[j]? := fun j => rfl
      have := ih i (by simpa using h)
      refine ⟨?_, ?_⟩
      · rw [show (i + 1) * 2 = i * 2 + 2 by omega, e]; exact this.1
      · rw [show (i + 1) * 2 + 1 = (i * 2 + 1) + 2 by omega, e]; exact this.2
theorem cells_take (k : IntKind) (ps : List (List UInt8 × Nat)) (i : Nat) (h : i < ps.length) : cells k (ps.take (i + 1)) = cells k (ps.take i) ++ [.string (str (ps[i]).1), .int k (ps[i]).2] := by
  rw [List.take_succ_eq_append_getElem h, cells_app]
  rfl
theorem own_mono {w : World} {B B' e sz : Nat} {v : Value} {n : Nat} {xs : List Value} (h : w.ownsRow B e sz v n xs) (hB : B' ≤ B) : w.ownsRow B' e sz v n xs :=
  ⟨h.1, h.2.imp id fun ⟨g, cap, cur, a, b, c⟩ => ⟨g, cap, cur, a, Nat.le_trans hB b, c⟩⟩
theorem row_at {w : World} {B e : Nat} {k : IntKind} {v : Value} {ps : List (List UInt8 × Nat)} (h : w.ownsRow B e 2 v ps.length (cells k ps)) (hne : ps ≠ []) : ∃ g cap, v = .slice (some ⟨g, 0, none⟩) ps.length cap ∧ B ≤ g ∧ g < w.heap.size ∧ ∀ i (hi : i < ps.length), w.cell? ⟨g, i * 2, none⟩ = some (.string (str (ps[i]).1)) ∧ w.cell? ⟨g, i * 2 + 1, none⟩ = some (.int k (ps[i]).2) := by
  have h0 := h
  rcases h.2 with ⟨rfl, hn⟩ | ⟨g, cap, cur, rfl, hb, hg, _⟩
  · exact absurd (List.eq_nil_of_length_eq_zero hn) hne
  · refine ⟨g, cap, rfl, hb, (Array.getElem?_eq_some_iff.1 hg).1, fun i hi => ?_⟩
    have := cells_get k ps i hi
    rw [h0.cellAt _ (by omega), h0.cellAt _ (by omega)]
    exact this

set_option maxHeartbeats 40000000 in
set_option maxRecDepth 100000 in
theorem glob (s : ByteArray) (w : World) (hs : s.size ≤ 4294967296) : Calls Try.prog 14 #[.string s] w fun e w' => Parts .i64 35 (parse s.size (by' s)) w e w' := by
  obtain ⟨i0, hi, hz0, hz1, hz2⟩ := info_parts info35
  go_enter Try.func14, Try.ntmps14
  go_wp2_with (go_at_call 19; refine (parts s _ hs).mono ?_)
  rintro e w1 ⟨v, rfl, hown, hb1⟩
  obtain ⟨g, cap, rfl, hg1, hg2, hat⟩ := row_at hown (parse_ne _ _)
  have hwild := parse_wild s.size (by' s)
  have hpl : (parse s.size (by' s)).length ≤ 4294967297 := Nat.le_trans (parse_len _ _) (by omega)
  generalize hps : parse s.size (by' s) = ps at hown hat hwild hpl
  have HPS := Lib.hid hps
  have HAT := Lib.hid hat
  have HW := Lib.hid hwild
  have HB1 := Lib.hid hb1
  clear hat hwild hb1 hown hps
  go_wp2_with (fail)
  go_loopw [3, 5, 9] (fun v3 v5 v9 wr => ∃ i : Nat, v9 = .int .i64 i ∧ i ≤ ps.length ∧ Hid (wr.ownsRow w1.heap.size 35 2 v3 i (cells .i64 (ps.take i))) ∧ Hid (Below w1.heap.size w1 wr)) (fun _ _ v9 _ => ps.length - (intOf v9).toNat)
  case atStart => exact ⟨0, rfl, Nat.zero_le _, Lib.hid (World.ownsRow_nil _ _ _ _), Lib.hid (Below.refl _ _)⟩
  case round =>
    obtain ⟨i, rfl, hil, HO, HB⟩ := hrel
    have i0' : (0:Int) ≤ i := by omega
    by_cases hlt : i < ps.length
    · have hlt' : (i:Int) < ps.length := by omega
      have hx := HAT.out i hlt
      have c0 : wr.cell? ⟨g, i * 2, none⟩ = some (.string (str (ps[i]).1)) := by rw [HB.out.cell (by exact hg2)]; exact hx.1
      have c1 : wr.cell? ⟨g, i * 2 + 1, none⟩ = some (.int .u8 (ps[i]).2) := by rw [HB.out.cell (by exact hg2)]; exact hx.2
      have x2 : ((ps[i]).2:Int) ≤ 2 := by have := HW.out _ (List.getElem_mem hlt); omega
      have x0 : (0:Int) ≤ (ps[i]).2 := by omega
      have hsz : w1.heap.size ≤ wr.heap.size := HB.out.size
      go_wp2_with (at_builtin; refine wpList_append_own _ rfl (.tmp 13) (.tmp 20) 30 rfl w1.heap.size 35 i0 (.agg #[.string ⟨#[]⟩, .int .i64 0]) 2 24 Try.underlying30 hi hz0 hz1 hz2 rfl (by decide) _ i _ rfl ((HO.out.alloc _).alloc _) ⟨wr.heap.size + 1, 0, none⟩ 1 1 [.string (str (ps[i]).1), .int .i64 (ps[i]).2] rfl rfl (fun j u h => by have := news_alloc (wr.alloc (Obj.cells #[Value.string (str (ps[i]).1), Value.int IntKind.u8 (ps[i]).2] 38)) _ 35 j u h; simpa using this) (by intro u hu; simp only [List.mem_cons, List.not_mem_nil, or_false] at hu; rcases hu with rfl | rfl <;> rfl) (by unfold maxLen; omega) (by omega) (by simp; omega) ?_)
      intro v' w2 hown3 hgr _
      have HB4 := Lib.hid (show Below w1.heap.size w1 w2 from ((HB.out.alloc HB.out.size _).alloc (by simp; omega) _).grown hgr (by simp; omega) (own_base HO.out))
      have HO4 := Lib.hid (show w2.ownsRow w1.heap.size 35 2 v' (i + 1) (cells .i64 (ps.take (i + 1))) by
        rw [cells_take _ _ _ hlt]
        exact hown3)
      clear hown3 hgr
      go_wp2_with (fail)
      go_roundw
      case rel => exact ⟨i + 1, by simp, by omega, HO4, HB4⟩
      case measure =>
        simp only [intOf]
        omega
    · have hlt' : ¬ (i:Int) < ps.length := by omega
      obtain rfl : i = ps.length := by omega
      have HO5 := Lib.hid (show wr.ownsRow w1.heap.size 35 2 u3 ps.length (cells .i64 ps) by
        have := HO.out
        rw [List.take_length] at this
        exact this)
      go_wp2_with (fail)
      go_ret
      exact ⟨_, rfl, by rw [HPS.out]; exact own_mono HO5.out HB1.out.size, HB1.out.trans (HB.out.mono HB1.out.size)⟩
end Go.Proofs.YtapbhbhaandedaaRRR.fnGlobBack
