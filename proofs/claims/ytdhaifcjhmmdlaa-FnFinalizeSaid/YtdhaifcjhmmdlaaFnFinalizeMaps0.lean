/-
  FnFinalize: what stands ahead of each round of spec.Mappings' loop.
  Conditions: numbers of 31 bits; fewer than 2^32 bytes.
-/
import Derived.Test.YtdhaifcjhmmdlaaFnFinalizeRead
namespace Go.Proofs.Ytdhaifcjhmmdlaa.fnFinalize
open Go.RowKit Go.Proofs.YtdhaifcjhmmdlaaW.PrintWords Go.Proofs.YtdhaifcjhmmdlaaW.PrintLast Go.Proofs.YtdhaifcjhmmdlaaW.PrintMore Go.Proofs.Ytdhaifcjhmmdlaa.PFnFinalize
set_option linter.unusedVariables false
set_option linter.unusedSimpArgs false

def U31 (n : Int) : Prop := 0 ≤ n ∧ n < 2147483648
/-- where the reading stands: numbers from 0 to 2^31 - 1 -/
structure Sf (s : St) : Prop where
  line : U31 s.line
  col : U31 s.col
  src : U31 s.src
  ol : U31 s.ol
  oc : U31 s.oc
  nm : U31 s.nm
def Ok : St → List It → Prop
  | _, [] => True
  | s, i :: r => Sf (stepD s i) ∧ (Sm i.d ∧ Sm i.a ∧ Sm i.b ∧ Sm i.e ∧ ∀ n, i.nm = some n → Sm n) ∧ Ok (stepD s i) r
def mcells (m : Mp) : List Value := [.int .i64 m.line, .int .i64 m.col, .int .i64 m.src, .int .i64 m.ol, .int .i64 m.oc, .int .i64 m.nm]
def scells (s : St) : Array Value := #[.int .i64 s.line, .int .i64 s.col, .int .i64 s.src, .int .i64 s.ol, .int .i64 s.oc, .int .i64 s.nm]
def nums (i : It) : List Int := i.d :: i.a :: i.b :: i.e :: (match i.nm with | none => [] | some n => [n])
theorem rest_nums (i : It) : vlq i.d ++ i.rest = (nums i).flatMap vlq := by
  unfold It.rest nums
  cases i.nm <;> simp
structure Mr (W wr : World) (T : List UInt8) (FULL : List Mp) (v5 : Value) (i : Nat) (s : St) (l : List It) (ms : List Mp) : Prop where
  at6 : wr.heap[W.heap.size + 1]? = some (.cells (scells s) 32 (0, 0))
  res : wr.heap[W.heap.size]? = some (.cells (scells st0) 32 (0, 0))
  row : wr.ownsRow (W.heap.size + 2) 27 6 v5 ms.length (ms.flatMap mcells)
  bl : Below W.heap.size W wr
  sz : W.heap.size + 2 ≤ wr.heap.size
  dr : T.drop i = rn l
  le : i ≤ T.length
  full : ms ++ dec s l = FULL
  sf : Sf s
  ok : Ok s l
  sep : ∀ x ∈ l.tail, x.c = true ∨ 0 < x.k
  cs : Cs l
  ln : ms.length + l.length ≤ 1000
theorem txt_k (i : It) (k : Nat) (hk : i.k = k + 1) (r : List It) : rn (i :: r) = 59 :: rn ({ i with k := k } :: r) := by
  rw [rn_cons, rn_cons]
  unfold It.txt It.head
  rw [hk]
  rfl
theorem txt_c (i : It) (hk : i.k = 0) (hc : i.c = true) (r : List It) : rn (i :: r) = 44 :: rn ({ i with c := false } :: r) := by
  rw [rn_cons, rn_cons]
  unfold It.txt It.head
  simp only [hk, hc]
  rfl
theorem txt_n (i : It) (hk : i.k = 0) (hc : i.c = false) (r : List It) : rn (i :: r) = (nums i).flatMap vlq ++ rn r := by
  rw [rn_cons, ← rest_nums]
  unfold It.txt It.head
  simp only [hk, hc]
  simp [It.rest]
/-- a semicolon -/
def St.line1 (s : St) : St := { s with line := s.line + 1, col := 0 }
theorem stepD_line1 (s : St) (i : It) (k : Nat) (hk : i.k = k + 1) : stepD s.line1 { i with k := k } = stepD s i := by
  unfold stepD St.line1
  simp only [hk]
  have e1 : s.line + 1 + (k : Int) = s.line + ((k + 1 : Nat) : Int) := by omega
  simp [e1]
theorem stepD_line (s : St) (i : It) : (stepD s i).line = s.line + i.k := rfl
theorem Mr.semi {W wr w' : World} {T : List UInt8} {FULL : List Mp} {v5 : Value} {i : Nat} {s : St} {it : It} {r : List It} {ms : List Mp} (h : Mr W wr T FULL v5 i s (it :: r) ms) (k : Nat) (hk : it.k = k + 1) (hi : i < T.length)
    (h6 : w'.heap[W.heap.size + 1]? = some (.cells (scells s.line1) 32 (0, 0))) (hk6 : ∀ g, g ≠ W.heap.size + 1 → w'.heap[g]? = wr.heap[g]?) (hs : w'.heap.size = wr.heap.size) (ho : w'.os = wr.os) (ht : w'.tape = wr.tape) (hout : w'.output = wr.output) :
    Mr W w' T FULL v5 (i + 1) s.line1 ({ it with k := k } :: r) ms := by
  have hd := h.dr
  rw [txt_k it k hk r] at hd
  have hst := stepD_line1 s it k hk
  have hok := h.ok
  refine ⟨h6, (hk6 _ (by omega)).trans h.res, ?_, ⟨ho.trans h.bl.os, ht.trans h.bl.tape, hout.trans h.bl.output, by rw [hs]; exact h.bl.size, fun g hg => (hk6 g (by omega)).trans (h.bl.block g hg)⟩, by rw [hs]; exact h.sz, (drop_at hd).2.2, hi, ?_, ?_, ?_, h.sep, ?_, h.ln⟩
  · refine ⟨h.row.1, ?_⟩
    rcases h.row.2 with hn | ⟨g, cap, cur, e, h1, h2, h3⟩
    · exact .inl hn
    · exact .inr ⟨g, cap, cur, e, h1, (hk6 g (by omega)).trans h2, h3⟩
  · rw [← h.full]
    unfold dec
    rw [hst]
    rfl
  · have hl := hok.1.line
    rw [stepD_line, hk] at hl
    have h0 := h.sf.line
    exact ⟨⟨by show 0 ≤ s.line + 1; have := h0.1; omega, by show s.line + 1 < _; have := hl.2; omega⟩, ⟨Int.le_refl _, by show (0 : Int) < 2147483648; decide⟩, h.sf.src, h.sf.ol, h.sf.oc, h.sf.nm⟩
  · exact ⟨by rw [hst]; exact hok.1, hok.2.1, by rw [hst]; exact hok.2.2⟩
  · intro x hx hc
    rcases List.mem_cons.1 hx with rfl | hx
    · have := h.cs it (by simp) hc
      omega
    · exact h.cs x (List.mem_cons_of_mem _ hx) hc
theorem Mr.comma {W wr : World} {T : List UInt8} {FULL : List Mp} {v5 : Value} {i : Nat} {s : St} {it : It} {r : List It} {ms : List Mp} (h : Mr W wr T FULL v5 i s (it :: r) ms) (hk : it.k = 0) (hc : it.c = true) (hi : i < T.length) :
    Mr W wr T FULL v5 (i + 1) s ({ it with c := false } :: r) ms := by
  have hd := h.dr
  rw [txt_c it hk hc r] at hd
  have hst : stepD s { it with c := false } = stepD s it := rfl
  have hok := h.ok
  refine ⟨h.at6, h.res, h.row, h.bl, h.sz, (drop_at hd).2.2, hi, by rw [← h.full]; rfl, h.sf, hok, h.sep, ?_, h.ln⟩
  intro x hx hc
  rcases List.mem_cons.1 hx with rfl | hx
  · exact hk
  · exact h.cs x (List.mem_cons_of_mem _ hx) hc
theorem step_flat (s : St) (it : It) (hk : it.k = 0) : stepD s it = ⟨s.line, s.col + it.d, s.src + it.a, s.ol + it.b, s.oc + it.e, match it.nm with | none => s.nm | some n => s.nm + n⟩ := by
  unfold stepD
  rw [hk]
  cases it.nm <;> simp
/-- a segment has been read -/
theorem Mr.seg {W wr w' : World} {T : List UInt8} {FULL : List Mp} {v5 v5' : Value} {i p : Nat} {s : St} {it : It} {r : List It} {ms : List Mp} (h : Mr W wr T FULL v5 i s (it :: r) ms) (hk : it.k = 0) (hp : T.drop p = rn r) (hpl : p ≤ T.length)
    (h6 : w'.heap[W.heap.size + 1]? = some (.cells (scells (stepD s it)) 32 (0, 0))) (h0 : w'.heap[W.heap.size]? = some (.cells (scells st0) 32 (0, 0))) (hr : w'.ownsRow (W.heap.size + 2) 27 6 v5' (ms.length + 1) (ms.flatMap mcells ++ mcells (outD (stepD s it) it))) (hb : Below W.heap.size W w') (hz : W.heap.size + 2 ≤ w'.heap.size) :
    Mr W w' T FULL v5' p (stepD s it) r (ms ++ [outD (stepD s it) it]) := by
  have hok := h.ok
  refine ⟨h6, h0, ?_, hb, hz, hp, hpl, ?_, hok.1, hok.2.2, fun x hx => h.sep x (List.mem_of_mem_tail hx), h.cs.tail, ?_⟩
  · rw [List.length_append, List.flatMap_append]
    simpa using hr
  · rw [← h.full]
    simp [dec]
  · have := h.ln
    simp only [List.length_append, List.length_cons, List.length_nil] at this ⊢
    omega
/-- what stands behind a segment's numbers -/
theorem behind2 {T : List UInt8} {p : Nat} {r : List It} (h : T.drop p = rn r) (hn : ∀ x ∈ r.head?, x.c = true ∨ 0 < x.k) (hc : Cs r) : T.length ≤ p ∨ (∃ b t, T.drop p = b :: t ∧ (b = 44 ∨ b = 59)) := by
  cases r with
  | nil =>
    left
    have := congrArg List.length h
    simp [rn] at this
    omega
  | cons x r =>
    right
    cases hk : x.k with
    | succ k => exact ⟨59, _, by rw [h, txt_k x k hk], .inr rfl⟩
    | zero =>
      have hx : x.c = true := by
        rcases hn x (by simp) with h1 | h1
        · exact h1
        · omega
      exact ⟨44, _, by rw [h, txt_c x hk hx], .inl rfl⟩
theorem bs_get (T : List UInt8) (p : Nat) (h : p < (bs T).size) : (bs T)[p] = T[p]'(by rw [bs_size] at h; exact h) := rfl
theorem char_at {T : List UInt8} {i : Nat} {b : UInt8} {r : List UInt8} (h : T.drop i = b :: r) : ∀ hi : i < (bs T).size, (((bs T)[i]'hi).toNat : Int) = (b.toNat : Int) := by
  intro hi
  obtain ⟨hp, hb, _⟩ := drop_at h
  rw [bs_get T i hi, hb]
theorem own_slice {w : World} {base ee : Nat} {v : Value} {n : Nat} {xs : List Value} (h : w.ownsRow base ee 1 v n xs) : ∃ A cap, v = .slice A n cap := by
  rcases h.2 with ⟨rfl, rfl⟩ | ⟨g, cap, cur, rfl, _⟩
  · exact ⟨none, 0, rfl⟩
  · exact ⟨_, cap, rfl⟩
theorem own_read {w : World} {base ee : Nat} {v : Value} {n : Nat} {xs : List Value} (h : w.ownsRow base ee 1 v n xs) (hn : 0 < n) : ∃ g cap, v = .slice (some ⟨g, 0, none⟩) n cap ∧ base ≤ g ∧ g < w.heap.size ∧ n ≤ cap ∧ ∀ j (hj : j < xs.length), w.cell? ⟨g, j, none⟩ = some xs[j] := by
  have h0 := h
  rcases h.2 with ⟨rfl, hz⟩ | ⟨g, cap, cur, rfl, hb, hg, hc, _⟩
  · omega
  · refine ⟨g, cap, rfl, hb, (Array.getElem?_eq_some_iff.1 hg).1, hc, fun j hj => ?_⟩
    have hl := h0.1
    have := h0.cellAt j (by omega)
    rw [this]
    simp [hj]
theorem vlq_first2 (n : Int) : ∃ b r, vlq n = b :: r ∧ ((b.toNat : Int) == 59) = false ∧ ((b.toNat : Int) == 44) = false ∧ ((b.toNat : Int) != 59) = true ∧ ((b.toNat : Int) != 44) = true := by
  obtain ⟨b, r, h1, h2, h3⟩ := vlq_first n
  exact ⟨b, r, h1, h2, h3, by simp [bne, h2], by simp [bne, h3]⟩
theorem nums_len (it : It) : 4 ≤ (nums it).length ∧ (nums it).length ≤ 5 := by
  unfold nums
  cases it.nm <;> simp
theorem nums_sm {it : It} (h : Sm it.d ∧ Sm it.a ∧ Sm it.b ∧ Sm it.e ∧ ∀ n, it.nm = some n → Sm n) : ∀ n ∈ nums it, Sm n := by
  obtain ⟨h1, h2, h3, h4, h5⟩ := h
  intro n hn
  unfold nums at hn
  cases hm : it.nm with
  | none =>
    rw [hm] at hn
    simp only [List.mem_cons, List.not_mem_nil, or_false] at hn
    rcases hn with rfl | rfl | rfl | rfl <;> assumption
  | some q =>
    rw [hm] at hn
    simp only [List.mem_cons, List.not_mem_nil, or_false] at hn
    rcases hn with rfl | rfl | rfl | rfl | rfl
    · exact h1
    · exact h2
    · exact h3
    · exact h4
    · exact h5 _ hm
theorem info3 : (Try.prog.info? 3).map (fun i => (i.zero, i.size, i.bytes)) = some (some (.int .i64 0), 1, 8) := by kernel_rfl
theorem info27 : (Try.prog.info? 27).map (fun i => (i.zero, i.size, i.bytes)) = some (some (.agg #[.int .i64 0, .int .i64 0, .int .i64 0, .int .i64 0, .int .i64 0, .int .i64 0]), 6, 48) := by kernel_rfl
theorem drop_len {T a b : List UInt8} {p : Nat} (h : T.drop p = a ++ b) (hp : p ≤ T.length) : p + a.length ≤ T.length := by
  have := congrArg List.length h
  simp at this
  omega
theorem own_cells {w : World} {base ee : Nat} {v : Value} {n : Nat} {it : It} (h : w.ownsRow base ee 1 v n ((nums it).map (Value.int .i64))) (hn : n = (nums it).length) : ∃ g cap, v = .slice (some ⟨g, 0, none⟩) n cap ∧ base ≤ g ∧ g < w.heap.size ∧ n ≤ cap ∧
    w.cell? ⟨g, 0, none⟩ = some (.int .i64 it.d) ∧ w.cell? ⟨g, 1, none⟩ = some (.int .i64 it.a) ∧ w.cell? ⟨g, 2, none⟩ = some (.int .i64 it.b) ∧ w.cell? ⟨g, 3, none⟩ = some (.int .i64 it.e) ∧ ∀ q, it.nm = some q → n = 5 ∧ w.cell? ⟨g, 4, none⟩ = some (.int .i64 q) := by
  have h4 := nums_len it
  obtain ⟨g, cap, rfl, h1, h2, h3, hc⟩ := own_read h (by omega)
  refine ⟨g, cap, rfl, h1, h2, h3, ?_, ?_, ?_, ?_, fun q hq => ⟨by rw [hn]; unfold nums; rw [hq]; rfl, ?_⟩⟩
  · have := hc 0 (by rw [List.length_map]; omega)
    simpa [nums] using this
  · have := hc 1 (by rw [List.length_map]; omega)
    simpa [nums] using this
  · have := hc 2 (by rw [List.length_map]; omega)
    simpa [nums] using this
  · have := hc 3 (by rw [List.length_map]; omega)
    simpa [nums] using this
  · have := hc 4 (by rw [List.length_map]; unfold nums; rw [hq]; simp)
    simpa [nums, hq] using this
/-- one block alone has changed -/
structure Up (b : Nat) (w w' : World) : Prop where
  os : w'.os = w.os
  tape : w'.tape = w.tape
  output : w'.output = w.output
  size : w'.heap.size = w.heap.size
  other : ∀ g, g ≠ b → w'.heap[g]? = w.heap[g]?
theorem Up.refl (b : Nat) (w : World) : Up b w w := ⟨rfl, rfl, rfl, rfl, fun _ _ => rfl⟩
theorem Up.drew {b : Nat} {w w' : World} (h : Up b w w') : Up b w w'.drew := ⟨h.os, h.tape, h.output, h.size, h.other⟩
theorem Up.put {b : Nat} {w w' : World} (h : Up b w w') (o : Nat) (v : Value) : Up b w (w'.setCell ⟨b, o, none⟩ v) := ⟨h.os, h.tape, h.output, by simp [World.setCell, h.size], fun g hg => (Below.heap_setCell w' ⟨b, o, none⟩ _ g hg).trans (h.other g hg)⟩
theorem Up.trans {b : Nat} {w1 w2 w3 : World} (h : Up b w1 w2) (k : Up b w2 w3) : Up b w1 w3 := ⟨k.os.trans h.os, k.tape.trans h.tape, k.output.trans h.output, k.size.trans h.size, fun g hg => (k.other g hg).trans (h.other g hg)⟩
theorem Up.below {b N : Nat} {w w' : World} (h : Up b w w') (hb : N ≤ b) : Below N w w' := ⟨h.os, h.tape, h.output, Nat.le_of_eq h.size.symm, fun g hg => h.other g (by omega)⟩
theorem Up.own {b base ee sz n : Nat} {w w' : World} {v : Value} {xs : List Value} (h : Up b w w') (hr : w.ownsRow base ee sz v n xs) (hb : b < base) : w'.ownsRow base ee sz v n xs := by
  refine ⟨hr.1, ?_⟩
  rcases hr.2 with hn | ⟨g, cap, cur, e, h1, h2, h3⟩
  · exact .inl hn
  · exact .inr ⟨g, cap, cur, e, h1, (h.other g (by omega)).trans h2, h3⟩
theorem own_below {N base ee sz n : Nat} {w w' : World} {v : Value} {xs : List Value} (h : Below N w w') (hr : w.ownsRow base ee sz v n xs) (hN : w.heap.size ≤ N) : w'.ownsRow base ee sz v n xs := by
  refine ⟨hr.1, ?_⟩
  rcases hr.2 with hn | ⟨g, cap, cur, e, h1, h2, h3⟩
  · exact .inl hn
  · exact .inr ⟨g, cap, cur, e, h1, (h.block g (by have := blk_lt h2; omega)).trans h2, h3⟩
theorem sf_wraps {s : St} {it : It} (hs : Sf s) (ht : Sf (stepD s it)) (hk : it.k = 0) : wrap64 (s.col + it.d) = s.col + it.d ∧ wrap64 (s.src + it.a) = s.src + it.a ∧ wrap64 (s.ol + it.b) = s.ol + it.b ∧ wrap64 (s.oc + it.e) = s.oc + it.e ∧ ∀ q, it.nm = some q → wrap64 (s.nm + q) = s.nm + q := by
  rw [step_flat s it hk] at ht
  have w : ∀ n : Int, U31 n → wrap64 n = n := fun n h => by have := h.1; have := h.2; unfold wrap64; omega
  refine ⟨w _ ht.col, w _ ht.src, w _ ht.ol, w _ ht.oc, fun q hq => w _ ?_⟩
  have := ht.nm
  simp only [hq] at this
  exact this
end Go.Proofs.Ytdhaifcjhmmdlaa.fnFinalize
