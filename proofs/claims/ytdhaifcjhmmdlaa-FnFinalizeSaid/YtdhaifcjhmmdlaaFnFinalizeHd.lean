/-
  FnFinalize: what stands ahead of each round of Finalize's loop, and how a round keeps it.
  Conditions: numbers of 31 bits; fewer than 2^32 bytes.
-/
import Derived.Test.YtdhaifcjhmmdlaaFnFinalizeAdd
namespace Go.Proofs.Ytdhaifcjhmmdlaa.fnFinalize
open Go.RowKit Go.Proofs.YtdhaifcjhmmdlaaW.PrintWords Go.Proofs.YtdhaifcjhmmdlaaW.PrintLast Go.Proofs.YtdhaifcjhmmdlaaW.PrintMore
set_option linter.unusedVariables false
set_option linter.unusedSimpArgs false

def Sm (n : Int) : Prop := -2147483648 < n ∧ n < 2147483648
def Rg (l : List It) : Prop := ∀ i ∈ l, Sm i.d ∧ Sm i.a ∧ Sm i.b ∧ Sm i.e ∧ ∀ n, i.nm = some n → Sm n
/-- the shifts are small, and stay on their lines -/
def Ss (sh : List Sh) : Prop := sh ≠ [] ∧ ∀ s ∈ sh, 0 ≤ s.line ∧ s.line ≤ 1000 ∧ 0 ≤ s.col ∧ s.col ≤ 1048576 ∧ 0 ≤ s.acol ∧ s.acol ≤ 1048576 ∧ s.aline = s.line
/-- what stands ahead of a round -/
structure Hd (W wr : World) (b1 b2 : Nat) (vp vm vs v1 : Value) (P T S FN : List UInt8) (L : Nat) (f : Fs) (l : List It) (i run : Nat) (chs : Chs) (rv : Value) : Prop where
  t9 : wr.heap[b1]? = some (.cells #[.int .i64 f.line, .int .i64 f.col] 44 (0, 0))
  t2 : wr.heap[W.heap.size]? = some (.cells #[vp, vm, vs] 49 (0, 0))
  sl : Sl wr W.heap.size v1 f.sh
  jo : Jo wr (b2 + 1) b2 [W.heap.size, b1, b2] rv chs
  bl : Below W.heap.size W wr
  dr : T.drop i = tl l
  le : run ≤ i ∧ i ≤ T.length
  fn : all chs ++ ((T.take i).drop run ++ tlF f l) = FN
  cs : Cs l
  cn : ∀ x ∈ l.tail, x.c = true ∨ 0 < x.k
  rg : Rg l
  ss : Ss f.sh
  pv : -1048576 ≤ f.prev ∧ f.prev ≤ 1048576
  ln : 0 ≤ f.line ∧ f.line ≤ i
  cl : -(2147483648 * (L - l.length : Nat) : Int) ≤ f.col ∧ f.col ≤ 2147483648 * (L - l.length : Nat) ∧ l.length ≤ L
  ch : chs.length + 2 * l.length ≤ 2 * L + 1
theorem tl_nil {l : List It} (h : tl l = []) : l = [] := by
  cases l with
  | nil => rfl
  | cons x r =>
    exfalso
    have h : txtN x ++ rn r = [] := h
    have h := congrArg List.length h
    have hv : (vlq x.d).length ≠ 0 := fun e => vl_ne (zig x.d) (List.eq_nil_of_length_eq_zero e)
    have e : txtN x ++ rn r = List.replicate x.k 59 ++ (vlq x.d ++ (x.rest ++ rn r)) := by simp [txtN]
    rw [e, List.length_append, List.length_append] at h
    simp at h
    exact vl_ne (zig x.d) h.2.1
theorem tot_lt {FN : List UInt8} {chs : Chs} {x : List UInt8} (h : all chs ++ x = FN) : tot chs + x.length = FN.length := by
  rw [← h, List.length_append, all_len]
theorem Gr.hk {j : Nat} {rv : Value} {W w' : World} {B : Nat} (h : Gr j rv.ownBlock W w') (hr : ∀ k, rv.ownBlock = some k → B ≤ k) {g : Nat} (hg : g < W.heap.size) (h1 : g ≠ j) (h2 : g < B) : w'.heap[g]? = W.heap[g]? := h.block g hg h1 (fun e => by have := hr g e.symm; omega)
theorem Jo.keep {W W' : World} {B j : Nat} {X : List Nat} {rv : Value} {chs : Chs} (h : Jo W B j X rv chs) (x : Nat) (hx : x ∈ X) (hxj : x ≠ j) (hsz : W.heap.size ≤ W'.heap.size) (hk : ∀ g, g < W.heap.size → g ≠ x → W'.heap[g]? = W.heap[g]?) : Jo W' B j X rv chs := by
  have hjB := h.XB j h.jX
  have hxB := h.XB x hx
  have hs := h.size
  obtain ⟨lb, hb⟩ := h.blk
  refine ⟨⟨lb, (hk j (by omega) (fun e => hxj e.symm)).trans hb⟩, ?_, fun p hp => ?_, h.jX, h.XB, by omega⟩
  · refine ⟨h.own.1, ?_⟩
    rcases h.own.2 with hn | ⟨g, cap, cur, e, h1, h2, h3⟩
    · exact .inl hn
    · exact .inr ⟨g, cap, cur, e, h1, (hk g (blk_lt h2) (by omega)).trans h2, h3⟩
  · exact (h.ck p hp).keep hsz (.inl rfl) (fun g h1 h2 _ => hk g h1 (fun e => h2 (e ▸ hx)))
/-- a change of the place alone -/
theorem Hd.put {W wr w' : World} {b1 b2 : Nat} {vp vm vs v1 : Value} {P T S FN : List UInt8} {L : Nat} {f : Fs} {l : List It} {i run : Nat} {chs : Chs} {rv : Value} (h : Hd W wr b1 b2 vp vm vs v1 P T S FN L f l i run chs rv)
    (hb1 : W.heap.size < b1) (hb2 : b1 < b2) (ho : w'.os = wr.os) (ht : w'.tape = wr.tape) (hout : w'.output = wr.output) (hsz : wr.heap.size ≤ w'.heap.size) (hk : ∀ g, g < wr.heap.size → g ≠ b1 → w'.heap[g]? = wr.heap[g]?) :
    Below W.heap.size W w' ∧ Sl w' W.heap.size v1 f.sh ∧ Jo w' (b2 + 1) b2 [W.heap.size, b1, b2] rv chs ∧ w'.heap[W.heap.size]? = some (.cells #[vp, vm, vs] 49 (0, 0)) := by
  have hs := h.jo.size
  have hbl : Below W.heap.size wr w' := ⟨ho, ht, hout, hsz, fun k hk2 => hk k (by omega) (by omega)⟩
  exact ⟨h.bl.trans hbl, h.sl.below hbl, h.jo.keep b1 (by simp) (by omega) hsz hk, (hk _ (by omega) (by omega)).trans h.t2⟩
theorem take_drop_succ {T : List UInt8} {run i : Nat} (h : run ≤ i) (hi : i < T.length) : (T.take (i + 1)).drop run = (T.take i).drop run ++ [T[i]] := by
  rw [List.take_succ_eq_append_getElem hi, List.drop_append_of_le_length (by simp; omega)]
/-- a semicolon is passed -/
theorem Hd.semi {W wr w' : World} {b1 b2 : Nat} {vp vm vs v1 : Value} {P T S FN : List UInt8} {L : Nat} {f : Fs} {it : It} {r : List It} {i run : Nat} {chs : Chs} {rv : Value} (h : Hd W wr b1 b2 vp vm vs v1 P T S FN L f (it :: r) i run chs rv)
    (k : Nat) (hk : it.k = k + 1) (hi : i < T.length) (hTi : T[i] = 59) (hdr : T.drop (i + 1) = tl ({ it with k := k } :: r)) (h9 : w'.heap[b1]? = some (.cells #[.int .i64 (f.line + 1), .int .i64 0] 44 (0, 0)))
    (q1 : Below W.heap.size W w') (q2 : Sl w' W.heap.size v1 f.sh) (q3 : Jo w' (b2 + 1) b2 [W.heap.size, b1, b2] rv chs) (q4 : w'.heap[W.heap.size]? = some (.cells #[vp, vm, vs] 49 (0, 0))) :
    Hd W w' b1 b2 vp vm vs v1 P T S FN L f.line1 ({ it with k := k } :: r) (i + 1) run chs rv := by
  have hle := h.le
  have hln := h.ln
  have hcl := h.cl
  refine ⟨h9, q4, q2, q3, q1, hdr, ⟨by omega, by omega⟩, ?_, h.cs.low k hk, h.cn, ?_, h.ss, by show -1048576 ≤ (0 : Int) ∧ (0 : Int) ≤ 1048576; omega, ?_, ?_, h.ch⟩
  · rw [← h.fn, tlF_semi f it k hk, take_drop_succ hle.1 hi, hTi]
    simp
  · intro x hx
    rcases List.mem_cons.1 hx with rfl | hx
    · exact h.rg it (by simp)
    · exact h.rg x (by simp [hx])
  · show 0 ≤ f.line + 1 ∧ f.line + 1 ≤ ((i + 1 : Nat) : Int)
    omega
  · show _ ≤ (0 : Int) ∧ (0 : Int) ≤ _ ∧ _
    simp only [List.length_cons] at hcl ⊢
    omega
theorem vlq_first (n : Int) : ∃ b r, vlq n = b :: r ∧ ((b.toNat : Int) == 59) = false ∧ ((b.toNat : Int) == 44) = false := by
  cases h : vlq n with
  | nil => exact absurd h (vl_ne _)
  | cons b r =>
    have hb : b ∈ digs := vl_mem (zig n) b (by show b ∈ vlq n; rw [h]; simp)
    have hd : ∀ x ∈ digs, ((x.toNat : Int) == 59) = false ∧ ((x.toNat : Int) == 44) = false := by decide
    exact ⟨b, r, rfl, hd b hb⟩
theorem drop_app {T a b : List UInt8} {p : Nat} (h : T.drop p = a ++ b) : T.drop (p + a.length) = b := by
  rw [← List.drop_drop, h, List.drop_left]
theorem drop_lt {T : List UInt8} {p : Nat} {b : List UInt8} (h : T.drop p = b) (hb : b ≠ []) : p < T.length := by
  rcases Nat.lt_or_ge p T.length with h1 | h1
  · exact h1
  · rw [List.drop_of_length_le h1] at h
    exact absurd h.symm hb
theorem vlq_ne (n : Int) : vlq n ≠ [] := vl_ne _
theorem Sm.big {n : Int} (h : Sm n) : -4294967296 < n ∧ n < 4294967296 := ⟨by have := h.1; omega, by have := h.2; omega⟩
theorem wrap_col {L : Nat} {c d : Int} {n : Nat} (h : -(2147483648 * (L - n : Nat) : Int) ≤ c ∧ c ≤ 2147483648 * (L - n : Nat) ∧ n ≤ L) (hL : L ≤ 1000) (hd : Sm d) : wrap64 (c + d) = c + d := by
  obtain ⟨h1, h2, h3⟩ := h
  obtain ⟨d1, d2⟩ := hd
  have : ((L - n : Nat) : Int) ≤ 1000 := by omega
  unfold wrap64
  omega
def nmt (it : It) : List UInt8 := match it.nm with | none => [] | some n => vlq n
theorem rest_eq (it : It) : it.rest = vlq it.a ++ (vlq it.b ++ (vlq it.e ++ nmt it)) := by
  unfold It.rest nmt
  simp only [List.append_assoc]
  cases it.nm <;> rfl
/-- what stands behind a segment that has no name, or behind its name -/
theorem behind {T : List UInt8} {p : Nat} {r : List It} (h : T.drop p = comma r ++ tl r) (hc : ∀ x ∈ r, x.c = true → x.k = 0) (hn : ∀ x ∈ r.head?, x.c = true ∨ 0 < x.k) :
    (r = [] ∧ T.length ≤ p) ∨ (comma r = [44] ∧ T.drop p = 44 :: tl r ∧ p < T.length) ∨ (comma r = [] ∧ ∃ s, T.drop p = 59 :: s ∧ p < T.length) := by
  cases r with
  | nil =>
    refine .inl ⟨rfl, ?_⟩
    have := congrArg List.length h
    simp [comma, tl] at this
    omega
  | cons x r =>
    refine .inr ?_
    by_cases hx : x.c = true
    · have e : comma (x :: r) = [44] := by simp [comma, hx]
      rw [e] at h
      exact .inl ⟨e, h, drop_lt h (by simp)⟩
    · have e : comma (x :: r) = [] := by simp [comma, hx]
      rw [e] at h
      have hk : 0 < x.k := by
        rcases hn x (by simp) with h1 | h1
        · exact absurd h1 hx
        · exact h1
      obtain ⟨k, hk⟩ : ∃ k, x.k = k + 1 := ⟨x.k - 1, by omega⟩
      rw [tl_semi x k hk] at h
      exact .inr ⟨e, _, h, drop_lt h (by simp)⟩
theorem comma_or (r : List It) : comma r = [44] ∨ comma r = [] := by
  cases r with
  | nil => exact .inr rfl
  | cons x r =>
    by_cases hx : x.c = true
    · exact .inl (by simp [comma, hx])
    · exact .inr (by simp [comma, hx])
theorem skip_t {line col : Int} (s t : Sh) (r : List Sh) (h : bef ⟨t.line, t.col, 0, 0⟩ line col = true) : skip line col (s :: t :: r) = skip line col (t :: r) := by
  have h : bef t line col = true := h
  rw [skip, if_pos h]
theorem skip_f {line col : Int} (s t : Sh) (r : List Sh) (h : bef ⟨t.line, t.col, 0, 0⟩ line col = false) : skip line col (s :: t :: r) = s :: t :: r := by
  have h : bef t line col = false := h
  rw [skip, if_neg (by rw [h]; simp)]
theorem Sl.tail {W : World} {N g o cap : Nat} {s : Sh} {sh : List Sh} (h : Sl W N (.slice (some ⟨g, o, none⟩) (s :: sh).length cap) (s :: sh)) (hn : sh ≠ []) : Sl W N (.slice (if cap = 1 then some ⟨g, o, none⟩ else some ⟨g, o + 4, none⟩) ((s :: sh).length - 1) (cap - 1)) sh := by
  obtain ⟨g', o', cap', e, h2, h3, h4⟩ := h
  cases e
  have hl : 0 < sh.length := List.length_pos_iff.2 hn
  have hl2 : (s :: sh).length = sh.length + 1 := rfl
  rw [if_neg (by omega)]
  refine ⟨g, o + 4, cap - 1, by rw [hl2]; rfl, by omega, h3, fun i hi => ?_⟩
  have := h4 (i + 1) (by rw [hl2]; omega)
  rw [show o + (i + 1) * 4 = o + 4 + i * 4 by omega] at this
  exact this
theorem dec_lt {a b : Nat} (h : a < b) : decide ((a : Int) < (b : Int)) = true := decide_eq_true (by omega)
theorem dec_ge {a b : Nat} (h : b ≤ a) : decide ((a : Int) < (b : Int)) = false := decide_eq_false (by omega)
theorem wrap_up {i n : Nat} (h : i < n) (hn : n < 4294967296) : wrap64 ((i : Int) + 1) = (i : Int) + 1 := by unfold wrap64; omega
theorem wrap_line {x : Int} {i n : Nat} (h : 0 ≤ x ∧ x ≤ i) (hi : i < n) (hn : n < 4294967296) : wrap64 (x + 1) = x + 1 := by unfold wrap64; omega
theorem drop_ne {l : List UInt8} {p : Nat} (h : p < l.length) : l.drop p ≠ [] := by
  intro e
  have := congrArg List.length e
  simp at this
  omega
theorem Jo.wide {W W' : World} {B j : Nat} {X : List Nat} {rv : Value} {chs : Chs} (h : Jo W B j X rv chs) (hsz : W.heap.size ≤ W'.heap.size) (hk : ∀ g, g < W.heap.size → W'.heap[g]? = W.heap[g]?) : Jo W' B j X rv chs := by
  have hjB := h.XB j h.jX
  have hs := h.size
  obtain ⟨lb, hb⟩ := h.blk
  refine ⟨⟨lb, (hk j (by omega)).trans hb⟩, ?_, fun p hp => ?_, h.jX, h.XB, by omega⟩
  · refine ⟨h.own.1, ?_⟩
    rcases h.own.2 with hn | ⟨g, cap, cur, e, h1, h2, h3⟩
    · exact .inl hn
    · exact .inr ⟨g, cap, cur, e, h1, (hk g (blk_lt h2)).trans h2, h3⟩
  · exact (h.ck p hp).keep hsz (.inl rfl) (fun g h1 _ _ => hk g h1)
theorem go_flat (f : Fs) (it : It) (hk : it.k = 0) : f.go it = ⟨f.line, f.col + it.d, f.prev, skip f.line (f.col + it.d) f.sh⟩ := by
  unfold Fs.go
  rw [hk]
  simp
theorem hit_flat (f : Fs) (it : It) (hk : it.k = 0) : f.hit it = decide ((skip f.line (f.col + it.d) f.sh).length ≠ f.sh.length ∧ ((skip f.line (f.col + it.d) f.sh).headD ⟨0, 0, 0, 0⟩).aline = f.line) := by
  unfold Fs.hit
  rw [go_flat f it hk, hk]
  simp
theorem seg_len {T : List UInt8} {i : Nat} {a b c d : List UInt8} (h : T.drop i = a ++ (b ++ (c ++ d))) (hi : i ≤ T.length) : i + a.length + b.length + c.length ≤ T.length := by
  have := congrArg List.length h
  simp at this
  omega
theorem take_more {T : List UInt8} {i run n : Nat} {a d : List UInt8} (h : T.drop i = a ++ d) (hr : run ≤ i) (hi : i ≤ T.length) (hn : n = i + a.length) : (T.take n).drop run = (T.take i).drop run ++ a := by
  have e : T.take n = T.take i ++ a := by
    rw [hn, List.take_add, h, List.take_left]
  rw [e, List.drop_append_of_le_length (by simp; omega)]
theorem Hd.seg {W wr w' : World} {b1 b2 : Nat} {vp vm vs v1 v1' : Value} {P T S FN : List UInt8} {L : Nat} {f : Fs} {it : It} {r : List It} {i run p6 : Nat} {chs : Chs} {rv : Value} (h : Hd W wr b1 b2 vp vm vs v1 P T S FN L f (it :: r) i run chs rv)
    (hk : it.k = 0) (hdr : T.drop i = vlq it.d ++ (it.rest ++ (comma r ++ tl r))) (hp : p6 = i + (vlq it.d).length + it.rest.length + (comma r).length) (hh : f.hit it = false)
    (h9 : w'.heap[b1]? = some (.cells #[.int .i64 f.line, .int .i64 (f.col + it.d)] 44 (0, 0))) (q1 : Below W.heap.size W w') (q2 : Sl w' W.heap.size v1' (skip f.line (f.col + it.d) f.sh)) (q3 : Jo w' (b2 + 1) b2 [W.heap.size, b1, b2] rv chs)
    (q4 : w'.heap[W.heap.size]? = some (.cells #[vp, vm, vs] 49 (0, 0))) (hss : Ss (skip f.line (f.col + it.d) f.sh)) :
    Hd W w' b1 b2 vp vm vs v1' P T S FN L (f.step it) r p6 run chs rv := by
  have hle := h.le
  have hln := h.ln
  have hcl := h.cl
  have hd := (h.rg it (by simp)).1
  have hst : f.step it = ⟨f.line, f.col + it.d, f.prev, skip f.line (f.col + it.d) f.sh⟩ := by
    unfold Fs.step
    rw [hh, go_flat f it hk]
    rfl
  have htu : f.turn it = it := by
    unfold Fs.turn
    rw [hh]
    rfl
  have hsl := seg_len hdr hle.2
  have hch := h.ch
  simp only [List.length_cons] at hcl hch
  rw [hst]
  refine ⟨h9, q4, q2, q3, q1, ?_, ⟨by omega, by omega⟩, ?_, h.cs.tail, ?_, ?_, hss, h.pv, ⟨hln.1, by show f.line ≤ _; omega⟩, ?_, by omega⟩
  · have := drop_app (drop_app (drop_app hdr))
    rw [← hp] at this
    exact this
  · rw [← h.fn, tlF_seg f it hk r h.cs.tail, htu, hst]
    have hdr2 : T.drop i = (vlq it.d ++ it.rest ++ comma r) ++ tl r := by rw [hdr]; simp
    rw [take_more (n := p6) hdr2 hle.1 hle.2 (by simp; omega)]
    simp
  · intro x hx
    exact h.cn x (List.mem_of_mem_tail hx)
  · intro x hx
    exact h.rg x (by simp [hx])
  · show _ ≤ f.col + it.d ∧ f.col + it.d ≤ _ ∧ _
    obtain ⟨d1, d2⟩ := hd
    omega
theorem Hd.cross {W wr w' : World} {b1 b2 : Nat} {vp vm vs v1 v1' : Value} {P T S FN : List UInt8} {L : Nat} {f : Fs} {it : It} {r : List It} {i run p1 p6 : Nat} {chs chs' : Chs} {rv rv' : Value} (h : Hd W wr b1 b2 vp vm vs v1 P T S FN L f (it :: r) i run chs rv)
    (hk : it.k = 0) (hdr : T.drop i = vlq it.d ++ (it.rest ++ (comma r ++ tl r))) (hp1 : p1 = i + (vlq it.d).length) (hp : p6 = i + (vlq it.d).length + it.rest.length + (comma r).length) (hh : f.hit it = true)
    (h9 : w'.heap[b1]? = some (.cells #[.int .i64 f.line, .int .i64 (f.col + it.d)] 44 (0, 0))) (q1 : Below W.heap.size W w') (q2 : Sl w' W.heap.size v1' (skip f.line (f.col + it.d) f.sh)) (q3 : Jo w' (b2 + 1) b2 [W.heap.size, b1, b2] rv' chs')
    (q4 : w'.heap[W.heap.size]? = some (.cells #[vp, vm, vs] 49 (0, 0))) (hss : Ss (skip f.line (f.col + it.d) f.sh)) (s : Sh) (hs : (skip f.line (f.col + it.d) f.sh).head? = some s)
    (hc : all chs' = all chs ++ (T.take i).drop run ++ vlq (it.d + s.dl - f.prev)) (hcn : chs'.length = chs.length + 2) :
    Hd W w' b1 b2 vp vm vs v1' P T S FN L (f.step it) r p6 p1 chs' rv' ∧ (f.step it).prev = s.dl := by
  have hle := h.le
  have hln := h.ln
  have hcl := h.cl
  have hd := (h.rg it (by simp)).1
  have hhd : (skip f.line (f.col + it.d) f.sh).headD ⟨0, 0, 0, 0⟩ = s := by
    rw [List.headD_eq_head?_getD, hs]; rfl
  have hst : f.step it = ⟨f.line, f.col + it.d, s.dl, skip f.line (f.col + it.d) f.sh⟩ := by
    unfold Fs.step
    rw [hh, go_flat f it hk]
    simp only [if_pos, hhd]
  have htu : (f.turn it).d = it.d + s.dl - f.prev := by
    unfold Fs.turn
    rw [hh, go_flat f it hk]
    simp only [if_pos, hhd]
  have hsl := seg_len hdr hle.2
  have hch := h.ch
  simp only [List.length_cons] at hcl hch
  have hm : s ∈ skip f.line (f.col + it.d) f.sh := List.mem_of_mem_head? hs
  have hsb := hss.2 s hm
  rw [hst]
  refine ⟨⟨h9, q4, q2, q3, q1, ?_, ⟨by omega, by omega⟩, ?_, h.cs.tail, ?_, ?_, hss, ?_, ⟨hln.1, by show f.line ≤ _; omega⟩, ?_, by omega⟩, rfl⟩
  · have := drop_app (drop_app (drop_app hdr))
    rw [← hp] at this
    exact this
  · rw [← h.fn, tlF_seg f it hk r h.cs.tail, hst, hc, htu]
    have hdr2 : T.drop p1 = (it.rest ++ comma r) ++ tl r := by rw [hp1, drop_app hdr]; simp
    rw [take_more (n := p6) hdr2 (Nat.le_refl _) (by omega) (by simp; omega)]
    simp
  · intro x hx
    exact h.cn x (List.mem_of_mem_tail hx)
  · intro x hx
    exact h.rg x (by simp [hx])
  · show -1048576 ≤ s.acol - s.col ∧ s.acol - s.col ≤ 1048576
    omega
  · show _ ≤ f.col + it.d ∧ f.col + it.d ≤ _ ∧ _
    obtain ⟨d1, d2⟩ := hd
    omega
theorem seg_pos (it : It) (r : List It) {i p1 p2 p3 p4 p5 p6 : Nat} (h1 : i + (vlq it.d).length = p1) (h2 : p1 + (vlq it.a).length = p2) (h3 : p2 + (vlq it.b).length = p3) (h4 : p3 + (vlq it.e).length = p4) (h5 : p5 = p4 + (nmt it).length) (h6 : p6 = p5 + (comma r).length) :
    p6 = i + (vlq it.d).length + it.rest.length + (comma r).length := by
  have e := congrArg List.length (rest_eq it)
  simp only [List.length_append] at e
  omega
theorem step_prev (f : Fs) (it : It) (hk : it.k = 0) (hh : f.hit it = false) : (f.step it).prev = f.prev := by
  unfold Fs.step
  rw [hh, go_flat f it hk]
  rfl
theorem Gr.low {N B j : Nat} {rv : Value} {W w' : World} (h : Gr j rv.ownBlock W w') (hr : ∀ k, rv.ownBlock = some k → B ≤ k) (h1 : N ≤ j) (h2 : N ≤ B) (h3 : N ≤ W.heap.size) : Below N W w' :=
  ⟨h.os, h.tape, h.output, h.size, fun g hg => h.hk hr (by omega) (by omega) (by omega)⟩
theorem Ck.own {W : World} {base : Nat} {v rv : Value} {l : List UInt8} {X : List Nat} (h : W.ownsRow base 5 1 v l.length (l.map bval)) (hX : ∀ x ∈ X, x < base) (hr : ∀ k, rv.ownBlock = some k → k < base) : Ck W X rv v l := by
  have h0 := h
  rcases h.2 with ⟨rfl, hn⟩ | ⟨g, cap, cur, rfl, hb, hg, hc, _⟩
  · exact ⟨none, 0, by rw [hn], by omega, fun i hi => by omega⟩
  · refine ⟨some ⟨g, 0, none⟩, cap, rfl, hc, fun i hi => ⟨g, 0, rfl, (Array.getElem?_eq_some_iff.1 hg).1, fun hx => ?_, fun e => ?_, ?_⟩⟩
    · have := hX g hx; omega
    · have := hr g e; omega
    · rw [Nat.zero_add, h0.cellAt _ (by omega)]
      simp [hi]
theorem tot_of {chs chs' : Chs} {l : List UInt8} (h : all chs' = all chs ++ l) : tot chs' = tot chs + l.length := by
  have := congrArg List.length h
  rwa [List.length_append, all_len, all_len] at this
/-- what has been written, and what stands ahead of the next number, is shorter than all of it -/
theorem Hd.few {W wr : World} {b1 b2 : Nat} {vp vm vs v1 : Value} {P T S FN : List UInt8} {L : Nat} {f : Fs} {it : It} {r : List It} {i run : Nat} {chs : Chs} {rv : Value} (h : Hd W wr b1 b2 vp vm vs v1 P T S FN L f (it :: r) i run chs rv) (hk : it.k = 0) (s : Sh) (hs : (skip f.line (f.col + it.d) f.sh).head? = some s) (hh : f.hit it = true) :
    tot chs + ((T.take i).drop run).length + (vlq (it.d + s.dl - f.prev)).length ≤ FN.length := by
  have hhd : (skip f.line (f.col + it.d) f.sh).headD ⟨0, 0, 0, 0⟩ = s := by
    rw [List.headD_eq_head?_getD, hs]; rfl
  have htu : (f.turn it).d = it.d + s.dl - f.prev := by
    unfold Fs.turn
    rw [hh, go_flat f it hk]
    simp only [if_pos, hhd]
  rw [← h.fn, tlF_seg f it hk r h.cs.tail, htu]
  simp only [List.length_append, all_len]
  omega
end Go.Proofs.Ytdhaifcjhmmdlaa.fnFinalize
